import PyProof.Rows.All
import Wide.All
import OpenK.AllK
import Wide.FinOn
import PyProof.IsiH_list
import PySem.Challenge.RW_km0028_02
set_option Elab.async false
set_option linter.all false
section
open PySem PySem.W PySem.Calls PyProof.Rows
set_option maxRecDepth 100000
set_option maxHeartbeats 0
namespace Mine.H
noncomputable abbrev pw:Program:=PySem.Challenge.pw_km0028_02
noncomputable abbrev kh (P:Params) (x:PySem.Str):Int:=PyData.keyHash P x
noncomputable def sA (i:Nat):Stmt:=pw.main.body.getD i (.Pass ⟨0,0,0,0⟩)
noncomputable def sC (i j:Nat):Stmt:=match sA i with
 | .ClassDef _ _ _ b .. =>b.getD j (.Pass ⟨0,0,0,0⟩)
 | s=>s
noncomputable def fA:Stmt→Arguments
 | .FunctionDef _ a .. =>a
 | _=>⟨[],[], .none,[],[], .none,[]⟩
noncomputable def fB:Stmt→List Stmt
 | .FunctionDef _ _ b .. =>b
 | _=>[]
noncomputable def fS:Stmt→Scope
 | .FunctionDef _ _ _ _ _ _ s .. =>s
 | _=>default
noncomputable abbrev e (P:Params) (x:PySem.Str) (k:Nat) (v:Value):DictEntry:=⟨kh P x, .str x k,v⟩
noncomputable abbrev eb (P:Params) (x:String) (k:Nat):DictEntry:=⟨kh P (PySem.Str.ofString x), .str (PySem.Str.ofString x) k, .builtin x⟩
noncomputable abbrev et (P:Params) (x:String) (k:Nat):DictEntry:=⟨kh P (PySem.Str.ofString x), .str (PySem.Str.ofString x) k, .type x⟩
noncomputable abbrev tu (l:Array Value):Obj:=⟨.type "tuple", .none, .seq l 0, #[]⟩
noncomputable abbrev di (l:Array DictEntry) (n:Nat):Obj:=⟨.type "dict", .none, .dict l n, #[]⟩
noncomputable abbrev co (x y:PySem.Str) (k l m:Nat) (a b c d e g:Int) (r:Addr) (q:Bool) (h:Int) (j:Addr) (u v w z:Value) (i i2:Int) (n:Nat):Obj:=
 ⟨.type "code", .none, .fields #[.str x k, .str y l, .str "/claim/cut.py" m, .int a 0, .int b 0, .int c 0, .int d 0, .int e g.toNat, .ref r, .bool q, .int h 0, .ref j,u,v,w,z, .int i 0, .int i2 0, .str "/claim/cut.py" n], #[]⟩
noncomputable def iq:List Int→Nat→List Value
 | [],_=>[]
 | a::r,k=> .int a k::iq r (k+1)
noncomputable def iz:List Int→List Value
 | []=>[]
 | a::r=> .int a 0::iz r
noncomputable def trE (v:List (Nat×Int×Nat)) (k:Nat):Nat→List DictEntry→List DictEntry
 | 0,acc=>acc
 | i+1,acc=>trE v k i (⟨i, .int i (k+(i+i)),match v.lookup i with | some (a,t)=> .int a t | none=> .int 120 (k-1)⟩::acc)
noncomputable def o41 (P:Params):Obj:=di #[e P "__name__" 1 (.str "builtins" 160),e P "__doc__" 2 (.builtin "builtins.__doc__:str#opaque"),e P "__package__" 3 (.builtin "builtins.__package__:str#opaque"),e P "__loader__" 4 (.builtin "builtins.__loader__:shared#opaque"),e P "__spec__" 5 (.builtin "builtins.__spec__#opaque"),eb P "__build_class__" 6,eb P "__import__" 7,eb P "abs" 8,eb P "all" 9,eb P "any" 10,eb P "ascii" 11,eb P "bin" 12,eb P "breakpoint" 13,eb P "callable" 14,eb P "chr" 15,eb P "compile" 16,eb P "delattr" 17,eb P "dir" 18,eb P "divmod" 19,eb P "eval" 20,eb P "exec" 21,eb P "format" 22,eb P "getattr" 23,eb P "globals" 24,eb P "hasattr" 25,eb P "hash" 26,eb P "hex" 27,eb P "id" 28,eb P "input" 29,eb P "isinstance" 30,eb P "issubclass" 31,eb P "iter" 32,eb P "aiter" 33,eb P "len" 34,eb P "locals" 35,eb P "max" 36,eb P "min" 37,eb P "next" 38,eb P "anext" 39,eb P "oct" 40,eb P "ord" 41,eb P "pow" 42,eb P "print" 43,eb P "repr" 44,eb P "round" 45,eb P "setattr" 46,eb P "sorted" 47,eb P "sum" 48,eb P "vars" 49,e P "None" 50 .none,e P "Ellipsis" 51 .ellipsis,e P "NotImplemented" 52 .notImplemented,e P "False" 53 (.bool .false),e P "True" 54 (.bool .true),et P "bool" 55,et P "memoryview" 56,et P "bytearray" 57,et P "bytes" 58,et P "classmethod" 59,et P "complex" 60,et P "dict" 61,et P "enumerate" 62,et P "filter" 63,et P "float" 64,et P "frozenset" 65,et P "property" 66,et P "int" 67,et P "list" 68,et P "map" 69,et P "object" 70,et P "range" 71,et P "reversed" 72,et P "set" 73,et P "slice" 74,et P "staticmethod" 75,et P "str" 76,et P "super" 77,et P "tuple" 78,et P "type" 79,et P "zip" 80,e P "__debug__" 81 (.bool .true),et P "BaseException" 82,et P "BaseExceptionGroup" 83,et P "Exception" 84,et P "GeneratorExit" 85,et P "KeyboardInterrupt" 86,et P "SystemExit" 87,et P "ArithmeticError" 88,et P "AssertionError" 89,et P "AttributeError" 90,et P "BufferError" 91,et P "EOFError" 92,et P "ImportError" 93,et P "LookupError" 94,et P "MemoryError" 95,et P "NameError" 96,et P "OSError" 97,et P "ReferenceError" 98,et P "RuntimeError" 99,et P "StopAsyncIteration" 100,et P "StopIteration" 101,et P "SyntaxError" 102,et P "SystemError" 103,et P "TypeError" 104,et P "ValueError" 105,et P "Warning" 106,et P "FloatingPointError" 107,et P "OverflowError" 108,et P "ZeroDivisionError" 109,et P "BytesWarning" 110,et P "DeprecationWarning" 111,et P "EncodingWarning" 112,et P "FutureWarning" 113,et P "ImportWarning" 114,et P "PendingDeprecationWarning" 115,et P "ResourceWarning" 116,et P "RuntimeWarning" 117,et P "SyntaxWarning" 118,et P "UnicodeWarning" 119,et P "UserWarning" 120,et P "BlockingIOError" 121,et P "ChildProcessError" 122,et P "ConnectionError" 123,et P "FileExistsError" 124,et P "FileNotFoundError" 125,et P "InterruptedError" 126,et P "IsADirectoryError" 127,et P "NotADirectoryError" 128,et P "PermissionError" 129,et P "ProcessLookupError" 130,et P "TimeoutError" 131,et P "IndentationError" 132,et P "_IncompleteInputError" 133,et P "IndexError" 134,et P "KeyError" 135,et P "ModuleNotFoundError" 136,et P "NotImplementedError" 137,et P "PythonFinalizationError" 138,et P "RecursionError" 139,et P "UnboundLocalError" 140,et P "UnicodeError" 141,et P "BrokenPipeError" 142,et P "ConnectionAbortedError" 143,et P "ConnectionRefusedError" 144,et P "ConnectionResetError" 145,et P "TabError" 146,et P "UnicodeDecodeError" 147,et P "UnicodeEncodeError" 148,et P "UnicodeTranslateError" 149,et P "ExceptionGroup" 150,e P "EnvironmentError" 151 (.type "OSError"),e P "IOError" 152 (.type "OSError"),eb P "open" 153,e P "quit" 154 (.builtin "builtins.quit#opaque"),e P "exit" 155 (.builtin "builtins.exit#opaque"),e P "copyright" 156 (.builtin "builtins.copyright#opaque"),e P "credits" 157 (.builtin "builtins.credits#opaque"),e P "license" 158 (.builtin "builtins.license#opaque"),e P "help" 159 (.builtin "builtins.help#opaque")] 159
noncomputable def o42 (P:Params):Obj:=di #[e P "builtins" 162 (.ref 4),e P "__main__" 163 (.ref 5),e P "_sre" 244 (.ref 12)] 3
noncomputable def o43 (P:Params):Obj:=⟨.none, .none,(.dict #[e P "\x69mport.loaded._sre" 183 (.bool .true),e P "class._frozen_importlib.BuiltinImporter" 185 (.ref 14),e P "watched.\x69mport" 206 (.ref 18),e P "class._frozen_importlib.ModuleSpec" 216 (.ref 22),e P "sys.modules.booked-epoch" 245 (.int 3 0),e P "\x69mport.later-laid._sre" 270 (.bool .true),e P "watched.library" 272 (.ref 27),e P "watched.library-objects" 0 (.str "\x0c" 0),e P "watched.library-deep._sre" 273 (.str "\x04\x00\x00\x0b\x04\x00\x00\x0b\x04\x00\x00\x03\x04\x00\x00\x0b\x08\x04dict\x02" 0)] 9), #[]⟩
noncomputable def o44 (P:Params):Obj:=di #[e P "__name__" 165 (.str "__main__" 164),e P "__doc__" 166 .none,e P "__package__" 167 .none,e P "__loader__" 168 (.builtin "__main__.__loader__#opaque"),e P "__spec__" 169 .none,e P "__annotations__" 170 (.ref 6),e P "__builtins__" 171 (.ref 4),e P "__file__" 173 (.str "/claim/cut.py" 172),e P "__cached__" 174 .none,e P "_sre" 275 (.ref 12)] 10
noncomputable def o45:Obj:=⟨(.type "module"),(.some 0), .plain, #[]⟩
noncomputable def o46:Obj:=⟨(.type "module"),(.some 3), .plain, #[]⟩
noncomputable def o47:Obj:=di #[] 0
noncomputable def o48:Obj:=tu #[]
noncomputable def o49:Obj:=⟨.none, .none,(.fields #[]), #[]⟩
noncomputable def o50:Obj:=co "<module>" "<module>" 176 177 178 1 0 0 0 0 0 7 .false 175 8 .none .none .none .none 179 1 180
noncomputable def o51:Obj:=⟨(.type "frame"), .none, .plain, #[(.some (.ref 9)),(.some (.ref 3)),(.some (.ref 3)), .none,(.some (.str "__main__" 164)), .none,(.some (.ref 0))]⟩
noncomputable def o52 (P:Params):Obj:=di #[e P "__name__" 247 (.str "_sre" 246),e P "__doc__" 248 .none,e P "__package__" 250 (.str "" 249),e P "__loader__" 251 (.builtin "off-the-table:_sre.__loader__:shared#opaque"),e P "__spec__" 252 (.builtin "off-the-table:_sre.__spec__:shared#opaque"),e P "compile" 253 (.builtin "_sre.compile"),e P "template" 254 (.builtin "off-the-table:_sre.template:shared#opaque"),e P "getcodesize" 255 (.builtin "off-the-table:_sre.getcodesize:shared#opaque"),e P "ascii_iscased" 256 (.builtin "off-the-table:_sre.ascii_iscased:shared#opaque"),e P "unicode_iscased" 257 (.builtin "off-the-table:_sre.unicode_iscased:shared#opaque"),e P "ascii_tolower" 258 (.builtin "off-the-table:_sre.ascii_tolower:shared#opaque"),e P "unicode_tolower" 259 (.builtin "off-the-table:_sre.unicode_tolower:shared#opaque"),e P "MAGIC" 261 (.int 20230612 260),e P "CODESIZE" 263 (.int 4 262),e P "MAXREPEAT" 265 (.int 4294967295 264),e P "MAXGROUPS" 267 (.int 1073741823 266),⟨(kh P "copyright"),(.str "copyright" 269),(.str " SRE 2.2.2 Copyright (c) 1997-2002 by Secret Labs AB " 268)⟩] 17
noncomputable def o53:Obj:=⟨(.type "module"),(.some 11), .plain, #[]⟩
noncomputable def o54 (P:Params):Obj:=di #[e P "__module__" 189 (.str "_frozen_importlib" 186),e P "__firstlineno__" 190 (.int 971 187),e P "__doc__" 191 (.builtin "_frozen_importlib.BuiltinImporter.__doc__:str#opaque"),e P "_ORIGIN" 192 (.str "built-in" 188),e P "find_spec" 193 (.builtin "_frozen_importlib.BuiltinImporter.find_spec#opaque"),e P "create_module" 194 (.builtin "_frozen_importlib.BuiltinImporter.create_module#opaque"),e P "exec_module" 195 (.builtin "_frozen_importlib.BuiltinImporter.exec_module#opaque"),e P "get_code" 196 (.builtin "_frozen_importlib.BuiltinImporter.get_code#opaque"),e P "get_source" 197 (.builtin "_frozen_importlib.BuiltinImporter.get_source#opaque"),e P "is_package" 198 (.builtin "_frozen_importlib.BuiltinImporter.is_package#opaque"),e P "load_module" 199 (.builtin "_frozen_importlib.BuiltinImporter.load_module#opaque"),e P "__static_attributes__" 200 (.ref 15),e P "__dict__" 202 (.ref 16),e P "__weakref__" 204 (.ref 17)] 14
noncomputable def o55:Obj:=⟨(.type "type"), .none,(.cls ⟨"BuiltinImporter",[(.type "object")],[(.ref 14),(.type "object")],13,"BuiltinImporter", .true,[],[], .false, .none, .false⟩), #[]⟩
noncomputable def o56:Obj:=tu #[]
noncomputable def o57:Obj:=⟨(.type "getset_descriptor"), .none,(.fields #[(.str "__dict__" 201),(.ref 14),(.builtin "function.__dict__"),(.builtin "function.__dict__#set")]), #[]⟩
noncomputable def o58:Obj:=⟨(.type "getset_descriptor"), .none,(.fields #[(.str "__weakref__" 203),(.ref 14),(.builtin "ExceptionGroup.__weakref__"), .none]), #[]⟩
noncomputable def o59:Obj:=⟨.none, .none,(.seq #[(.int 13 0),(.str "\x06½\n__module__\x06º\x11_frozen_importlib\x06¾\x0f__firstlineno__\x04»\x00ϋ\x06¿\x07__doc__\t4_frozen_importlib.BuiltinImporter.__doc__:str#opaque\x06À\x07_ORIGIN\x06¼\x08built-in\x06Á\tfind_spec\t2_frozen_importlib.BuiltinImporter.find_spec#opaque\x06Â\x0dcreate_module\t6_frozen_importlib.BuiltinImporter.create_module#opaque\x06Ã\x0bexec_module\t4_frozen_importlib.BuiltinImporter.exec_module#opaque\x06Ä\x08get_code\t1_frozen_importlib.BuiltinImporter.get_code#opaque\x06Å\nget_source\t3_frozen_importlib.BuiltinImporter.get_source#opaque\x06Æ\nis_package\t3_frozen_importlib.BuiltinImporter.is_package#opaque\x06Ç\x0bload_module\t4_frozen_importlib.BuiltinImporter.load_module#opaque\x06È\x15__static_attributes__\x04\x00\x00\x0f\x06Ê\x08__dict__\x04\x00\x00\x10\x06Ì\x0b__weakref__\x04\x00\x00\x11" 0),(.bool .true),(.bool .true),(.str "" 205),(.int 21 0),(.str "\x06ã\n__module__\x06Ù\x11_frozen_importlib\x06ä\x0f__firstlineno__\x04Ú\x00Ȳ\x06å\x07__doc__\t/_frozen_importlib.ModuleSpec.__doc__:str#opaque\x06æ\x08__init__\t,_frozen_importlib.ModuleSpec.__init__#opaque\x06ç\x08__repr__\t,_frozen_importlib.ModuleSpec.__repr__#opaque\x06è\x06__eq__\t*_frozen_importlib.ModuleSpec.__eq__#opaque\x06é\x06cached\t*_frozen_importlib.ModuleSpec.cached#opaque\x06ê\x06parent\t*_frozen_importlib.ModuleSpec.parent#opaque\x06ë\x0chas_location\t0_frozen_importlib.ModuleSpec.has_location#opaque\x06ì\x15__static_attributes__\x04\x00\x00\x17\x06î\x08__dict__\x04\x00\x00\x18\x06ð\x0b__weakref__\x04\x00\x00\x19\x06ñ\x08__hash__\x00" 0),(.bool .true),(.bool .true),(.str "" 242)] 1), #[]⟩
noncomputable def o60:Obj:=⟨(.type "list"), .none,(.seq #[] 0), #[]⟩
noncomputable def o61 (P:Params):Obj:=di #[e P "name" 208 (.str "_sre" 207),e P "loader" 209 (.ref 14),e P "origin" 210 (.str "built-in" 184),e P "loader_state" 211 .none,e P "submodule_search_locations" 212 .none,e P "_uninitialized_submodules" 213 (.ref 19),e P "_set_fileattr" 214 (.bool .false),e P "_cached" 215 .none,e P "_initializing" 243 (.bool .false)] 9
noncomputable def o62 (P:Params):Obj:=di #[e P "__module__" 227 (.str "_frozen_importlib" 217),e P "__firstlineno__" 228 (.int 562 218),e P "__doc__" 229 (.builtin "_frozen_importlib.ModuleSpec.__doc__:str#opaque"),e P "__init__" 230 (.builtin "_frozen_importlib.ModuleSpec.__init__#opaque"),e P "__repr__" 231 (.builtin "_frozen_importlib.ModuleSpec.__repr__#opaque"),e P "__eq__" 232 (.builtin "_frozen_importlib.ModuleSpec.__eq__#opaque"),e P "cached" 233 (.builtin "_frozen_importlib.ModuleSpec.cached#opaque"),e P "parent" 234 (.builtin "_frozen_importlib.ModuleSpec.parent#opaque"),e P "has_location" 235 (.builtin "_frozen_importlib.ModuleSpec.has_location#opaque"),e P "__static_attributes__" 236 (.ref 23),e P "__dict__" 238 (.ref 24),e P "__weakref__" 240 (.ref 25),e P "__hash__" 241 .none] 13
noncomputable def o63:Obj:=⟨(.type "type"), .none,(.cls ⟨"ModuleSpec",[(.type "object")],[(.ref 22),(.type "object")],21,"ModuleSpec", .true,[],[], .false, .none, .false⟩), #[]⟩
noncomputable def o64:Obj:=tu #[(.str "_cached" 219),(.str "_set_fileattr" 220),(.str "_uninitialized_submodules" 221),(.str "loader" 222),(.str "loader_state" 223),(.str "name" 224),(.str "origin" 225),(.str "submodule_search_locations" 226)]
noncomputable def o65:Obj:=⟨(.type "getset_descriptor"), .none,(.fields #[(.str "__dict__" 237),(.ref 22),(.builtin "function.__dict__"),(.builtin "function.__dict__#set")]), #[]⟩
noncomputable def o66:Obj:=⟨(.type "getset_descriptor"), .none,(.fields #[(.str "__weakref__" 239),(.ref 22),(.builtin "ExceptionGroup.__weakref__"), .none]), #[]⟩
noncomputable def o67:Obj:=⟨(.ref 22),(.some 20), .plain, #[]⟩
noncomputable def o68:Obj:=⟨.none, .none,(.seq #[(.int 11 0),(.str ⟨#[6,247,8,95,95,110,97,109,101,95,95,6,246,4,95,115,114,101,6,248,7,95,95,100,111,99,95,95,0,6,250,11,95,95,112,97,99,107,97,103,101,95,95,6,249,0,6,251,10,95,95,108,111,97,100,101,114,95,95,4,0,0,14,6,252,8,95,95,115,112,101,99,95,95,4,0,0,26,6,253,7,99,111,109,112,105,108,101,9,12,95,115,114,101,46,99,111,109,112,105,108,101,6,254,8,116,101,109,112,108,97,116,101,9,13,95,115,114,101,46,116,101,109,112,108,97,116,101,6,255,11,103,101,116,99,111,100,101,115,105,122,101,9,16,95,115,114,101,46,103,101,116,99,111,100,101,115,105,122,101,6,256,13,97,115,99,105,105,95,105,115,99,97,115,101,100,9,18,95,115,114,101,46,97,115,99,105,105,95,105,115,99,97,115,101,100,6,257,15,117,110,105,99,111,100,101,95,105,115,99,97,115,101,100,9,20,95,115,114,101,46,117,110,105,99,111,100,101,95,105,115,99,97,115,101,100,6,258,13,97,115,99,105,105,95,116,111,108,111,119,101,114,9,18,95,115,114,101,46,97,115,99,105,105,95,116,111,108,111,119,101,114,6,259,15,117,110,105,99,111,100,101,95,116,111,108,111,119,101,114,9,20,95,115,114,101,46,117,110,105,99,111,100,101,95,116,111,108,111,119,101,114,6,261,5,77,65,71,73,67,4,260,0,20230612,6,263,8,67,79,68,69,83,73,90,69,4,262,0,4,6,265,9,77,65,88,82,69,80,69,65,84,4,264,0,4294967295,6,267,9,77,65,88,71,82,79,85,80,83,4,266,0,1073741823,6,269,9,99,111,112,121,114,105,103,104,116,6,268,53,32,83,82,69,32,50,46,50,46,50,32,67,111,112,121,114,105,103,104,116,32,40,99,41,32,49,57,57,55,45,50,48,48,50,32,98,121,32,83,101,99,114,101,116,32,76,97,98,115,32,65,66,32]⟩ 0),(.bool .true),(.bool .false),(.str "_sre" 271)] 0), #[]⟩
noncomputable def heap68 (P:Params):Heap:=⟨#[(o41 P),(o42 P),(o43 P),(o44 P),o45,o46,o47,o48,o49,o50,o51,(o52 P),o53,(o54 P),o55,o56,o57,o58,o59,o60,(o61 P),(o62 P),o63,o64,o65,o66,o67,o68],⟨[],[],[],0,[],[], .false, #[],[],0, .false, .false, .false,0,[2000,10,10], .false,0, .true,[],[],0, .false⟩⟩
noncomputable def o69:Obj:=tu #[]
noncomputable def o70:Obj:=⟨.none, .none,(.fields #[]), #[]⟩
noncomputable def o71:Obj:=co "<module>" "<module>" 277 278 279 1 0 0 0 0 0 28 .false 276 29 .none .none .none .none 280 1 281
noncomputable def o72:Obj:=⟨(.type "frame"), .none, .plain, #[(.some (.ref 30)),(.some (.ref 3)),(.some (.ref 3)), .none,(.some (.str "__main__" 164)), .none,(.some (.ref 0))]⟩
noncomputable def heap72 (P:Params):Heap:=⟨#[(o41 P),(o42 P),(o43 P),(o44 P),o45,o46,o47,o48,o49,o50,o51,(o52 P),o53,(o54 P),o55,o56,o57,o58,o59,o60,(o61 P),(o62 P),o63,o64,o65,o66,o67,o68,o69,o70,o71,o72],⟨[],[],[],0,[],[], .false, #[],[],0, .false, .false, .false,0,[2000,10,10], .false,0, .true,[],[],0, .false⟩⟩
noncomputable def tree73 (P:Params):BT:=(.node (o41 P) (.node (o42 P) (.node (o44 P) (.node o48 (.node o56 (.node o72 .nil .nil) .nil) (.node o64 .nil .nil)) (.node (o52 P) (.node o60 .nil .nil) (.node o68 .nil .nil))) (.node o46 (.node o50 (.node o58 .nil .nil) (.node o66 .nil .nil)) (.node (o54 P) (.node (o62 P) .nil .nil) (.node o70 .nil .nil)))) (.node (o43 P) (.node o45 (.node o49 (.node o57 .nil .nil) (.node o65 .nil .nil)) (.node o53 (.node (o61 P) .nil .nil) (.node o69 .nil .nil))) (.node o47 (.node o51 (.node o59 .nil .nil) (.node o67 .nil .nil)) (.node o55 (.node o63 .nil .nil) (.node o71 .nil .nil)))))
noncomputable def o75 (P:Params):Obj:=di #[e P "__name__" 165 (.str "cpy313.idlelib.pyparse" 289),e P "__doc__" 166 .none,e P "__package__" 167 .none,e P "__loader__" 168 (.builtin "__main__.__loader__#opaque"),e P "__spec__" 169 .none,e P "__annotations__" 170 (.ref 6),e P "__builtins__" 171 (.ref 4),e P "__file__" 173 (.str "/claim/cut.py" 172),e P "__cached__" 174 .none,e P "_sre" 275 (.ref 12),e P "_wall" 288 (.ref 38),e P "_twin_re_2" 334 (.ref 43),e P "_twin_re_3" 609 (.ref 48),e P "_twin_re_6" 639 (.ref 53),e P "_twin_re_7" 663 (.ref 58)] 15
noncomputable def o76:Obj:=⟨.none, .none,(.fields #[(.int 2 0),(.int 0 0),(.ref 37)]), #[]⟩
noncomputable def o77:Obj:=tu #[]
noncomputable def o78:Obj:=⟨.none, .none,(.fields #[]), #[]⟩
noncomputable def o79:Obj:=tu #[(.str "k" 285)]
noncomputable def o80:Obj:=tu #[]
noncomputable def o81:Obj:=⟨.none, .none,(.func ⟨"_wall","_wall",(fA (sA 1)),(.stmts (fB (sA 1))),(fS (sA 1)),0,[], .none, .none, .none, .none, .none, .none, .none,0⟩), #[]⟩
noncomputable def o82:Obj:=co "_wall" "_wall" 282 283 284 2 1 0 0 3 0 32 .true 276 33 .none (.ref 34) (.ref 35) (.ref 36) 286 2 287
noncomputable def o83:Obj:=⟨(.type "function"), .none,(.func ⟨"_wall","_wall",(fA (sA 1)),(.stmts (fB (sA 1))),(fS (sA 1)),3,[], .none, .none, .none,(.str "__main__" 164), .none,(.ref 37), .none,0⟩), #[]⟩
noncomputable def o84:Obj:=⟨(.type "list"), .none,(.seq (iq [14,4,0,1,4294967295,24,11,0,4294967295,13,6,16,32,16,9,0,1,23,16,0,1,16,35,13,4,8,13,0,24,5,0,4294967295,2,1,18,16,10,1] 294).toArray 0), #[]⟩
noncomputable def o85:Obj:=di #[] 0
noncomputable def o86:Obj:=tu #[.none]
noncomputable def o87:Obj:=tu (iz [14,4,0,1,4294967295,24,11,0,4294967295,13,6,16,32,16,9,0,1,23,16,0,1,16,35,13,4,8,13,0,24,5,0,4294967295,2,1,18,16,10,1]).toArray
noncomputable def o88:Obj:=⟨(.type "re.Pattern"), .none,(.fields #[(.str "\n    [ \\t]*\n    (?: \\# \\S .* )?\n    \\n\n" 292),(.int 96 333),(.int 0 0), .none, .none,(.ref 42),(.int 0 0)]), #[]⟩
noncomputable def o89:Obj:=⟨(.type "list"), .none,(.seq (iq [14,9,4,1,4294967295,16,34,16,39,0,7,72,16,34,16,34,16,34,24,12,0,4294967295,13,7,21,16,34,16,92,0,1,23,37,0,4294967295,7,6,16,92,3,15,15,13,16,34,5,7,0,16,34,16,34,1,15,2,0,24,12,0,4294967295,13,7,21,16,34,16,92,0,1,18,23,9,0,1,16,34,16,34,16,34,18,15,186,56,16,34,24,17,0,4294967295,13,12,21,9,1024,4,268435456,0,0,0,0,0,0,1,23,24,0,4294967295,16,92,3,24,17,0,4294967295,13,12,21,9,1024,4,268435456,0,0,0,0,0,0,1,18,24,6,0,1,16,34,1,15,130,72,16,39,16,39,16,39,24,12,0,4294967295,13,7,21,16,39,16,92,0,1,23,37,0,4294967295,7,6,16,92,3,15,15,13,16,39,5,7,0,16,39,16,39,1,15,2,0,24,12,0,4294967295,13,7,21,16,39,16,92,0,1,18,23,9,0,1,16,39,16,39,16,39,18,15,58,56,16,39,24,17,0,4294967295,13,12,21,9,1024,128,268435456,0,0,0,0,0,0,1,23,24,0,4294967295,16,92,3,24,17,0,4294967295,13,12,21,9,1024,128,268435456,0,0,0,0,0,0,1,18,24,6,0,1,16,39,1,15,2,0,1] 338).toArray 0), #[]⟩
noncomputable def o90:Obj:=di #[] 0
noncomputable def o91:Obj:=tu #[.none]
noncomputable def o92:Obj:=tu (iz [14,9,4,1,4294967295,16,34,16,39,0,7,72,16,34,16,34,16,34,24,12,0,4294967295,13,7,21,16,34,16,92,0,1,23,37,0,4294967295,7,6,16,92,3,15,15,13,16,34,5,7,0,16,34,16,34,1,15,2,0,24,12,0,4294967295,13,7,21,16,34,16,92,0,1,18,23,9,0,1,16,34,16,34,16,34,18,15,186,56,16,34,24,17,0,4294967295,13,12,21,9,1024,4,268435456,0,0,0,0,0,0,1,23,24,0,4294967295,16,92,3,24,17,0,4294967295,13,12,21,9,1024,4,268435456,0,0,0,0,0,0,1,18,24,6,0,1,16,34,1,15,130,72,16,39,16,39,16,39,24,12,0,4294967295,13,7,21,16,39,16,92,0,1,23,37,0,4294967295,7,6,16,92,3,15,15,13,16,39,5,7,0,16,39,16,39,1,15,2,0,24,12,0,4294967295,13,7,21,16,39,16,92,0,1,18,23,9,0,1,16,39,16,39,16,39,18,15,58,56,16,39,24,17,0,4294967295,13,12,21,9,1024,128,268435456,0,0,0,0,0,0,1,23,24,0,4294967295,16,92,3,24,17,0,4294967295,13,12,21,9,1024,128,268435456,0,0,0,0,0,0,1,18,24,6,0,1,16,39,1,15,2,0,1]).toArray
noncomputable def o93:Obj:=⟨(.type "re.Pattern"), .none,(.fields #[(.str "\n    \\\"\"\" [^\"\\\\]* (?:\n                     (?: \\\\. | \"(?!\"\") )\n                     [^\"\\\\]*\n                 )*\n    (?: \\\"\"\" )?\n\n|   \" [^\"\\\\\\n]* (?: \\\\. [^\"\\\\\\n]* )* \"?\n\n|   ''' [^'\\\\]* (?:\n                   (?: \\\\. | '(?!'') )\n                   [^'\\\\]*\n                )*\n    (?: ''' )?\n\n|   ' [^'\\\\\\n]* (?: \\\\. [^'\\\\\\n]* )* '?\n" 336),(.int 112 608),(.int 0 0), .none, .none,(.ref 47),(.int 0 0)]), #[]⟩
noncomputable def o94:Obj:=⟨(.type "list"), .none,(.seq (iq [14,4,0,1,4294967295,24,17,1,4294967295,13,12,21,9,0,908,939524096,671088640,0,0,0,0,0,1,1] 613).toArray 0), #[]⟩
noncomputable def o95:Obj:=di #[] 0
noncomputable def o96:Obj:=tu #[.none]
noncomputable def o97:Obj:=tu (iz [14,4,0,1,4294967295,24,17,1,4294967295,13,12,21,9,0,908,939524096,671088640,0,0,0,0,0,1,1]).toArray
noncomputable def o98:Obj:=⟨(.type "re.Pattern"), .none,(.fields #[(.str "\n    [^[\\](){}#'\"\\\\]+\n" 611),(.int 96 638),(.int 0 0), .none, .none,(.ref 52),(.int 0 0)]), #[]⟩
noncomputable def o99:Obj:=⟨(.type "list"), .none,(.seq (iq [14,4,0,1,4294967295,24,9,0,4294967295,13,4,8,12,0,1,16,92,1] 643).toArray 0), #[]⟩
noncomputable def o100:Obj:=di #[] 0
noncomputable def o101:Obj:=tu #[.none]
noncomputable def o102:Obj:=tu (iz [14,4,0,1,4294967295,24,9,0,4294967295,13,4,8,12,0,1,16,92,1]).toArray
noncomputable def o103:Obj:=⟨(.type "re.Pattern"), .none,(.fields #[(.str "\\s*\\\\" 641),(.int 32 662),(.int 0 0), .none, .none,(.ref 57),(.int 0 0)]), #[]⟩
noncomputable def tree103 (P:Params):BT:=(.node (o41 P) (.node (o42 P) (.node (o75 P) (.node o48 (.node o56 (.node o72 .nil .nil) (.node o92 .nil .nil)) (.node o64 (.node o84 .nil .nil) (.node o100 .nil .nil))) (.node (o52 P) (.node o60 (.node o80 .nil .nil) (.node o96 .nil .nil)) (.node o68 (.node o88 .nil .nil) .nil))) (.node o46 (.node o50 (.node o58 (.node o78 .nil .nil) (.node o94 .nil .nil)) (.node o66 (.node o86 .nil .nil) (.node o102 .nil .nil))) (.node (o54 P) (.node (o62 P) (.node o82 .nil .nil) (.node o98 .nil .nil)) (.node o76 (.node o90 .nil .nil) .nil)))) (.node (o43 P) (.node o45 (.node o49 (.node o57 (.node o77 .nil .nil) (.node o93 .nil .nil)) (.node o65 (.node o85 .nil .nil) (.node o101 .nil .nil))) (.node o53 (.node (o61 P) (.node o81 .nil .nil) (.node o97 .nil .nil)) (.node o69 (.node o89 .nil .nil) .nil))) (.node o47 (.node o51 (.node o59 (.node o79 .nil .nil) (.node o95 .nil .nil)) (.node o67 (.node o87 .nil .nil) (.node o103 .nil .nil))) (.node o55 (.node o63 (.node o83 .nil .nil) (.node o99 .nil .nil)) (.node o71 (.node o91 .nil .nil) .nil)))))
noncomputable def o104 (P:Params):Obj:=di #[e P "__name__" 165 (.str "cpy313.idlelib.pyparse" 289),e P "__doc__" 166 .none,e P "__package__" 167 .none,e P "__loader__" 168 (.builtin "__main__.__loader__#opaque"),e P "__spec__" 169 .none,e P "__annotations__" 170 (.ref 6),e P "__builtins__" 171 (.ref 4),e P "__file__" 173 (.str "/claim/cut.py" 172),e P "__cached__" 174 .none,e P "_sre" 275 (.ref 12),e P "_wall" 288 (.ref 38),e P "_twin_re_2" 334 (.ref 43),e P "_twin_re_3" 609 (.ref 48),e P "_twin_re_6" 639 (.ref 53),e P "_twin_re_7" 663 (.ref 58),e P "C_NONE" 672 (.int 0 667),e P "C_BACKSLASH" 673 (.int 1 668),e P "C_STRING_FIRST_LINE" 674 (.int 2 669),e P "C_STRING_NEXT_LINES" 675 (.int 3 670),e P "C_BRACKET" 676 (.int 4 671)] 20
noncomputable def o105:Obj:=⟨(.type "range"), .none,(.fields #[(.int 0 665),(.int 5 664),(.int 1 666)]), #[]⟩
noncomputable def o106:Obj:=⟨(.type "range_iterator"), .none,(.fields #[(.int 5 0),(.int 0 0),(.int 1 0)]), #[]⟩
noncomputable def o107:Obj:=tu #[]
noncomputable def o108:Obj:=⟨(.type "StopIteration"), .none,(.fields #[(.ref 61), .none, .none, .none,(.bool .false), .none]), #[]⟩
noncomputable def tree108 (P:Params):BT:=(.node (o41 P) (.node (o42 P) (.node (o104 P) (.node o48 (.node o56 (.node o72 .nil .nil) (.node o92 .nil .nil)) (.node o64 (.node o84 .nil .nil) (.node o100 .nil .nil))) (.node (o52 P) (.node o60 (.node o80 .nil .nil) (.node o96 .nil .nil)) (.node o68 (.node o88 .nil .nil) (.node o105 .nil .nil)))) (.node o46 (.node o50 (.node o58 (.node o78 .nil .nil) (.node o94 .nil .nil)) (.node o66 (.node o86 .nil .nil) (.node o102 .nil .nil))) (.node (o54 P) (.node (o62 P) (.node o82 .nil .nil) (.node o98 .nil .nil)) (.node o76 (.node o90 .nil .nil) (.node o107 .nil .nil))))) (.node (o43 P) (.node o45 (.node o49 (.node o57 (.node o77 .nil .nil) (.node o93 .nil .nil)) (.node o65 (.node o85 .nil .nil) (.node o101 .nil .nil))) (.node o53 (.node (o61 P) (.node o81 .nil .nil) (.node o97 .nil .nil)) (.node o69 (.node o89 .nil .nil) (.node o106 .nil .nil)))) (.node o47 (.node o51 (.node o59 (.node o79 .nil .nil) (.node o95 .nil .nil)) (.node o67 (.node o87 .nil .nil) (.node o103 .nil .nil))) (.node o55 (.node o63 (.node o83 .nil .nil) (.node o99 .nil .nil)) (.node o71 (.node o91 .nil .nil) (.node o108 .nil .nil))))))
noncomputable def o111 (P:Params):Obj:=di #[e P "__name__" 165 (.str "cpy313.idlelib.pyparse" 289),e P "__doc__" 166 .none,e P "__package__" 167 .none,e P "__loader__" 168 (.builtin "__main__.__loader__#opaque"),e P "__spec__" 169 .none,e P "__annotations__" 170 (.ref 6),e P "__builtins__" 171 (.ref 4),e P "__file__" 173 (.str "/claim/cut.py" 172),e P "__cached__" 174 .none,e P "_sre" 275 (.ref 12),e P "_wall" 288 (.ref 38),e P "_twin_re_2" 334 (.ref 43),e P "_twin_re_3" 609 (.ref 48),e P "_twin_re_6" 639 (.ref 53),e P "_twin_re_7" 663 (.ref 58),e P "C_NONE" 672 (.int 0 667),e P "C_BACKSLASH" 673 (.int 1 668),e P "C_STRING_FIRST_LINE" 674 (.int 2 669),e P "C_STRING_NEXT_LINES" 675 (.int 3 670),e P "C_BRACKET" 676 (.int 4 671),e P "_junkre" 678 (.ref 63),e P "_match_stringre" 680 (.ref 64),e P "_chew_ordinaryre" 682 (.ref 65),e P "ParseMap" 710 (.ref 82)] 24
noncomputable def o112:Obj:=⟨.none, .none,(.fields #[(.int 2 0),(.int 0 0),(.ref 37),(.int 14 0),(.int 0 0),(.ref 71)]), #[]⟩
noncomputable def o113:Obj:=⟨(.type "builtin_function_or_method"), .none,(.fields #[(.builtin "re.Pattern.match"),(.ref 43)]), #[]⟩
noncomputable def o114:Obj:=⟨(.type "builtin_function_or_method"), .none,(.fields #[(.builtin "re.Pattern.match"),(.ref 48)]), #[]⟩
noncomputable def o115:Obj:=⟨(.type "builtin_function_or_method"), .none,(.fields #[(.builtin "re.Pattern.match"),(.ref 53)]), #[]⟩
noncomputable def o116:Obj:=tu #[(.type "dict")]
noncomputable def o117:Obj:=⟨(.type "builtin_function_or_method"), .none,(.fields #[(.builtin "type.__prepare__"),(.type "type")]), #[]⟩
noncomputable def o118 (P:Params):Obj:=di #[e P "__module__" 690 (.str "cpy313.idlelib.pyparse" 289),e P "__qualname__" 692 (.str "ParseMap" 691),e P "__firstlineno__" 694 (.int 14 693),e P "__missing__" 702 (.ref 79),e P "__static_attributes__" 703 (.ref 80)] 5
noncomputable def o119:Obj:=tu #[]
noncomputable def o120:Obj:=⟨.none, .none,(.fields #[(.int 16 0),(.int 4 0),(.ref 78)]), #[]⟩
noncomputable def o121:Obj:=co "ParseMap" "ParseMap" 685 686 687 14 0 0 0 0 0 69 .false 276 70 .none .none .none .none 688 14 689
noncomputable def o122:Obj:=⟨(.type "frame"), .none, .plain, #[(.some (.ref 71)),(.some (.ref 3)),(.some (.ref 68)), .none,(.some (.str "cpy313.idlelib.pyparse" 289)), .none,(.some (.ref 0))]⟩
noncomputable def o123:Obj:=tu #[]
noncomputable def o124:Obj:=⟨.none, .none,(.fields #[]), #[]⟩
noncomputable def o125:Obj:=tu #[(.str "self" 698),(.str "key" 699)]
noncomputable def o126:Obj:=tu #[]
noncomputable def o127:Obj:=⟨.none, .none,(.func ⟨"__missing__","ParseMap.__missing__",(fA (sC 11 0)),(.stmts (fB (sC 11 0))),(fS (sC 11 0)),0,[], .none, .none, .none, .none, .none, .none, .none,0⟩), #[]⟩
noncomputable def o128:Obj:=co "__missing__" "ParseMap.__missing__" 695 696 697 16 2 0 0 3 0 73 .true 276 74 .none (.ref 75) (.ref 76) (.ref 77) 700 16 701
noncomputable def o129:Obj:=⟨(.type "function"), .none,(.func ⟨"__missing__","ParseMap.__missing__",(fA (sC 11 0)),(.stmts (fB (sC 11 0))),(fS (sC 11 0)),3,[], .none, .none, .none,(.str "cpy313.idlelib.pyparse" 289), .none,(.ref 78), .none,0⟩), #[]⟩
noncomputable def o130:Obj:=tu #[]
noncomputable def o131 (P:Params):Obj:=di #[e P "__module__" 690 (.str "cpy313.idlelib.pyparse" 289),e P "__firstlineno__" 694 (.int 14 693),e P "__missing__" 702 (.ref 79),e P "__static_attributes__" 703 (.ref 80),e P "__dict__" 705 (.ref 83),e P "__weakref__" 707 (.ref 84),e P "__doc__" 708 .none] 4
noncomputable def o132:Obj:=⟨(.type "type"), .none,(.cls ⟨"ParseMap",[(.type "dict")],[(.ref 82),(.type "dict"),(.type "object")],81,"ParseMap", .true,[],[], .false, .none, .false⟩), #[(.some (.ref 66)), .none,(.some (.str "ParseMap" 683)),(.some (.str "ParseMap" 691)),(.some (.builtin "dict.__new__")),(.some (.bool .true))]⟩
noncomputable def o133:Obj:=⟨(.type "getset_descriptor"), .none,(.fields #[(.str "__dict__" 704),(.ref 82),(.builtin "function.__dict__"),(.builtin "function.__dict__#set")]), #[]⟩
noncomputable def o134:Obj:=⟨(.type "getset_descriptor"), .none,(.fields #[(.str "__weakref__" 706),(.ref 82),(.builtin "ExceptionGroup.__weakref__"), .none]), #[]⟩
noncomputable def o135:Obj:=⟨(.type "super"), .none,(.fields #[(.ref 82),(.ref 82),(.ref 82)]), #[]⟩
noncomputable def o136:Obj:=⟨(.type "builtin_function_or_method"), .none,(.fields #[(.builtin "object.__init_subclass__"),(.ref 82)]), #[]⟩
noncomputable def tree136 (P:Params):BT:=(.node (o41 P) (.node (o42 P) (.node (o111 P) (.node o48 (.node o56 (.node o72 (.node o113 .nil .nil) .nil) (.node o92 (.node o129 .nil .nil) .nil)) (.node o64 (.node o84 (.node o121 .nil .nil) .nil) (.node o100 .nil .nil))) (.node (o52 P) (.node o60 (.node o80 (.node o117 .nil .nil) .nil) (.node o96 (.node o133 .nil .nil) .nil)) (.node o68 (.node o88 (.node o125 .nil .nil) .nil) (.node o105 .nil .nil)))) (.node o46 (.node o50 (.node o58 (.node o78 (.node o115 .nil .nil) .nil) (.node o94 (.node (o131 P) .nil .nil) .nil)) (.node o66 (.node o86 (.node o123 .nil .nil) .nil) (.node o102 .nil .nil))) (.node (o54 P) (.node (o62 P) (.node o82 (.node o119 .nil .nil) .nil) (.node o98 (.node o135 .nil .nil) .nil)) (.node o112 (.node o90 (.node o127 .nil .nil) .nil) (.node o107 .nil .nil))))) (.node (o43 P) (.node o45 (.node o49 (.node o57 (.node o77 (.node o114 .nil .nil) .nil) (.node o93 (.node o130 .nil .nil) .nil)) (.node o65 (.node o85 (.node o122 .nil .nil) .nil) (.node o101 .nil .nil))) (.node o53 (.node (o61 P) (.node o81 (.node (o118 P) .nil .nil) .nil) (.node o97 (.node o134 .nil .nil) .nil)) (.node o69 (.node o89 (.node o126 .nil .nil) .nil) (.node o106 .nil .nil)))) (.node o47 (.node o51 (.node o59 (.node o79 (.node o116 .nil .nil) .nil) (.node o95 (.node o132 .nil .nil) .nil)) (.node o67 (.node o87 (.node o124 .nil .nil) .nil) (.node o103 .nil .nil))) (.node o55 (.node o63 (.node o83 (.node o120 .nil .nil) .nil) (.node o99 (.node o136 .nil .nil) .nil)) (.node o71 (.node o91 (.node o128 .nil .nil) .nil) (.node o108 .nil .nil))))))
noncomputable def o137 (P:Params):Obj:=di #[e P "__name__" 165 (.str "cpy313.idlelib.pyparse" 289),e P "__doc__" 166 .none,e P "__package__" 167 .none,e P "__loader__" 168 (.builtin "__main__.__loader__#opaque"),e P "__spec__" 169 .none,e P "__annotations__" 170 (.ref 6),e P "__builtins__" 171 (.ref 4),e P "__file__" 173 (.str "/claim/cut.py" 172),e P "__cached__" 174 .none,e P "_sre" 275 (.ref 12),e P "_wall" 288 (.ref 38),e P "_twin_re_2" 334 (.ref 43),e P "_twin_re_3" 609 (.ref 48),e P "_twin_re_6" 639 (.ref 53),e P "_twin_re_7" 663 (.ref 58),e P "C_NONE" 672 (.int 0 667),e P "C_BACKSLASH" 673 (.int 1 668),e P "C_STRING_FIRST_LINE" 674 (.int 2 669),e P "C_STRING_NEXT_LINES" 675 (.int 3 670),e P "C_BRACKET" 676 (.int 4 671),e P "_junkre" 678 (.ref 63),e P "_match_stringre" 680 (.ref 64),e P "_chew_ordinaryre" 682 (.ref 65),e P "ParseMap" 710 (.ref 82),e P "trans" 972 (.ref 90)] 25
noncomputable def o138:Obj:=⟨(.type "builtin_function_or_method"), .none,(.fields #[(.builtin "dict.fromkeys"),(.ref 82)]), #[]⟩
noncomputable def o139:Obj:=⟨(.type "range"), .none,(.fields #[(.int 0 713),(.int 128 712),(.int 1 714)]), #[]⟩
noncomputable def o140:Obj:=di #[] 0
noncomputable def o141:Obj:=⟨.ref 82, .some 89, .dict (trE [] 716 128 []).toArray 128, #[]⟩
noncomputable def o142:Obj:=⟨(.type "range_iterator"), .none,(.fields #[(.int 128 0),(.int 0 0),(.int 1 0)]), #[]⟩
noncomputable def o143:Obj:=tu #[]
noncomputable def o144:Obj:=⟨(.type "StopIteration"), .none,(.fields #[(.ref 92), .none, .none, .none,(.bool .false), .none]), #[]⟩
noncomputable def tree144 (P:Params):BT:=(.node (o41 P) (.node (o42 P) (.node (o137 P) (.node o48 (.node o56 (.node o72 (.node o113 .nil .nil) .nil) (.node o92 (.node o129 .nil .nil) .nil)) (.node o64 (.node o84 (.node o121 .nil .nil) .nil) (.node o100 (.node o138 .nil .nil) .nil))) (.node (o52 P) (.node o60 (.node o80 (.node o117 .nil .nil) .nil) (.node o96 (.node o133 .nil .nil) .nil)) (.node o68 (.node o88 (.node o125 .nil .nil) .nil) (.node o105 (.node o142 .nil .nil) .nil)))) (.node o46 (.node o50 (.node o58 (.node o78 (.node o115 .nil .nil) .nil) (.node o94 (.node (o131 P) .nil .nil) .nil)) (.node o66 (.node o86 (.node o123 .nil .nil) .nil) (.node o102 (.node o140 .nil .nil) .nil))) (.node (o54 P) (.node (o62 P) (.node o82 (.node o119 .nil .nil) .nil) (.node o98 (.node o135 .nil .nil) .nil)) (.node o112 (.node o90 (.node o127 .nil .nil) .nil) (.node o107 (.node o144 .nil .nil) .nil))))) (.node (o43 P) (.node o45 (.node o49 (.node o57 (.node o77 (.node o114 .nil .nil) .nil) (.node o93 (.node o130 .nil .nil) .nil)) (.node o65 (.node o85 (.node o122 .nil .nil) .nil) (.node o101 (.node o139 .nil .nil) .nil))) (.node o53 (.node (o61 P) (.node o81 (.node (o118 P) .nil .nil) .nil) (.node o97 (.node o134 .nil .nil) .nil)) (.node o69 (.node o89 (.node o126 .nil .nil) .nil) (.node o106 (.node o143 .nil .nil) .nil)))) (.node o47 (.node o51 (.node o59 (.node o79 (.node o116 .nil .nil) .nil) (.node o95 (.node o132 .nil .nil) .nil)) (.node o67 (.node o87 (.node o124 .nil .nil) .nil) (.node o103 (.node o141 .nil .nil) .nil))) (.node o55 (.node o63 (.node o83 (.node o120 .nil .nil) .nil) (.node o99 (.node o136 .nil .nil) .nil)) (.node o71 (.node o91 (.node o128 .nil .nil) .nil) (.node o108 .nil .nil))))))
noncomputable def o147:Obj:=⟨.none, .none,(.fields #[(.int 2 0),(.int 0 0),(.ref 37),(.int 14 0),(.int 0 0),(.ref 71),(.int 19 0),(.int 13 0),(.ref 97)]), #[]⟩
noncomputable def o148:Obj:=⟨.ref 82, .some 89, .dict (trE [(40,40,989),(91,40,1001),(123,40,995)] 716 128 []).toArray 128, #[]⟩
noncomputable def o149:Obj:=⟨(.type "str_ascii_iterator"), .none,(.fields #[.none,(.int 3 0)]), #[]⟩
noncomputable def o150:Obj:=tu #[]
noncomputable def o151:Obj:=⟨.none, .none,(.fields #[]), #[]⟩
noncomputable def o152:Obj:=co "<genexpr>" "<genexpr>" 974 975 976 19 1 0 0 35 0 95 .true 276 96 .none .none .none .none 977 19 978
noncomputable def o153 (P:Params):Obj:=⟨(.type "frame"), .none,(.dict #[e P ".0" 979 (.ref 94),e P "c" 986 (.str "[" 997)] 2), #[]⟩
noncomputable def o154:Obj:=⟨(.type "generator"), .none,(.fields #[(.int 0 0),(.str "<genexpr>" 980),(.str "<genexpr>" 981)]), #[]⟩
noncomputable def o155:Obj:=tu #[(.str "'generator' object has no attribute 'keys'" 983)]
noncomputable def o156:Obj:=⟨(.type "AttributeError"), .none,(.fields #[(.ref 100), .none, .none, .none,(.bool .false), .none,(.str "keys" 984),(.ref 99)]), #[]⟩
noncomputable def o157:Obj:=tu #[(.int 40 987),(.int 40 989)]
noncomputable def o158:Obj:=tu #[(.int 123 993),(.int 40 995)]
noncomputable def o159:Obj:=tu #[(.int 91 999),(.int 40 1001)]
noncomputable def o160:Obj:=tu #[]
noncomputable def o161:Obj:=⟨(.type "StopIteration"), .none,(.fields #[(.ref 105), .none, .none, .none,(.bool .false), .none]), #[]⟩
noncomputable def o162:Obj:=tu #[]
noncomputable def o163:Obj:=⟨(.type "StopIteration"), .none,(.fields #[(.ref 107), .none, .none, .none,(.bool .false), .none]), #[]⟩
noncomputable def tree163 (P:Params):BT:=(.node (o41 P) (.node (o42 P) (.node (o137 P) (.node o48 (.node o56 (.node o72 (.node o113 .nil .nil) (.node o150 .nil .nil)) (.node o92 (.node o129 .nil .nil) .nil)) (.node o64 (.node o84 (.node o121 .nil .nil) (.node o158 .nil .nil)) (.node o100 (.node o138 .nil .nil) .nil))) (.node (o52 P) (.node o60 (.node o80 (.node o117 .nil .nil) (.node o154 .nil .nil)) (.node o96 (.node o133 .nil .nil) .nil)) (.node o68 (.node o88 (.node o125 .nil .nil) (.node o162 .nil .nil)) (.node o105 (.node o142 .nil .nil) .nil)))) (.node o46 (.node o50 (.node o58 (.node o78 (.node o115 .nil .nil) (.node o152 .nil .nil)) (.node o94 (.node (o131 P) .nil .nil) .nil)) (.node o66 (.node o86 (.node o123 .nil .nil) (.node o160 .nil .nil)) (.node o102 (.node o140 .nil .nil) .nil))) (.node (o54 P) (.node (o62 P) (.node o82 (.node o119 .nil .nil) (.node o156 .nil .nil)) (.node o98 (.node o135 .nil .nil) .nil)) (.node o147 (.node o90 (.node o127 .nil .nil) .nil) (.node o107 (.node o144 .nil .nil) .nil))))) (.node (o43 P) (.node o45 (.node o49 (.node o57 (.node o77 (.node o114 .nil .nil) (.node o151 .nil .nil)) (.node o93 (.node o130 .nil .nil) .nil)) (.node o65 (.node o85 (.node o122 .nil .nil) (.node o159 .nil .nil)) (.node o101 (.node o139 .nil .nil) .nil))) (.node o53 (.node (o61 P) (.node o81 (.node (o118 P) .nil .nil) (.node o155 .nil .nil)) (.node o97 (.node o134 .nil .nil) .nil)) (.node o69 (.node o89 (.node o126 .nil .nil) (.node o163 .nil .nil)) (.node o106 (.node o143 .nil .nil) .nil)))) (.node o47 (.node o51 (.node o59 (.node o79 (.node o116 .nil .nil) (.node (o153 P) .nil .nil)) (.node o95 (.node o132 .nil .nil) .nil)) (.node o67 (.node o87 (.node o124 .nil .nil) (.node o161 .nil .nil)) (.node o103 (.node o148 .nil .nil) .nil))) (.node o55 (.node o63 (.node o83 (.node o120 .nil .nil) (.node o157 .nil .nil)) (.node o99 (.node o136 .nil .nil) .nil)) (.node o71 (.node o91 (.node o128 .nil .nil) .nil) (.node o108 (.node o149 .nil .nil) .nil))))))
noncomputable def o170:Obj:=⟨.none, .none,(.fields #[(.int 2 0),(.int 0 0),(.ref 37),(.int 14 0),(.int 0 0),(.ref 71),(.int 19 0),(.int 13 0),(.ref 97),(.int 20 0),(.int 13 0),(.ref 112)]), #[]⟩
noncomputable def o171:Obj:=⟨.ref 82, .some 89, .dict (trE [(40,40,989),(41,41,1019),(91,40,1001),(93,41,1031),(123,40,995),(125,41,1025)] 716 128 []).toArray 128, #[]⟩
noncomputable def o172:Obj:=⟨(.type "str_ascii_iterator"), .none,(.fields #[.none,(.int 3 0)]), #[]⟩
noncomputable def o173:Obj:=tu #[]
noncomputable def o174:Obj:=⟨.none, .none,(.fields #[]), #[]⟩
noncomputable def o175:Obj:=co "<genexpr>" "<genexpr>" 1004 1005 1006 20 1 0 0 35 0 110 .true 276 111 .none .none .none .none 1007 20 1008
noncomputable def o176 (P:Params):Obj:=⟨(.type "frame"), .none,(.dict #[e P ".0" 1009 (.ref 109),e P "c" 1016 (.str "]" 1027)] 2), #[]⟩
noncomputable def o177:Obj:=⟨(.type "generator"), .none,(.fields #[(.int 1 0),(.str "<genexpr>" 1010),(.str "<genexpr>" 1011)]), #[]⟩
noncomputable def o178:Obj:=tu #[(.str "'generator' object has no attribute 'keys'" 1013)]
noncomputable def o179:Obj:=⟨(.type "AttributeError"), .none,(.fields #[(.ref 115), .none, .none, .none,(.bool .false), .none,(.str "keys" 1014),(.ref 114)]), #[]⟩
noncomputable def o180:Obj:=tu #[(.int 41 1017),(.int 41 1019)]
noncomputable def o181:Obj:=tu #[(.int 125 1023),(.int 41 1025)]
noncomputable def o182:Obj:=tu #[(.int 93 1029),(.int 41 1031)]
noncomputable def o183:Obj:=tu #[]
noncomputable def o184:Obj:=⟨(.type "StopIteration"), .none,(.fields #[(.ref 120), .none, .none, .none,(.bool .false), .none]), #[]⟩
noncomputable def o185:Obj:=tu #[]
noncomputable def o186:Obj:=⟨(.type "StopIteration"), .none,(.fields #[(.ref 122), .none, .none, .none,(.bool .false), .none]), #[]⟩
noncomputable def tree186 (P:Params):BT:=(.node (o41 P) (.node (o42 P) (.node (o137 P) (.node o48 (.node o56 (.node o72 (.node o113 .nil .nil) (.node o150 .nil .nil)) (.node o92 (.node o129 .nil .nil) (.node o174 .nil .nil))) (.node o64 (.node o84 (.node o121 .nil .nil) (.node o158 .nil .nil)) (.node o100 (.node o138 .nil .nil) (.node o182 .nil .nil)))) (.node (o52 P) (.node o60 (.node o80 (.node o117 .nil .nil) (.node o154 .nil .nil)) (.node o96 (.node o133 .nil .nil) (.node o178 .nil .nil))) (.node o68 (.node o88 (.node o125 .nil .nil) (.node o162 .nil .nil)) (.node o105 (.node o142 .nil .nil) (.node o186 .nil .nil))))) (.node o46 (.node o50 (.node o58 (.node o78 (.node o115 .nil .nil) (.node o152 .nil .nil)) (.node o94 (.node (o131 P) .nil .nil) (.node (o176 P) .nil .nil))) (.node o66 (.node o86 (.node o123 .nil .nil) (.node o160 .nil .nil)) (.node o102 (.node o140 .nil .nil) (.node o184 .nil .nil)))) (.node (o54 P) (.node (o62 P) (.node o82 (.node o119 .nil .nil) (.node o156 .nil .nil)) (.node o98 (.node o135 .nil .nil) (.node o180 .nil .nil))) (.node o170 (.node o90 (.node o127 .nil .nil) (.node o172 .nil .nil)) (.node o107 (.node o144 .nil .nil) .nil))))) (.node (o43 P) (.node o45 (.node o49 (.node o57 (.node o77 (.node o114 .nil .nil) (.node o151 .nil .nil)) (.node o93 (.node o130 .nil .nil) (.node o175 .nil .nil))) (.node o65 (.node o85 (.node o122 .nil .nil) (.node o159 .nil .nil)) (.node o101 (.node o139 .nil .nil) (.node o183 .nil .nil)))) (.node o53 (.node (o61 P) (.node o81 (.node (o118 P) .nil .nil) (.node o155 .nil .nil)) (.node o97 (.node o134 .nil .nil) (.node o179 .nil .nil))) (.node o69 (.node o89 (.node o126 .nil .nil) (.node o163 .nil .nil)) (.node o106 (.node o143 .nil .nil) .nil)))) (.node o47 (.node o51 (.node o59 (.node o79 (.node o116 .nil .nil) (.node (o153 P) .nil .nil)) (.node o95 (.node o132 .nil .nil) (.node o177 .nil .nil))) (.node o67 (.node o87 (.node o124 .nil .nil) (.node o161 .nil .nil)) (.node o103 (.node o171 .nil .nil) (.node o185 .nil .nil)))) (.node o55 (.node o63 (.node o83 (.node o120 .nil .nil) (.node o157 .nil .nil)) (.node o99 (.node o136 .nil .nil) (.node o181 .nil .nil))) (.node o71 (.node o91 (.node o128 .nil .nil) (.node o173 .nil .nil)) (.node o108 (.node o149 .nil .nil) .nil))))))
noncomputable def o193:Obj:=⟨.none, .none,(.fields #[(.int 2 0),(.int 0 0),(.ref 37),(.int 14 0),(.int 0 0),(.ref 71),(.int 19 0),(.int 13 0),(.ref 97),(.int 20 0),(.int 13 0),(.ref 112),(.int 21 0),(.int 13 0),(.ref 127)]), #[]⟩
noncomputable def o194:Obj:=⟨.ref 82, .some 89, .dict (trE [(10,10,1063),(34,34,1048),(35,35,1068),(39,39,1053),(40,40,989),(41,41,1019),(91,40,1001),(92,92,1058),(93,41,1031),(123,40,995),(125,41,1025)] 716 128 []).toArray 128, #[]⟩
noncomputable def o195:Obj:=⟨(.type "str_ascii_iterator"), .none,(.fields #[.none,(.int 5 0)]), #[]⟩
noncomputable def o196:Obj:=tu #[]
noncomputable def o197:Obj:=⟨.none, .none,(.fields #[]), #[]⟩
noncomputable def o198:Obj:=co "<genexpr>" "<genexpr>" 1034 1035 1036 21 1 0 0 35 0 125 .true 276 126 .none .none .none .none 1037 21 1038
noncomputable def o199 (P:Params):Obj:=⟨(.type "frame"), .none,(.dict #[e P ".0" 1039 (.ref 124),e P "c" 1046 (.str "#" 1065)] 2), #[]⟩
noncomputable def o200:Obj:=⟨(.type "generator"), .none,(.fields #[(.int 2 0),(.str "<genexpr>" 1040),(.str "<genexpr>" 1041)]), #[]⟩
noncomputable def o201:Obj:=tu #[(.str "'generator' object has no attribute 'keys'" 1043)]
noncomputable def o202:Obj:=⟨(.type "AttributeError"), .none,(.fields #[(.ref 130), .none, .none, .none,(.bool .false), .none,(.str "keys" 1044),(.ref 129)]), #[]⟩
noncomputable def o203:Obj:=tu #[(.int 34 1047),(.int 34 1048)]
noncomputable def o204:Obj:=tu #[(.int 39 1052),(.int 39 1053)]
noncomputable def o205:Obj:=tu #[(.int 92 1057),(.int 92 1058)]
noncomputable def o206:Obj:=tu #[(.int 10 1062),(.int 10 1063)]
noncomputable def o207:Obj:=tu #[(.int 35 1067),(.int 35 1068)]
noncomputable def o208:Obj:=tu #[]
noncomputable def o209:Obj:=⟨(.type "StopIteration"), .none,(.fields #[(.ref 137), .none, .none, .none,(.bool .false), .none]), #[]⟩
noncomputable def o210:Obj:=tu #[]
noncomputable def o211:Obj:=⟨(.type "StopIteration"), .none,(.fields #[(.ref 139), .none, .none, .none,(.bool .false), .none]), #[]⟩
noncomputable def tree211 (P:Params):BT:=(.node (o41 P) (.node (o42 P) (.node (o137 P) (.node o48 (.node o56 (.node o72 (.node o113 (.node o198 .nil .nil) .nil) (.node o150 .nil .nil)) (.node o92 (.node o129 .nil .nil) (.node o174 .nil .nil))) (.node o64 (.node o84 (.node o121 (.node o206 .nil .nil) .nil) (.node o158 .nil .nil)) (.node o100 (.node o138 .nil .nil) (.node o182 .nil .nil)))) (.node (o52 P) (.node o60 (.node o80 (.node o117 (.node o202 .nil .nil) .nil) (.node o154 .nil .nil)) (.node o96 (.node o133 .nil .nil) (.node o178 .nil .nil))) (.node o68 (.node o88 (.node o125 (.node o210 .nil .nil) .nil) (.node o162 .nil .nil)) (.node o105 (.node o142 .nil .nil) (.node o186 .nil .nil))))) (.node o46 (.node o50 (.node o58 (.node o78 (.node o115 (.node o200 .nil .nil) .nil) (.node o152 .nil .nil)) (.node o94 (.node (o131 P) .nil .nil) (.node (o176 P) .nil .nil))) (.node o66 (.node o86 (.node o123 (.node o208 .nil .nil) .nil) (.node o160 .nil .nil)) (.node o102 (.node o140 .nil .nil) (.node o184 .nil .nil)))) (.node (o54 P) (.node (o62 P) (.node o82 (.node o119 (.node o204 .nil .nil) .nil) (.node o156 .nil .nil)) (.node o98 (.node o135 .nil .nil) (.node o180 .nil .nil))) (.node o193 (.node o90 (.node o127 .nil .nil) (.node o172 .nil .nil)) (.node o107 (.node o144 .nil .nil) (.node o196 .nil .nil)))))) (.node (o43 P) (.node o45 (.node o49 (.node o57 (.node o77 (.node o114 (.node (o199 P) .nil .nil) .nil) (.node o151 .nil .nil)) (.node o93 (.node o130 .nil .nil) (.node o175 .nil .nil))) (.node o65 (.node o85 (.node o122 (.node o207 .nil .nil) .nil) (.node o159 .nil .nil)) (.node o101 (.node o139 .nil .nil) (.node o183 .nil .nil)))) (.node o53 (.node (o61 P) (.node o81 (.node (o118 P) (.node o203 .nil .nil) .nil) (.node o155 .nil .nil)) (.node o97 (.node o134 .nil .nil) (.node o179 .nil .nil))) (.node o69 (.node o89 (.node o126 (.node o211 .nil .nil) .nil) (.node o163 .nil .nil)) (.node o106 (.node o143 .nil .nil) (.node o195 .nil .nil))))) (.node o47 (.node o51 (.node o59 (.node o79 (.node o116 (.node o201 .nil .nil) .nil) (.node (o153 P) .nil .nil)) (.node o95 (.node o132 .nil .nil) (.node o177 .nil .nil))) (.node o67 (.node o87 (.node o124 (.node o209 .nil .nil) .nil) (.node o161 .nil .nil)) (.node o103 (.node o194 .nil .nil) (.node o185 .nil .nil)))) (.node o55 (.node o63 (.node o83 (.node o120 (.node o205 .nil .nil) .nil) (.node o157 .nil .nil)) (.node o99 (.node o136 .nil .nil) (.node o181 .nil .nil))) (.node o71 (.node o91 (.node o128 .nil .nil) (.node o173 .nil .nil)) (.node o108 (.node o149 .nil .nil) (.node o197 .nil .nil)))))))
noncomputable def o218 (P:Params):Obj:=di #[e P "__name__" 165 (.str "law_km0028_02" 1236),e P "__doc__" 166 .none,e P "__package__" 167 .none,e P "__loader__" 168 (.builtin "__main__.__loader__#opaque"),e P "__spec__" 169 .none,e P "__annotations__" 170 (.ref 6),e P "__builtins__" 171 (.ref 4),e P "__file__" 173 (.str "/claim/cut.py" 172),e P "__cached__" 174 .none,e P "_sre" 275 (.ref 12),e P "_wall" 288 (.ref 38),e P "_twin_re_2" 334 (.ref 43),e P "_twin_re_3" 609 (.ref 48),e P "_twin_re_6" 639 (.ref 53),e P "_twin_re_7" 663 (.ref 58),e P "C_NONE" 672 (.int 0 667),e P "C_BACKSLASH" 673 (.int 1 668),e P "C_STRING_FIRST_LINE" 674 (.int 2 669),e P "C_STRING_NEXT_LINES" 675 (.int 3 670),e P "C_BRACKET" 676 (.int 4 671),e P "_junkre" 678 (.ref 63),e P "_match_stringre" 680 (.ref 64),e P "_chew_ordinaryre" 682 (.ref 65),e P "ParseMap" 710 (.ref 82),e P "trans" 972 (.ref 90),e P "Parser" 1235 (.ref 248),e P "_law_words" 1254 (.ref 253),e P "_law_signs" 1260 (.ref 260),e P "_law_columns" 1266 (.ref 265),e P "law" 1272 (.ref 270)] 30
noncomputable def o219:Obj:=⟨.none, .none,(.fields #[(.int 2 0),(.int 0 0),(.ref 37),(.int 14 0),(.int 0 0),(.ref 71),(.int 19 0),(.int 13 0),(.ref 97),(.int 20 0),(.int 13 0),(.ref 112),(.int 21 0),(.int 13 0),(.ref 127),(.int 22 0),(.int 0 0),(.ref 146),(.int 256 0),(.int 0 0),(.ref 259),(.int 258 0),(.int 0 0),(.ref 264),(.int 268 0),(.int 0 0),(.ref 269)]), #[]⟩
noncomputable def o220:Obj:=tu #[]
noncomputable def o221:Obj:=⟨(.type "builtin_function_or_method"), .none,(.fields #[(.builtin "type.__prepare__"),(.type "type")]), #[]⟩
noncomputable def o222 (P:Params):Obj:=di #[e P "__module__" 1077 (.str "cpy313.idlelib.pyparse" 289),e P "__qualname__" 1079 (.str "Parser" 1078),e P "__firstlineno__" 1081 (.int 22 1080),e P "__init__" 1090 (.ref 154),e P "set_code" 1098 (.ref 161),e P "find_good_parse_start" 1106 (.ref 168),e P "set_lo" 1114 (.ref 175),e P "_study1" 1133 (.ref 182),e P "get_continuation_type" 1140 (.ref 189),e P "_study2" 1160 (.ref 196),e P "compute_bracket_indent" 1167 (.ref 203),e P "get_num_lines_in_stmt" 1174 (.ref 210),e P "compute_backslash_indent" 1188 (.ref 217),e P "get_base_indent_string" 1195 (.ref 224),e P "is_block_opener" 1202 (.ref 231),e P "is_block_closer" 1209 (.ref 238),e P "get_last_stmt_bracketing" 1216 (.ref 245),e P "__static_attributes__" 1228 (.ref 246)] 18
noncomputable def o223:Obj:=tu #[]
noncomputable def o224:Obj:=⟨.none, .none,(.fields #[(.int 24 0),(.int 4 0),(.ref 153),(.int 28 0),(.int 4 0),(.ref 160),(.int 33 0),(.int 4 0),(.ref 167),(.int 36 0),(.int 4 0),(.ref 174),(.int 39 0),(.int 4 0),(.ref 181),(.int 124 0),(.int 4 0),(.ref 188),(.int 127 0),(.int 4 0),(.ref 195),(.int 200 0),(.int 4 0),(.ref 202),(.int 203 0),(.int 4 0),(.ref 209),(.int 206 0),(.int 4 0),(.ref 216),(.int 243 0),(.int 4 0),(.ref 223),(.int 246 0),(.int 4 0),(.ref 230),(.int 249 0),(.int 4 0),(.ref 237),(.int 252 0),(.int 4 0),(.ref 244)]), #[]⟩
noncomputable def o225:Obj:=co "Parser" "Parser" 1072 1073 1074 22 0 0 0 0 0 144 .false 276 145 .none .none .none .none 1075 22 1076
noncomputable def o226:Obj:=⟨(.type "frame"), .none, .plain, #[(.some (.ref 146)),(.some (.ref 3)),(.some (.ref 143)), .none,(.some (.str "cpy313.idlelib.pyparse" 289)), .none,(.some (.ref 0))]⟩
noncomputable def o227:Obj:=tu #[]
noncomputable def o228:Obj:=⟨.none, .none,(.fields #[]), #[]⟩
noncomputable def o229:Obj:=tu #[(.str "self" 1085),(.str "indentwidth" 1086),(.str "tabwidth" 1087)]
noncomputable def o230:Obj:=tu #[]
noncomputable def o231:Obj:=⟨.none, .none,(.func ⟨"__init__","Parser.__init__",(fA (sC 16 0)),(.stmts (fB (sC 16 0))),(fS (sC 16 0)),0,[], .none, .none, .none, .none, .none, .none, .none,0⟩), #[]⟩
noncomputable def o232:Obj:=co "__init__" "Parser.__init__" 1082 1083 1084 24 3 0 0 3 0 148 .true 276 149 .none (.ref 150) (.ref 151) (.ref 152) 1088 24 1089
noncomputable def o233:Obj:=⟨(.type "function"), .none,(.func ⟨"__init__","Parser.__init__",(fA (sC 16 0)),(.stmts (fB (sC 16 0))),(fS (sC 16 0)),3,[], .none, .none, .none,(.str "cpy313.idlelib.pyparse" 289), .none,(.ref 153), .none,0⟩), #[]⟩
noncomputable def o234:Obj:=tu #[]
noncomputable def o235:Obj:=⟨.none, .none,(.fields #[]), #[]⟩
noncomputable def o236:Obj:=tu #[(.str "self" 1094),(.str "s" 1095)]
noncomputable def o237:Obj:=tu #[]
noncomputable def o238:Obj:=⟨.none, .none,(.func ⟨"set_code","Parser.set_code",(fA (sC 16 1)),(.stmts (fB (sC 16 1))),(fS (sC 16 1)),0,[], .none, .none, .none, .none, .none, .none, .none,0⟩), #[]⟩
noncomputable def o239:Obj:=co "set_code" "Parser.set_code" 1091 1092 1093 28 2 0 0 3 0 155 .true 276 156 .none (.ref 157) (.ref 158) (.ref 159) 1096 28 1097
noncomputable def o240:Obj:=⟨(.type "function"), .none,(.func ⟨"set_code","Parser.set_code",(fA (sC 16 1)),(.stmts (fB (sC 16 1))),(fS (sC 16 1)),3,[], .none, .none, .none,(.str "cpy313.idlelib.pyparse" 289), .none,(.ref 160), .none,0⟩), #[]⟩
noncomputable def o241:Obj:=tu #[]
noncomputable def o242:Obj:=⟨.none, .none,(.fields #[]), #[]⟩
noncomputable def o243:Obj:=tu #[(.str "self" 1102),(.str "is_char_in_string" 1103)]
noncomputable def o244:Obj:=tu #[]
noncomputable def o245:Obj:=⟨.none, .none,(.func ⟨"find_good_parse_start","Parser.find_good_parse_start",(fA (sC 16 2)),(.stmts (fB (sC 16 2))),(fS (sC 16 2)),0,[], .none, .none, .none, .none, .none, .none, .none,0⟩), #[]⟩
noncomputable def o246:Obj:=co "find_good_parse_start" "Parser.find_good_parse_start" 1099 1100 1101 33 2 0 0 3 0 162 .true 276 163 .none (.ref 164) (.ref 165) (.ref 166) 1104 33 1105
noncomputable def o247:Obj:=⟨(.type "function"), .none,(.func ⟨"find_good_parse_start","Parser.find_good_parse_start",(fA (sC 16 2)),(.stmts (fB (sC 16 2))),(fS (sC 16 2)),3,[], .none, .none, .none,(.str "cpy313.idlelib.pyparse" 289), .none,(.ref 167), .none,0⟩), #[]⟩
noncomputable def o248:Obj:=tu #[]
noncomputable def o249:Obj:=⟨.none, .none,(.fields #[]), #[]⟩
noncomputable def o250:Obj:=tu #[(.str "self" 1110),(.str "lo" 1111)]
noncomputable def o251:Obj:=tu #[]
noncomputable def o252:Obj:=⟨.none, .none,(.func ⟨"set_lo","Parser.set_lo",(fA (sC 16 3)),(.stmts (fB (sC 16 3))),(fS (sC 16 3)),0,[], .none, .none, .none, .none, .none, .none, .none,0⟩), #[]⟩
noncomputable def o253:Obj:=co "set_lo" "Parser.set_lo" 1107 1108 1109 36 2 0 0 3 0 169 .true 276 170 .none (.ref 171) (.ref 172) (.ref 173) 1112 36 1113
noncomputable def o254:Obj:=⟨(.type "function"), .none,(.func ⟨"set_lo","Parser.set_lo",(fA (sC 16 3)),(.stmts (fB (sC 16 3))),(fS (sC 16 3)),3,[], .none, .none, .none,(.str "cpy313.idlelib.pyparse" 289), .none,(.ref 174), .none,0⟩), #[]⟩
noncomputable def o255:Obj:=tu #[]
noncomputable def o256:Obj:=⟨.none, .none,(.fields #[]), #[]⟩
noncomputable def o257:Obj:=tu #[(.str "self" 1118),(.str "code" 1119),(.str "continuation" 1120),(.str "level" 1121),(.str "lno" 1122),(.str "goodlines" 1123),(.str "push_good" 1124),(.str "i" 1125),(.str "n" 1126),(.str "ch" 1127),(.str "quote" 1128),(.str "firstlno" 1129),(.str "w" 1130)]
noncomputable def o258:Obj:=tu #[]
noncomputable def o259:Obj:=⟨.none, .none,(.func ⟨"_study1","Parser._study1",(fA (sC 16 4)),(.stmts (fB (sC 16 4))),(fS (sC 16 4)),0,[], .none, .none, .none, .none, .none, .none, .none,0⟩), #[]⟩
noncomputable def o260:Obj:=co "_study1" "Parser._study1" 1115 1116 1117 39 1 0 0 3 0 176 .true 276 177 .none (.ref 178) (.ref 179) (.ref 180) 1131 39 1132
noncomputable def o261:Obj:=⟨(.type "function"), .none,(.func ⟨"_study1","Parser._study1",(fA (sC 16 4)),(.stmts (fB (sC 16 4))),(fS (sC 16 4)),3,[], .none, .none, .none,(.str "cpy313.idlelib.pyparse" 289), .none,(.ref 181), .none,0⟩), #[]⟩
noncomputable def o262:Obj:=tu #[]
noncomputable def o263:Obj:=⟨.none, .none,(.fields #[]), #[]⟩
noncomputable def o264:Obj:=tu #[(.str "self" 1137)]
noncomputable def o265:Obj:=tu #[]
noncomputable def o266:Obj:=⟨.none, .none,(.func ⟨"get_continuation_type","Parser.get_continuation_type",(fA (sC 16 5)),(.stmts (fB (sC 16 5))),(fS (sC 16 13)),0,[], .none, .none, .none, .none, .none, .none, .none,0⟩), #[]⟩
noncomputable def o267:Obj:=co "get_continuation_type" "Parser.get_continuation_type" 1134 1135 1136 124 1 0 0 3 0 183 .true 276 184 .none (.ref 185) (.ref 186) (.ref 187) 1138 124 1139
noncomputable def o268:Obj:=⟨(.type "function"), .none,(.func ⟨"get_continuation_type","Parser.get_continuation_type",(fA (sC 16 5)),(.stmts (fB (sC 16 5))),(fS (sC 16 13)),3,[], .none, .none, .none,(.str "cpy313.idlelib.pyparse" 289), .none,(.ref 188), .none,0⟩), #[]⟩
noncomputable def o269:Obj:=tu #[]
noncomputable def o270:Obj:=⟨.none, .none,(.fields #[]), #[]⟩
noncomputable def o271:Obj:=tu #[(.str "self" 1144),(.str "code" 1145),(.str "goodlines" 1146),(.str "i" 1147),(.str "p" 1148),(.str "q" 1149),(.str "nothing" 1150),(.str "lastch" 1151),(.str "stack" 1152),(.str "push_stack" 1153),(.str "bracketing" 1154),(.str "m" 1155),(.str "newp" 1156),(.str "ch" 1157)]
noncomputable def o272:Obj:=tu #[]
noncomputable def o273:Obj:=⟨.none, .none,(.func ⟨"_study2","Parser._study2",(fA (sC 16 6)),(.stmts (fB (sC 16 6))),(fS (sC 16 6)),0,[], .none, .none, .none, .none, .none, .none, .none,0⟩), #[]⟩
noncomputable def o274:Obj:=co "_study2" "Parser._study2" 1141 1142 1143 127 1 0 0 3 0 190 .true 276 191 .none (.ref 192) (.ref 193) (.ref 194) 1158 127 1159
noncomputable def o275:Obj:=⟨(.type "function"), .none,(.func ⟨"_study2","Parser._study2",(fA (sC 16 6)),(.stmts (fB (sC 16 6))),(fS (sC 16 6)),3,[], .none, .none, .none,(.str "cpy313.idlelib.pyparse" 289), .none,(.ref 195), .none,0⟩), #[]⟩
noncomputable def o276:Obj:=tu #[]
noncomputable def o277:Obj:=⟨.none, .none,(.fields #[]), #[]⟩
noncomputable def o278:Obj:=tu #[(.str "self" 1164)]
noncomputable def o279:Obj:=tu #[]
noncomputable def o280:Obj:=⟨.none, .none,(.func ⟨"compute_bracket_indent","Parser.compute_bracket_indent",(fA (sC 16 7)),(.stmts (fB (sC 16 7))),(fS (sC 16 13)),0,[], .none, .none, .none, .none, .none, .none, .none,0⟩), #[]⟩
noncomputable def o281:Obj:=co "compute_bracket_indent" "Parser.compute_bracket_indent" 1161 1162 1163 200 1 0 0 3 0 197 .true 276 198 .none (.ref 199) (.ref 200) (.ref 201) 1165 200 1166
noncomputable def o282:Obj:=⟨(.type "function"), .none,(.func ⟨"compute_bracket_indent","Parser.compute_bracket_indent",(fA (sC 16 7)),(.stmts (fB (sC 16 7))),(fS (sC 16 13)),3,[], .none, .none, .none,(.str "cpy313.idlelib.pyparse" 289), .none,(.ref 202), .none,0⟩), #[]⟩
noncomputable def o283:Obj:=tu #[]
noncomputable def o284:Obj:=⟨.none, .none,(.fields #[]), #[]⟩
noncomputable def o285:Obj:=tu #[(.str "self" 1171)]
noncomputable def o286:Obj:=tu #[]
noncomputable def o287:Obj:=⟨.none, .none,(.func ⟨"get_num_lines_in_stmt","Parser.get_num_lines_in_stmt",(fA (sC 16 8)),(.stmts (fB (sC 16 8))),(fS (sC 16 13)),0,[], .none, .none, .none, .none, .none, .none, .none,0⟩), #[]⟩
noncomputable def o288:Obj:=co "get_num_lines_in_stmt" "Parser.get_num_lines_in_stmt" 1168 1169 1170 203 1 0 0 3 0 204 .true 276 205 .none (.ref 206) (.ref 207) (.ref 208) 1172 203 1173
noncomputable def o289:Obj:=⟨(.type "function"), .none,(.func ⟨"get_num_lines_in_stmt","Parser.get_num_lines_in_stmt",(fA (sC 16 8)),(.stmts (fB (sC 16 8))),(fS (sC 16 13)),3,[], .none, .none, .none,(.str "cpy313.idlelib.pyparse" 289), .none,(.ref 209), .none,0⟩), #[]⟩
noncomputable def o290:Obj:=tu #[]
noncomputable def o291:Obj:=⟨.none, .none,(.fields #[]), #[]⟩
noncomputable def o292:Obj:=tu #[(.str "self" 1178),(.str "code" 1179),(.str "i" 1180),(.str "startpos" 1181),(.str "endpos" 1182),(.str "found" 1183),(.str "level" 1184),(.str "ch" 1185)]
noncomputable def o293:Obj:=tu #[]
noncomputable def o294:Obj:=⟨.none, .none,(.func ⟨"compute_backslash_indent","Parser.compute_backslash_indent",(fA (sC 16 9)),(.stmts (fB (sC 16 9))),(fS (sC 16 9)),0,[], .none, .none, .none, .none, .none, .none, .none,0⟩), #[]⟩
noncomputable def o295:Obj:=co "compute_backslash_indent" "Parser.compute_backslash_indent" 1175 1176 1177 206 1 0 0 3 0 211 .true 276 212 .none (.ref 213) (.ref 214) (.ref 215) 1186 206 1187
noncomputable def o296:Obj:=⟨(.type "function"), .none,(.func ⟨"compute_backslash_indent","Parser.compute_backslash_indent",(fA (sC 16 9)),(.stmts (fB (sC 16 9))),(fS (sC 16 9)),3,[], .none, .none, .none,(.str "cpy313.idlelib.pyparse" 289), .none,(.ref 216), .none,0⟩), #[]⟩
noncomputable def o297:Obj:=tu #[]
noncomputable def o298:Obj:=⟨.none, .none,(.fields #[]), #[]⟩
noncomputable def o299:Obj:=tu #[(.str "self" 1192)]
noncomputable def o300:Obj:=tu #[]
noncomputable def o301:Obj:=⟨.none, .none,(.func ⟨"get_base_indent_string","Parser.get_base_indent_string",(fA (sC 16 10)),(.stmts (fB (sC 16 10))),(fS (sC 16 13)),0,[], .none, .none, .none, .none, .none, .none, .none,0⟩), #[]⟩
noncomputable def o302:Obj:=co "get_base_indent_string" "Parser.get_base_indent_string" 1189 1190 1191 243 1 0 0 3 0 218 .true 276 219 .none (.ref 220) (.ref 221) (.ref 222) 1193 243 1194
noncomputable def o303:Obj:=⟨(.type "function"), .none,(.func ⟨"get_base_indent_string","Parser.get_base_indent_string",(fA (sC 16 10)),(.stmts (fB (sC 16 10))),(fS (sC 16 13)),3,[], .none, .none, .none,(.str "cpy313.idlelib.pyparse" 289), .none,(.ref 223), .none,0⟩), #[]⟩
noncomputable def o304:Obj:=tu #[]
noncomputable def o305:Obj:=⟨.none, .none,(.fields #[]), #[]⟩
noncomputable def o306:Obj:=tu #[(.str "self" 1199)]
noncomputable def o307:Obj:=tu #[]
noncomputable def o308:Obj:=⟨.none, .none,(.func ⟨"is_block_opener","Parser.is_block_opener",(fA (sC 16 11)),(.stmts (fB (sC 16 11))),(fS (sC 16 13)),0,[], .none, .none, .none, .none, .none, .none, .none,0⟩), #[]⟩
noncomputable def o309:Obj:=co "is_block_opener" "Parser.is_block_opener" 1196 1197 1198 246 1 0 0 3 0 225 .true 276 226 .none (.ref 227) (.ref 228) (.ref 229) 1200 246 1201
noncomputable def o310:Obj:=⟨(.type "function"), .none,(.func ⟨"is_block_opener","Parser.is_block_opener",(fA (sC 16 11)),(.stmts (fB (sC 16 11))),(fS (sC 16 13)),3,[], .none, .none, .none,(.str "cpy313.idlelib.pyparse" 289), .none,(.ref 230), .none,0⟩), #[]⟩
noncomputable def o311:Obj:=tu #[]
noncomputable def o312:Obj:=⟨.none, .none,(.fields #[]), #[]⟩
noncomputable def o313:Obj:=tu #[(.str "self" 1206)]
noncomputable def o314:Obj:=tu #[]
noncomputable def o315:Obj:=⟨.none, .none,(.func ⟨"is_block_closer","Parser.is_block_closer",(fA (sC 16 12)),(.stmts (fB (sC 16 12))),(fS (sC 16 13)),0,[], .none, .none, .none, .none, .none, .none, .none,0⟩), #[]⟩
noncomputable def o316:Obj:=co "is_block_closer" "Parser.is_block_closer" 1203 1204 1205 249 1 0 0 3 0 232 .true 276 233 .none (.ref 234) (.ref 235) (.ref 236) 1207 249 1208
noncomputable def o317:Obj:=⟨(.type "function"), .none,(.func ⟨"is_block_closer","Parser.is_block_closer",(fA (sC 16 12)),(.stmts (fB (sC 16 12))),(fS (sC 16 13)),3,[], .none, .none, .none,(.str "cpy313.idlelib.pyparse" 289), .none,(.ref 237), .none,0⟩), #[]⟩
noncomputable def o318:Obj:=tu #[]
noncomputable def o319:Obj:=⟨.none, .none,(.fields #[]), #[]⟩
noncomputable def o320:Obj:=tu #[(.str "self" 1213)]
noncomputable def o321:Obj:=tu #[]
noncomputable def o322:Obj:=⟨.none, .none,(.func ⟨"get_last_stmt_bracketing","Parser.get_last_stmt_bracketing",(fA (sC 16 13)),(.stmts (fB (sC 16 13))),(fS (sC 16 13)),0,[], .none, .none, .none, .none, .none, .none, .none,0⟩), #[]⟩
noncomputable def o323:Obj:=co "get_last_stmt_bracketing" "Parser.get_last_stmt_bracketing" 1210 1211 1212 252 1 0 0 3 0 239 .true 276 240 .none (.ref 241) (.ref 242) (.ref 243) 1214 252 1215
noncomputable def o324:Obj:=⟨(.type "function"), .none,(.func ⟨"get_last_stmt_bracketing","Parser.get_last_stmt_bracketing",(fA (sC 16 13)),(.stmts (fB (sC 16 13))),(fS (sC 16 13)),3,[], .none, .none, .none,(.str "cpy313.idlelib.pyparse" 289), .none,(.ref 244), .none,0⟩), #[]⟩
noncomputable def o325:Obj:=tu #[(.str "code" 1217),(.str "continuation" 1218),(.str "goodlines" 1219),(.str "indentwidth" 1220),(.str "lastch" 1221),(.str "lastopenbracketpos" 1222),(.str "stmt_bracketing" 1223),(.str "stmt_end" 1224),(.str "stmt_start" 1225),(.str "study_level" 1226),(.str "tabwidth" 1227)]
noncomputable def o326 (P:Params):Obj:=di #[e P "__module__" 1077 (.str "cpy313.idlelib.pyparse" 289),e P "__firstlineno__" 1081 (.int 22 1080),e P "__init__" 1090 (.ref 154),e P "set_code" 1098 (.ref 161),e P "find_good_parse_start" 1106 (.ref 168),e P "set_lo" 1114 (.ref 175),e P "_study1" 1133 (.ref 182),e P "get_continuation_type" 1140 (.ref 189),e P "_study2" 1160 (.ref 196),e P "compute_bracket_indent" 1167 (.ref 203),e P "get_num_lines_in_stmt" 1174 (.ref 210),e P "compute_backslash_indent" 1188 (.ref 217),e P "get_base_indent_string" 1195 (.ref 224),e P "is_block_opener" 1202 (.ref 231),e P "is_block_closer" 1209 (.ref 238),e P "get_last_stmt_bracketing" 1216 (.ref 245),e P "__static_attributes__" 1228 (.ref 246),e P "__dict__" 1230 (.ref 249),e P "__weakref__" 1232 (.ref 250),e P "__doc__" 1233 .none] 4
noncomputable def o327:Obj:=⟨(.type "type"), .none,(.cls ⟨"Parser",[(.type "object")],[(.ref 248),(.type "object")],247,"Parser", .true,[],[], .false, .none, .false⟩), #[.none, .none,(.some (.str "Parser" 1070)),(.some (.str "Parser" 1078)),(.some (.builtin "object.__new__")),(.some (.bool .true))]⟩
noncomputable def o328:Obj:=⟨(.type "getset_descriptor"), .none,(.fields #[(.str "__dict__" 1229),(.ref 248),(.builtin "function.__dict__"),(.builtin "function.__dict__#set")]), #[]⟩
noncomputable def o329:Obj:=⟨(.type "getset_descriptor"), .none,(.fields #[(.str "__weakref__" 1231),(.ref 248),(.builtin "ExceptionGroup.__weakref__"), .none]), #[]⟩
noncomputable def o330:Obj:=⟨(.type "super"), .none,(.fields #[(.ref 248),(.ref 248),(.ref 248)]), #[]⟩
noncomputable def o331:Obj:=⟨(.type "builtin_function_or_method"), .none,(.fields #[(.builtin "object.__init_subclass__"),(.ref 248)]), #[]⟩
noncomputable def o332:Obj:=⟨(.type "list"), .none,(.seq #[(.str "=" 1238),(.str "b" 1239),(.str "(a=b)" 1240),(.str "'='" 1241),(.str "==" 1242),(.str "+=" 1243),(.str "\"\\\"=\"" 1244),(.str "<=" 1245),(.str "f[a==b]" 1246),(.str ")" 1247),(.str "!=" 1248),(.str "{'(':'='}" 1249),(.str "**=" 1250),(.str "'''\"='''" 1251),(.str ">=" 1252),(.str "'\\\\'" 1253)] 0), #[]⟩
noncomputable def o333:Obj:=tu #[]
noncomputable def o334:Obj:=⟨.none, .none,(.fields #[]), #[]⟩
noncomputable def o335:Obj:=tu #[]
noncomputable def o336:Obj:=tu #[]
noncomputable def o337:Obj:=⟨.none, .none,(.func ⟨"_law_signs","_law_signs",(fA (sA 19)),(.stmts (fB (sA 19))),(fS (sA 19)),0,[], .none, .none, .none, .none, .none, .none, .none,0⟩), #[]⟩
noncomputable def o338:Obj:=co "_law_signs" "_law_signs" 1255 1256 1257 256 0 0 0 3 0 254 .true 276 255 .none (.ref 256) (.ref 257) (.ref 258) 1258 256 1259
noncomputable def o339:Obj:=⟨(.type "function"), .none,(.func ⟨"_law_signs","_law_signs",(fA (sA 19)),(.stmts (fB (sA 19))),(fS (sA 19)),3,[], .none, .none, .none,(.str "law_km0028_02" 1236), .none,(.ref 259), .none,0⟩), #[]⟩
noncomputable def o340:Obj:=tu #[]
noncomputable def o341:Obj:=⟨.none, .none,(.fields #[]), #[]⟩
noncomputable def o342:Obj:=⟨.none, .none,(.func ⟨"_law_columns","_law_columns",(fA (sA 20)),(.stmts (fB (sA 20))),(fS (sA 20)),0,[], .none, .none, .none, .none, .none, .none, .none,0⟩), #[]⟩
noncomputable def o343:Obj:=co "_law_columns" "_law_columns" 1261 1262 1263 258 2 0 0 3 0 261 .true 276 262 .none .none .none (.ref 263) 1264 258 1265
noncomputable def o344:Obj:=⟨(.type "function"), .none,(.func ⟨"_law_columns","_law_columns",(fA (sA 20)),(.stmts (fB (sA 20))),(fS (sA 20)),3,[], .none, .none, .none,(.str "law_km0028_02" 1236), .none,(.ref 264), .none,0⟩), #[]⟩
noncomputable def o345:Obj:=tu #[]
noncomputable def o346:Obj:=⟨.none, .none,(.fields #[]), #[]⟩
noncomputable def o347:Obj:=⟨.none, .none,(.func ⟨"law","law",(fA (sA 21)),(.stmts (fB (sA 21))),(fS (sA 21)),0,[], .none, .none, .none, .none, .none, .none, .none,0⟩), #[]⟩
noncomputable def o348:Obj:=co "law" "law" 1267 1268 1269 268 1 0 0 3 0 266 .true 276 267 .none .none .none (.ref 268) 1270 268 1271
noncomputable def o349:Obj:=⟨(.type "function"), .none,(.func ⟨"law","law",(fA (sA 21)),(.stmts (fB (sA 21))),(fS (sA 21)),3,[], .none, .none, .none,(.str "law_km0028_02" 1236), .none,(.ref 269), .none,0⟩), #[]⟩
noncomputable def tree349 (P:Params):BT:=(.node (o41 P) (.node (o42 P) (.node (o218 P) (.node o48 (.node o56 (.node o72 (.node o113 (.node o198 (.node o334 .nil .nil) .nil) (.node o270 .nil .nil)) (.node o150 (.node o238 .nil .nil) (.node o302 .nil .nil))) (.node o92 (.node o129 (.node (o222 P) .nil .nil) (.node o286 .nil .nil)) (.node o174 (.node o254 .nil .nil) (.node o318 .nil .nil)))) (.node o64 (.node o84 (.node o121 (.node o206 (.node o342 .nil .nil) .nil) (.node o278 .nil .nil)) (.node o158 (.node o246 .nil .nil) (.node o310 .nil .nil))) (.node o100 (.node o138 (.node o230 .nil .nil) (.node o294 .nil .nil)) (.node o182 (.node o262 .nil .nil) (.node (o326 P) .nil .nil))))) (.node (o52 P) (.node o60 (.node o80 (.node o117 (.node o202 (.node o338 .nil .nil) .nil) (.node o274 .nil .nil)) (.node o154 (.node o242 .nil .nil) (.node o306 .nil .nil))) (.node o96 (.node o133 (.node o226 .nil .nil) (.node o290 .nil .nil)) (.node o178 (.node o258 .nil .nil) (.node o322 .nil .nil)))) (.node o68 (.node o88 (.node o125 (.node o210 (.node o346 .nil .nil) .nil) (.node o282 .nil .nil)) (.node o162 (.node o250 .nil .nil) (.node o314 .nil .nil))) (.node o105 (.node o142 (.node o234 .nil .nil) (.node o298 .nil .nil)) (.node o186 (.node o266 .nil .nil) (.node o330 .nil .nil)))))) (.node o46 (.node o50 (.node o58 (.node o78 (.node o115 (.node o200 (.node o336 .nil .nil) .nil) (.node o272 .nil .nil)) (.node o152 (.node o240 .nil .nil) (.node o304 .nil .nil))) (.node o94 (.node (o131 P) (.node o224 .nil .nil) (.node o288 .nil .nil)) (.node (o176 P) (.node o256 .nil .nil) (.node o320 .nil .nil)))) (.node o66 (.node o86 (.node o123 (.node o208 (.node o344 .nil .nil) .nil) (.node o280 .nil .nil)) (.node o160 (.node o248 .nil .nil) (.node o312 .nil .nil))) (.node o102 (.node o140 (.node o232 .nil .nil) (.node o296 .nil .nil)) (.node o184 (.node o264 .nil .nil) (.node o328 .nil .nil))))) (.node (o54 P) (.node (o62 P) (.node o82 (.node o119 (.node o204 (.node o340 .nil .nil) .nil) (.node o276 .nil .nil)) (.node o156 (.node o244 .nil .nil) (.node o308 .nil .nil))) (.node o98 (.node o135 (.node o228 .nil .nil) (.node o292 .nil .nil)) (.node o180 (.node o260 .nil .nil) (.node o324 .nil .nil)))) (.node o219 (.node o90 (.node o127 (.node o220 (.node o348 .nil .nil) .nil) (.node o284 .nil .nil)) (.node o172 (.node o252 .nil .nil) (.node o316 .nil .nil))) (.node o107 (.node o144 (.node o236 .nil .nil) (.node o300 .nil .nil)) (.node o196 (.node o268 .nil .nil) (.node o332 .nil .nil))))))) (.node (o43 P) (.node o45 (.node o49 (.node o57 (.node o77 (.node o114 (.node (o199 P) (.node o335 .nil .nil) .nil) (.node o271 .nil .nil)) (.node o151 (.node o239 .nil .nil) (.node o303 .nil .nil))) (.node o93 (.node o130 (.node o223 .nil .nil) (.node o287 .nil .nil)) (.node o175 (.node o255 .nil .nil) (.node o319 .nil .nil)))) (.node o65 (.node o85 (.node o122 (.node o207 (.node o343 .nil .nil) .nil) (.node o279 .nil .nil)) (.node o159 (.node o247 .nil .nil) (.node o311 .nil .nil))) (.node o101 (.node o139 (.node o231 .nil .nil) (.node o295 .nil .nil)) (.node o183 (.node o263 .nil .nil) (.node o327 .nil .nil))))) (.node o53 (.node (o61 P) (.node o81 (.node (o118 P) (.node o203 (.node o339 .nil .nil) .nil) (.node o275 .nil .nil)) (.node o155 (.node o243 .nil .nil) (.node o307 .nil .nil))) (.node o97 (.node o134 (.node o227 .nil .nil) (.node o291 .nil .nil)) (.node o179 (.node o259 .nil .nil) (.node o323 .nil .nil)))) (.node o69 (.node o89 (.node o126 (.node o211 (.node o347 .nil .nil) .nil) (.node o283 .nil .nil)) (.node o163 (.node o251 .nil .nil) (.node o315 .nil .nil))) (.node o106 (.node o143 (.node o235 .nil .nil) (.node o299 .nil .nil)) (.node o195 (.node o267 .nil .nil) (.node o331 .nil .nil)))))) (.node o47 (.node o51 (.node o59 (.node o79 (.node o116 (.node o201 (.node o337 .nil .nil) .nil) (.node o273 .nil .nil)) (.node (o153 P) (.node o241 .nil .nil) (.node o305 .nil .nil))) (.node o95 (.node o132 (.node o225 .nil .nil) (.node o289 .nil .nil)) (.node o177 (.node o257 .nil .nil) (.node o321 .nil .nil)))) (.node o67 (.node o87 (.node o124 (.node o209 (.node o345 .nil .nil) .nil) (.node o281 .nil .nil)) (.node o161 (.node o249 .nil .nil) (.node o313 .nil .nil))) (.node o103 (.node o194 (.node o233 .nil .nil) (.node o297 .nil .nil)) (.node o185 (.node o265 .nil .nil) (.node o329 .nil .nil))))) (.node o55 (.node o63 (.node o83 (.node o120 (.node o205 (.node o341 .nil .nil) .nil) (.node o277 .nil .nil)) (.node o157 (.node o245 .nil .nil) (.node o309 .nil .nil))) (.node o99 (.node o136 (.node o229 .nil .nil) (.node o293 .nil .nil)) (.node o181 (.node o261 .nil .nil) (.node o325 .nil .nil)))) (.node o71 (.node o91 (.node o128 (.node o221 (.node o349 .nil .nil) .nil) (.node o285 .nil .nil)) (.node o173 (.node o253 .nil .nil) (.node o317 .nil .nil))) (.node o108 (.node o149 (.node o237 .nil .nil) (.node o301 .nil .nil)) (.node o197 (.node o269 .nil .nil) (.node o333 .nil .nil))))))))
noncomputable def heap350 (P:Params):Heap:=⟨#[(o41 P),(o42 P),(o43 P),(o218 P),o45,o46,o47,o48,o49,o50,o51,(o52 P),o53,(o54 P),o55,o56,o57,o58,o59,o60,(o61 P),(o62 P),o63,o64,o65,o66,o67,o68,o69,o219,o71,o72,o77,o78,o79,o80,o81,o82,o83,o84,o85,o86,o87,o88,o89,o90,o91,o92,o93,o94,o95,o96,o97,o98,o99,o100,o101,o102,o103,o105,o106,o107,o108,o113,o114,o115,o116,o117,(o118 P),o119,o120,o121,o122,o123,o124,o125,o126,o127,o128,o129,o130,(o131 P),o132,o133,o134,o135,o136,o138,o139,o140,o194,o142,o143,o144,o149,o150,o151,o152,(o153 P),o154,o155,o156,o157,o158,o159,o160,o161,o162,o163,o172,o173,o174,o175,(o176 P),o177,o178,o179,o180,o181,o182,o183,o184,o185,o186,o195,o196,o197,o198,(o199 P),o200,o201,o202,o203,o204,o205,o206,o207,o208,o209,o210,o211,o220,o221,(o222 P),o223,o224,o225,o226,o227,o228,o229,o230,o231,o232,o233,o234,o235,o236,o237,o238,o239,o240,o241,o242,o243,o244,o245,o246,o247,o248,o249,o250,o251,o252,o253,o254,o255,o256,o257,o258,o259,o260,o261,o262,o263,o264,o265,o266,o267,o268,o269,o270,o271,o272,o273,o274,o275,o276,o277,o278,o279,o280,o281,o282,o283,o284,o285,o286,o287,o288,o289,o290,o291,o292,o293,o294,o295,o296,o297,o298,o299,o300,o301,o302,o303,o304,o305,o306,o307,o308,o309,o310,o311,o312,o313,o314,o315,o316,o317,o318,o319,o320,o321,o322,o323,o324,o325,(o326 P),o327,o328,o329,o330,o331,o332,o333,o334,o335,o336,o337,o338,o339,o340,o341,o342,o343,o344,o345,o346,o347,o348,o349],⟨[],[],[],0,[],[], .false, #[],[],0, .false, .false, .false,0,[2000,10,10], .false,0, .true,[],[],0, .false⟩⟩
noncomputable def heap39:Params→Frag:=fun P=>[⟨2,(o43 P)⟩,⟨3,(o218 P)⟩,⟨32,o345⟩,⟨34,o79⟩,⟨35,o345⟩,⟨37,o82⟩,⟨38,o83⟩,⟨42,o87⟩,⟨43,o88⟩,⟨47,o92⟩,⟨48,o93⟩,⟨52,o97⟩,⟨53,o98⟩,⟨57,o102⟩,⟨58,o103⟩,⟨63,o113⟩,⟨64,o114⟩,⟨65,o115⟩,⟨66,o116⟩,⟨73,o345⟩,⟨75,o125⟩,⟨76,o345⟩,⟨78,o128⟩,⟨79,o129⟩,⟨80,o345⟩,⟨81,(o131 P)⟩,⟨82,o132⟩,⟨83,o133⟩,⟨84,o134⟩,⟨89,o140⟩,⟨90,o194⟩,⟨148,o345⟩,⟨150,o229⟩,⟨151,o345⟩,⟨153,o232⟩,⟨154,o233⟩,⟨155,o345⟩,⟨157,o236⟩,⟨158,o345⟩,⟨160,o239⟩,⟨161,o240⟩,⟨162,o345⟩,⟨164,o243⟩,⟨165,o345⟩,⟨167,o246⟩,⟨168,o247⟩,⟨169,o345⟩,⟨171,o250⟩,⟨172,o345⟩,⟨174,o253⟩,⟨175,o254⟩,⟨176,o345⟩,⟨178,o257⟩,⟨179,o345⟩,⟨181,o260⟩,⟨182,o261⟩,⟨183,o345⟩,⟨185,o264⟩,⟨186,o345⟩,⟨188,o267⟩,⟨189,o268⟩,⟨190,o345⟩,⟨192,o271⟩,⟨193,o345⟩,⟨195,o274⟩,⟨196,o275⟩,⟨197,o345⟩,⟨199,o278⟩,⟨200,o345⟩,⟨202,o281⟩,⟨203,o282⟩,⟨204,o345⟩,⟨206,o285⟩,⟨207,o345⟩,⟨209,o288⟩,⟨210,o289⟩,⟨211,o345⟩,⟨213,o292⟩,⟨214,o345⟩,⟨216,o295⟩,⟨217,o296⟩,⟨218,o345⟩,⟨220,o299⟩,⟨221,o345⟩,⟨223,o302⟩,⟨224,o303⟩,⟨225,o345⟩,⟨227,o306⟩,⟨228,o345⟩,⟨230,o309⟩,⟨231,o310⟩,⟨232,o345⟩,⟨234,o313⟩,⟨235,o345⟩,⟨237,o316⟩,⟨238,o317⟩,⟨239,o345⟩,⟨241,o320⟩,⟨242,o345⟩,⟨244,o323⟩,⟨245,o324⟩,⟨246,o325⟩,⟨247,(o326 P)⟩,⟨248,o327⟩,⟨249,o328⟩,⟨250,o329⟩,⟨253,o332⟩,⟨254,o345⟩,⟨256,o345⟩,⟨257,o345⟩,⟨259,o338⟩,⟨260,o339⟩,⟨261,o345⟩,⟨264,o343⟩,⟨265,o344⟩,⟨266,o345⟩,⟨269,o348⟩,⟨270,o349⟩]
end Mine.H
end
section
open PySem PySem.W PySem.Calls PyProof.Rows
set_option maxRecDepth 100000
set_option maxHeartbeats 0
namespace Mine.H
noncomputable def lf:Life:=⟨[],[],[],0,[],[],false, #[],[],0,false,false,false,0,[2000,10,10],false,0,true,[],[],0,false⟩
noncomputable def stT (t:Params→BT) (n:Nat) (gs:Array GenState) (k:Nat) (w:World) (os:OsState):SharedT:=⟨t w.params,n,lf,gs,⟨0,0,0,0⟩,k,os⟩
noncomputable def env:Env:={scope:=pw.main.scope,locals:=mainNs,globals:=mainNs,cells:=[],code:= .ref 30,frame:=some 31}
noncomputable abbrev cdE:Code:= .body (behindTheImports pw) env
noncomputable abbrev pcs (a n:Nat):List Stmt:=((behindTheImports pw).drop a).take n
noncomputable abbrev fr0:List Frame:=[topFrame ⟨0,0,0,0⟩]
noncomputable abbrev Seg (m:Nat) (t1:Params→BT) (n1:Nat) (g1:Array GenState) (k1 a n:Nat) (p1:Pos) (t2:Params→BT) (n2:Nat) (g2:Array GenState) (k2:Nat) (p2:Pos) (w:World):Prop:=
 (fun os=>segRunT treeTable pw w 28 (some (.ref 6)) 1 m (stT t1 n1 g1 k1 w os) (piecesOf (pcs a n) env cdE p1 fr0))=fun os=>some (Flow.next,stT t2 n2 g2 k2 w os,cdE,p2)
theorem up {m:Nat}{t1:Params→BT}{n1:Nat}{g1:Array GenState}{k1 a n:Nat}{p1:Pos}{t2:Params→BT}{n2:Nat}{g2:Array GenState}{k2:Nat}{p2:Pos}{w:World}
  (h:(fun os=>PySem.W.Fast.tw10110043849684766642 PySem.W.Fast.tw14364793385576792824 pw w 28 (some (.ref 6)) 1 m (stT t1 n1 g1 k1 w os) (piecesOf (pcs a n) env cdE p1 fr0))=fun os=>some (Flow.next,stT t2 n2 g2 k2 w os,cdE,p2)):
  Seg m t1 n1 g1 k1 a n p1 t2 n2 g2 k2 p2 w:=by
 unfold Seg
 rw [PySem.W.Fast.te10110043849684766642,PySem.W.Fast.te14364793385576792824];exact h
theorem op0 (w:World):(fencedOpening treeTable pw w 16794).map (fun s=>(s.heap,s.gens,s.drawn,s.toks))=some (heap68 w.params, #[],⟨0,0,0,0⟩,276):=by
 unfold fencedOpening
 rw [PySem.W.Fast.te10274390034422433532,PySem.W.Fast.te14364793385576792824]
 kernel_rfl
theorem size0 (w:World):((heap68 w.params).isNs mainGlobals&&(#[]:Array GenState).size==0,(heap68 w.params).objs.size,(heap68 w.params).nsMap mainGlobals "__annotations__")=(true,28,some (.ref 6)):=by
 rw [PySem.W.Fast.te8920871248978507458];kernel_rfl
theorem q0 (w:World):(fun os=>topGo treeTable pw w 28 (some (.ref 6)) 12 ⟨heap68 w.params, #[],⟨0,0,0,0⟩,276,os⟩ (topStub pw))=fun os=>some (⟨heap72 w.params, #[],⟨0,0,0,0⟩,282,os⟩,⟨denote treeTable cdE,cdE,⟨0,0,0,0⟩,fr0⟩):=by
 rw [PySem.W.Fast.te15667345088766844465,PySem.W.Fast.te14364793385576792824,PySem.W.Fast.te11892475500146522536];kernel_rfl
theorem qb (w:World):(fun os=>segRun treeTable pw w 28 (some (.ref 6)) 1 1 ⟨heap72 w.params, #[],⟨0,0,0,0⟩,282,os⟩ (blockOf (behindTheImports pw) env cdE ⟨0,0,0,0⟩ fr0))=fun os=>some (Flow.next,(stT tree73 32 #[] 282 w os).abs,cdE,⟨0,0,0,0⟩):=by
 rw [PySem.W.Fast.te14374325043358763698,PySem.W.Fast.te14364793385576792824];kernel_rfl
theorem q1 (w:World):Seg 584 tree73 32 #[] 282 0 6 ⟨0,0,0,0⟩ tree103 59 #[] 664 ⟨9,0,9,10⟩ w:=up (by kernel_rfl)
theorem q2:∀w,Seg 152 tree103 59 #[] 664 6 1 ⟨9,0,9,10⟩ tree108 63 #[] 677 ⟨10,63,10,72⟩ w:=byRow2 "special-get-raises" (fun w=>up (by kernel_rfl)) (fun w=>up (by kernel_rfl))
theorem q3 (w:World):Seg 307 tree108 63 #[] 677 7 4 ⟨10,63,10,72⟩ tree136 87 #[] 711 ⟨14,0,17,18⟩ w:=up (by kernel_rfl)
noncomputable def lpD (i:Nat):Obj:=⟨.ref 82, .some 89, .dict (trE [] 716 i []).toArray i, #[]⟩
noncomputable def lpI (i:Nat):Obj:=⟨.type "range_iterator", .none, .fields #[.int i 0, .int (128-i) 0, .int 1 0], #[]⟩
noncomputable def lpT (i:Nat) (P:Params):BT:=(.node (o41 P) (.node (o42 P) (.node (o111 P) (.node o48 (.node o56 (.node o72 (.node o113 .nil .nil) .nil) (.node o92 (.node o129 .nil .nil) .nil)) (.node o64 (.node o84 (.node o121 .nil .nil) .nil) (.node o100 (.node o138 .nil .nil) .nil))) (.node (o52 P) (.node o60 (.node o80 (.node o117 .nil .nil) .nil) (.node o96 (.node o133 .nil .nil) .nil)) (.node o68 (.node o88 (.node o125 .nil .nil) .nil) (.node o105 (.node (lpI i) .nil .nil) .nil)))) (.node o46 (.node o50 (.node o58 (.node o78 (.node o115 .nil .nil) .nil) (.node o94 (.node (o131 P) .nil .nil) .nil)) (.node o66 (.node o86 (.node o123 .nil .nil) .nil) (.node o102 (.node o140 .nil .nil) .nil))) (.node (o54 P) (.node (o62 P) (.node o82 (.node o119 .nil .nil) .nil) (.node o98 (.node o135 .nil .nil) .nil)) (.node o112 (.node o90 (.node o127 .nil .nil) .nil) (.node o107 .nil .nil))))) (.node (o43 P) (.node o45 (.node o49 (.node o57 (.node o77 (.node o114 .nil .nil) .nil) (.node o93 (.node o130 .nil .nil) .nil)) (.node o65 (.node o85 (.node o122 .nil .nil) .nil) (.node o101 (.node o139 .nil .nil) .nil))) (.node o53 (.node (o61 P) (.node o81 (.node (o118 P) .nil .nil) .nil) (.node o97 (.node o134 .nil .nil) .nil)) (.node o69 (.node o89 (.node o126 .nil .nil) .nil) (.node o106 .nil .nil)))) (.node o47 (.node o51 (.node o59 (.node o79 (.node o116 .nil .nil) .nil) (.node o95 (.node o132 .nil .nil) .nil)) (.node o67 (.node o87 (.node o124 .nil .nil) .nil) (.node o103 (.node (lpD i) .nil .nil) .nil))) (.node o55 (.node o63 (.node o83 (.node o120 .nil .nil) .nil) (.node o99 (.node o136 .nil .nil) .nil)) (.node o71 (.node o91 (.node o128 .nil .nil) .nil) (.node o108 .nil .nil))))))
noncomputable def lpC:Code:= .builtin "dict.fromkeys.loop" ⟨[.ref 90, .ref 91, .int 120 715],[]⟩
noncomputable abbrev ths (w:World) (os:OsState):SharedT:=stT tree136 87 #[] 711 w os
noncomputable abbrev tht:Thread:=piecesOf (pcs 11 1) env cdE ⟨14,0,17,18⟩ fr0
noncomputable def lpF (w:World) (os:OsState):List Frame:=match PySem.W.Fast.tw10295753902157049106 PySem.W.Fast.tw14364793385576792824 pw w 28 (some (.ref 6)) 1 113 (ths w os) tht with
 | some (_,t)=>t.stack
 | none=>[]
noncomputable abbrev lpt (w:World) (os:OsState):Thread:=⟨PySem.W.Fast.tw11892475500146522536 PySem.W.Fast.tw14364793385576792824 lpC,lpC,⟨18,8,18,42⟩,lpF w os⟩
noncomputable abbrev Go (m:Nat) (s:World→OsState→SharedT) (t:World→OsState→Thread) (i:Nat) (w:World):Prop:=
 (fun os=>segGoT treeTable pw w 28 (some (.ref 6)) 1 m (s w os) (t w os))=fun os=>some (stT (lpT i) 92 #[] (716+2*i) w os,lpt w os)
theorem upg {m:Nat}{s:World→OsState→SharedT}{t:World→OsState→Thread}{i:Nat}{w:World}
  (h:(fun os=>PySem.W.Fast.tw10295753902157049106 PySem.W.Fast.tw14364793385576792824 pw w 28 (some (.ref 6)) 1 m (s w os) (t w os))=fun os=>some (stT (lpT i) 92 #[] (716+2*i) w os,lpt w os)):Go m s t i w:=by
 unfold Go
 rw [PySem.W.Fast.te10295753902157049106,PySem.W.Fast.te14364793385576792824];exact h
noncomputable abbrev lps (i:Nat) (w:World) (os:OsState):SharedT:=stT (lpT i) 92 #[] (716+2*i) w os
theorem z0:∀w,Go 113 ths (fun _ _=>tht) 0 w:=byRow2 "special-get-raises" (fun w=>upg (by kernel_rfl)) (fun w=>upg (by kernel_rfl))
theorem z1a (w:World):Go 1280 (lps 0) lpt 32 (w.withFollow "special-get-raises" false):=upg (by kernel_rfl)
theorem z1b (w:World):Go 1280 (lps 0) lpt 32 (w.withFollow "special-get-raises" true):=upg (by kernel_rfl)
theorem z1:∀w,Go 1280 (lps 0) lpt 32 w:=byRow2 "special-get-raises" z1a z1b
theorem z2a (w:World):Go 1280 (lps 32) lpt 64 (w.withFollow "special-get-raises" false):=upg (by kernel_rfl)
theorem z2b (w:World):Go 1280 (lps 32) lpt 64 (w.withFollow "special-get-raises" true):=upg (by kernel_rfl)
theorem z2:∀w,Go 1280 (lps 32) lpt 64 w:=byRow2 "special-get-raises" z2a z2b
theorem z3a (w:World):Go 1280 (lps 64) lpt 96 (w.withFollow "special-get-raises" false):=upg (by kernel_rfl)
theorem z3b (w:World):Go 1280 (lps 64) lpt 96 (w.withFollow "special-get-raises" true):=upg (by kernel_rfl)
theorem z3:∀w,Go 1280 (lps 64) lpt 96 w:=byRow2 "special-get-raises" z3a z3b
noncomputable abbrev Sgl (w:World):Prop:=(fun os=>segRunT treeTable pw w 28 (some (.ref 6)) 1 1303 (lps 96 w os) (lpt w os))=fun os=>some (Flow.next,stT tree144 94 #[] 973 w os,cdE,⟨18,0,18,5⟩)
theorem upl {w:World} (h:(fun os=>PySem.W.Fast.tw10110043849684766642 PySem.W.Fast.tw14364793385576792824 pw w 28 (some (.ref 6)) 1 1303 (lps 96 w os) (lpt w os))=fun os=>some (Flow.next,stT tree144 94 #[] 973 w os,cdE,⟨18,0,18,5⟩)):Sgl w:=by
 unfold Sgl
 rw [PySem.W.Fast.te10110043849684766642,PySem.W.Fast.te14364793385576792824];exact h
theorem zla (w:World):Sgl (w.withFollow "special-get-raises" false):=upl (by kernel_rfl)
theorem zlb (w:World):Sgl (w.withFollow "special-get-raises" true):=upl (by kernel_rfl)
theorem zl:∀w,Sgl w:=byRow2 "special-get-raises" zla zlb
theorem q4 (w:World) (os:OsState):segRun treeTable pw w 28 (some (.ref 6)) 1 (113+(1280+(1280+(1280+1303)))) (ths w os).abs tht=some (Flow.next,(stT tree144 94 #[] 973 w os).abs,cdE,⟨18,0,18,5⟩):=
 seg_go (segGo_of (congrFun (z0 w) os)) (seg_go (segGo_of (congrFun (z1 w) os)) (seg_go (segGo_of (congrFun (z2 w) os)) (seg_go (segGo_of (congrFun (z3 w) os)) (segRun_of (congrFun (zl w) os)))))
theorem q5:∀w,Seg 367 tree144 94 #[] 973 12 1 ⟨18,0,18,5⟩ tree163 109 #[.finished] 1003 ⟨19,0,19,49⟩ w:=byRow2 "comprehension-iter-twice" (byRow2 "special-get-raises" (fun w=>up (by kernel_rfl)) (fun w=>up (by kernel_rfl))) (byRow2 "special-get-raises" (fun w=>up (by kernel_rfl)) (fun w=>up (by kernel_rfl)))
theorem q6:∀w,Seg 367 tree163 109 #[.finished] 1003 13 1 ⟨19,0,19,49⟩ tree186 124 #[.finished, .finished] 1033 ⟨20,0,20,49⟩ w:=byRow2 "comprehension-iter-twice" (byRow2 "special-get-raises" (fun w=>up (by kernel_rfl)) (fun w=>up (by kernel_rfl))) (byRow2 "special-get-raises" (fun w=>up (by kernel_rfl)) (fun w=>up (by kernel_rfl)))
theorem q7:∀w,Seg 522 tree186 124 #[.finished, .finished] 1033 14 1 ⟨20,0,20,49⟩ tree211 141 #[.finished, .finished, .finished] 1070 ⟨21,0,21,52⟩ w:=byRow2 "comprehension-iter-twice" (byRow2 "special-get-raises" (fun w=>up (by kernel_rfl)) (fun w=>up (by kernel_rfl))) (byRow2 "special-get-raises" (fun w=>up (by kernel_rfl)) (fun w=>up (by kernel_rfl)))
theorem q8 (w:World):Seg 787 tree211 141 #[.finished, .finished, .finished] 1070 15 6 ⟨21,0,21,52⟩ tree349 271 #[.finished, .finished, .finished] 1273 ⟨268,0,285,15⟩ w:=up (by kernel_rfl)
theorem qf (w:World):(fun os=>topRun treeTable pw w 28 (some (.ref 6)) 2 (stT tree349 271 #[.finished, .finished, .finished] 1273 w os).abs ⟨doneF .next,cdE,⟨268,0,285,15⟩,fr0⟩)=fun os=>some ⟨heap350 w.params, #[.finished, .finished, .finished],⟨0,0,0,0⟩,1273,os⟩:=by
 rw [PySem.W.Fast.te14082659384304107361,PySem.W.Fast.te14364793385576792824];kernel_rfl
end Mine.H
end
section
open PySem PySem.W PySem.Calls PyProof.Rows
set_option maxRecDepth 100000
set_option maxHeartbeats 0
namespace Mine.H
theorem bodyEq:behindTheImports pw=pcs 0 6++(pcs 6 1++(pcs 7 4++(pcs 11 1++(pcs 12 1++(pcs 13 1++(pcs 14 1++(pcs 15 6++[]))))))):=by kernel_rfl
theorem run0 (w:World) (os:OsState):topRun treeTable pw w 28 (some (.ref 6)) (12+(1+(584+(152+(307+((113+(1280+(1280+(1280+1303))))+(367+(367+(522+(787+2)))))))))) ⟨heap68 w.params, #[],⟨0,0,0,0⟩,276,os⟩ (topStub pw)=some ⟨heap350 w.params, #[.finished, .finished, .finished],⟨0,0,0,0⟩,1273,os⟩:=by
 refine go_top (congrFun (q0 w) os) (piece_block (congrFun (qb w) os) ?_)
 rw [bodyEq]
 exact piece_app (segRun_of (congrFun (q1 w) os)) (piece_app (segRun_of (congrFun (q2 w) os)) (piece_app (segRun_of (congrFun (q3 w) os)) (piece_app (q4 w os) (piece_app (segRun_of (congrFun (q5 w) os)) (piece_app (segRun_of (congrFun (q6 w) os)) (piece_app (segRun_of (congrFun (q7 w) os)) (piece_app (segRun_of (congrFun (q8 w) os)) (congrFun (qf w) os))))))))
noncomputable def view:Program:={pw with main:={pw.main with body:=[sA 0,sA 1,sA 3,sA 4,sA 5,sA 6,sA 7,sA 8,sA 9,sA 10,sA 11,sA 12,sA 16,sA 18,sA 19,sA 20,sA 21]}}
noncomputable def lo:List PySem.Str:=["_twin_re_2","_twin_re_3","_twin_re_6","_twin_re_7","C_NONE","C_BACKSLASH","C_STRING_FIRST_LINE","C_STRING_NEXT_LINES","C_BRACKET","_junkre","_match_stringre","_chew_ordinaryre","trans","_law_words"]
noncomputable def lv:List (PySem.Str×WData):=[("C_NONE", .int 0),("C_BACKSLASH", .int 1),("C_STRING_FIRST_LINE", .int 2),("C_STRING_NEXT_LINES", .int 3),("C_BRACKET", .int 4)]
noncomputable abbrev law:OpenLaw:=PySem.Challenge.rw_km0028_02
noncomputable def ads:List Addr:=[2,3,32,34,35,37,38,42,43,47,48,52,53,57,58,63,64,65,66,73,75,76,78,79,80,81,82,83,84,89,90,148,150,151,153,154,155,157,158,160,161,162,164,165,167,168,169,171,172,174,175,176,178,179,181,182,183,185,186,188,189,190,192,193,195,196,197,199,200,202,203,204,206,207,209,210,211,213,214,216,217,218,220,221,223,224,225,227,228,230,231,232,234,235,237,238,239,241,242,244,245,246,247,248,249,250,253,254,256,257,259,260,261,264,265,266,269,270]
noncomputable abbrev hook:Hook:=kHook heap39 ads (fun _=>by kernel_rfl)
noncomputable abbrev xt:Shared→Bool:=fun s=>xlAt view lv s&&recOk (RowW.records law.row.toRowW) s
noncomputable abbrev sF (w:World) (os:OsState):Shared:=⟨heap350 w.params, #[.finished, .finished, .finished],⟨0,0,0,0⟩,1273,os⟩
noncomputable abbrev hF (w:World):Heap:=heap350 w.params
theorem said:law.wellSaid=true:=by kernel_rfl
theorem l1 (w:World):(fun os=>(staticsOk (importedModules pw.main.body) (heap68 w.params) (hF w)&&namesBound pw (hF w)&&gensDone (sF w os)&&laidKept (heap68 w.params) (hF w)))=fun _=>true:=by
 rw [PySem.W.Fast.te5923862056798008813];kernel_rfl
theorem l2 (w:World):(fun os=>seen ((recsOf view).map (·.name)) (ownsOf view) [] {sF w os with gens:= #[]})=fun _=>expectedOf view:=by
 rw [PySem.W.Fast.te5160383126252970620,PySem.W.R.mapR_eq,PySem.W.Fast.te3399658132070893891,PySem.W.Fast.te5991557255702980513];kernel_rfl
theorem l3 (w:World):(fun os=>(sF w os).heap.bltView)=fun _=>bltViewBooted:=by kernel_rfl
theorem l4 (w:World):(fun os=>((sF w os).heap.keysOk (looseW view lo) ((recsOf view).map (·.name)) ((litsOf view).map (·.1)) ((clssOf view (looseW view lo)).map (·.name))&&(sF w os).heap.accountedOkI (importedModules pw.main.body)&&(sF w os).heap.isNs mainGlobals&&(sF w os).heap.isNs builtinsNs&&tablesOk view (sF w os).heap&&xt (sF w os)&&(if false then (sF w os).gens.size==0 else !leftWithCleanup (sF w os).gens)))=fun _=>true:=by
 rw [PySem.W.Fast.te10880121769531294198,PySem.W.Fast.te821141287760084731,PySem.W.R.mapR_eq,PySem.W.Fast.te3399658132070893891,PySem.W.Fast.te7409074990110511671,PySem.W.Fast.te13664370479719496447,PySem.W.Fast.te14722251495701143533,PySem.W.Fast.te5923862056798008813,PySem.W.Fast.te10994771534591457954];kernel_rfl
theorem l5 (w:World):(fun os=>tabsOk view (sF w os))=fun _=>true:=by
 rw [PySem.W.Fast.te479339242167458305];kernel_rfl
theorem l6 (w:World):(fun os=>pinSeenD view (drecsOf view) (sF w os))=fun _=>pinGoodD (drecsOf view):=by
 rw [PySem.W.Fast.te16090120013241838585,PySem.W.Fast.te3247288618530077131];kernel_rfl
theorem l7 (w:World):(fun os=>plainSeenE view (looseW view lo) (sF w os))=fun _=>plainGoodE view (looseW view lo):=by
 rw [PySem.W.Fast.te2386780881361962483,PySem.W.Fast.te821141287760084731];kernel_rfl
theorem l8 (w:World):(fun os=>plainSeenD view lo (sF w os))=fun _=>plainGoodD view lo:=by
 rw [PySem.W.Fast.te11698064438423848299];kernel_rfl
theorem l9 (w:World):(fun os=>wideSeen view (sF w os))=fun _=>wideGood view:=by
 rw [PySem.W.Fast.te7317090234206586261];kernel_rfl
theorem l10 (w:World):(fun os=>clsSeenW view lo (sF w os))=fun _=>clsGoodW view lo:=by
 rw [PySem.W.Fast.te7369524293546568484];kernel_rfl
theorem l11 (w:World):(fun os=>Hook.obs hook (sF w os))=fun _=>Hook.val hook w:=by kernel_rfl
theorem looks (w:World):(fun os=>((staticsOk (importedModules pw.main.body) (heap68 w.params) (hF w)&&namesBound pw (hF w)&&gensDone (sF w os)&&laidKept (heap68 w.params) (hF w)),
  openSeen view lo (importedModules pw.main.body) xt false (sF w os),Hook.obs hook (sF w os)))=fun _=>(true,openGood view lo,Hook.val hook w):=
 funext fun os=>looks_pair (congrFun (l1 w) os) (looks_pair (looks_pair (congrFun (l2 w) os) (looks_pair (congrFun (l3 w) os) (looks_pair (congrFun (l4 w) os) (looks_pair (congrFun (l5 w) os) (looks_pair (congrFun (l6 w) os)
  (looks_pair (congrFun (l7 w) os) (looks_pair (congrFun (l8 w) os) (looks_pair (congrFun (l9 w) os) (congrFun (l10 w) os))))))))) (congrFun (l11 w) os))
theorem left:LeftO pw view lo xt (Hook.obs hook) (Hook.val hook) 16794 false:=LeftO.of_pieces op0 size0 run0 (by kernel_rfl) looks
theorem okV:(chainsOk view&&opensWell law.row.toRowW.prog&&(frees law.row.toRowW&&law.row.toRowW.within.isEmpty))=true:=by kernel_rfl
theorem bare:law.row.toRowW.prog.bare:=⟨rfl,rfl,rfl,rfl,rfl,by kernel_rfl⟩
theorem prom:law.row.toRowW.promised:=⟨[.list []],by kernel_rfl,by kernel_rfl⟩
end Mine.H
end
section
set_option genSizeOf false
set_option genInjectivity false
set_option tactic.hygienic false
namespace Mine.Ln
inductive Cx where
 | o
 | n (a:Nat) (r:Cx)
 | z (a:Int) (r:Cx)
noncomputable abbrev Cx.n1 (a0:Nat):Cx:= .n a0 .o
noncomputable abbrev Cx.n2 (a0 a1:Nat):Cx:= .n a0 (.n a1 .o)
noncomputable abbrev Cx.n3 (a0 a1 a2:Nat):Cx:= .n a0 (.n a1 (.n a2 .o))
noncomputable abbrev Cx.n4 (a0 a1 a2 a3:Nat):Cx:= .n a0 (.n a1 (.n a2 (.n a3 .o)))
noncomputable abbrev Cx.n5 (a0 a1 a2 a3 a4:Nat):Cx:= .n a0 (.n a1 (.n a2 (.n a3 (.n a4 .o))))
noncomputable abbrev Cx.n6 (a0 a1 a2 a3 a4 a5:Nat):Cx:= .n a0 (.n a1 (.n a2 (.n a3 (.n a4 (.n a5 .o)))))
noncomputable abbrev Cx.n7 (a0 a1 a2 a3 a4 a5 a6:Nat):Cx:= .n a0 (.n a1 (.n a2 (.n a3 (.n a4 (.n a5 (.n a6 .o))))))
noncomputable abbrev Cx.n8 (a0 a1 a2 a3 a4 a5 a6 a7:Nat):Cx:= .n a0 (.n a1 (.n a2 (.n a3 (.n a4 (.n a5 (.n a6 (.n a7 .o)))))))
noncomputable def Cx.N:Cx→Nat→Nat
 | .n a _,0=>a
 | .n _ r,i+1=>r.N i
 | .z _ r,i+1=>r.N i
 | _,_=>0
noncomputable def Cx.Z:Cx→Nat→Int
 | .z a _,0=>a
 | .n _ r,i+1=>r.Z i
 | .z _ r,i+1=>r.Z i
 | _,_=>0
inductive Tm where
 | v (i:Nat)
 | k (n:Nat)
 | a (e1 e2:Tm)
 | s (e1 e2:Tm)
 | g (e:Tm)
 | m (n:Nat) (e:Tm)
 | r (e:Tm) (n:Nat)
 | c (e:Tm)
 | u (e:Tm)
noncomputable abbrev Tm.v0:Tm:= .v 0
noncomputable abbrev Tm.v1:Tm:= .v 1
noncomputable abbrev Tm.v2:Tm:= .v 2
noncomputable abbrev Tm.v3:Tm:= .v 3
noncomputable abbrev Tm.v4:Tm:= .v 4
noncomputable abbrev Tm.v5:Tm:= .v 5
noncomputable abbrev Tm.v6:Tm:= .v 6
noncomputable abbrev Tm.v7:Tm:= .v 7
noncomputable abbrev Tm.v8:Tm:= .v 8
noncomputable abbrev Tm.v9:Tm:= .v 9
noncomputable abbrev Tm.k0:Tm:= .k 0
noncomputable abbrev Tm.k1:Tm:= .k 1
noncomputable def Tm.n (x:Cx):Tm→Nat
 | .v i=>x.N i
 | .k j=>j
 | .a e1 e2=>e1.n x+e2.n x
 | .m j e1=>j*e1.n x
 | .r e1 j=>e1.n x*j
 | .u e1=>(e1.n x).succ
 | _=>0
noncomputable def Tm.z (x:Cx):Tm→Int
 | .v i=>x.Z i
 | .k j=>Int.ofNat j
 | .a e1 e2=>e1.z x+e2.z x
 | .s e1 e2=>e1.z x-e2.z x
 | .g e1=> -e1.z x
 | .m j e1=>Int.ofNat j*e1.z x
 | .r e1 j=>e1.z x*Int.ofNat j
 | .c e1=>(e1.n x:Int)
 | _=>0
inductive Cn where
 | l (e1 e2:Tm)
 | t (e1 e2:Tm)
 | q (e1 e2:Tm)
 | L (e1 e2:Tm)
 | T (e1 e2:Tm)
 | Q (e1 e2:Tm)
 | b (i:Nat) (e1 e2:Tm)
 | M (i:Nat) (e1 e2:Tm)
 | N (i:Nat) (e:Tm)
 | n (c:Cn)
 | f
noncomputable def Cn.D (x:Cx):Cn→Prop
 | .l e1 e2=>e1.n x≤e2.n x
 | .t e1 e2=>e1.n x<e2.n x
 | .q e1 e2=>e1.n x=e2.n x
 | .L e1 e2=>e1.z x≤e2.z x
 | .T e1 e2=>e1.z x<e2.z x
 | .Q e1 e2=>e1.z x=e2.z x
 | .b i e1 e2=>x.N i=e1.n x-e2.n x
 | .M i e1 e2=>x.N i=min (e1.n x) (e2.n x)
 | .N i e1=>x.N i=(e1.z x).toNat
 | .n c1=>¬c1.D x
 | .f=>False
noncomputable abbrev Sm:=Int×List Int×List Int
noncomputable def ev (f:Nat→Int):List Int→Int
 | []=>0
 | c::r=>c*f 0+ev (fun i=>f (i+1)) r
noncomputable def ad (c:Int):Nat→List Int→List Int
 | 0,[]=>[c]
 | 0,a::r=>(c+a)::r
 | i+1,[]=>0::ad c i []
 | i+1,a::r=>a::ad c i r
theorem ad_ev (c:Int):∀(i:Nat) (l:List Int) (f:Nat→Int),ev f (ad c i l)=c*f i+ev f l
 | 0,[],_=>rfl
 | 0,a::r,f=>by
  show (c+a)*f 0+ev _ r=c*f 0+(a*f 0+ev _ r)
  rw [Int.add_mul,Int.add_assoc]
 | i+1,[],f=>by
  show 0*f 0+ev _ (ad c i [])=_
  rw [ad_ev c i [],Int.zero_mul,Int.zero_add]
  rfl
 | i+1,a::r,f=>by
  show a*f 0+ev _ (ad c i r)=c*f (i+1)+(a*f 0+ev _ r)
  rw [ad_ev c i r,Int.add_left_comm]
noncomputable def Smd (x:Cx) (p:Sm):Int:=p.1+(ev (fun i=>(x.N i:Int)) p.2.1+ev x.Z p.2.2)
noncomputable def Tm.pn (p:Sm):Tm→Int→Sm
 | .v i,j=>(p.1,ad j i p.2.1,p.2.2)
 | .k i,j=>(j*i+p.1,p.2)
 | .a e1 e2,j=>e2.pn (e1.pn p j) j
 | .m i e1,j=>e1.pn p (j*i)
 | .r e1 i,j=>e1.pn p (j*i)
 | .u e1,j=>e1.pn (j+p.1,p.2) j
 | _,_=>p
theorem Smd_c (x:Cx) (c:Int) (p:Sm):Smd x (c+p.1,p.2)=c+Smd x p:=Int.add_assoc _ _ _
theorem Tm.pn_d (x:Cx):∀(e:Tm) (p:Sm) (j:Int),Smd x (e.pn p j)=j*(e.n x:Int)+Smd x p
 | .v i,p,j=>by
  show p.1+(ev _ (ad j i p.2.1)+_)=_
  rw [ad_ev,Int.add_assoc (j*_),Int.add_left_comm];rfl
 | .k n,p,j=>Smd_c x _ p
 | .a e1 e2,p,j=>by
  show Smd x (e2.pn (e1.pn p j) j)=j*((e1.n x+e2.n x:Nat):Int)+_
  rw [Tm.pn_d x e2,Tm.pn_d x e1,Int.natCast_add,Int.mul_add,Int.add_left_comm,Int.add_assoc]
 | .m n e,p,j=>by
  show Smd x (e.pn p (j*n))=j*((n*e.n x:Nat):Int)+_
  rw [Tm.pn_d x e,Int.natCast_mul,Int.mul_assoc]
 | .r e n,p,j=>by
  show Smd x (e.pn p (j*n))=j*((e.n x*n:Nat):Int)+_
  rw [Tm.pn_d x e,Int.natCast_mul,Int.mul_assoc,Int.mul_comm (n:Int)]
 | .u e,p,j=>by
  show Smd x (e.pn (j+p.1,p.2) j)=j*((e.n x).succ:Int)+_
  rw [Tm.pn_d x e,Smd_c,Int.natCast_succ,Int.mul_add,Int.mul_one,Int.add_assoc]
 | .s _ _,p,j | .g _,p,j | .c _,p,j=>by show Smd x p=j*0+_;rw [Int.mul_zero,Int.zero_add]
noncomputable def Tm.pz (p:Sm):Tm→Int→Sm
 | .v i,j=>(p.1,p.2.1,ad j i p.2.2)
 | .k n,j=>(j*n+p.1,p.2)
 | .c e1,j=>e1.pn p j
 | .a e1 e2,j=>e2.pz (e1.pz p j) j
 | .s e1 e2,j=>e2.pz (e1.pz p j) (-j)
 | .g e1,j=>e1.pz p (-j)
 | .m n e1,j=>e1.pz p (j*n)
 | .r e1 n,j=>e1.pz p (j*n)
 | .u _,_=>p
theorem Tm.pz_d (x:Cx):∀(e:Tm) (p:Sm) (j:Int),Smd x (e.pz p j)=j*e.z x+Smd x p
 | .v i,p,j=>by
  show p.1+(_+ev _ (ad j i p.2.2))=_
  rw [ad_ev,Int.add_left_comm _ (j*_),Int.add_left_comm];rfl
 | .k n,p,j=>Smd_c x _ p
 | .c e,p,j=>Tm.pn_d x e p j
 | .a e1 e2,p,j=>by
  show Smd x (e2.pz (e1.pz p j) j)=j*(e1.z x+e2.z x)+_
  rw [Tm.pz_d x e2,Tm.pz_d x e1,Int.mul_add,Int.add_left_comm,Int.add_assoc]
 | .s e1 e2,p,j=>by
  show Smd x (e2.pz (e1.pz p j) (-j))=j*(e1.z x-e2.z x)+_
  rw [Tm.pz_d x e2,Tm.pz_d x e1,Int.mul_sub,Int.neg_mul,Int.sub_eq_add_neg,Int.add_left_comm,Int.add_assoc]
 | .g e,p,j=>by
  show Smd x (e.pz p (-j))=j*(-e.z x)+_
  rw [Tm.pz_d x e,Int.neg_mul_comm]
 | .m n e,p,j=>by
  show Smd x (e.pz p (j*n))=j*(n*e.z x)+_
  rw [Tm.pz_d x e,Int.mul_assoc]
 | .r e n,p,j=>by
  show Smd x (e.pz p (j*n))=j*(e.z x*n)+_
  rw [Tm.pz_d x e,Int.mul_assoc,Int.mul_comm (n:Int)]
 | .u _,p,j=>by show Smd x p=j*0+_;rw [Int.mul_zero,Int.zero_add]
noncomputable abbrev Fc:=Nat×Tm×Tm
noncomputable def FD (x:Cx):Fc→Prop
 | (1,a,b)=>a.z x≤b.z x
 | (2,a,b)=>a.z x<b.z x
 | (3,a,b)=>a.z x=b.z x
 | _=>True
noncomputable def Cn.F:Cn→Bool→Fc
 | .l a e,y=>bif y then (1, .c a, .c e) else (2, .c e, .c a)
 | .t a e,y=>bif y then (2, .c a, .c e) else (1, .c e, .c a)
 | .q a e,y=>bif y then (3, .c a, .c e) else (match e with | .k 0=>(2, .k 0, .c a) | _=>(0,a,a))
 | .L a e,y=>bif y then (1,a,e) else (2,e,a)
 | .T a e,y=>bif y then (2,a,e) else (1,e,a)
 | .Q a e,y=>bif y then (3,a,e) else (0,a,a)
 | .n c,y=>c.F !y
 | _,_=>(0, .k 0, .k 0)
noncomputable abbrev Cn.H (x:Cx) (c:Cn) (y:Bool):Prop:=bif y then c.D x else ¬c.D x
theorem Cn.F_d (x:Cx):∀(c:Cn) (y:Bool),c.H x y→FD x (c.F y)
 | .l a e,y,h=>by cases y;exact Int.ofNat_lt.mpr (Nat.not_le.mp h);exact Int.ofNat_le.mpr h
 | .t a e,y,h=>by cases y;exact Int.ofNat_le.mpr (Nat.not_lt.mp h);exact Int.ofNat_lt.mpr h
 | .q a (.k 0),false,h=>Int.ofNat_lt.mpr (Nat.pos_of_ne_zero h)
 | .q a (.k (_+1)),false,h | .q a (.v _),false,h | .q a (.a _ _),false,h | .q a (.s _ _),false,h | .q a (.g _),false,h | .q a (.m _ _),false,h | .q a (.r _ _),false,h | .q a (.c _),false,h | .q a (.u _),false,h=>trivial
 | .q a e,true,h=>congrArg Int.ofNat h
 | .L a e,y,h=>by cases y;exact Int.not_le.mp h;exact h
 | .T a e,y,h=>by cases y;exact Int.not_lt.mp h;exact h
 | .Q a e,y,h=>by cases y;exact trivial;exact h
 | .n c,y,h=>Cn.F_d x c (!y) (by cases y;exact Classical.byContradiction h;exact h)
 | .f,y,_ | .b ..,y,_ | .M ..,y,_ | .N ..,y,_=>trivial
noncomputable def Fp (p:Sm) (w:Int):Fc→Sm
 | (1,a,b)=>bif Int.ble' 0 w then a.pz (b.pz p w) (-w) else p
 | (2,a,b)=>bif Int.ble' 0 w then a.pz (b.pz (-w+p.1,p.2) w) (-w) else p
 | (3,a,b)=>a.pz (b.pz p w) (-w)
 | _=>p
theorem Fp_d (x:Cx) (p:Sm) (w:Int):∀c:Fc,FD x c→Smd x p≤Smd x (Fp p w c):=by
 have key:∀(a b:Tm) (p:Sm),Smd x (a.pz (b.pz p w) (-w))=w*(b.z x-a.z x)+Smd x p:=fun a b p=>by
  rw [Tm.pz_d,Tm.pz_d,Int.mul_sub,Int.neg_mul, ←Int.add_assoc,Int.add_comm (-(w*_)),Int.sub_eq_add_neg]
 intro c h
 match c,h with
 | (1,a,b),h=>
  show _≤Smd x (bif Int.ble' 0 w then _ else _)
  cases e:Int.ble' 0 w with
  | false=>exact Int.le_refl _
  | true=>
   show _≤Smd x (a.pz (b.pz p w) (-w))
   rw [key]
   exact Int.le_add_of_nonneg_left (Int.mul_nonneg (by simpa using e) (Int.sub_nonneg_of_le h))
 | (2,a,b),h=>
  show _≤Smd x (bif Int.ble' 0 w then _ else _)
  cases e:Int.ble' 0 w with
  | false=>exact Int.le_refl _
  | true=>
   show _≤Smd x (a.pz (b.pz (-w+p.1,p.2) w) (-w))
   rw [key,Smd_c, ←Int.add_assoc]
   refine Int.le_add_of_nonneg_left ?_
   rw [←Int.mul_neg_one, ←Int.mul_add]
   exact Int.mul_nonneg (by simpa using e) (by have h:a.z x<b.z x:=h;omega)
 | (3,a,b),h=>
  have h:a.z x=b.z x:=h
  show _≤Smd x (a.pz (b.pz p w) (-w))
  rw [key,h,Int.sub_self,Int.mul_zero,Int.zero_add]
  exact Int.le_refl _
 | (0,_,_),_ | (_+4,_,_),_=>exact Int.le_refl _
noncomputable abbrev Hy:=Cn×Bool
inductive Ct where
 | w (l:List Int)
 | d (i:Nat) (a b:Ct)
 | b (a b:Ct)
noncomputable def sumF:List Hy→List Int→Sm
 | c::cs,w::ws=>Fp (sumF cs ws) w (c.1.F c.2)
 | _,_=>(0,[],[])
theorem sumF_d (x:Cx):∀(cs:List Hy) (ws:List Int),(∀c∈cs,c.1.H x c.2)→0≤Smd x (sumF cs ws)
 | [],_,_=>Int.le_refl _
 | _::_,[],_=>Int.le_refl _
 | c::cs,w::ws,h=>Int.le_trans (sumF_d x cs ws fun c m=>h c (.tail _ m)) (Fp_d x _ w _ (Cn.F_d x _ _ (h c (.head _))))
noncomputable def neg:List Int→Bool
 | []=>true
 | c::r=>Int.ble' c 0&&neg r
noncomputable def nul:List Int→Bool
 | []=>true
 | c::r=>Int.beq' c 0&&nul r
theorem neg_d:∀(l:List Int) (f:Nat→Int),(∀i,0≤f i)→neg l=true→ev f l≤0
 | [],_,_,_=>Int.le_refl _
 | c::r,f,hf,h=>by
  have h:=Bool.and_eq_true_iff.mp h
  exact Int.add_le_add (Int.mul_nonpos_of_nonpos_of_nonneg (by simpa using h.1) (hf 0)) (neg_d r _ (fun i=>hf (i+1)) h.2)
theorem nul_d:∀(l:List Int) (f:Nat→Int),nul l=true→ev f l=0
 | [],_,_=>rfl
 | c::r,f,h=>by
  have h:=Bool.and_eq_true_iff.mp h
  have hc:c=0:=by simpa using h.1
  show c*f 0+ev _ r=0
  rw [hc,Int.zero_mul,nul_d r _ h.2];rfl
noncomputable def bad (p:Sm):Bool:=Int.blt' p.1 0&&(neg p.2.1&&nul p.2.2)
theorem bad_d (x:Cx) (p:Sm) (h:bad p=true):Smd x p<0:=by
 have h:=Bool.and_eq_true_iff.mp h
 have h2:=Bool.and_eq_true_iff.mp h.2
 unfold Smd
 rw [nul_d _ _ h2.2,Int.add_zero]
 exact Int.add_lt_add_of_lt_of_le (by simpa using h.1) (neg_d _ _ (fun i=>Int.natCast_nonneg _) h2.1)
noncomputable def wy:Cn→Bool→Option (List Hy×List Hy)
 | .q a e,y=>bif y then none else some ([(.t a e,true)],[(.t e a,true)])
 | .Q a e,y=>bif y then none else some ([(.T a e,true)],[(.T e a,true)])
 | .b i a e,y=>bif y then some ([(.l e a,true),(.q (.a (.v i) e) a,true)],[(.l a e,true),(.q (.v i) (.k 0),true)]) else none
 | .M i a e,y=>bif y then some ([(.l a e,true),(.q (.v i) a,true)],[(.l e a,true),(.q (.v i) e,true)]) else none
 | .N i e,y=>bif y then some ([(.L (.k 0) e,true),(.Q (.c (.v i)) e,true)],[(.L e (.k 0),true),(.q (.v i) (.k 0),true)]) else none
 | .n c,y=>wy c !y
 | _,_=>none
theorem one_hy {x:Cx}{c:Cn} (h:c.D x):∀d∈[((c,true):Hy)],d.1.H x d.2:=fun d m=>by rw [List.mem_singleton.mp m];exact h
theorem two_hy {x:Cx}{c d:Cn} (h:c.D x) (k:d.D x):∀e∈[((c,true):Hy),(d,true)],e.1.H x e.2:=fun e m=>by
 cases m with
 | head=>exact h
 | tail _ m=>exact one_hy k _ m
theorem wy_d {x:Cx}{p:List Hy×List Hy}:∀(c:Cn) (y:Bool),wy c y=some p→c.H x y→(∀c∈p.1,c.1.H x c.2)∨(∀c∈p.2,c.1.H x c.2)
 | .q a e,false,k,h=>by cases k;exact (Nat.lt_or_gt_of_ne h).imp one_hy one_hy
 | .Q a e,false,k,h=>by cases k;exact (Int.lt_or_gt_of_ne h).imp one_hy one_hy
 | .b i a e,true,k,h=>by
  cases k
  have h:x.N i=a.n x-e.n x:=h
  exact (Nat.le_total (e.n x) (a.n x)).imp (fun k=>two_hy k (show x.N i+e.n x=a.n x by rw [h,Nat.sub_add_cancel k])) fun k=>two_hy k (show x.N i=0 by rw [h,Nat.sub_eq_zero_of_le k])
 | .M i a e,true,k,h=>by
  cases k
  have h:x.N i=min (a.n x) (e.n x):=h
  exact (Nat.le_total (a.n x) (e.n x)).imp (fun k=>two_hy k (h.trans (Nat.min_eq_left k))) fun k=>two_hy k (h.trans (Nat.min_eq_right k))
 | .N i e,true,k,h=>by
  cases k
  have h:x.N i=(e.z x).toNat:=h
  exact (Int.le_total 0 (e.z x)).imp (fun k=>two_hy k (show ((x.N i:Nat):Int)=e.z x by rw [h,Int.toNat_of_nonneg k])) fun k=>two_hy k (h.trans (Int.toNat_of_nonpos k))
 | .n c,y,k,h=>wy_d c (!y) k (by cases y;exact Classical.byContradiction h;exact h)
noncomputable def chk (hs:List Hy):Ct→Bool
 | .w l=>bad (sumF hs l)
 | .d i a b=>(match hs[i]? with
  | some c=>(match wy c.1 c.2 with
   | some p=>chk (p.1++hs) a&&chk (p.2++hs) b
   | none=>false)
  | none=>false)
 | .b _ _=>false
theorem all_app {p:Hy→Prop}{l m:List Hy} (h:∀c∈l,p c) (k:∀c∈m,p c):∀c∈l++m,p c:=fun c e=>(List.mem_append.mp e).elim (h c) (k c)
theorem all_cons {p:Hy→Prop}{c:Hy}{l:List Hy} (h:p c) (k:∀c∈l,p c):∀b∈c::l,p b:=fun b m=>by
 cases m with
 | head=>exact h
 | tail _ m=>exact k b m
theorem chk_no (x:Cx):∀(t:Ct) (hs:List Hy),chk hs t=true→(∀c∈hs,c.1.H x c.2)→False
 | .w l,hs,e,h=>Int.not_lt.mpr (sumF_d x hs l h) (bad_d x _ e)
 | .d i a b,hs,e,h=>by
  have e':(match hs[i]? with
  | some c=>(match wy c.1 c.2 with
   | some p=>chk (p.1++hs) a&&chk (p.2++hs) b
   | none=>false)
  | none=>false)=true:=e
  cases m:hs[i]? with
  | none=>rw [m] at e';cases e'
  | some c=>
   rw [m] at e'
   dsimp only at e'
   cases k:wy c.1 c.2 with
   | none=>rw [k] at e';cases e'
   | some p=>
    rw [k] at e'
    have e':=Bool.and_eq_true_iff.mp e'
    exact (wy_d _ _ k (h c (List.mem_of_getElem? m))).elim (fun q=>chk_no x a _ e'.1 (all_app q h)) fun q=>chk_no x b _ e'.2 (all_app q h)
noncomputable def gch (hs:List Hy) (g:Cn):Ct→Bool
 | .b t1 t2=>(match g with
  | .q a b=>chk ((.t a b,true)::hs) t1&&chk ((.t b a,true)::hs) t2
  | .Q a b=>chk ((.T a b,true)::hs) t1&&chk ((.T b a,true)::hs) t2
  | _=>false)
 | t=>chk ((g,false)::hs) t
theorem gch_ok {x:Cx}{hs:List Hy} (h:∀c∈hs,c.1.H x c.2) {g:Cn}{t:Ct} (e:gch hs g t=true):g.D x:=by
 have one:∀t,chk ((g,false)::hs) t=true→g.D x:=fun t e=>Classical.byContradiction fun n=>chk_no x t _ e (all_cons n h)
 cases t with
 | w l=>exact one _ e
 | d i a b=>exact one _ e
 | b t1 t2=>
  cases g with
  | q a b=>
   have e:=Bool.and_eq_true_iff.mp e
   exact Nat.le_antisymm (Nat.not_lt.mp fun n=>chk_no x _ _ e.2 (all_cons n h)) (Nat.not_lt.mp fun n=>chk_no x _ _ e.1 (all_cons n h))
  | Q a b=>
   have e:=Bool.and_eq_true_iff.mp e
   exact Int.le_antisymm (Int.not_lt.mp fun n=>chk_no x _ _ e.2 (all_cons n h)) (Int.not_lt.mp fun n=>chk_no x _ _ e.1 (all_cons n h))
  | _=>cases e
theorem nohy {p:Hy→Prop}:∀c∈([]:List Hy),p c:=fun _ m=>by cases m
theorem _root_.Mine.lin0 (g:Cn) (t:Ct) (e:gch [] g t=true) (x:Cx):g.D x:=gch_ok nohy e
theorem _root_.Mine.lin1 (g c1:Cn) (t:Ct) (e:gch [(c1,true)] g t=true) (x:Cx) (h1:c1.D x):g.D x:=gch_ok (all_cons (c:=(c1,true)) h1 nohy) e
theorem _root_.Mine.lin2 (g c1 c2:Cn) (t:Ct) (e:gch [(c1,true),(c2,true)] g t=true) (x:Cx) (h1:c1.D x) (h2:c2.D x):g.D x:=gch_ok (all_cons (c:=(c1,true)) h1 (all_cons (c:=(c2,true)) h2 nohy)) e
theorem _root_.Mine.lin3 (g c1 c2 c3:Cn) (t:Ct) (e:gch [(c1,true),(c2,true),(c3,true)] g t=true) (x:Cx) (h1:c1.D x) (h2:c2.D x) (h3:c3.D x):g.D x:=gch_ok (all_cons (c:=(c1,true)) h1 (all_cons (c:=(c2,true)) h2 (all_cons (c:=(c3,true)) h3 nohy))) e
theorem _root_.Mine.lin4 (g c1 c2 c3 c4:Cn) (t:Ct) (e:gch [(c1,true),(c2,true),(c3,true),(c4,true)] g t=true) (x:Cx) (h1:c1.D x) (h2:c2.D x) (h3:c3.D x) (h4:c4.D x):g.D x:=gch_ok (all_cons (c:=(c1,true)) h1 (all_cons (c:=(c2,true)) h2 (all_cons (c:=(c3,true)) h3 (all_cons (c:=(c4,true)) h4 nohy)))) e
theorem _root_.Mine.lin5 (g c1 c2 c3 c4 c5:Cn) (t:Ct) (e:gch [(c1,true),(c2,true),(c3,true),(c4,true),(c5,true)] g t=true) (x:Cx) (h1:c1.D x) (h2:c2.D x) (h3:c3.D x) (h4:c4.D x) (h5:c5.D x):g.D x:=gch_ok (all_cons (c:=(c1,true)) h1 (all_cons (c:=(c2,true)) h2 (all_cons (c:=(c3,true)) h3 (all_cons (c:=(c4,true)) h4 (all_cons (c:=(c5,true)) h5 nohy))))) e
theorem _root_.Mine.lin6 (g c1 c2 c3 c4 c5 c6:Cn) (t:Ct) (e:gch [(c1,true),(c2,true),(c3,true),(c4,true),(c5,true),(c6,true)] g t=true) (x:Cx) (h1:c1.D x) (h2:c2.D x) (h3:c3.D x) (h4:c4.D x) (h5:c5.D x) (h6:c6.D x):g.D x:=gch_ok (all_cons (c:=(c1,true)) h1 (all_cons (c:=(c2,true)) h2 (all_cons (c:=(c3,true)) h3 (all_cons (c:=(c4,true)) h4 (all_cons (c:=(c5,true)) h5 (all_cons (c:=(c6,true)) h6 nohy)))))) e
theorem _root_.Mine.lin7 (g c1 c2 c3 c4 c5 c6 c7:Cn) (t:Ct) (e:gch [(c1,true),(c2,true),(c3,true),(c4,true),(c5,true),(c6,true),(c7,true)] g t=true) (x:Cx) (h1:c1.D x) (h2:c2.D x) (h3:c3.D x) (h4:c4.D x) (h5:c5.D x) (h6:c6.D x) (h7:c7.D x):g.D x:=gch_ok (all_cons (c:=(c1,true)) h1 (all_cons (c:=(c2,true)) h2 (all_cons (c:=(c3,true)) h3 (all_cons (c:=(c4,true)) h4 (all_cons (c:=(c5,true)) h5 (all_cons (c:=(c6,true)) h6 (all_cons (c:=(c7,true)) h7 nohy))))))) e
theorem _root_.Mine.lin8 (g c1 c2 c3 c4 c5 c6 c7 c8:Cn) (t:Ct) (e:gch [(c1,true),(c2,true),(c3,true),(c4,true),(c5,true),(c6,true),(c7,true),(c8,true)] g t=true) (x:Cx) (h1:c1.D x) (h2:c2.D x) (h3:c3.D x) (h4:c4.D x) (h5:c5.D x) (h6:c6.D x) (h7:c7.D x) (h8:c8.D x):g.D x:=gch_ok (all_cons (c:=(c1,true)) h1 (all_cons (c:=(c2,true)) h2 (all_cons (c:=(c3,true)) h3 (all_cons (c:=(c4,true)) h4 (all_cons (c:=(c5,true)) h5 (all_cons (c:=(c6,true)) h6 (all_cons (c:=(c7,true)) h7 (all_cons (c:=(c8,true)) h8 nohy)))))))) e
theorem _root_.Mine.lin9 (g c1 c2 c3 c4 c5 c6 c7 c8 c9:Cn) (t:Ct) (e:gch [(c1,true),(c2,true),(c3,true),(c4,true),(c5,true),(c6,true),(c7,true),(c8,true),(c9,true)] g t=true) (x:Cx) (h1:c1.D x) (h2:c2.D x) (h3:c3.D x) (h4:c4.D x) (h5:c5.D x) (h6:c6.D x) (h7:c7.D x) (h8:c8.D x) (h9:c9.D x):g.D x:=gch_ok (all_cons (c:=(c1,true)) h1 (all_cons (c:=(c2,true)) h2 (all_cons (c:=(c3,true)) h3 (all_cons (c:=(c4,true)) h4 (all_cons (c:=(c5,true)) h5 (all_cons (c:=(c6,true)) h6 (all_cons (c:=(c7,true)) h7 (all_cons (c:=(c8,true)) h8 (all_cons (c:=(c9,true)) h9 nohy))))))))) e
theorem _root_.Mine.lin10 (g c1 c2 c3 c4 c5 c6 c7 c8 c9 c10:Cn) (t:Ct) (e:gch [(c1,true),(c2,true),(c3,true),(c4,true),(c5,true),(c6,true),(c7,true),(c8,true),(c9,true),(c10,true)] g t=true) (x:Cx) (h1:c1.D x) (h2:c2.D x) (h3:c3.D x) (h4:c4.D x) (h5:c5.D x) (h6:c6.D x) (h7:c7.D x) (h8:c8.D x) (h9:c9.D x) (h10:c10.D x):g.D x:=gch_ok (all_cons (c:=(c1,true)) h1 (all_cons (c:=(c2,true)) h2 (all_cons (c:=(c3,true)) h3 (all_cons (c:=(c4,true)) h4 (all_cons (c:=(c5,true)) h5 (all_cons (c:=(c6,true)) h6 (all_cons (c:=(c7,true)) h7 (all_cons (c:=(c8,true)) h8 (all_cons (c:=(c9,true)) h9 (all_cons (c:=(c10,true)) h10 nohy)))))))))) e
theorem _root_.Mine.lin11 (g c1 c2 c3 c4 c5 c6 c7 c8 c9 c10 c11:Cn) (t:Ct) (e:gch [(c1,true),(c2,true),(c3,true),(c4,true),(c5,true),(c6,true),(c7,true),(c8,true),(c9,true),(c10,true),(c11,true)] g t=true) (x:Cx) (h1:c1.D x) (h2:c2.D x) (h3:c3.D x) (h4:c4.D x) (h5:c5.D x) (h6:c6.D x) (h7:c7.D x) (h8:c8.D x) (h9:c9.D x) (h10:c10.D x) (h11:c11.D x):g.D x:=gch_ok (all_cons (c:=(c1,true)) h1 (all_cons (c:=(c2,true)) h2 (all_cons (c:=(c3,true)) h3 (all_cons (c:=(c4,true)) h4 (all_cons (c:=(c5,true)) h5 (all_cons (c:=(c6,true)) h6 (all_cons (c:=(c7,true)) h7 (all_cons (c:=(c8,true)) h8 (all_cons (c:=(c9,true)) h9 (all_cons (c:=(c10,true)) h10 (all_cons (c:=(c11,true)) h11 nohy))))))))))) e
theorem _root_.Mine.cps {P:Prop} (h:∀C:Prop,(P→C)→C):P:=h P id
end Mine.Ln
namespace Mine
noncomputable def Q0:=lin1 (.l .v0 (.k 1048576)) (.l .v0 (.k 60000)) (.w [1,1]) rfl
noncomputable def Q1:=lin1 .f (.t .v0 .k0) (.w [0,1]) rfl
noncomputable def Q2:=lin0 (.l .k0 .v0) (.w [1]) rfl
noncomputable def Q3:=lin1 (.l .v0 .v1) (.l (.a .v0 .k1) .v1) (.w [1,1]) rfl
noncomputable def Q4:=lin1 (.l .v0 (.a .v1 .k1)) (.l (.a .v0 .k1) (.a .v1 .k1)) (.w [1,1]) rfl
noncomputable def Q5:=lin3 (.t (.a .v0 .v3) (.k 90000)) (.t (.a .v0 .v4) (.k 90000)) (.b 3 .v1 (.a .v2 .k1)) (.b 4 .v1 .v2) (.d 2 (.d 5 (.w [0, -1,0,1,1,1]) (.w [1,0,1])) (.w [0,1,1,1])) rfl
noncomputable def Q6:=lin0 (.n (.t .v0 .k0)) (.w [1]) rfl
noncomputable def Q7:=lin1 (.l .v0 .v1) (.n (.t .v1 .v0)) (.w [1,1]) rfl
noncomputable def Q8:=lin0 (.L .k0 (.c .v0)) (.w [1]) rfl
noncomputable def Q9:=lin0 (.l .v0 (.a .v0 .k1)) (.w [1]) rfl
noncomputable def Q10:=lin1 (.L (.c .v0) (.c .v1)) (.l .v0 .v1) (.w [1,1]) rfl
noncomputable def Q11:=lin1 (.t .v0 .v1) (.t .v0 .v1) (.w [1,1]) rfl
noncomputable def Q12:=lin1 (.T (.c .v0) (.k 9223372036854775808)) (.l .v0 (.k 1048576)) (.w [1,1]) rfl
noncomputable def Q13:=lin0 (.q (.a (.a .v0 .k1) .v1) (.a .v0 (.a .v1 .k1))) (.b (.w [1]) (.w [1])) rfl
noncomputable def Q14:=lin2 (.q .v2 .v3) (.b 3 .v0 .v1) (.N 2 (.s (.c .v0) (.c .v1))) (.b (.d 1 (.d 4 (.w [0, -1,0,1,1]) (.w [1, -1,0,1,1])) (.w [0,1,1])) (.d 2 (.d 3 (.w [0, -1,0,1,1]) (.w [1, -1,0,1,1])) (.w [0,1,1]))) rfl
noncomputable def Q15:=lin1 (.q (.a (.a .v0 .k1) .v1) .v2) (.q (.a .v0 (.a .v1 .k1)) .v2) (.b (.w [1, -1]) (.w [1,1])) rfl
noncomputable def Q16:=lin1 (.t (.a .v0 .k1) (.k 16000000)) (.t .v0 (.k 100)) (.w [1,1]) rfl
noncomputable def Q17:=lin1 (.t .v0 (.k 16000000)) (.t (.a (.a .v0 (.m 3 (.a .v1 .k1))) (.k 10)) (.k 16000000)) (.w [1,1]) rfl
noncomputable def Q18:=lin1 (.n (.q .v0 (.k 10))) (.n (.t .v0 (.k 256))) (.w [1,1]) rfl
noncomputable def Q19:=lin1 (.n (.q .v0 (.k 92))) (.n (.t .v0 (.k 256))) (.w [1,1]) rfl
noncomputable def Q20:=lin1 (.t (.a .v0 .k1) (.k 16000000)) (.t (.a (.a .v0 (.m 3 (.a .v1 .k1))) (.k 10)) (.k 16000000)) (.w [1,1]) rfl
noncomputable def Q21:=lin1 (.l .v0 (.a .v1 .k1)) (.l .v0 .v1) (.w [1,1]) rfl
noncomputable def Q22:=lin0 (.l .v0 .v0) (.w [1]) rfl
noncomputable def Q23:=lin0 (.Q (.s (.c (.a .v0 .k1)) .k1) (.c .v0)) (.b (.w [1]) (.w [1])) rfl
noncomputable def Q24:=lin4 (.t (.m 2 .v3) .v2) (.t (.m 2 .v4) (.a .v2 .k1)) (.t .v1 .v0) (.b 3 .v0 (.a .v1 .k1)) (.b 4 .v0 .v1) (.d 3 (.d 6 (.w [0, -2,0,2,1,1]) (.w [1,0,1])) (.d 6 (.w [0, -2,0,2,1,1,2]) (.w [1,0,0,0,0,0,1]))) rfl
noncomputable def Q25:=lin1 (.l .v0 (.k 4000000)) (.l .v0 (.k 60000)) (.w [1,1]) rfl
noncomputable def Q26:=lin1 (.t .v0 (.k 300000)) (.l (.a .v0 (.m 2 .v1)) (.k 200000)) (.w [1,1]) rfl
noncomputable def Q27:=lin2 (.l (.a .v0 .k1) .v1) (.l .v0 .v1) (.n (.q .v1 .v0)) (.d 2 (.w [1,0,1]) (.w [1,1])) rfl
noncomputable def Q28:=lin0 (.t .v0 (.a .v0 .k1)) (.w [1]) rfl
noncomputable def Q29:=lin1 (.t .v0 (.a .v1 .k1)) (.t .v0 .v1) (.w [1,1]) rfl
noncomputable def Q30:=lin2 (.t .v0 .v1) (.t .v0 .v3) (.M 3 .v1 .v2) (.d 2 (.w [0,1,1,1]) (.w [1,1,1,1])) rfl
noncomputable def Q31:=lin2 (.t (.a (.a .v0 .k1) (.m 2 .v1)) (.k 900)) (.t .v1 .v2) (.t (.a .v0 (.m 2 .v2)) (.k 900)) (.w [1,2,1]) rfl
noncomputable def Q32:=lin2 (.t (.a (.a .v0 (.k 3)) (.m 20 .v1)) (.k 9000)) (.t .v1 .v2) (.t (.a .v0 (.m 20 .v2)) (.k 9000)) (.w [1,20,1]) rfl
noncomputable def Q33:=lin2 (.l .v0 .v1) (.t .v2 .v1) (.b 2 .v0 .k1) (.d 2 (.w [0, -1,1,1]) (.w [1, -1,1,1])) rfl
noncomputable def Q34:=lin1 (.T .k0 (.c .v0)) (.t .k0 .v0) (.w [1,1]) rfl
noncomputable def Q35:=lin1 (.q .v0 .v1) (.q .v1 .v0) (.b (.w [1,1]) (.w [1, -1])) rfl
noncomputable def Q36:=lin1 (.t .v0 (.k 16000000)) (.t .v0 (.k 100)) (.w [1,1]) rfl
noncomputable def Q37:=lin1 (.t (.a .v0 (.k 5)) (.k 16000000)) (.t (.a (.a .v0 (.m 3 (.a .v1 .k1))) (.k 10)) (.k 16000000)) (.w [1,1]) rfl
noncomputable def Q38:=lin2 (.l .v0 (.k 4000000)) (.l .v1 (.k 4000000)) (.q (.a .v2 .v0) .v1) (.w [1,1,1]) rfl
noncomputable def Q39:=lin1 (.T (.c .v0) (.c .v1)) (.t .v0 .v1) (.w [1,1]) rfl
noncomputable def Q40:=lin1 (.n (.Q (.c .v0) .k0)) (.n (.q .v0 .k0)) (.w [1,1]) rfl
noncomputable def Q41:=lin1 (.l .v0 .v1) (.t .v0 .v1) (.w [1,1]) rfl
noncomputable def Q42:=lin1 (.t .k0 .v0) (.n (.q .v0 .k0)) (.w [1,1]) rfl
noncomputable def Q43:=lin4 (.t .v3 .v2) (.t .v4 (.a .v2 .k1)) (.t .v1 .v0) (.b 3 .v0 (.a .v1 .k1)) (.b 4 .v0 .v1) (.d 3 (.d 6 (.w [0, -1,0,1,1,1]) (.w [1,0,1])) (.d 6 (.w [0, -1,0,1,1,1,1]) (.w [1,0,0,0,0,0,1]))) rfl
noncomputable def Q44:=lin1 (.t .v0 .v1) (.q .v1 (.a .v0 .k1)) (.w [1, -1]) rfl
noncomputable def Q45:=lin2 (.t .v0 .v1) (.t .v0 .v2) (.q .v1 .v2) (.w [1,1, -1]) rfl
noncomputable def Q46:=lin1 (.L .k0 (.a (.g .k1) (.c .v0))) (.t .k0 .v0) (.w [1,1]) rfl
noncomputable def Q47:=lin0 (.T (.a (.g .k1) (.c .v0)) (.c .v0)) (.w [1]) rfl
noncomputable def Q48:=lin2 (.q .v1 .v2) (.b 2 .v0 .k1) (.N 1 (.a (.g .k1) (.c .v0))) (.b (.d 1 (.d 4 (.w [0, -1,0,1,1]) (.w [1, -1,0,1,1])) (.w [0,1,1])) (.d 2 (.d 3 (.w [0, -1,0,1,1]) (.w [1, -1,0,1,1])) (.w [0,1,1]))) rfl
noncomputable def Q49:=lin2 (.Q (.s (.c .v0) .k1) (.c .v2)) (.t .v1 .v0) (.b 2 .v0 .k1) (.b (.d 2 (.w [0,1,1]) (.w [0,1,1,1])) (.d 2 (.w [0, -1,1]) (.w [1, -1,1]))) rfl
noncomputable def Q50:=lin0 (.l .v0 (.a .v0 .v1)) (.w [1]) rfl
noncomputable def Q51:=lin1 (.q .v1 .k1) (.b 1 (.a .v0 .k1) .v0) (.b (.d 1 (.w [0, -1,1]) (.w [1])) (.d 1 (.w [0,1,1]) (.w [1]))) rfl
noncomputable def Q52:=lin0 (.L (.g (.k 1000000000)) (.c .v0)) (.w [1]) rfl
noncomputable def Q53:=lin1 (.n (.Q (.c .v0) .k0)) (.t .k0 .v0) (.w [1,1]) rfl
noncomputable def Q54:=lin0 (.n (.Q (.c (.a .v0 .k1)) .k0)) (.w [1]) rfl
noncomputable def Q55:=lin1 (.t (.a .v0 .k1) .v1) (.q .v1 (.a .v0 (.k 3))) (.w [1, -1]) rfl
noncomputable def Q56:=lin0 (.n (.q (.a .v0 .k1) .k0)) (.w [1]) rfl
noncomputable def Q57:=lin2 (.n (.q .v0 (.k 32))) (.n (.q .v0 (.k 10))) (.n (.q .v0 (.k 32))) (.d 1 (.w [1, -1]) (.d 3 (.w [1,0, -1]) (.w [1,0,1]))) rfl
noncomputable def Q58:=lin3 (.n (.q .v0 (.k 9))) (.n (.q .v0 (.k 10))) (.n (.q .v0 (.k 32))) (.n (.q .v0 (.k 9))) (.d 1 (.d 3 (.d 5 (.w [1,0,0, -1]) (.w [1,0,1])) (.w [1,1])) (.w [1,1])) rfl
noncomputable def Q59:=lin1 (.l .v0 (.k 1048576)) (.l .v0 (.k 1000)) (.w [1,1]) rfl
noncomputable def Q60:=lin1 (.l (.a (.a .v0 .k1) .v1) (.k 1000)) (.l (.a .v0 (.a .v1 .k1)) (.k 1000)) (.w [1,1]) rfl
noncomputable def Q61:=lin1 (.t .v0 (.a (.a .v1 .k1) .v2)) (.t .v0 (.a .v1 (.a .v2 .k1))) (.w [1,1]) rfl
noncomputable def Q62:=lin1 (.l .v0 .v1) (.l .v0 .v1) (.w [1,1]) rfl
noncomputable def Q63:=lin2 (.t .v0 .v1) (.t .v0 (.a .v1 .k1)) (.n (.q .v0 .v1)) (.d 2 (.w [1,1]) (.w [1,0,1])) rfl
noncomputable def Q64:=lin2 (.t .v0 (.a .k0 .v2)) (.t .v0 .v1) (.b 2 (.a .v1 .k1) .k0) (.d 2 (.w [0, -1,1,1]) (.w [1, -1,1,1])) rfl
noncomputable def Q65:=lin1 (.l .v2 .v1) (.M 2 .v0 .v1) (.d 1 (.w [1,1,1]) (.w [0,1,1])) rfl
noncomputable def Q66:=lin3 (.q (.a .v0 .v3) .v1) (.q .v0 .v2) (.l .v2 .v1) (.b 3 .v1 .v0) (.b (.d 3 (.w [0, -1,1]) (.w [1, -1,1])) (.d 3 (.w [0,1,1]) (.w [0,1,1,1,1]))) rfl
noncomputable def Q67:=lin2 (.t .v0 .v1) (.q .v2 .v1) (.t .v0 .v2) (.w [1,1,1]) rfl
noncomputable def Q68:=lin1 (.l .v0 .v1) (.q .v0 .k0) (.w [1,1]) rfl
noncomputable def Q69:=lin2 (.t .v1 .v0) (.n (.q .v0 .k0)) (.b 1 .v0 .k1) (.d 2 (.w [0,1,1]) (.w [0,1,1,1])) rfl
noncomputable def Q70:=lin2 (.t .v0 .v1) (.t .v0 .v2) (.q .v2 .v1) (.w [1,1,1]) rfl
noncomputable def Q71:=lin3 .f (.n (.t .v0 .v1)) (.t .v2 .v1) (.q .v2 .v0) (.w [0,1,1, -1]) rfl
noncomputable def Q72:=lin1 (.t .v0 (.k 30)) (.t .v0 (.k 29)) (.w [1,1]) rfl
noncomputable def Q73:=lin0 (.n (.T (.c .v0) .k0)) (.w [1]) rfl
noncomputable def Q74:=lin0 (.l .k1 (.k 2)) (.w [1]) rfl
noncomputable def Q75:=lin0 (.T (.a (.g .k1) .k1) .k1) (.w [1]) rfl
noncomputable def Q76:=lin1 (.n (.T (.a .v0 .k1) (.c .k0))) (.L (.g .k1) .v0) (.w [1,1]) rfl
noncomputable def Q77:=lin0 (.q (.a .k1 (.a .v0 .v1)) (.a (.a .v0 .k1) .v1)) (.b (.w [1]) (.w [1])) rfl
noncomputable def Q78:=lin1 (.t .v0 (.k 16000000)) (.t (.a .v0 (.k 5)) (.k 16000000)) (.w [1,1]) rfl
noncomputable def Q79:=lin1 (.t (.a .v0 .k1) (.k 16000000)) (.t (.a .v0 (.k 5)) (.k 16000000)) (.w [1,1]) rfl
noncomputable def Q80:=lin1 (.t .v0 (.k 16000000)) (.t (.a (.a .v0 (.m 3 .v1)) (.k 10)) (.k 16000000)) (.w [1,1]) rfl
noncomputable def Q81:=lin1 (.t (.a .v0 (.k 5)) (.k 16000000)) (.t (.a (.a .v0 (.m 3 .v1)) (.k 10)) (.k 16000000)) (.w [1,1]) rfl
noncomputable def Q82:=lin1 (.t .v0 (.k 16000000)) (.t (.a (.a .v0 (.m 3 (.a (.a .v1 .k1) .k1))) (.k 10)) (.k 16000000)) (.w [1,1]) rfl
noncomputable def Q83:=lin1 (.t (.a .v0 .k1) (.k 16000000)) (.t (.a (.a .v0 (.m 3 (.a (.a .v1 .k1) .k1))) (.k 10)) (.k 16000000)) (.w [1,1]) rfl
noncomputable def Q84:=lin0 (.q (.a .v0 (.a (.k 2) (.a .v1 .v2))) (.a (.a (.a (.a .v0 .k1) .k1) .v1) .v2)) (.b (.w [1]) (.w [1])) rfl
noncomputable def Q85:=lin2 (.l .v0 .v1) (.l (.a (.a .v2 .k1) .k1) (.a .v1 .k1)) (.q (.a .v3 .v0) .v2) (.w [1,1,1]) rfl
noncomputable def Q86:=lin0 (.t .v0 (.a (.a (.a .v0 .k1) .k1) .v1)) (.w [1]) rfl
noncomputable def Q87:=lin0 (.q (.a .v0 (.a .k1 (.a .v1 .v2))) (.a (.a (.a .v0 .k1) .v1) .v2)) (.b (.w [1]) (.w [1])) rfl
noncomputable def Q88:=lin1 (.n (.q .v0 (.k 34))) (.n (.t .v0 (.k 256))) (.w [1,1]) rfl
noncomputable def Q89:=lin1 (.n (.q .v0 (.k 39))) (.n (.t .v0 (.k 256))) (.w [1,1]) rfl
noncomputable def Q90:=lin1 (.t (.a (.a .v0 .k1) .k1) (.k 16000000)) (.t (.a .v0 (.k 5)) (.k 16000000)) (.w [1,1]) rfl
noncomputable def Q91:=lin0 (.l (.a .v0 (.k 8)) (.a .v0 (.k 11))) (.w [1]) rfl
noncomputable def Q92:=lin0 (.l (.a .v0 (.k 8)) (.a .v0 (.k 10))) (.w [1]) rfl
noncomputable def Q93:=lin0 (.l (.a .v0 (.k 8)) (.a .v0 (.k 9))) (.w [1]) rfl
noncomputable def Q94:=lin1 (.t (.a .v0 .k1) (.k 16000000)) (.t (.a (.a .v0 (.m 3 .v1)) (.k 10)) (.k 16000000)) (.w [1,1]) rfl
noncomputable def Q95:=lin1 (.t (.a .v0 .k1) (.k 16000000)) (.t (.a (.a .v0 (.m 3 (.a (.a (.a .v1 .k1) .k1) .k1))) (.k 10)) (.k 16000000)) (.w [1,1]) rfl
noncomputable def Q96:=lin1 (.t (.a (.a .v0 .k1) .k1) (.k 16000000)) (.t (.a (.a .v0 (.m 3 (.a .v1 .k1))) (.k 10)) (.k 16000000)) (.w [1,1]) rfl
noncomputable def Q97:=lin0 (.l (.a (.a (.a (.a (.m 16 .v0) (.a .v1 (.k 3))) (.k 30)) (.k 2)) .k1) (.a (.a (.m 16 .v0) (.a .v1 (.k 3))) (.k 36))) (.w [1]) rfl
noncomputable def Q98:=lin0 (.l (.a (.a (.a (.a (.m 16 .v0) (.a .v1 (.k 3))) (.k 30)) (.k 2)) .k1) (.a (.a (.m 16 .v0) (.a .v1 (.k 3))) (.k 35))) (.w [1]) rfl
noncomputable def Q99:=lin0 (.l (.a .v0 .k1) (.a .v0 (.k 3))) (.w [1]) rfl
noncomputable def Q100:=lin0 (.l (.a .v0 .k1) (.a .v0 (.k 2))) (.w [1]) rfl
noncomputable def Q101:=lin0 (.l (.a (.a (.m 7 .v0) (.a .k0 .k1)) (.k 30)) (.a (.m 16 .v0) (.k 60))) (.w [1]) rfl
noncomputable def Q102:=lin2 (.l .v0 (.m 4 (.k 18446744073709551616))) (.l .v1 (.k 1152921504606846976)) (.l .v0 .v1) (.w [1,1,1]) rfl
noncomputable def Q103:=lin3 (.l .v2 (.k 4000000)) (.L .v0 (.c .v1)) (.l .v1 (.k 4000000)) (.N 2 .v0) (.d 3 (.w [0,1,1,1,1]) (.w [0,1,1])) rfl
noncomputable def Q104:=lin2 (.q .v1 .v0) (.l .v0 (.k 4000000)) (.M 1 (.k 9223372036854775807) .v0) (.b (.d 2 (.w [0, -1,1,1]) (.w [0, -1,1])) (.d 2 (.w [1,1,1]) (.w [0,1,1]))) rfl
noncomputable def Q105:=lin3 (.q .v3 .v2) (.L .v0 (.c .v1)) (.N 2 .v0) (.M 3 .v2 .v1) (.b (.d 2 (.d 5 (.w [0, -1,0,0,1]) (.w [0, -1,0,1,1,1])) (.w [0,1,1])) (.d 3 (.w [0,1,1]) (.w [1,1,1]))) rfl
noncomputable def Q106:=lin1 (.L (.g (.k 9223372036854775808)) .v0) (.L .k0 .v0) (.w [1,1]) rfl
noncomputable def Q107:=lin2 (.T .v0 (.k 9223372036854775808)) (.L .v0 (.c .v1)) (.l .v1 (.k 4000000)) (.w [1,1,1]) rfl
noncomputable def Q108:=lin1 (.L (.g (.k 4611686018427387904)) .v0) (.L (.g (.k 1000000000)) .v0) (.w [1,1]) rfl
noncomputable def Q109:=lin1 (.T .v0 (.k 4611686018427387904)) (.L .v0 (.k 1000000000)) (.w [1,1]) rfl
noncomputable def Q110:=lin1 (.l .v0 (.k 4294967295)) (.l .v0 (.k 4000000)) (.w [1,1]) rfl
noncomputable def Q111:=lin2 (.q .v0 (.a .v1 .k1)) (.t .k0 .v0) (.b 1 .v0 .k1) (.b (.d 2 (.w [0,1,1]) (.w [0,1,1,1])) (.d 2 (.w [0, -1,1]) (.w [1, -1,1]))) rfl
noncomputable def Q112:=lin1 (.q (.a (.a .v0 .k1) .v1) (.a .v2 .k1)) (.q (.a .v0 (.a .v1 .k1)) (.a .v2 .k1)) (.b (.w [1, -1]) (.w [1,1])) rfl
noncomputable def Q113:=lin2 (.q .v2 .k0) (.l .v0 .v1) (.b 2 .v0 .v1) (.b (.w [1]) (.d 2 (.w [0,1,1,1]) (.w [0,1,1]))) rfl
noncomputable def Q114:=lin3 (.l .v3 .v4) (.l .v0 .v2) (.b 3 .v0 .v1) (.b 4 .v2 .v1) (.d 2 (.d 5 (.w [0, -1,0,1,1,1]) (.w [1, -1,0,1,1,1])) (.w [0,1,1])) rfl
noncomputable def Q115:=lin0 (.t .k0 (.a .v0 .k1)) (.w [1]) rfl
noncomputable def Q116:=lin1 (.q .v0 .k0) (.l .v0 .k0) (.b (.w [1]) (.w [1,1])) rfl
noncomputable def Q117:=lin2 (.Q (.s (.c .v0) .k1) (.c .v1)) (.n (.q .v0 .k0)) (.b 1 .v0 .k1) (.b (.d 2 (.w [0,1,1]) (.w [0,1,1,1])) (.d 2 (.w [0, -1,1]) (.w [1, -1,1]))) rfl
noncomputable def Q118:=lin1 (.n (.T (.c .v0) (.c .v1))) (.n (.t .v0 .v1)) (.w [1,1]) rfl
noncomputable def Q119:=lin0 (.n (.t .k0 .k0)) (.w [1]) rfl
noncomputable def Q120:=lin1 (.n (.l (.a .v0 .k1) .k1)) (.n (.q .v0 .k0)) (.w [1,1]) rfl
noncomputable def Q121:=lin3 (.t (.a .v0 .v3) (.k 90000)) (.t (.a .v0 .v4) (.k 90000)) (.b 3 .v1 (.a .v2 (.k 2))) (.b 4 .v1 .v2) (.d 2 (.d 5 (.w [0, -1,0,1,1,1]) (.w [1,0,1])) (.w [0,1,1,1])) rfl
noncomputable def Q122:=lin1 (.l .v0 (.a .v1 .k1)) (.n (.t (.a .v1 .k1) .v0)) (.w [1,1]) rfl
noncomputable def Q123:=lin1 (.l .v0 (.a (.a .v1 .k1) .k1)) (.l .v0 (.a .v1 .k1)) (.w [1,1]) rfl
noncomputable def Q124:=lin1 (.l .v0 (.k 65536)) (.l .v0 (.k 60000)) (.w [1,1]) rfl
noncomputable def Q125:=lin2 (.n (.q .v0 .v1)) (.t .v0 .v2) (.q .v1 .v2) (.w [-1,1, -1]) rfl
noncomputable def Q126:=lin1 (.t .v0 (.k 1048576)) (.t .v0 (.k 300000)) (.w [1,1]) rfl
noncomputable def Q127:=lin1 (.T (.s (.c .v0) .k1) (.c .v1)) (.l .v0 .v1) (.w [1,1]) rfl
noncomputable def Q128:=lin4 (.l (.a (.a .v0 .k1) (.m 2 .v3)) (.k 200000)) (.t .v2 .v1) (.l (.a .v0 (.m 2 .v4)) (.k 200000)) (.b 3 .v1 (.a .v2 .k1)) (.b 4 .v1 .v2) (.d 3 (.d 6 (.w [0, -2,0,2,1,0,1]) (.w [1,0,1])) (.d 6 (.w [0, -2,0,2,1,2,1]) (.w [1,0,0,0,0,1]))) rfl
noncomputable def Q129:=lin0 (.L .k0 (.a (.g .k1) (.a (.c .v0) .k1))) (.w [1]) rfl
noncomputable def Q130:=lin0 (.T (.a (.g .k1) (.a (.c .v0) .k1)) (.a (.c .v0) .k1)) (.w [1]) rfl
noncomputable def Q131:=lin1 (.q .v1 .v0) (.N 1 (.a (.g .k1) (.a (.c .v0) .k1))) (.b (.d 1 (.w [0, -1,1]) (.w [1, -1,1])) (.d 1 (.w [0,1,1]) (.w [0,1,1]))) rfl
noncomputable def Q132:=lin1 (.l (.a (.k 2) .v0) (.a (.a .v1 .k1) .k1)) (.l .v0 .v1) (.w [1,1]) rfl
noncomputable def Q133:=lin1 (.l (.a .k1 .v0) (.a .v1 .k1)) (.l .v0 .v1) (.w [1,1]) rfl
noncomputable def Q134:=lin1 (.L (.c .v0) (.c .v1)) (.t .v0 .v1) (.w [1,1]) rfl
noncomputable def Q135:=lin3 (.q .v2 .v3) (.t .v1 .v0) (.b 3 .v0 .v1) (.N 2 (.s (.c .v0) (.c .v1))) (.b (.d 2 (.d 5 (.w [0, -1,0,1,1]) (.w [1, -1,0,1,1])) (.w [1,0,0,1])) (.d 3 (.d 4 (.w [0, -1,0,1,1]) (.w [1, -1,0,1,1])) (.w [1,0,0,1]))) rfl
noncomputable def Q136:=lin2 (.t .v0 (.k 300000)) (.l (.a .v1 (.m 2 .v2)) (.k 200000)) (.q .v0 (.a .v1 .k1)) (.w [1,1,1]) rfl
noncomputable def Q137:=lin0 (.t .v0 (.a .v0 (.k 2))) (.w [1]) rfl
noncomputable def Q138:=lin1 (.l .v0 (.k 100000)) (.l (.a .v0 .v1) (.k 100000)) (.w [1,1]) rfl
noncomputable def Q139:=lin1 (.l .v0 (.k 200000)) (.l (.a .v0 (.m 2 .v1)) (.k 200000)) (.w [1,1]) rfl
noncomputable def Q140:=lin2 (.t .v0 .v1) (.t .v0 (.a .v1 .k1)) (.n (.q .v1 .v0)) (.d 2 (.w [1,0,1]) (.w [1,1])) rfl
noncomputable def Q141:=lin0 (.L (.c .v0) (.c .v0)) (.w [1]) rfl
noncomputable def Q142:=lin1 (.l .v0 (.a .v1 .k1)) (.q .v0 (.a .v1 .k1)) (.w [1,1]) rfl
noncomputable def Q143:=lin2 (.q .v2 .k0) (.q .v1 (.a .v0 .k1)) (.b 2 (.a .v0 .k1) .v1) (.b (.w [1]) (.d 2 (.w [0,1,1, -1]) (.w [0,1,1]))) rfl
noncomputable def Q144:=lin1 (.t (.a .v0 (.k 2)) .v1) (.q .v1 (.a .v0 (.k 3))) (.w [1, -1]) rfl
noncomputable def Q145:=lin1 (.n (.q .v0 (.k 32))) (.n (.q .v0 (.k 32))) (.d 1 (.w [1, -1]) (.w [1,1])) rfl
noncomputable def Q146:=lin2 (.n (.q .v0 (.k 9))) (.n (.q .v0 (.k 32))) (.n (.q .v0 (.k 9))) (.d 1 (.d 3 (.w [1,0, -1]) (.w [1,0,1])) (.w [1,1])) rfl
noncomputable def Q147:=lin1 (.l .v0 (.a .v1 .k1)) (.q (.a .v1 .k1) (.a .v0 (.a .v2 .k1))) (.w [1, -1]) rfl
noncomputable def Q148:=lin0 (.q (.a .v0 (.a .v1 .v2)) (.a (.a .v0 .v1) .v2)) (.b (.w [1]) (.w [1])) rfl
noncomputable def Q149:=lin4 (.l .v0 (.k 60000)) (.l .v1 (.k 1000)) (.l .v2 (.k 100)) (.l .v3 (.m 10 .v2)) (.q .v0 (.a .v1 (.a .v3 (.k 2)))) (.w [1,1,10,1,1]) rfl
noncomputable def Q150:=lin1 (.t .k0 .v0) (.q .v0 (.a .v1 (.a .v2 (.k 2)))) (.w [1, -1]) rfl
noncomputable def Q151:=lin1 (.t .v0 (.k 1048576)) (.l (.a .v0 (.a .v1 .k1)) (.k 1000)) (.w [1,1]) rfl
noncomputable def Q152:=lin1 (.l .v0 (.k 1048576)) (.l .v0 (.k 100)) (.w [1,1]) rfl
noncomputable def Q153:=lin0 (.L (.g (.k 1000)) (.c .v0)) (.w [1]) rfl
end Mine
end
section
open PySem PySem.W PySem.Calls PyProof.Rows
set_option maxRecDepth 10000
set_option tactic.hygienic false
namespace Mine
inductive PV where
 | none
 | bool (b:Bool)
 | int (i:Int)
 | str (l:List Nat)
 | cell (k:Nat)
 | inst (C:Addr) (k:Nat)
 | seq (tup:Bool) (xs:List PV)
 | mat (e:Int)
 | bm (k:Nat)
 | glob (v:Value)
 | other
 | unb
inductive PCell where
 | list (xs:List PV)
 | dct (id:Nat) (vals:List PV)
 | bk (id:Nat) (vals:List PV)
structure St where
 vars:List PV
 cells:List PCell
inductive Res (α:Type) where
 | ok (a:α) (σ:St)
 | exc (σ:St)
 | bad
noncomputable abbrev PM (α:Type):=St→Res α
theorem fc {β:Type}{P:β→Prop}{x:β}{l:List β} (h:P x) (h':∀p∈l,P p):∀p∈x::l,P p:=fun _ hp=>match hp with
 | .head _=>h
 | .tail _ hp=>h' _ hp
theorem fp {β:Type}{P:β→Prop}{l l':List β} (h:∀p∈l,P p) (h':∀p∈l',P p):∀p∈l++l',P p:=fun _ hp=>(List.mem_append.mp hp).elim (h _) (h' _)
theorem fn {β:Type}{P:β→Prop}:∀p∈([]:List β),P p:=fun _ hp=>nomatch hp
noncomputable def bnd {α β:Type} (x:PM α) (f:α→PM β):PM β:=fun σ=>match x σ with
 | .ok a σ'=>f a σ'
 | .exc σ'=> .exc σ'
 | .bad=> .bad
noncomputable def ret1 {α:Type} (a:α):PM α:=fun σ=> .ok a σ
noncomputable def badM {α:Type}:PM α:=fun _=> .bad
inductive BndOk {α β:Type} (x:PM α) (f:α→PM β) (σ:St) (b:β) (σ':St):Prop
 | mk (a:α) (σ₁:St) (h1:x σ= .ok a σ₁) (h2:f a σ₁= .ok b σ'):BndOk x f σ b σ'
theorem bnd_ok {α β:Type}{x:PM α}{f:α→PM β}{σ:St}{b:β}{σ':St} (h:bnd x f σ= .ok b σ'):BndOk x f σ b σ':=by
 unfold bnd at h
 split at h
 ·exact ⟨_,_,by assumption,h⟩
 ·cases h
 ·cases h
inductive Fl where
 | next | brk | cont
 | ret (v:PV)
inductive Rep (α:List Addr) (N:List (Addr×Obj)):PV→Value→Prop where
 | none:Rep α N .none .none
 | bool {b:Bool}:Rep α N (.bool b) (.bool b)
 | int {i:Int}{t:Tok}:Rep α N (.int i) (.int i t)
 | str {l:List Nat}{t:Tok}:Rep α N (.str l) (.str ⟨l.toArray⟩ t)
 | cell {k:Nat}{a:Addr}:α[k]? =some a→Rep α N (.cell k) (.ref a)
 | inst {k:Nat}{a dx C:Addr}:(a,instObj C dx)∈N→a∉α→α[k]? =some dx→Rep α N (.inst C k) (.ref a)
 | seq {tup:Bool}{xs:List PV}{a:Addr}{vs:List Value}{n:Nat}:(a,(⟨.type (if tup then "tuple" else "list"),Option.none, .seq vs.toArray n, #[]⟩:Obj))∈N→a∉α→
   xs.length=vs.length→(∀p∈xs.zip vs,Rep α N p.1 p.2)→Rep α N (.seq tup xs) (.ref a)
 | mat {st e:Int}{a tp:Addr}{x p:Value}{i j k:Int}{n:Nat}:(a,(⟨.type "re.Match",Option.none, .fields #[x,p,rawInt i,rawInt j,rawInt k, .ref tp], #[]⟩:Obj))∈N→a∉α→
   (tp,(⟨.type "tuple",Option.none, .seq #[rawInt st,rawInt e] n, #[]⟩:Obj))∈N→tp∉α→Rep α N (.mat e) (.ref a)
 | bm {k:Nat}{a b:Addr}:(a,(⟨.type "builtin_function_or_method",Option.none, .fields #[.builtin "list.append", .ref b], #[]⟩:Obj))∈N→a∉α→α[k]? =some b→Rep α N (.bm k) (.ref a)
 | glob {v:Value}:Rep α N (.glob v) v
 | other {v:Value}:Rep α N .other v
end Mine
end
section
open PySem PySem.W PySem.Calls PyProof.Rows
set_option maxRecDepth 10000
set_option tactic.hygienic false
namespace Mine
variable {i t:Nat}{α:List Addr}{N P:List (Addr×Obj)}{pv:PV}{v:Value}{a:Addr}
theorem nodup_inj {β:Type}{l:List β} (h:l.Nodup) {j:Nat}{x:β} (h1:l[i]? =some x) (h2:l[j]? =some x):i=j:=by
 obtain ⟨a1,b1⟩:=List.getElem?_eq_some_iff.mp h1
 obtain ⟨a2,b2⟩:=List.getElem?_eq_some_iff.mp h2
 have hp:=List.pairwise_iff_getElem.mp h
 rcases Nat.lt_trichotomy i j with hl | hl | hl
 ·exact absurd (b1.trans b2.symm) (hp i j a1 a2 hl)
 ·exact hl
 ·exact absurd (b2.trans b1.symm) (hp j i a2 a1 hl)
theorem Rep.mono {α':List Addr}{N':List (Addr×Obj)} (hN:∀p∈N,p.1∉α→p∈N'∧p.1∉α') (hα:∀(k:Nat) (a:Addr),α[k]? =some a→α'[k]? =some a)
  (h:Rep α N pv v):Rep α' N' pv v:=by
 induction h with
 | none=>exact .none
 | bool=>exact .bool
 | int=>exact .int
 | str=>exact .str
 | cell h=>exact .cell (hα _ _ h)
 | inst h1 h2 h3=>exact .inst (hN _ h1 h2).1 (hN _ h1 h2).2 (hα _ _ h3)
 | seq h1 h2 h3 _ ih=>exact .seq (hN _ h1 h2).1 (hN _ h1 h2).2 h3 ih
 | mat h1 h2 h3 h4=>exact .mat (hN _ h1 h2).1 (hN _ h1 h2).2 (hN _ h3 h4).1 (hN _ h3 h4).2
 | bm h1 h2 h3=>exact .bm (hN _ h1 h2).1 (hN _ h1 h2).2 (hα _ _ h3)
 | glob=>exact .glob
 | other=>exact .other
noncomputable def isUnb:PV→Bool
 | .unb=>true
 | _=>false
inductive Plain:PV→Value→Prop where
 | none:Plain .none .none
 | bool {b:Bool}:Plain (.bool b) (.bool b)
 | int {i:Int}{t:Tok}:Plain (.int i) (.int i t)
 | str {l:List Nat}{t:Tok}:Plain (.str l) (.str ⟨l.toArray⟩ t)
 | glob {v:Value}:Plain (.glob v) v
 | other {v:Value}:Plain .other v
structure Tabs where
 t:Nat→List Str
 isD:Obj→List (Str×Value)→Prop:=fun _ _=>False
noncomputable def CellIs (tabs:Tabs) (α:List Addr) (N:List (Addr×Obj)) (a:Addr):PCell→Prop
 | .list xs=>∃vs n,(a,(⟨.type "list",Option.none, .seq vs.toArray n, #[]⟩:Obj))∈N∧xs.length=vs.length∧(∀p∈xs.zip vs,Rep α N p.1 p.2)∧xs.length≤1048576
 | .dct id vals=>∃es n,(a,dictOf es n)∈N∧(tabs.t id).length=vals.length∧(tabs.t id).Nodup∧
   (∀(i:Nat) (x:Str) (pv:PV),(tabs.t id)[i]? =some x→vals[i]? =some pv→(pv= .unb∧getL x es=some Option.none)∨(isUnb pv=false∧∃v,getL x es=some (some v)∧Rep α N pv v))∧
   (∀e∈es,∃x t,e.key= .str x t∧x∈tabs.t id)∧es.length+(vals.filter isUnb).length≤(tabs.t id).length∧(tabs.t id).length≤100
 | .bk id vals=>∃o kvs,(a,o)∈N∧(a==sysModules)=false∧tabs.isD o kvs∧kvs.map (·.1)=tabs.t id∧kvs.length=vals.length∧(∀p∈vals.zip (kvs.map (·.2)),Plain p.1 p.2)∧kvs.length≤100
structure Glb where
 prog:Program
 w:World
 K:Frag
 p:Program
 loose:List Str
 mean:ExcName→Option Value
 mg:Str→Option Value
 mb:Str→Option Value
 tabs:Tabs
 pins:List (Addr×Obj):=[]
structure FI where
 qual:Str
 scope:Scope
 vnames:List Str
 lv:Nat
 cmp:Bool:=false
 base:List (Addr×List Int):=[]
 bind:List (Str×PV):=[]
 cbind:List (Str×PV):=[]
noncomputable def nm (fi:FI) (i:Nat):Option Str:=if fi.cmp then Option.none else fi.vnames[i]?
theorem nm_some {fi:FI}{x:Str} (h:nm fi i=some x):fi.cmp=false∧fi.vnames[i]? =some x:=by
 unfold nm at h
 split at h
 ·cases h
 ·rename_i hc;exact ⟨by simpa using hc,h⟩
structure FIok (fi:FI):Prop where
 kind:fi.scope.kind= .function
 nd:fi.vnames.Nodup
 loc:fi.cmp=false→∀x∈fi.vnames,fi.scope.names.lookup x=some .local
 nodbg:∀x∈fi.vnames,(x==("__debug__" :Str))=false
theorem Plain.rep (h:Plain pv v):Rep α N pv v:=by cases h <;> constructor
inductive Stab (P:List (Addr×Obj)):PV→Value→Prop where
 | plain {pv:PV}{v:Value}:Plain pv v→Stab P pv v
 | list {xs:List PV}{a:Addr}{ws:List Value}{n:Nat}:(a,(⟨.type "list",Option.none, .seq ws.toArray n, #[]⟩:Obj))∈P→xs.length=ws.length→(∀q∈xs.zip ws,Plain q.1 q.2)→Stab P (.seq false xs) (.ref a)
theorem Stab.rep (hp:∀p∈P,p∈N∧p.1∉α) (h:Stab P pv v):Rep α N pv v:=by
 cases h with
 | plain h=>exact h.rep
 | list h1 h2 h3=>exact .seq (tup:=false) (hp _ h1).1 (hp _ h1).2 h2 fun q hq=>(h3 q hq).rep
theorem Stab.mono {P':List (Addr×Obj)} (hp:∀p∈P,p∈P') (h:Stab P pv v):Stab P' pv v:=by
 cases h with
 | plain h=>exact .plain h
 | list h1 h2 h3=>exact .list (hp _ h1) h2 h3
structure Cx0 (G:Glb) (fi:FI) (A:Around) (h₀:Heap) (L:Addr) (env:Env):Prop where
 ok:FIok fi
 isenv:fi.cmp=false→∃f cd,env=envOfC fi.qual fi.scope L f cd
 sc:env.scope=fi.scope
 glo:env.globals=mainGlobals
 bui:env.builtins=builtinsNs
 X:G.K.In h₀
 T:Top G.p G.loose G.mean G.mg G.mb h₀
 B:∃A₀ base outer env₀,Below A₀ base outer h₀∧A.frames=some (env₀::outer)∧env₀.frame=some L∧env₀.scope.kind= .function
 hd:A.handled=none
 bs:∀p∈fi.base,∃vs:List Value,h₀.IsList p.1 vs.toArray∧IntsAre vs p.2∧p.2.length≤1000
 bd:∀p∈fi.bind,∃v o es ep,(env.locals,o)∈G.pins∧o.data= .dict es ep∧StrKeys es∧nsFind es p.1=some v∧Stab G.pins p.2 v
 cb:∀p∈fi.cbind,∃v c o,env.cells.lookup p.1=some c∧(c,o)∈G.pins∧o.data= .cell (some v)∧Stab G.pins p.2 v
structure Cx (G:Glb) (fi:FI) (A:Around) (h₀:Heap) (L:Addr) (env:Env):Prop extends Cx0 G fi A h₀ L env where
 dep:A.depth+2*fi.lv<900
 un:A.units+20*fi.lv<9000
structure RelAt (G:Glb) (fi:FI) (h₀:Heap) (L:Addr) (σ:St) (held:List (PV×Value)) (m:Str→Option Value) (α:List Addr) (N:List (Addr×Obj)) (s:Shared):Prop where
 fr:Fr h₀ L s.heap m
 nw:News h₀ L s.heap N
 nd:(N.map (·.1)).Nodup
 an:α.Nodup
 len:α.length=σ.cells.length
 cells:∀(k:Nat) (a:Addr) (c:PCell),α[k]? =some a→σ.cells[k]? =some c→CellIs G.tabs α N a c
 vars:∀(i:Nat) (x:Str) (pv:PV),fi.vnames[i]? =some x→σ.vars[i]? =some pv→pv= .unb∨(isUnb pv=false∧∃v,m x=some v∧Rep α N pv v)
 held:∀p∈held,Rep α N p.1 p.2
 tok:0<s.toks
 vlen:σ.vars.length=fi.vnames.length
 pin:∀p∈G.pins,p∈N∧p.1∉α
inductive Rel (G:Glb) (fi:FI) (h₀:Heap) (L:Addr) (σ:St) (held:List (PV×Value)) (s:Shared):Prop
 | mk (m:Str→Option Value) (α:List Addr) (N:List (Addr×Obj)) (h:RelAt G fi h₀ L σ held m α N s):Rel G fi h₀ L σ held s
section
variable {G:Glb}{fi:FI}{h₀:Heap}{L:Addr}{σ:St}{held held':List (PV×Value)}{m:Str→Option Value}{α:List Addr}{N:List (Addr×Obj)}{s:Shared}
theorem CellIs.mem {c:PCell}{tabs:Tabs} (h:CellIs tabs α N a c):∃o,(a,o)∈N:=by
 cases c with
 | list xs=>obtain ⟨vs,n,h,_⟩:=h;exact ⟨_,h⟩
 | dct ns vs=>obtain ⟨vs,n,h,_⟩:=h;exact ⟨_,h⟩
 | bk ns vs=>obtain ⟨o,kvs,h,_⟩:=h;exact ⟨_,h⟩
theorem RelAt.alpha (R:RelAt G fi h₀ L σ held m α N s) (h:a∈α):∃o,(a,o)∈N:=by
 obtain ⟨k,hk,rfl⟩:=List.mem_iff_getElem.mp h
 have e:α[k]? =some α[k]:=List.getElem?_eq_getElem hk
 have hk':k<σ.cells.length:=R.len▸hk
 exact (R.cells k _ _ e (List.getElem?_eq_getElem hk')).mem
theorem RelAt.drop (R:RelAt G fi h₀ L σ held m α N s) (hs:∀p∈held',p∈held):RelAt G fi h₀ L σ held' m α N s:=
 {R with held:=fun p hp=>R.held p (hs p hp)}
theorem RelAt.toks (R:RelAt G fi h₀ L σ held m α N s) (ht:0<t):RelAt G fi h₀ L σ held m α N {s with toks:=t}:=
 {R with fr:=R.fr,nw:=R.nw,tok:=ht}
theorem RelAt.hold (R:RelAt G fi h₀ L σ held m α N s) (h:Rep α N pv v):RelAt G fi h₀ L σ ((pv,v)::held) m α N s:=
 {R with held:=fun p hp=>(List.mem_cons.mp hp).elim (fun e=>by subst e;exact h) (fun hp=>R.held p hp)}
theorem Rel.drop (R:Rel G fi h₀ L σ held s) (hs:∀p∈held',p∈held):Rel G fi h₀ L σ held' s:=let ⟨m,α,N,R⟩:=R;⟨m,α,N,R.drop hs⟩
theorem Rel.tail {p:PV×Value} (R:Rel G fi h₀ L σ (p::held) s):Rel G fi h₀ L σ held s:=R.drop fun _ h=> .tail _ h
theorem Rel.toks (R:Rel G fi h₀ L σ held s) (ht:0<t):Rel G fi h₀ L σ held {s with toks:=t}:=let ⟨m,α,N,R⟩:=R;⟨m,α,N,R.toks ht⟩
theorem Rel.tok (R:Rel G fi h₀ L σ held s):0<s.toks:=let ⟨_,_,_,R⟩:=R;R.tok
theorem Rel.holdP (R:Rel G fi h₀ L σ held s) (h:Plain pv v):Rel G fi h₀ L σ ((pv,v)::held) s:=let ⟨m,α,N,R⟩:=R;⟨m,α,N,R.hold h.rep⟩
theorem RelAt.lt (R:RelAt G fi h₀ L σ held m α N s) {p:Addr×Obj} (h:p∈N):p.1<s.heap.objs.size:=Heap.lt_size (R.nw p h).1
theorem RelAt.push (R:RelAt G fi h₀ L σ held m α N s) (o:Obj) (ho:o.isFreed=false):
  RelAt G fi h₀ L σ held m α ((s.heap.objs.size,o)::N) {s with heap:=s.heap.push o}:=by
 have mono:∀{pv v},Rep α N pv v→Rep α ((s.heap.objs.size,o)::N) pv v:=fun h=>h.mono (fun p hp q=>⟨.tail _ hp,q⟩) (fun _ _ e=>e)
 refine ⟨R.fr.push o,R.nw.push R.fr o ho, ?_,R.an,R.len, ?_, ?_,fun p hp=>mono (R.held p hp),R.tok,R.vlen,fun p hp=>⟨.tail _ (R.pin p hp).1,(R.pin p hp).2⟩⟩
 ·rw [List.map_cons,List.nodup_cons]
  refine ⟨fun hm=> ?_,R.nd⟩
  obtain ⟨p,hp,e⟩:=List.mem_map.mp hm
  have:=R.lt hp
  rw [e] at this
  exact Nat.lt_irrefl _ this
 ·intro k a c ha hc
  have h:=R.cells k a c ha hc
  cases c with
  | list xs=>obtain ⟨vs,n,h1,h2,h3,h4⟩:=h;exact ⟨vs,n, .tail _ h1,h2,fun p hp=>mono (h3 p hp),h4⟩
  | bk ns vs=>obtain ⟨o',kvs,h1,h2⟩:=h;exact ⟨o',kvs, .tail _ h1,h2⟩
  | dct ns vs=>
   obtain ⟨es,n,h1,h2,h3,h4,h5⟩:=h
   exact ⟨es,n, .tail _ h1,h2,h3,fun i x pv e1 e2=>(h4 i x pv e1 e2).imp id fun ⟨q,v,e3,e4⟩=>⟨q,v,e3,mono e4⟩,h5⟩
 ·intro i x pv e1 e2
  exact (R.vars i x pv e1 e2).imp id fun ⟨q,v,e3,e4⟩=>⟨q,v,e3,mono e4⟩
theorem RelAt.fresh (R:RelAt G fi h₀ L σ held m α N s):s.heap.objs.size∉α:=fun h=>by
 obtain ⟨o,ho⟩:=R.alpha h
 exact Nat.lt_irrefl _ (R.lt ho)
theorem RelAt.store (R:RelAt G fi h₀ L σ held m α N s) (ok:FIok fi) {x:Str}{h':Heap} (hx:fi.vnames[i]? =some x) (hv:Rep α N pv v)
  (hu:isUnb pv=false) (F':Fr h₀ L h' (fun y=>if y=x then some v else m y)) (N':News h₀ L h' N) (ht:0<t):
  RelAt G fi h₀ L {σ with vars:=σ.vars.set i pv} held (fun y=>if y=x then some v else m y) α N {s with heap:=h',toks:=t}:=by
 refine ⟨F',N',R.nd,R.an,R.len,R.cells, ?_,R.held,ht,by rw [List.length_set];exact R.vlen,R.pin⟩
 intro j y qv e1 e2
 by_cases hj:j=i
 ·subst hj
  rw [hx] at e1
  cases e1
  right
  have:qv=pv:=by
   have e2':(σ.vars.set j pv)[j]? =some qv:=e2
   rw [List.getElem?_set] at e2'
   simp only [if_true] at e2'
   split at e2'
   ·exact (Option.some.inj e2').symm
   ·cases e2'
  subst this
  exact ⟨hu,v,if_pos rfl,hv⟩
 ·have hne:y≠x:=fun e=>by
   subst e
   exact hj (nodup_inj ok.nd e1 hx)
  have e2':(σ.vars.set i pv)[j]? =some qv:=e2
  rw [List.getElem?_set_ne (Ne.symm hj)] at e2'
  rcases R.vars j y qv e1 e2' with h | ⟨q,w,h1,h2⟩
  ·exact .inl h
  ·exact .inr ⟨q,w,by rw [if_neg hne];exact h1,h2⟩
end
end Mine
end
section
open PySem PySem.W PySem.Calls PyProof.Rows
set_option maxRecDepth 10000
set_option tactic.hygienic false
namespace Mine
variable {p:Pos}{s s':Shared}
theorem runs_toks {M:Model}{Γ:Ctx}{t:Sem Fin}{fs:List Frame}{e:End} (h:Runs M Γ p t fs s e s'):s.toks≤s'.toks:=by
 induction h with
 | done=>exact Nat.le_refl _
 | raise=>exact Nat.le_refl _
 | yield=>exact Nat.le_refl _
 | fresh _ ih=>exact Nat.le_trans (Nat.le_succ _) ih
 | again _ _ ih=>exact ih
 | rule _ ih=>exact ih
 | «at» _ ih=>exact ih
 | load _ _ ih=>exact ih
 | update _ _ ih=>exact ih
 | loadIfAlive _ ih=>exact ih
 | point _ ih=>exact ih
 | alloc _ ih=>exact ih
 | ask _ ih=>exact ih
 | choose _ _ ih=>exact ih
 | os _ ih=>exact ih
 | handled _ ih=>exact ih
 | genState _ _ ih=>exact ih
 | stack _ ih=>exact ih
 | thread _ ih=>exact ih
 | newGen _ ih=>exact ih
 | call _ _ ih1 ih2=>exact Nat.le_trans ih1 ih2
 | callSusp _ ih=>exact ih
 | resumeFresh _ _ _ _ ih1 ih2=>exact Nat.le_trans ih1 ih2
 | resumeSuspended _ _ _ _ ih1 ih2=>exact Nat.le_trans ih1 ih2
 | resumeJustStarted _ _ _ ih=>exact ih
 | resumeThrowFresh _ _ ih=>exact ih
 | resumeRunning _ _ ih=>exact ih
 | resumeFinished _ _ ih=>exact ih
 | segRet _ _ ih1 ih2=>exact Nat.le_trans ih1 ih2
 | segGen _ _ ih1 ih2=>exact Nat.le_trans ih1 ih2
 | segSuspOut _ _ ih=>exact ih
 | segSuspGen _ _ _ _ ih1 ih2=>exact Nat.le_trans ih1 ih2
theorem wakes_toks {M:Model}{Γ:Ctx}{g:Nat}{r:Resume}{res:GenResult} (h:Wakes M Γ p g r s res s'):s.toks≤s'.toks:=by
 unfold Wakes at h
 repeat' split at h
 all_goals first
  | exact h.elim
  | (obtain ⟨e₁,s₁,h1,_,_,e⟩:=h;rw [e];exact runs_toks h1)
  | (obtain ⟨e₁,s₁,h1,_,_,e⟩:=h;rw [e];have q:=runs_toks h1;cases s;cases s₁;exact q)
  | (obtain ⟨_,rfl⟩:=h;exact Nat.le_refl _)
  | (have:=h.2;subst this;exact Nat.le_refl _)
  | skip
theorem wp_toks {β:Type} (M:Model) (Γ:Ctx) (t:Sem β) (Q:β→Pos→Shared→Prop) (E:Value→Pos→Shared→Prop) (p:Pos) (s:Shared) (n:Nat) (hn:n≤s.toks)
  (h:Sem.wp M Γ t (fun a p' s'=>n≤s'.toks→Q a p' s') (fun e p' s'=>n≤s'.toks→E e p' s') p s):Sem.wp M Γ t Q E p s:=by
 induction t generalizing p s with
 | pure a=>exact h hn
 | raise e=>exact h hn
 | unsupported _=>exact h.elim
 | finish _=>exact h.elim
 | rule _ k ih=>exact ih () p s hn h
 | «at» p' k ih=>exact ih () p' s hn h
 | load a _ k ih=>obtain ⟨o,ho,h⟩:=h;exact ⟨o,ho,ih o p s hn h⟩
 | update a _ f k ih=>exact ⟨h.1,ih () p _ hn h.2⟩
 | loadIfAlive a k ih=>exact ih _ p s hn h
 | point _ k ih=>exact ih () p s hn h
 | register _ _=>exact h.elim
 | alloc o k ih=>exact ih _ p _ hn h
 | fresh k ih=>exact ih _ p _ (Nat.le_succ_of_le hn) h
 | ask k ih=>exact ih _ p s hn h
 | choose src m k ih=>exact ⟨h.1,ih _ p _ hn h.2⟩
 | os q _ k ih=>exact ih _ p _ hn h
 | call c hd g l k ih=>obtain ⟨r,s',h1,h2⟩:=h;exact ⟨r,s',h1,ih r p s' (Nat.le_trans hn (runs_toks h1)) h2⟩
 | handled own k ih=>exact ih _ p s hn h
 | genState g k ih=>obtain ⟨st,h1,h2⟩:=h;exact ⟨st,h1,ih _ p s hn h2⟩
 | newGen c k ih=>exact ih _ p _ hn h
 | resume g r _ k ih=>obtain ⟨r,s',h1,h2⟩:=h;exact ⟨r,s',h1,ih r p s' (Nat.le_trans hn (wakes_toks h1)) h2⟩
 | yield _ _ _ _=>exact h.elim
 | stack k ih=>exact ih _ p s hn h
 | fork _ _=>exact h.elim
 | thread k ih=>exact ih _ p s hn h
 | await _ _ _ _ _=>exact h.elim
theorem wpAny_toks {β:Type}{M:Model}{A:Around}{t:Sem β}{Q:β→Shared→Prop}{E:Value→Shared→Prop}
  (h:wpAny M A t (fun a s'=>s.toks≤s'.toks→Q a s') (fun e s'=>s.toks≤s'.toks→E e s') s):wpAny M A t Q E s:=
 fun Γ p hΓ=>wp_toks M Γ t _ _ p s s.toks (Nat.le_refl _) (h Γ p hΓ)
end Mine
end
section
open PySem PySem.W PySem.Calls PyProof.Rows
set_option maxRecDepth 10000
set_option tactic.hygienic false
namespace Mine
variable {b o:List Stmt}{σ σ':St}{i k:Nat}{pos:Pos}{e l r t:Expr}{pv:PV}{A:Around}{h₀:Heap}{L:Addr}{env:Env}{s:Shared}{m:Str→Option Value}{v:Value}{E Q:Value→Shared→Prop}{fl fr:PM PV}{es:List Expr}{fb fo:PM Fl}{st:Stmt}
noncomputable abbrev Sh (s:Shared) (h:Heap) (t:Tok):Shared:={s with heap:=h,toks:=t}
noncomputable def EvR (G:Glb) (fi:FI) (e:Expr) (f:PM PV):Prop:=
 ∀(A:Around) (h₀:Heap) (L:Addr) (env:Env),Cx G fi A h₀ L env→∀(held:List (PV×Value)) (s:Shared) (σ:St) (pv:PV) (σ':St) (Q:Value→Shared→Prop) (E:Value→Shared→Prop),
  f σ= .ok pv σ'→Rel G fi h₀ L σ held s→(∀v h' t',Rel G fi h₀ L σ' ((pv,v)::held) (Sh s h' t')→Q v (Sh s h' t'))→wpAny (model G.prog G.w) A (eval e env) Q E s
noncomputable def TrR (G:Glb) (fi:FI) (e:Expr) (f:PM Bool):Prop:=
 ∀(A:Around) (h₀:Heap) (L:Addr) (env:Env),Cx G fi A h₀ L env→∀(held:List (PV×Value)) (s:Shared) (σ:St) (b:Bool) (σ':St) (Q:Bool→Shared→Prop) (E:Value→Shared→Prop),
  f σ= .ok b σ'→Rel G fi h₀ L σ held s→(∀h' t',Rel G fi h₀ L σ' held (Sh s h' t')→Q b (Sh s h' t'))→wpAny (model G.prog G.w) A (isTrue e env (eval e env)) Q E s
noncomputable def TrsR (G:Glb) (fi:FI) (op:BoolOp) (es:List Expr) (f:PM Bool):Prop:=
 ∀(A:Around) (h₀:Heap) (L:Addr) (env:Env),Cx G fi A h₀ L env→∀(held:List (PV×Value)) (s:Shared) (σ:St) (b:Bool) (σ':St) (Q:Bool→Shared→Prop) (E:Value→Shared→Prop),
  f σ= .ok b σ'→Rel G fi h₀ L σ held s→(∀h' t',Rel G fi h₀ L σ' held (Sh s h' t')→Q b (Sh s h' t'))→wpAny (model G.prog G.w) A (allTrue op es env) Q E s
noncomputable def FlowRel (G:Glb) (fi:FI) (h₀:Heap) (L:Addr) (σ:St) (held:List (PV×Value)) (s:Shared):Fl→Flow→Prop
 | .next, .next=>Rel G fi h₀ L σ held s
 | .brk, .brk=>Rel G fi h₀ L σ held s
 | .cont, .cont=>Rel G fi h₀ L σ held s
 | .ret pv, .ret v=>Rel G fi h₀ L σ ((pv,v)::held) s
 | _,_=>False
noncomputable def ExR (G:Glb) (fi:FI) (st:Stmt) (f:PM Fl):Prop:=
 ∀(A:Around) (h₀:Heap) (L:Addr) (env:Env),Cx G fi A h₀ L env→∀(held:List (PV×Value)) (s:Shared) (σ:St) (fl:Fl) (σ':St) (Q:Flow→Shared→Prop) (E:Value→Shared→Prop),
  f σ= .ok fl σ'→Rel G fi h₀ L σ held s→(∀flow h' t',FlowRel G fi h₀ L σ' held (Sh s h' t') fl flow→Q flow (Sh s h' t'))→wpAny (model G.prog G.w) A (exec st env) Q E s
noncomputable def ExsR (G:Glb) (fi:FI) (ss:List Stmt) (f:PM Fl):Prop:=
 ∀(A:Around) (h₀:Heap) (L:Addr) (env:Env),Cx G fi A h₀ L env→∀(held:List (PV×Value)) (s:Shared) (σ:St) (fl:Fl) (σ':St) (Q:Flow→Shared→Prop) (E:Value→Shared→Prop),
  f σ= .ok fl σ'→Rel G fi h₀ L σ held s→(∀flow h' t',FlowRel G fi h₀ L σ' held (Sh s h' t') fl flow→Q flow (Sh s h' t'))→wpAny (model G.prog G.w) A (execs ss env) Q E s
noncomputable def pure1 (pv:PV):PM PV:=fun σ=> .ok pv σ
noncomputable def vr (i:Nat):PM PV:=fun σ=>match σ.vars[i]? with
 | some pv=>if isUnb pv then .bad else .ok pv σ
 | none=> .bad
noncomputable def optM {β:Type} (o:Option β):PM β:=fun σ=>match o with
 | some c=> .ok c σ
 | none=> .bad
noncomputable def lift1 {β:Type} (g:PV→Option β) (x:PM PV):PM β:=bnd x fun a=>optM (g a)
noncomputable def lift2 {β:Type} (g:PV→PV→Option β) (x y:PM PV):PM β:=bnd x fun a=>bnd y fun b=>optM (g a b)
noncomputable def ofB (x:PM Bool):PM PV:=bnd x fun b=>ret1 (.bool b)
noncomputable def iteM {β:Type} (c:PM Bool) (x y:PM β):PM β:=bnd c fun b=>if b then x else y
noncomputable def notM (c:PM Bool):PM Bool:=bnd c fun b=>ret1 (!b)
noncomputable def andM (x y:PM Bool):PM Bool:=bnd x fun b=>if b then y else ret1 false
noncomputable def orM (x y:PM Bool):PM Bool:=bnd x fun b=>if b then ret1 true else y
noncomputable def seqM (x y:PM Fl):PM Fl:=bnd x fun f=>match f with
 | .next=>y
 | f=>ret1 f
noncomputable def whileM:Nat→PM Bool→PM Fl→PM Fl→PM Fl
 | 0,_,_,_=>badM
 | N+1,t,b,e=>bnd t fun c=>if c then bnd b (fun f=>match f with
   | .next=>whileM N t b e
   | .cont=>whileM N t b e
   | .brk=>ret1 .next
   | .ret v=>ret1 (.ret v)) else e
noncomputable def setV (i:Nat) (x:PM PV):PM Fl:=bnd x fun pv=>fun σ=>if isUnb pv then .bad else .ok .next {σ with vars:=σ.vars.set i pv}
noncomputable def setV2 (i j:Nat) (x:PM PV):PM Fl:=bnd x fun pv=>fun σ=>if isUnb pv then .bad else .ok .next {σ with vars:=(σ.vars.set i pv).set j pv}
noncomputable def retM (x:PM PV):PM Fl:=bnd x fun pv=>ret1 (.ret pv)
noncomputable def assertM (c:PM Bool):PM Fl:=bnd c fun b=>fun σ=>if b then .ok .next σ else .exc σ
noncomputable def exprM (x:PM PV):PM Fl:=bnd x fun pv=>fun σ=>match pv with
 | .none=> .ok .next σ
 | _=> .bad
theorem optM_ok {β:Type}{o:Option β}{c:β} (h:optM o σ= .ok c σ'):o=some c∧σ'=σ:=by
 unfold optM at h
 split at h
 ·cases h;exact ⟨rfl,rfl⟩
 ·cases h
theorem lift1_ok {β:Type}{g:PV→Option β}{x:PM PV}{c:β} (h:lift1 g x σ= .ok c σ'):∃a,x σ= .ok a σ'∧g a=some c:=by
 refine cps fun GC hGC=> ?_
 obtain ⟨a,σ₁,h1,h⟩:=bnd_ok h
 obtain ⟨h2,rfl⟩:=optM_ok h
 refine hGC ?_
 exact ⟨a,h1,h2⟩
inductive LiftOk {β:Type} (g:PV→PV→Option β) (x y:PM PV) (σ σ':St) (c:β):Prop
 | mk (a:PV) (σ₁:St) (b:PV) (h1:x σ= .ok a σ₁) (h2:y σ₁= .ok b σ') (h3:g a b=some c):LiftOk g x y σ σ' c
theorem lift2_ok {β:Type}{g:PV→PV→Option β}{x y:PM PV}{c:β} (h:lift2 g x y σ= .ok c σ'):LiftOk g x y σ σ' c:=by
 refine cps fun GC hGC=> ?_
 obtain ⟨a,σ₁,h1,h⟩:=bnd_ok h
 obtain ⟨b,σ₂,h2,h⟩:=bnd_ok h
 obtain ⟨h3,rfl⟩:=optM_ok h
 refine hGC ?_
 exact ⟨a,σ₁,b,h1,h2,h3⟩
theorem ret1_ok {β:Type}{a b:β} (h:ret1 a σ= .ok b σ'):b=a∧σ'=σ:=by
 unfold ret1 at h;cases h;exact ⟨rfl,rfl⟩
section
variable {G:Glb}{fi:FI}
theorem R_int {i:Int}:EvR G fi (.Constant (.int i) k pos) (pure1 (.int i)):=by
 intro A h₀ L env C held s σ pv σ' Q E hf R hQ
 cases hf
 exact wpAny_Constant_int (hQ _ s.heap (s.toks+1) ((R.toks (Nat.succ_pos _)).holdP .int))
theorem R_str {x:Str}{l:List Nat} (hx:x=⟨l.toArray⟩):EvR G fi (.Constant (.str x) k pos) (pure1 (.str l)):=by
 intro A h₀ L env C held s σ pv σ' Q E hf R hQ
 cases hf
 subst hx
 skip
 exact fun _ _ _=>hQ (.str _ s.toks) s.heap (s.toks+1) ((R.toks (Nat.succ_pos _)).holdP .str)
theorem R_none:EvR G fi (.Constant .none k pos) (pure1 .none):=by
 intro A h₀ L env C held s σ pv σ' Q E hf R hQ
 cases hf
 show wpAny _ A (Pure.pure Value.none) Q E s
 exact wpAny_pure (hQ .none s.heap s.toks (R.holdP .none))
theorem R_bool {b:Bool}:EvR G fi (.Constant (.bool b) k pos) (pure1 (.bool b)):=by
 intro A h₀ L env C held s σ pv σ' Q E hf R hQ
 cases hf
 skip
 exact wpAny_pure (hQ (.bool b) s.heap s.toks (R.holdP .bool))
set_option tactic.hygienic true in
theorem vr_ok (h:vr i σ= .ok pv σ'):σ'=σ∧σ.vars[i]? =some pv∧isUnb pv=false:=by
 unfold vr at h
 split at h
 ·rename_i pv' e
  split at h
  ·cases h
  ·rename_i hu
   cases h
   exact ⟨rfl,e,by simpa using hu⟩
 ·cases h
theorem glob_any (C:Cx G fi A h₀ L env) (F:Fr h₀ L s.heap m) {x:Str}
  (hk:fi.scope.names.lookup x=some .globalImplicit) (hd:(x==("__debug__" :Str))=false) (e:nsIn G.K mainGlobals x=some (some v)) (h:Q v s):wpAny (model G.prog G.w) A (eval (.Name x pos) env) Q E s:=
 Name_function_global (by rw [C.sc];exact C.ok.kind) (by unfold Env.kindOf;rw [C.sc];exact hk) (loadGlobal_global (by rw [C.glo];exact (topRead_of C.T).g.keeps F.keep) (mg_of C.X (topRead_of C.T).g e) h) hd
theorem blt_any (C:Cx G fi A h₀ L env) (F:Fr h₀ L s.heap m) {x:Str}
  (hk:fi.scope.names.lookup x=some .globalImplicit) (hd:(x==("__debug__" :Str))=false) (e:nsIn G.K mainGlobals x=some Option.none) (hv:bootBuiltins x=some v) (hn:x≠("__name__" :Str)) (h:Q v s):
  wpAny (model G.prog G.w) A (eval (.Name x pos) env) Q E s:=
 Name_function_global (by rw [C.sc];exact C.ok.kind) (by unfold Env.kindOf;rw [C.sc];exact hk) (loadGlobal_builtin (by rw [C.glo];exact (topRead_of C.T).g.keeps F.keep) (mg_none_of C.X (topRead_of C.T).g e) (by rw [C.bui];exact (topRead_of C.T).b.keeps F.keep) (((topRead_of C.T).builtins x hn).trans hv) h) hd
theorem R_bind {x:Str} (hx:(x,pv)∈fi.bind) (hk:fi.scope.names.lookup x=some .local) (hd:(x==("__debug__" :Str))=false):EvR G fi (.Name x pos) (pure1 pv):=by
 intro A h₀ L env C held s σ pv' σ' Q E hf R hQ
 cases hf
 refine cps fun GC hGC=> ?_
 obtain ⟨v,o,es,ep,h1,h2,h3,h4,h5⟩:=C.bd _ hx
 obtain ⟨m,α,N,R'⟩:=id R
 refine hGC ?_
 exact wpAny_Name (wpAny_loadName_local (by rw [C.sc];exact C.ok.kind) (by unfold Env.kindOf;rw [C.sc];exact hk) ⟨o,es,ep,(R'.nw _ (R'.pin _ h1).1).1,h2,h3,fun _=>rfl⟩ h4 (hQ v s.heap s.toks ⟨m,α,N,R'.hold (h5.rep R'.pin)⟩)) hd
theorem R_cbind {x:Str} (hx:(x,pv)∈fi.cbind) (hk:fi.scope.names.lookup x=some .cell) (hd:(x==("__debug__" :Str))=false):EvR G fi (.Name x pos) (pure1 pv):=by
 intro A h₀ L env C held s σ pv' σ' Q E hf R hQ
 cases hf
 obtain ⟨v,c,o,h1,h2,h3,h4⟩:=C.cb _ hx
 obtain ⟨m,α,N,R'⟩:=id R
 exact wpAny_Name (wpAny_loadName_cell (by rw [C.sc];exact C.ok.kind) (by unfold Env.kindOf;rw [C.sc];exact hk) h1 ⟨o,(R'.nw _ (R'.pin _ h2).1).1,h3⟩ (hQ v s.heap s.toks ⟨m,α,N,R'.hold (h4.rep R'.pin)⟩)) hd
theorem R_name {x:Str} (hx:nm fi i=some x):EvR G fi (.Name x pos) (vr i):=by
 obtain ⟨hc,hx⟩:=nm_some hx
 intro A h₀ L env C held s σ pv σ' Q E hf R hQ
 obtain ⟨rfl,e,hu⟩:=vr_ok hf
 obtain ⟨m,α,N,R⟩:=R
 obtain ⟨f,cd,rfl⟩:=C.isenv hc
 have hm:x∈fi.vnames:=List.mem_of_getElem? hx
 rcases R.vars i x pv hx e with rfl | ⟨_,v,hv,hr⟩
 ·cases hu
 ·exact ldLoc R.fr hv (hQ v s.heap s.toks ⟨m,α,N,R.hold hr⟩) C.ok.kind (C.ok.loc hc x hm) (C.ok.nodbg x hm)
theorem R_glob {x:Str} (hk:fi.scope.names.lookup x=some .globalImplicit) (hd:(x==("__debug__" :Str))=false) (e:nsIn G.K mainGlobals x=some (some v)):
  EvR G fi (.Name x pos) (pure1 (.glob v)):=by
 intro A h₀ L env C held s σ pv σ' Q E hf R hQ
 cases hf
 obtain ⟨m,α,N,R'⟩:=id R
 exact glob_any C R'.fr hk hd e (hQ v s.heap s.toks (R.holdP .glob))
theorem R_globI {x:Str}{i:Int}{t:Tok} (hk:fi.scope.names.lookup x=some .globalImplicit) (hd:(x==("__debug__" :Str))=false) (e:nsIn G.K mainGlobals x=some (some (.int i t))):
  EvR G fi (.Name x pos) (pure1 (.int i)):=by
 intro A h₀ L env C held s σ pv σ' Q E hf R hQ
 cases hf
 obtain ⟨m,α,N,R'⟩:=id R
 exact glob_any C R'.fr hk hd e (hQ _ s.heap s.toks (R.holdP .int))
theorem R_blt {x:Str} (hk:fi.scope.names.lookup x=some .globalImplicit) (hd:(x==("__debug__" :Str))=false) (e:nsIn G.K mainGlobals x=some Option.none)
  (hv:bootBuiltins x=some v) (hn:x≠("__name__" :Str)):EvR G fi (.Name x pos) (pure1 (.glob v)):=by
 intro A h₀ L env C held s σ pv σ' Q E hf R hQ
 cases hf
 obtain ⟨m,α,N,R'⟩:=id R
 exact blt_any C R'.fr hk hd e hv hn (hQ v s.heap s.toks (R.holdP .glob))
noncomputable def Op1 (G:Glb) (t:Value→Sem Value) (g:PV→Option PV):Prop:=
 ∀(fi:FI) (A:Around) (h₀:Heap) (L:Addr) (env:Env),Cx G fi A h₀ L env→∀(held:List (PV×Value)) (s:Shared) (σ:St) (a:PV) (va:Value) (c:PV) (Q:Value→Shared→Prop) (E:Value→Shared→Prop),
  g a=some c→Rel G fi h₀ L σ ((a,va)::held) s→(∀v h' t',Rel G fi h₀ L σ ((c,v)::held) (Sh s h' t')→Q v (Sh s h' t'))→wpAny (model G.prog G.w) A (t va) Q E s
noncomputable def Op2 (G:Glb) (t:Value→Value→Sem Value) (g:PV→PV→Option PV):Prop:=
 ∀(fi:FI) (A:Around) (h₀:Heap) (L:Addr) (env:Env),Cx G fi A h₀ L env→∀(held:List (PV×Value)) (s:Shared) (σ:St) (a b:PV) (va vb:Value) (c:PV) (Q:Value→Shared→Prop) (E:Value→Shared→Prop),
  g a b=some c→Rel G fi h₀ L σ ((b,vb)::(a,va)::held) s→(∀v h' t',Rel G fi h₀ L σ ((c,v)::held) (Sh s h' t')→Q v (Sh s h' t'))→wpAny (model G.prog G.w) A (t va vb) Q E s
noncomputable def Cmp2 (G:Glb) (t:Value→Value→Sem Value) (g:PV→PV→Option Bool):Prop:=
 ∀(fi:FI) (A:Around) (h₀:Heap) (L:Addr) (env:Env),Cx G fi A h₀ L env→∀(held:List (PV×Value)) (s:Shared) (σ:St) (a b:PV) (va vb:Value) (c:Bool) (Q:Value→Shared→Prop) (E:Value→Shared→Prop),
  g a b=some c→Rel G fi h₀ L σ ((b,vb)::(a,va)::held) s→(∀h' t',Rel G fi h₀ L σ held (Sh s h' t')→Q (.bool c) (Sh s h' t'))→wpAny (model G.prog G.w) A (t va vb) Q E s
theorem R_bin {op:Operator}{g:PV→PV→Option PV} (hop:Op2 G (binaryOp op) g) (hl:EvR G fi l fl) (hr:EvR G fi r fr):EvR G fi (.BinOp l op r pos) (lift2 g fl fr):=by
 intro A h₀ L env C held s σ pv σ' Q E hf R hQ
 refine cps fun GC hGC=> ?_
 obtain ⟨a,σ₁,b,h1,h2,h3⟩:=lift2_ok hf
 refine hGC ?_
 refine wpAny_BinOp (hl A h₀ L env C held s σ a σ₁ _ _ h1 R fun va h' t' R1=> ?_)
 refine hr A h₀ L env C _ _ σ₁ b σ' _ _ h2 R1 fun vb h'' t'' R2=> ?_
 exact hop fi A h₀ L env C held _ σ' a b va vb pv _ _ h3 R2 fun v h3 t3 R3=>hQ v h3 t3 R3
theorem R_una {op:UnaryOp}{g:PV→Option PV} (hop:Op1 G (unaryOp op) g) (hl:EvR G fi l fl):EvR G fi (.UnaryOp op l pos) (lift1 g fl):=by
 intro A h₀ L env C held s σ pv σ' Q E hf R hQ
 obtain ⟨a,h1,h3⟩:=lift1_ok hf
 show wpAny _ A (do let v ←eval l env;standAt pos;holding [v] (unaryOp op v)) Q E s
 refine wpAny_bind (hl A h₀ L env C held s σ a σ' _ _ h1 R fun va h' t' R1=> ?_)
 refine wpAny_bind (wpAny_standAt (wpAny_holding ?_))
 exact hop fi A h₀ L env C held _ σ' a va pv _ _ h3 R1 fun v h3 t3 R3=>hQ v h3 t3 R3
theorem R_cmp {op:CmpOp}{g:PV→PV→Option Bool} (hop:Cmp2 G (compareOp op) g) (hl:EvR G fi l fl) (hr:EvR G fi r fr) (hm:behindInMarks op r=false):
  EvR G fi (.Compare l [op] [r] pos) (ofB (lift2 g fl fr)):=by
 intro A h₀ L env C held s σ pv σ' Q E hf R hQ
 refine cps fun GC hGC=> ?_
 obtain ⟨c,σ₂,h0,h4⟩:=bnd_ok hf
 obtain ⟨rfl,rfl⟩:=ret1_ok h4
 obtain ⟨a,σ₁,b,h1,h2,h3⟩:=lift2_ok h0
 refine hGC ?_
 refine wpAny_Compare1 (hl A h₀ L env C held s σ a σ₁ _ _ h1 R fun va h' t' R1=> ?_) hm
 refine hr A h₀ L env C _ _ σ₁ b _ _ _ h2 R1 fun vb h'' t'' R2=> ?_
 exact hop fi A h₀ L env C held _ _ a b va vb c _ _ h3 R2 fun h3 t3 R3=>hQ _ h3 t3 (R3.holdP .bool)
theorem T_cmp {op:CmpOp}{g:PV→PV→Option Bool} (hop:Cmp2 G (compareOp op) g) (hl:EvR G fi l fl) (hr:EvR G fi r fr) (hm:behindInMarks op r=false):
  TrR G fi (.Compare l [op] [r] pos) (lift2 g fl fr):=by
 intro A h₀ L env C held s σ c σ' Q E hf R hQ
 refine cps fun GC hGC=> ?_
 obtain ⟨a,σ₁,b,h1,h2,h3⟩:=lift2_ok hf
 refine hGC ?_
 refine wpAny_isTrue_Compare1 (hl A h₀ L env C held s σ a σ₁ _ _ h1 R fun va h' t' R1=> ?_) hm
 refine hr A h₀ L env C _ _ σ₁ b _ _ _ h2 R1 fun vb h'' t'' R2=> ?_
 exact hop fi A h₀ L env C held _ _ a b va vb c _ _ h3 R2 fun h3 t3 R3=>wpAny_truthy_bool (hQ h3 t3 R3)
theorem T_not {fl:PM Bool} (hl:TrR G fi l fl):TrR G fi (.UnaryOp .Not l pos) (notM fl):=by
 intro A h₀ L env C held s σ c σ' Q E hf R hQ
 refine cps fun GC hGC=> ?_
 obtain ⟨b,σ₁,h1,h2⟩:=bnd_ok hf
 obtain ⟨rfl,rfl⟩:=ret1_ok h2
 refine hGC ?_
 exact isTrue_not (hl A h₀ L env C held s σ b _ _ _ h1 R hQ)
theorem T_bool {op:BoolOp}{f:PM Bool} (h:TrsR G fi op es f):TrR G fi (.BoolOp op es pos) f:=h
theorem Ts_and1 {f:PM Bool} (h:TrR G fi e f):TrsR G fi .And [e] f:=by
 intro A h₀ L env C held s σ c σ' Q E hf R hQ
 show wpAny _ A (do match BoolOp.And, ←isTrue e env (eval e env) with
  | .And,false=>pure false
  | .Or,true=>pure true
  | _,_=>allTrue .And [] env) Q E s
 refine wpAny_bind (h A h₀ L env C held s σ c σ' _ _ hf R fun h' t' R'=> ?_)
 cases c <;> exact wpAny_pure (hQ h' t' R')
theorem Ts_or1 {f:PM Bool} (h:TrR G fi e f):TrsR G fi .Or [e] f:=by
 intro A h₀ L env C held s σ c σ' Q E hf R hQ
 show wpAny _ A (do match BoolOp.Or, ←isTrue e env (eval e env) with
  | .And,false=>pure false
  | .Or,true=>pure true
  | _,_=>allTrue .Or [] env) Q E s
 refine wpAny_bind (h A h₀ L env C held s σ c σ' _ _ hf R fun h' t' R'=> ?_)
 cases c <;> exact wpAny_pure (hQ h' t' R')
theorem Ts_and {f g:PM Bool} (h:TrR G fi e f) (hs:TrsR G fi .And es g):TrsR G fi .And (e::es) (andM f g):=by
 intro A h₀ L env C held s σ c σ' Q E hf R hQ
 obtain ⟨b,σ₁,h1,h2⟩:=bnd_ok hf
 show wpAny _ A (do match BoolOp.And, ←isTrue e env (eval e env) with
  | .And,false=>pure false
  | .Or,true=>pure true
  | _,_=>allTrue .And es env) Q E s
 refine wpAny_bind (h A h₀ L env C held s σ b σ₁ _ _ h1 R fun h' t' R'=> ?_)
 cases b
 ·obtain ⟨rfl,rfl⟩:=ret1_ok h2
  exact wpAny_pure (hQ h' t' R')
 ·exact hs A h₀ L env C held _ σ₁ c σ' _ _ h2 R' hQ
theorem Ts_or {f g:PM Bool} (h:TrR G fi e f) (hs:TrsR G fi .Or es g):TrsR G fi .Or (e::es) (orM f g):=by
 intro A h₀ L env C held s σ c σ' Q E hf R hQ
 obtain ⟨b,σ₁,h1,h2⟩:=bnd_ok hf
 show wpAny _ A (do match BoolOp.Or, ←isTrue e env (eval e env) with
  | .And,false=>pure false
  | .Or,true=>pure true
  | _,_=>allTrue .Or es env) Q E s
 refine wpAny_bind (h A h₀ L env C held s σ b σ₁ _ _ h1 R fun h' t' R'=> ?_)
 cases b
 ·exact hs A h₀ L env C held _ σ₁ c σ' _ _ h2 R' hQ
 ·obtain ⟨rfl,rfl⟩:=ret1_ok h2
  exact wpAny_pure (hQ h' t' R')
theorem R_ite {b o:Expr}{ft:PM Bool}{fb fo:PM PV} (ht:TrR G fi t ft) (hb:EvR G fi b fb) (ho:EvR G fi o fo):EvR G fi (.IfExp t b o pos) (iteM ft fb fo):=by
 intro A h₀ L env C held s σ pv σ' Q E hf R hQ
 obtain ⟨c,σ₁,h1,h2⟩:=bnd_ok hf
 skip
 refine wpAny_bind (ht A h₀ L env C held s σ c σ₁ _ _ h1 R fun h' t' R'=> ?_)
 cases c
 ·exact ho A h₀ L env C held _ σ₁ pv σ' _ _ h2 R' hQ
 ·exact hb A h₀ L env C held _ σ₁ pv σ' _ _ h2 R' hQ
theorem X_nil:ExsR G fi [] (ret1 .next):=by
 intro A h₀ L env C held s σ fl σ' Q E hf R hQ
 obtain ⟨rfl,rfl⟩:=ret1_ok hf
 exact wpAny_execs_nil (hQ .next s.heap s.toks R)
theorem X_cons {ss:List Stmt}{f g:PM Fl} (h:ExR G fi st f) (hs:ExsR G fi ss g):ExsR G fi (st::ss) (seqM f g):=by
 intro A h₀ L env C held s σ fl σ' Q E hf R hQ
 obtain ⟨f1,σ₁,h1,h2⟩:=bnd_ok hf
 refine wpAny_execs_cons (h A h₀ L env C held s σ f1 σ₁ _ _ h1 R fun flow h' t' R'=> ?_)
 cases f1 <;> cases flow <;> first | exact R'.elim | skip
 ·exact hs A h₀ L env C held _ σ₁ fl σ' _ _ h2 R' hQ
 ·obtain ⟨rfl,rfl⟩:=ret1_ok h2
  exact hQ _ h' t' R'
 ·obtain ⟨rfl,rfl⟩:=ret1_ok h2
  exact hQ _ h' t' R'
 ·obtain ⟨rfl,rfl⟩:=ret1_ok h2
  exact hQ _ h' t' R'
theorem X_one {f:PM Fl} (h:ExR G fi st f):ExsR G fi [st] f:=by
 intro A h₀ L env C held s σ fl σ' Q E hf R hQ
 refine wpAny_execs_cons (h A h₀ L env C held s σ fl σ' _ _ hf R fun flow h' t' R'=> ?_)
 cases fl <;> cases flow <;> first | exact R'.elim | exact hQ _ h' t' R' | exact wpAny_execs_nil (hQ _ h' t' R')
theorem X_if {ft:PM Bool} (ht:TrR G fi t ft) (hb:ExsR G fi b fb) (ho:ExsR G fi o fo):ExR G fi (.If t b o pos) (iteM ft fb fo):=by
 intro A h₀ L env C held s σ fl σ' Q E hf R hQ
 obtain ⟨c,σ₁,h1,h2⟩:=bnd_ok hf
 refine wpAny_If (ht A h₀ L env C held s σ c σ₁ _ _ h1 R fun h' t' R'=> ?_)
 cases c
 ·exact ho A h₀ L env C held _ σ₁ fl σ' _ _ h2 R' hQ
 ·exact hb A h₀ L env C held _ σ₁ fl σ' _ _ h2 R' hQ
theorem X_cont:ExR G fi (.Continue pos) (ret1 .cont):=by
 intro A h₀ L env C held s σ fl σ' Q E hf R hQ
 obtain ⟨rfl,rfl⟩:=ret1_ok hf
 exact fun _ _ _=>hQ .cont s.heap s.toks R
theorem X_brk:ExR G fi (.Break pos) (ret1 .brk):=by
 intro A h₀ L env C held s σ fl σ' Q E hf R hQ
 obtain ⟨rfl,rfl⟩:=ret1_ok hf
 exact fun _ _ _=>hQ .brk s.heap s.toks R
theorem X_ret {f:PM PV} (h:EvR G fi e f):ExR G fi (.Return (some e) pos) (retM f):=by
 intro A h₀ L env C held s σ fl σ' Q E hf R hQ
 refine cps fun GC hGC=> ?_
 obtain ⟨pv,σ₁,h1,h2⟩:=bnd_ok hf
 obtain ⟨rfl,rfl⟩:=ret1_ok h2
 refine hGC ?_
 exact wpAny_Return_some (h A h₀ L env C held s σ pv _ _ _ h1 R fun v h' t' R'=>hQ (.ret v) h' t' R')
theorem X_ret0:ExR G fi (.Return none pos) (ret1 (.ret .none)):=by
 intro A h₀ L env C held s σ fl σ' Q E hf R hQ
 obtain ⟨rfl,rfl⟩:=ret1_ok hf
 exact wpAny_Return_none (hQ (.ret .none) s.heap s.toks (R.holdP .none))
theorem X_expr {f:PM PV} (h:EvR G fi e f) (hs:∀env,swapsWith e none pos.line env=pure false):ExR G fi (.Expr e pos) (exprM f):=by
 intro A h₀ L env C held s σ fl σ' Q E hf R hQ
 obtain ⟨pv,σ₁,h1,h2⟩:=bnd_ok hf
 cases pv <;> first | (cases h2;done) | skip
 cases h2
 refine wpAny_Expr (h A h₀ L _ C held s σ _ _ _ _ h1 R fun v h' t' R'=> ?_) (by unfold interactive;rw [C.sc,C.ok.kind];rfl) (hs _)
 obtain ⟨α,N,r⟩:∃α N,Rep α N .none v:=let ⟨_,α,N,R⟩:=R';⟨α,N,R.held _ (.head _)⟩
 cases r
 exact hQ .next h' t' R'.tail
theorem X_assert {f:PM Bool} (h:TrR G fi t f):ExR G fi (.Assert t none pos) (assertM f):=by
 intro A h₀ L env C held s σ fl σ' Q E hf R hQ
 obtain ⟨b,σ₁,h1,h2⟩:=bnd_ok hf
 cases b
 ·cases h2
 ·cases h2
  exact wpAny_Assert_new C.hd (h A h₀ L env C held s σ true _ _ _ h1 R fun h' t' R'=>hQ .next h' t' R')
theorem store_ok (C:Cx G fi A h₀ L env) {held:List (PV×Value)}{x:Str}{Q:Unit→Shared→Prop}
  (hx:nm fi i=some x) (hu:isUnb pv=false) (R:Rel G fi h₀ L σ ((pv,v)::held) s)
  (hQ:∀h' t',Rel G fi h₀ L {σ with vars:=σ.vars.set i pv} ((pv,v)::held) (Sh s h' t')→Q () (Sh s h' t')):wpAny (model G.prog G.w) A (storeName env x v) Q E s:=by
 obtain ⟨hc,hx⟩:=nm_some hx
 obtain ⟨m,α,N,R⟩:=R
 obtain ⟨f,cd,rfl⟩:=C.isenv hc
 have hm:x∈fi.vnames:=List.mem_of_getElem? hx
 refine storeX_L R.fr R.nw (fun h' F' N'=> ?_) C.ok.kind (C.ok.loc hc x hm)
 exact hQ h' (s.toks+1) ⟨_,α,N,R.store C.ok hx (R.held _ (.head _)) hu F' N' (Nat.succ_pos _)⟩
theorem X_set {x:Str}{p1:Pos}{f:PM PV} (hx:nm fi i=some x) (h:EvR G fi e f) (hs:∀env,swapsWith e (some (.Name x p1)) pos.line env=pure false):
  ExR G fi (.Assign [.Name x p1] e pos) (setV i f):=by
 intro A h₀ L env C held s σ fl σ' Q E hf R hQ
 obtain ⟨pv,σ₁,h1,h2⟩:=bnd_ok hf
 split at h2
 ·cases h2
 ·rename_i hu
  cases h2
  refine wpAny_Assign_Name (h A h₀ L env C held s σ _ _ _ _ h1 R fun v h' t' R'=> ?_) (hs _)
  exact store_ok C hx (by simpa using hu) R' fun h'' t'' R''=>hQ .next h'' t'' R''.tail
theorem X_while {N:Nat}{ft:PM Bool} (ht:TrR G fi t ft) (hb:ExsR G fi b fb) (ho:ExsR G fi o fo):ExR G fi (.While t b o pos) (whileM N ft fb fo):=by
 intro A h₀ L env C held s σ fl σ' Q E hf R hQ
 refine wpAny_While (codeAny_whileLoop (fun n s₁=>∃σ₁ h' t',s₁=Sh s h' t'∧whileM n ft fb fo σ₁= .ok fl σ'∧Rel G fi h₀ L σ₁ held s₁) ?_ N ⟨σ,s.heap,s.toks,rfl,hf,R⟩)
 rintro n s₁ ⟨σ₁,h',t',rfl,hw,R1⟩
 cases n with
 | zero=>cases hw
 | succ n=>
  obtain ⟨c,σ₂,h1,h2⟩:=bnd_ok hw
  refine ht A h₀ L env C held _ σ₁ c σ₂ _ _ h1 R1 fun h2' t2' R2=> ?_
  cases c
  ·simp only [Bool.false_eq_true,if_false] at h2 ⊢
   exact ho A h₀ L env C held _ σ₂ fl σ' _ _ h2 R2 fun flow h3 t3 R3=>hQ flow h3 t3 R3
  ·simp only [if_true] at h2 ⊢
   obtain ⟨f1,σ₃,h3,h4⟩:=bnd_ok h2
   refine hb A h₀ L env C held _ σ₂ f1 σ₃ _ _ h3 R2 fun flow h3' t3 R3=> ?_
   cases f1 <;> cases flow <;> first | exact R3.elim | skip
   ·exact ⟨n,Nat.lt_succ_self n,σ₃,_,_,rfl,h4,R3⟩
   ·obtain ⟨rfl,rfl⟩:=ret1_ok h4
    exact hQ .next _ _ R3
   ·exact ⟨n,Nat.lt_succ_self n,σ₃,_,_,rfl,h4,R3⟩
   ·obtain ⟨rfl,rfl⟩:=ret1_ok h4
    exact hQ (.ret _) _ _ R3
end
end Mine
end
section
open PySem PySem.W PySem.Calls PyProof.Rows Builtin Builtin.Str
set_option maxRecDepth 10000
set_option tactic.hygienic false
namespace Mine
variable {l:List Nat}{a c:Nat}
noncomputable def clipN (n:Nat) (i:Int):Nat:=(max 0 (min (if i<0 then i+n else i) n)).toNat
noncomputable def sliceS (l:List Nat) (a b:Option Int):List Nat:=
 let lo:=match a with | none=>0 | some i=>clipN l.length i
 let hi:=match b with | none=>l.length | some i=>clipN l.length i
 (l.drop lo).take (hi-lo)
noncomputable def clI (n:Int) (v:Option Int) (d:Int):Int:=match v with
 | none=>d
 | some i=>max 0 (min (if i<0 then i+n else i) n)
theorem clipN_le (n:Nat) (i:Int):clipN n i≤n:=Int.toNat_le.mpr (Int.max_le.mpr ⟨Int.natCast_nonneg n,Int.min_le_right _ _⟩)
theorem clipN_z (n:Nat) (i:Int):max 0 (min (if i<0 then i+n else i) n)=(clipN n i:Int):=(Int.toNat_of_nonneg (Int.le_max_left _ _)).symm
theorem slice_eq (l:List Nat) (a b:Option Int):Txt.slice ⟨l.toArray⟩ a b=⟨(sliceS l a b).toArray⟩:=by
 have hlen:(⟨l.toArray⟩:Str).length=l.length:=by simp [Str.length]
 have hlo:∃lo:Nat,lo=(match a with | none=>0 | some i=>clipN l.length i)∧lo≤l.length:=⟨_,rfl,by cases a with | none=>exact Nat.zero_le _ | some i=>exact clipN_le _ i⟩
 have hhi:∃hi:Nat,hi=(match b with | none=>l.length | some i=>clipN l.length i)∧hi≤l.length:=⟨_,rfl,by cases b with | none=>exact Nat.le_refl _ | some i=>exact clipN_le _ i⟩
 obtain ⟨lo,elo,hlo⟩:=hlo
 obtain ⟨hi,ehi,hhi⟩:=hhi
 have es:sliceS l a b=(l.drop lo).take (hi-lo):=by simp only [sliceS];rw [←elo, ←ehi]
 have ei:strSliceIndices a b 1 l.length=(List.range (hi-lo)).map (lo + ·):=by
  have e1:strSliceIndices a b 1 l.length=sliceRange lo hi 1:=by
   have e0:strSliceIndices a b 1 l.length=sliceRange (clI l.length a 0) (clI l.length b l.length) 1:=by cases a <;> cases b <;> rfl
   rw [e0]
   have a1:clI l.length a 0=(lo:Int):=by
    cases a with
    | none=>simp only [elo,clI];rfl
    | some i=>rw [elo];exact clipN_z _ i
   have b1:clI l.length b l.length=(hi:Int):=by
    cases b with
    | none=>simp only [ehi,clI]
    | some i=>rw [ehi];exact clipN_z _ i
   rw [a1,b1]
  rw [e1,sliceRange_one]
 unfold Txt.slice
 rw [hlen,ei,es]
 have epick:((List.range (hi-lo)).map (lo + ·)).filterMap ((⟨l.toArray⟩:Str).cps[·]?)=(l.drop lo).take (hi-lo):=by
  by_cases h:lo≤hi
  ·have:=StrLaws.picks l (hi-lo) lo (by exact lin3 (.l (.a .v0 .v3) .v2) (.l .v0 .v2) (.l .v1 .v2) (.b 3 .v1 .v0) (.d 3 (.w [0,1,1,0,1]) (.w [0,1,1,1])) rfl (.n4 _ _ _ _) hlo hhi rfl)
   simpa using this
  ·have:hi-lo=0:=by exact lin2 (.q .v2 .k0) (.n (.l .v1 .v0)) (.b 2 .v0 .v1) (.b (.w [1]) (.d 2 (.w [0,1,1,1]) (.w [0,1,1]))) rfl (.n3 _ _ _) h rfl
   simp [this]
 split
 ·rename_i h
  simp at h
  have:hi-lo=l.length:=h
  have h0:lo=0:=by exact lin4 (.q .v0 .k0) (.l .v0 .v1) (.l .v2 .v1) (.q .v3 .v1) (.b 3 .v2 .v0) (.b (.w [1]) (.d 4 (.w [0,1,1,0,1, -1]) (.w [0,1,1,1,0, -1]))) rfl (.n4 _ _ _ _) hlo hhi h rfl
  have h1:hi=l.length:=by exact lin4 (.q .v0 .v1) (.l .v0 .v1) (.q .v3 .v1) (.q .v2 .k0) (.b 3 .v0 .v2) (.b (.d 4 (.w [0,1,1,0, -1, -1]) (.w [0,1,1,0, -1])) (.w [1,1])) rfl (.n4 _ _ _ _) hhi h h0 rfl
  subst h0;subst h1
  simp
 ·rw [epick]
noncomputable def findN (l:List Nat) (c:Nat):Nat→Nat→Option Nat
 | _,0=>none
 | lo,n+1=>if l[lo]? =some c then some lo else findN l c (lo+1) n
theorem findN_none:∀{n lo:Nat},findN l c lo n=none→∀j,lo≤j→j<lo+n→l[j]? ≠some c
 | 0,lo,_,j,h1,h2=>by exact (show False from lin2 .f (.l .v0 .v1) (.t .v1 (.a .v0 .k0)) (.w [0,1,1]) rfl (.n2 _ _) h1 h2).elim
 | n+1,lo,h,j,h1,h2=>by
  unfold findN at h
  split at h
  ·cases h
  ·rename_i hc
   by_cases e:j=lo
   ·subst e;exact hc
   ·exact findN_none h j (by exact Q27 (.n2 _ _) h1 e) (by exact Q61 (.n3 _ _ _) h2)
theorem findN_some:∀{n lo:Nat},findN l c lo n=some a→lo≤a∧a<lo+n∧l[a]? =some c∧∀j,lo≤j→j<a→l[j]? ≠some c
 | 0,lo,h=>by cases h
 | n+1,lo,h=>by
  unfold findN at h
  split at h
  ·rename_i hc
   cases h
   exact ⟨Nat.le_refl _,by exact lin0 (.t .v0 (.a .v0 (.a .v1 .k1))) (.w [1]) rfl (.n2 _ _),hc,fun j h1 h2=>by exact (show False from lin2 .f (.l .v0 .v1) (.t .v1 .v0) (.w [0,1,1]) rfl (.n2 _ _) h1 h2).elim⟩
  ·rename_i hc
   obtain ⟨h1,h2,h3,h4⟩:=findN_some h
   refine ⟨by exact Q3 (.n2 _ _) h1,by exact lin1 (.t .v0 (.a .v1 (.a .v2 .k1))) (.t .v0 (.a (.a .v1 .k1) .v2)) (.w [1,1]) rfl (.n3 _ _ _) h2,h3,fun j q1 q2=> ?_⟩
   by_cases e:j=lo
   ·subst e;exact hc
   ·exact h4 j (by exact Q27 (.n2 _ _) q1 e) q2
theorem at_one {hi i:Nat}:StrLaws.At ⟨l.toArray⟩ ⟨#[c]⟩ hi i↔i<hi∧l[i]? =some c:=by
 unfold StrLaws.At
 rw [StrLaws.subAt_eq]
 show (i+1≤hi∧((l.drop i).take 1==[c])=true)↔_
 rw [StrLaws.take1_drop]
 exact ⟨fun h=>⟨by exact lin1 (.t .v0 .v1) (.l (.a .v0 .k1) .v1) (.w [1,1]) rfl (.n2 _ _) h.1,h.2⟩,fun h=>⟨by exact lin1 (.l (.a .v0 .k1) .v1) (.t .v0 .v1) (.w [1,1]) rfl (.n2 _ _) h.1,h.2⟩⟩
theorem occ_one (l:List Nat) (c lo hi:Nat):(match occurrences ⟨l.toArray⟩ ⟨#[c]⟩ lo hi 1 with | i::_=>some i | []=>none)=findN l c lo (hi-lo):=by
 rw [StrLaws.occ_eq]
 rcases StrLaws.occ_first ⟨l.toArray⟩ ⟨#[c]⟩ hi 1 (Nat.le_refl _) (List.range' lo (hi+1-lo)) lo (fun i hi=>by simp [List.mem_range'] at hi;lia) with ⟨h0,hn⟩ | ⟨pre,a,post,e,h0,ha,hn⟩
 ·rw [h0]
  cases q:findN l c lo (hi-lo) with
  | none=>rfl
  | some a=>
   obtain ⟨h1,h2,h3,h4⟩:=findN_some q
   exact absurd (at_one.mpr ⟨by exact lin3 (.t .v0 .v1) (.l .v2 .v0) (.t .v0 (.a .v2 .v3)) (.b 3 .v1 .v2) (.d 3 (.w [0,1,1,0,1]) (.w [0,1,0,1,1])) rfl (.n4 _ _ _ _) h1 h2 rfl,h3⟩) (hn a (List.mem_range'_1.mpr (by exact ⟨Q62 (.n2 _ _) h1,lin3 (.t .v1 (.a .v0 .v3)) (.t .v1 (.a .v0 .v4)) (.b 3 (.a .v2 .k1) .v0) (.b 4 .v2 .v0) (.d 2 (.d 5 (.w [0,1,0, -1,1,1]) (.w [0,1,1, -1,1,1])) (.d 5 (.w [1,0,1]) (.w [0,1,0, -1,1,1]))) rfl (.n5 _ _ _ _ _) h2 rfl rfl⟩)))
 ·generalize (forIn (List.range' lo (hi+1-lo)) ((#[]:Array Nat),lo) (StrLaws.occBody ⟨l.toArray⟩ ⟨#[c]⟩ hi 1)).run.fst=arr at h0
  have h1:arr.toList[0]? =some a:=by simpa using h0
  obtain ⟨q1,q2⟩:=at_one.mp ha
  have hlo:=StrLaws.range'_split_from e
  cases hL:arr.toList with
  | nil=>rw [hL] at h1;cases h1
  | cons b t=>
   rw [hL] at h1
   simp at h1
   subst h1
   show some b=_
   cases q:findN l c lo (hi-lo) with
   | none=>exact absurd q2 (findN_none q b hlo.1 (by exact lin2 (.t .v0 (.a .v1 .v3)) (.t .v0 .v2) (.b 3 .v2 .v1) (.d 2 (.w [0, -1,1,1]) (.w [1, -1,1,1])) rfl (.n4 _ _ _ _) q1 rfl))
   | some d=>
    obtain ⟨r1,r2,r3,r4⟩:=findN_some q
    congr 1
    rcases Nat.lt_trichotomy b d with h | h | h
    ·exact absurd q2 (r4 b hlo.1 h)
    ·exact h
    ·exact absurd (at_one.mpr ⟨by exact lin2 (.t .v0 .v1) (.t .v2 .v1) (.t .v0 .v2) (.w [1,1,1]) rfl (.n3 _ _ _) q1 h,r3⟩) (hn d (hlo.2 d r1 h))
noncomputable def rfindN (l:List Nat) (c:Nat):Nat→Option Nat
 | 0=>none
 | n+1=>if l[n]? =some c then some n else rfindN l c n
theorem rfindN_none:∀{n:Nat},rfindN l c n=none→∀j,j<n→l[j]? ≠some c
 | 0,_,j,h=>by exact (show False from Q1 (.n1 _) h).elim
 | n+1,h,j,h2=>by
  unfold rfindN at h
  split at h
  ·cases h
  ·rename_i hc
   by_cases e:j=n
   ·subst e;exact hc
   ·exact rfindN_none h j (by exact Q63 (.n2 _ _) h2 e)
theorem rfindN_some:∀{n:Nat},rfindN l c n=some a→a<n∧l[a]? =some c∧∀j,a<j→j<n→l[j]? ≠some c
 | 0,h=>by cases h
 | n+1,h=>by
  unfold rfindN at h
  split at h
  ·rename_i hc
   cases h
   exact ⟨by exact Q28 (.n1 _),hc,fun j h1 h2=>by exact (show False from lin2 .f (.t .v0 .v1) (.t .v1 (.a .v0 .k1)) (.w [0,1,1]) rfl (.n2 _ _) h1 h2).elim⟩
  ·rename_i hc
   obtain ⟨h1,h2,h3⟩:=rfindN_some h
   refine ⟨by exact Q29 (.n2 _ _) h1,h2,fun j q1 q2=> ?_⟩
   by_cases e:j=n
   ·subst e;exact hc
   ·exact h3 j q1 (by exact Q63 (.n2 _ _) q2 e)
theorem last_one (l:List Nat) (c hi:Nat):lastOccurrence ⟨l.toArray⟩ ⟨#[c]⟩ 0 hi=rfindN l c hi:=by
 rw [StrLaws.last_eq]
 have h:=StrLaws.last_run ⟨l.toArray⟩ ⟨#[c]⟩ hi (List.range' 0 (hi+1-0)) [] none (fun _ h=>nomatch h) (fun _ h=>nomatch h) (List.pairwise_lt_range')
 generalize (forIn (List.range' 0 (hi+1-0)) none (StrLaws.lastBody ⟨l.toArray⟩ ⟨#[c]⟩ hi)).run=r at h
 rw [List.nil_append] at h
 cases r with
 | none=>
  cases q:rfindN l c hi with
  | none=>rfl
  | some a=>
   obtain ⟨h1,h2,h3⟩:=rfindN_some q
   exact absurd (at_one.mpr ⟨h1,h2⟩) (h a (List.mem_range'_1.mpr (by exact ⟨Q2 (.n1 _),Q64 (.n3 _ _ _) h1 rfl⟩)))
 | some b=>
  obtain ⟨ha,hn⟩:=h
  obtain ⟨q1,q2⟩:=at_one.mp ha
  cases q:rfindN l c hi with
  | none=>exact absurd q2 (rfindN_none q b q1)
  | some d=>
   obtain ⟨r1,r2,r3⟩:=rfindN_some q
   congr 1
   rcases Nat.lt_trichotomy b d with h | h | h
   ·exact absurd (at_one.mpr ⟨r1,r2⟩) (hn d (List.mem_range'_1.mpr (by exact ⟨Q2 (.n1 _),Q64 (.n3 _ _ _) r1 rfl⟩)) h)
   ·exact h
   ·exact absurd q2 (r3 b h q1)
noncomputable def toI:Option Nat→Int
 | some n=>n
 | none=> -1
noncomputable def clip0 (n:Nat) (i:Int):Nat:=(max 0 (if i<0 then i+n else i)).toNat
theorem gives_find1 (l:List Nat) (c:Nat) (i:Int) (t u v:Tok):Gives («str.find» ⟨[.str ⟨l.toArray⟩ t, .str ⟨#[c]⟩ u, .int i v],[]⟩) (.int (toI (findN l c (clip0 l.length i) (l.length-clip0 l.length i)))):=by
 have h:=gives_str_find_from ⟨l.toArray⟩ ⟨#[c]⟩ i t u v
 have e:fromIndex (⟨l.toArray⟩:Str).length i=clip0 l.length i:=by simp [fromIndex,clip0,Str.length]
 have e2:(⟨l.toArray⟩:Str).length=l.length:=by simp [Str.length]
 rw [e,e2] at h
 have o:=occ_one l c (clip0 l.length i) l.length
 rw [←o]
 cases q:occurrences ⟨l.toArray⟩ ⟨#[c]⟩ (clip0 l.length i) l.length 1 with
 | nil=>rw [q] at h;exact h
 | cons a r=>rw [q] at h;exact h
theorem gives_find2 (l:List Nat) (c:Nat) (i j:Int) (t u v z:Tok):Gives («str.find» ⟨[.str ⟨l.toArray⟩ t, .str ⟨#[c]⟩ u, .int i v, .int j z],[]⟩)
  (.int (toI (findN l c (clip0 l.length i) (min (clip0 l.length j) l.length-clip0 l.length i)))):=by
 have e2:(⟨l.toArray⟩:Str).length=l.length:=by simp [Str.length]
 have o:=occ_one l c (clip0 l.length i) (min (clip0 l.length j) l.length)
 rw [←o]
 show Gives (match occurrences ⟨l.toArray⟩ ⟨#[c]⟩ (max 0 (if i<0 then i+(⟨l.toArray⟩:Str).length else i)).toNat (min (max 0 (if j<0 then j+(⟨l.toArray⟩:Str).length else j)).toNat (⟨l.toArray⟩:Str).length) 1 with
  | k::_=>retInt k | []=>(do rule "str.find.not-found";retInt (-1))) _
 rw [e2]
 show Gives (match occurrences ⟨l.toArray⟩ ⟨#[c]⟩ (clip0 l.length i) (min (clip0 l.length j) l.length) 1 with
  | k::_=>retInt k | []=>(do rule "str.find.not-found";retInt (-1))) _
 cases occurrences ⟨l.toArray⟩ ⟨#[c]⟩ (clip0 l.length i) (min (clip0 l.length j) l.length) 1 with
 | nil=>exact .rule (.of_eq rfl)
 | cons k _=>exact .of_eq rfl
theorem gives_rfind2 (l:List Nat) (c:Nat) (j:Int) (t u v z:Tok):Gives («str.rfind» ⟨[.str ⟨l.toArray⟩ t, .str ⟨#[c]⟩ u, .int 0 v, .int j z],[]⟩)
  (.int (toI (rfindN l c (min (clip0 l.length j) l.length)))):=by
 have e2:(⟨l.toArray⟩:Str).length=l.length:=by simp [Str.length]
 rw [←last_one]
 show Gives (match lastOccurrence ⟨l.toArray⟩ ⟨#[c]⟩ (max (0:Int) (if (0:Int)<0 then (0:Int)+(⟨l.toArray⟩:Str).length else (0:Int))).toNat (min (max 0 (if j<0 then j+(⟨l.toArray⟩:Str).length else j)).toNat (⟨l.toArray⟩:Str).length) with
  | some k=>retInt k | none=>(do rule "str.rfind.not-found";retInt (-1))) _
 rw [e2]
 show Gives (match lastOccurrence ⟨l.toArray⟩ ⟨#[c]⟩ 0 (min (clip0 l.length j) l.length) with
  | some k=>retInt k | none=>(do rule "str.rfind.not-found";retInt (-1))) _
 cases lastOccurrence ⟨l.toArray⟩ ⟨#[c]⟩ 0 (min (clip0 l.length j) l.length) with
 | none=>exact .rule (.of_eq rfl)
 | some k=>exact .of_eq rfl
end Mine
end
section
open PySem PySem.W PySem.Calls PyProof.Rows Builtin Builtin.Str
set_option maxRecDepth 10000
set_option tactic.hygienic false
namespace Mine
variable {α:List Addr}{N:List (Addr×Obj)}{u v:Value}{k:Nat}{h₀:Heap}{L:Addr}{σ:St}{held:List (PV×Value)}{s:Shared}{pv:PV}
inductive CellInv (α:List Addr) (k:Nat) (v:Value):Prop
 | mk (a:Addr) (h:α[k]? =some a) (e:v= .ref a):CellInv α k v
theorem Rep.int_inv {i:Int} (h:Rep α N (.int i) v):∃t,v= .int i t:=by cases h;exact ⟨_,rfl⟩
theorem Rep.str_inv {l:List Nat} (h:Rep α N (.str l) v):∃t,v= .str ⟨l.toArray⟩ t:=by cases h;exact ⟨_,rfl⟩
theorem Rep.bool_inv {i:Bool} (h:Rep α N (.bool i) v):v= .bool i:=by cases h;rfl
theorem Rep.none_inv (h:Rep α N .none v):v= .none:=by cases h;rfl
theorem Rep.glob_inv (h:Rep α N (.glob u) v):v=u:=by cases h;rfl
theorem Rep.cell_inv (h:Rep α N (.cell k) v):CellInv α k v:=by cases h with | cell h=>exact ⟨_,h,rfl⟩
inductive InstInv (α:List Addr) (N:List (Addr×Obj)) (C:Addr) (k:Nat) (v:Value):Prop
 | mk (a dx:Addr) (e:v= .ref a) (h1:(a,instObj C dx)∈N) (h2:a∉α) (h3:α[k]? =some dx):InstInv α N C k v
inductive SeqInv (α:List Addr) (N:List (Addr×Obj)) (tup:Bool) (xs:List PV) (v:Value):Prop
 | mk (a:Addr) (vs:List Value) (n:Nat) (e:v= .ref a) (h1:(a,(⟨.type (if tup then "tuple" else "list"),Option.none, .seq vs.toArray n, #[]⟩:Obj))∈N) (h2:a∉α) (h3:xs.length=vs.length) (h4:∀p∈xs.zip vs,Rep α N p.1 p.2):SeqInv α N tup xs v
theorem Rep.bm_inv (h:Rep α N (.bm k) v):
  ∃a b,v= .ref a∧(a,(⟨.type "builtin_function_or_method",Option.none, .fields #[.builtin "list.append", .ref b], #[]⟩:Obj))∈N∧a∉α∧α[k]? =some b:=by
 cases h with | bm h1 h2 h3=>exact ⟨_,_,rfl,h1,h2,h3⟩
theorem Rep.inst_inv {C:Addr} (h:Rep α N (.inst C k) v):InstInv α N C k v:=by
 cases h with | inst h1 h2 h3=>exact ⟨_,_,rfl,h1,h2,h3⟩
theorem Rep.seq_inv {tup:Bool}{xs:List PV} (h:Rep α N (.seq tup xs) v):SeqInv α N tup xs v:=by
 cases h with | seq h1 h2 h3 h4=>exact ⟨_,_,_,rfl,h1,h2,h3,h4⟩
noncomputable def sizeMax:Nat:=1048576
theorem sizeMax_le {n:Nat} (h:n≤sizeMax):n≤sizeLine:=Nat.le_trans h (by rw [sizeLine_eq];decide)
theorem mk_len (l:List Nat):(⟨l.toArray⟩:PySem.Str).length=l.length:=by simp [PySem.Str.length]
theorem mk_app (a b:List Nat):(⟨a.toArray⟩:PySem.Str)++⟨b.toArray⟩=⟨(a++b).toArray⟩:=by
 show PySem.Str.mk (a.toArray++b.toArray)=_
 simp
theorem mk_beq (a b:List Nat):((⟨a.toArray⟩:PySem.Str)==⟨b.toArray⟩)=(a==b):=by
 have h:((⟨a.toArray⟩:PySem.Str)=⟨b.toArray⟩)↔a=b:=by
  constructor
  ·intro h;injection h with h;simpa using h
  ·intro h;rw [h]
 by_cases e:a=b
 ·subst e;simp
 ·have h':¬((⟨a.toArray⟩:PySem.Str)=⟨b.toArray⟩):=fun q=>e (h.mp q)
  rw [beq_eq_false_iff_ne.mpr h',beq_eq_false_iff_ne.mpr e]
theorem RelAt.reheap {G:Glb}{fi:FI}{m:PySem.Str→Option Value} (R:RelAt G fi h₀ L σ held m α N s)
  {h':Heap}{t':Tok} (F:Fr h₀ L h' m) (N':News h₀ L h' N) (ht:0<t'):RelAt G fi h₀ L σ held m α N {s with heap:=h',toks:=t'}:=
 ⟨F,N',R.nd,R.an,R.len,R.cells,R.vars,R.held,ht,R.vlen,R.pin⟩
section
variable {G:Glb}{fi:FI}
inductive Inv2 (pv qv:PV) (v u:Value):Prop
 | mk (α:List Addr) (N:List (Addr×Obj)) (h1:Rep α N pv v) (h2:Rep α N qv u):Inv2 pv qv v u
theorem inv1 (R:Rel G fi h₀ L σ ((pv,v)::held) s):∃α N,Rep α N pv v:=let ⟨_,α,N,R⟩:=R;⟨α,N,R.held _ (.head _)⟩
theorem inv2 {qv:PV} (R:Rel G fi h₀ L σ ((qv,u)::(pv,v)::held) s):Inv2 pv qv v u:=
 let ⟨_,α,N,R⟩:=R;⟨α,N,R.held _ (.tail _ (.head _)),R.held _ (.head _)⟩
noncomputable def addP:PV→PV→Option PV
 | .int a, .int b=>some (.int (a+b))
 | .str x, .str y=>if x.length+y.length≤sizeMax then some (.str (x++y)) else none
 | _,_=>none
noncomputable def subP:PV→PV→Option PV
 | .int a, .int b=>some (.int (a-b))
 | _,_=>none
noncomputable def modP:PV→PV→Option PV
 | .int a, .int b=>if b≠0 then some (.int (Int.fmod a b)) else none
 | _,_=>none
noncomputable def negP:PV→Option PV
 | .int a=>some (.int (-a))
 | _=>none
set_option tactic.hygienic true in
theorem op_add:Op2 G (binaryOp .Add) addP:=by
 intro fi A h₀ L env C held s σ a b va vb c Q E hg R hQ
 obtain ⟨α,N,ra,rb⟩:=inv2 R
 have R':Rel G fi h₀ L σ held s:=R.tail.tail
 unfold addP at hg
 split at hg
 ·cases hg
  obtain ⟨t,rfl⟩:=ra.int_inv;obtain ⟨u,rfl⟩:=rb.int_inv
  exact add_int (hQ _ s.heap (s.toks+1) ((R'.toks (Nat.succ_pos _)).holdP .int))
 ·rename_i x y
  obtain ⟨t,rfl⟩:=ra.str_inv;obtain ⟨u,rfl⟩:=rb.str_inv
  split at hg
  ·rename_i hsz
   cases hg
   refine wpAny_toks (SB.add (fun t' k hk=> ?_) (sizeMax_le (by rw [mk_len,mk_len];exact hsz)))
   rw [mk_app]
   exact hQ _ s.heap k ((R'.toks (Nat.lt_of_lt_of_le R.tok hk)).holdP .str)
  ·cases hg
 ·cases hg
theorem op_sub:Op2 G (binaryOp .Sub) subP:=by
 intro fi A h₀ L env C held s σ a b va vb c Q E hg R hQ
 obtain ⟨α,N,ra,rb⟩:=inv2 R
 have R':Rel G fi h₀ L σ held s:=R.tail.tail
 unfold subP at hg
 split at hg
 ·cases hg
  obtain ⟨t,rfl⟩:=ra.int_inv;obtain ⟨u,rfl⟩:=rb.int_inv
  exact sub_int (hQ _ s.heap (s.toks+1) ((R'.toks (Nat.succ_pos _)).holdP .int))
 ·cases hg
theorem op_mod:Op2 G (binaryOp .Mod) modP:=by
 intro fi A h₀ L env C held s σ a b va vb c Q E hg R hQ
 obtain ⟨α,N,ra,rb⟩:=inv2 R
 have R':Rel G fi h₀ L σ held s:=R.tail.tail
 unfold modP at hg
 split at hg
 ·split at hg
  ·rename_i hne
   cases hg
   obtain ⟨t,rfl⟩:=ra.int_inv;obtain ⟨u,rfl⟩:=rb.int_inv
   exact mod_int' hne (hQ _ s.heap (s.toks+1) ((R'.toks (Nat.succ_pos _)).holdP .int))
  ·cases hg
 ·cases hg
theorem op_neg:Op1 G (unaryOp .USub) negP:=by
 intro fi A h₀ L env C held s σ a va c Q E hg R hQ
 obtain ⟨α,N,ra⟩:=inv1 R
 have R':Rel G fi h₀ L σ held s:=R.tail
 unfold negP at hg
 split at hg
 ·cases hg
  obtain ⟨t,rfl⟩:=ra.int_inv
  exact neg_int (hQ _ s.heap (s.toks+1) ((R'.toks (Nat.succ_pos _)).holdP .int))
 ·cases hg
noncomputable def mulP:PV→PV→Option PV
 | .str [c], .int n=>if n≤65536 then some (.str (List.replicate n.toNat c)) else none
 | .str [a,b,c], .int n=>none
 | _,_=>none
noncomputable def eqP:PV→PV→Option Bool
 | .int a, .int b=>some (a==b)
 | .str x, .str y=>some (x==y)
 | .bool a, .bool b=>some (a==b)
 | _,_=>none
noncomputable def neP:PV→PV→Option Bool
 | .int a, .int b=>some (a != b)
 | .str x, .str y=>some (x != y)
 | _,_=>none
noncomputable def ltP:PV→PV→Option Bool
 | .int a, .int b=>some (decide (a<b))
 | _,_=>none
noncomputable def leP:PV→PV→Option Bool
 | .int a, .int b=>some (decide (a≤b))
 | _,_=>none
noncomputable def gtP:PV→PV→Option Bool
 | .int a, .int b=>some (decide (b<a))
 | _,_=>none
noncomputable def geP:PV→PV→Option Bool
 | .int a, .int b=>some (decide (b≤a))
 | _,_=>none
noncomputable def inP:PV→PV→Option Bool
 | .str [c], .str l=>some (l.contains c)
 | _,_=>none
noncomputable def ninP:PV→PV→Option Bool
 | .str [c], .str l=>some (!l.contains c)
 | _,_=>none
theorem cm_eq:Cmp2 G (compareOp .Eq) eqP:=by
 intro fi A h₀ L env C held s σ a b va vb c Q E hg R hQ
 obtain ⟨α,N,ra,rb⟩:=inv2 R
 have hq:=hQ s.heap s.toks R.tail.tail
 unfold eqP at hg
 split at hg <;> cases hg
 ·obtain ⟨t,rfl⟩:=ra.int_inv;obtain ⟨u,rfl⟩:=rb.int_inv
  exact eq_int hq
 ·obtain ⟨t,rfl⟩:=ra.str_inv;obtain ⟨u,rfl⟩:=rb.str_inv
  exact eq_str (by rw [mk_beq];exact hq)
 ·have:=ra.bool_inv;subst this;have:=rb.bool_inv;subst this
  exact eq_bool hq
theorem cm_ne:Cmp2 G (compareOp .NotEq) neP:=by
 intro fi A h₀ L env C held s σ a b va vb c Q E hg R hQ
 obtain ⟨α,N,ra,rb⟩:=inv2 R
 have hq:=hQ s.heap s.toks R.tail.tail
 unfold neP at hg
 split at hg <;> cases hg
 ·obtain ⟨t,rfl⟩:=ra.int_inv;obtain ⟨u,rfl⟩:=rb.int_inv
  exact ne_int hq
 ·obtain ⟨t,rfl⟩:=ra.str_inv;obtain ⟨u,rfl⟩:=rb.str_inv
  exact ne_str (by unfold bne;rw [mk_beq];exact hq)
theorem cm_lt:Cmp2 G (compareOp .Lt) ltP:=by
 intro fi A h₀ L env C held s σ a b va vb c Q E hg R hQ
 obtain ⟨α,N,ra,rb⟩:=inv2 R
 have hq:=hQ s.heap s.toks R.tail.tail
 unfold ltP at hg
 split at hg <;> cases hg
 obtain ⟨t,rfl⟩:=ra.int_inv;obtain ⟨u,rfl⟩:=rb.int_inv
 exact lt_int hq
theorem cm_le:Cmp2 G (compareOp .LtE) leP:=by
 intro fi A h₀ L env C held s σ a b va vb c Q E hg R hQ
 obtain ⟨α,N,ra,rb⟩:=inv2 R
 have hq:=hQ s.heap s.toks R.tail.tail
 unfold leP at hg
 split at hg <;> cases hg
 obtain ⟨t,rfl⟩:=ra.int_inv;obtain ⟨u,rfl⟩:=rb.int_inv
 exact le_int hq
theorem cm_gt:Cmp2 G (compareOp .Gt) gtP:=by
 intro fi A h₀ L env C held s σ a b va vb c Q E hg R hQ
 obtain ⟨α,N,ra,rb⟩:=inv2 R
 have hq:=hQ s.heap s.toks R.tail.tail
 unfold gtP at hg
 split at hg <;> cases hg
 obtain ⟨t,rfl⟩:=ra.int_inv;obtain ⟨u,rfl⟩:=rb.int_inv
 exact gt_int hq
theorem cm_ge:Cmp2 G (compareOp .GtE) geP:=by
 intro fi A h₀ L env C held s σ a b va vb c Q E hg R hQ
 obtain ⟨α,N,ra,rb⟩:=inv2 R
 have hq:=hQ s.heap s.toks R.tail.tail
 unfold geP at hg
 split at hg <;> cases hg
 obtain ⟨t,rfl⟩:=ra.int_inv;obtain ⟨u,rfl⟩:=rb.int_inv
 exact ge_int hq
theorem contains_one (l:List Nat) (c:Nat):PySem.Txt.contains ⟨l.toArray⟩ ⟨#[c]⟩=l.contains c:=by
 unfold PySem.Txt.contains
 rw [StrLaws.found_one]
 show decide (c∈l)=l.contains c
 rw [List.contains_eq_mem]
theorem cm_in:Cmp2 G (compareOp .In) inP:=by
 intro fi A h₀ L env C held s σ a b va vb c Q E hg R hQ
 obtain ⟨α,N,ra,rb⟩:=inv2 R
 have hq:=hQ s.heap s.toks R.tail.tail
 unfold inP at hg
 split at hg <;> cases hg
 obtain ⟨t,rfl⟩:=ra.str_inv;obtain ⟨u,rfl⟩:=rb.str_inv
 exact SB.contains (by rw [contains_one];exact hq)
theorem cm_nin:Cmp2 G (compareOp .NotIn) ninP:=by
 intro fi A h₀ L env C held s σ a b va vb c Q E hg R hQ
 obtain ⟨α,N,ra,rb⟩:=inv2 R
 have hq:=hQ s.heap s.toks R.tail.tail
 unfold ninP at hg
 split at hg <;> cases hg
 obtain ⟨t,rfl⟩:=ra.str_inv;obtain ⟨u,rfl⟩:=rb.str_inv
 exact SB.notContains (by rw [contains_one];exact hq)
noncomputable def truP:PV→Option Bool
 | .int a=>some (a != 0)
 | .bool b=>some b
 | .none=>some false
 | _=>none
theorem isTrue_vr {i:Nat}{x:PySem.Str}{pos:Pos} (hx:nm fi i=some x):TrR G fi (.Name x pos) (lift1 truP (vr i)):=by
 intro A h₀ L env C held s σ c σ' Q E hf R hQ
 obtain ⟨a,h1,h2⟩:=lift1_ok hf
 refine isTrue_plain (R_name hx A h₀ L env C held s σ a σ' _ _ h1 R fun v h' t' R'=> ?_)
 obtain ⟨α,N,r⟩:=inv1 R'
 have hq:=hQ h' t' R'.tail
 unfold truP at h2
 split at h2 <;> cases h2
 ·obtain ⟨t,rfl⟩:=r.int_inv
  exact PyProof.Rows.truthy_int hq
 ·have:=r.bool_inv;subst this
  exact wpAny_truthy_bool hq
 ·have:=r.none_inv;subst this
  exact PyProof.Rows.truthy_none hq
end
end Mine
end
section
open PySem PySem.W PySem.Calls PyProof.Rows Builtin Builtin.Str
set_option maxRecDepth 10000
set_option tactic.hygienic false
namespace Mine
variable {j:Nat}{t:Tok}{Q:Value→Shared→Prop}{slice v value:Expr}{h₀:Heap}{L:Addr}{m:PySem.Str→Option Value}{α:List Addr}{N:List (Addr×Obj)}{s:Shared}{p pos:Pos}{fv:PM PV}
noncomputable def Op1M (G:Glb) (t:Value→Sem Value) (g:PV→PM PV):Prop:=
 ∀(fi:FI) (A:Around) (h₀:Heap) (L:Addr) (env:Env),Cx G fi A h₀ L env→∀(held:List (PV×Value)) (s:Shared) (σ:St) (a:PV) (va:Value) (c:PV) (σ':St) (Q:Value→Shared→Prop) (E:Value→Shared→Prop),
  g a σ= .ok c σ'→Rel G fi h₀ L σ ((a,va)::held) s→(∀v h' t',Rel G fi h₀ L σ' ((c,v)::held) (Sh s h' t')→Q v (Sh s h' t'))→wpAny (model G.prog G.w) A (t va) Q E s
noncomputable def Op2M (G:Glb) (t:Value→Value→Sem Value) (g:PV→PV→PM PV):Prop:=
 ∀(fi:FI) (A:Around) (h₀:Heap) (L:Addr) (env:Env),Cx G fi A h₀ L env→∀(held:List (PV×Value)) (s:Shared) (σ:St) (a b:PV) (va vb:Value) (c:PV) (σ':St) (Q:Value→Shared→Prop) (E:Value→Shared→Prop),
  g a b σ= .ok c σ'→Rel G fi h₀ L σ ((b,vb)::(a,va)::held) s→(∀v h' t',Rel G fi h₀ L σ' ((c,v)::held) (Sh s h' t')→Q v (Sh s h' t'))→wpAny (model G.prog G.w) A (t va vb) Q E s
noncomputable def app1 (g:PV→PM PV) (x:PM PV):PM PV:=bnd x g
noncomputable def app2 (g:PV→PV→PM PV) (x y:PM PV):PM PV:=bnd x fun a=>bnd y fun b=>g a b
noncomputable def cellL (k:Nat) (σ:St):Option (List PV):=match σ.cells[k]? with
 | some (.list xs)=>some xs
 | _=>none
noncomputable def itemP (o i:PV):PM PV:=fun σ=>match o,i with
 | .str l, .int i=>if l.length≤sizeMax then (match seqIndex? i l.length with | some j=> .ok (.str [l.getD j 0]) σ | none=> .bad) else .bad
 | .cell k, .int i=>match cellL k σ with
  | some xs=>(match seqIndex? i xs.length with | some j=> .ok (xs.getD j .other) σ | none=> .bad)
  | none=> .bad
 | .seq _ xs, .int i=>if xs.length≤sizeMax then (match seqIndex? i xs.length with | some j=> .ok (xs.getD j .other) σ | none=> .bad) else .bad
 | _,_=> .bad
theorem seqIndex_some {i:Int}{n:Nat} (h:seqIndex? i n=some j):j<n∧((0≤i∧j=i.toNat)∨(i<0∧ -(n:Int)≤i∧j=(i+n).toNat)):=by
 unfold seqIndex? at h
 by_cases h0:i<0
 ·simp only [h0,if_true,Bool.and_eq_true,decide_eq_true_eq,Option.ite_none_right_eq_some,Option.some.injEq] at h
  obtain ⟨h1,h2⟩:=h
  exact ⟨by exact lin4 (.t .v0 .v1) (.T .v2 .k0) (.L .k0 (.a .v2 (.c .v1))) (.q .v3 .v0) (.N 3 (.a .v2 (.c .v1))) (.d 4 (.w [0,1,1,1,0, -1]) (.w [0,1,1,1,1, -1])) rfl (.n _ (.n _ (.z _ (.n1 _)))) h0 h1.1 h2 rfl, .inr ⟨h0,by exact lin1 (.L (.g (.c .v0)) .v1) (.L .k0 (.a .v1 (.c .v0))) (.w [1,1]) rfl (.n _ (.z _ .o)) h1.1,h2.symm⟩⟩
 ·simp only [h0,if_false,Bool.and_eq_true,decide_eq_true_eq,Option.ite_none_right_eq_some,Option.some.injEq] at h
  obtain ⟨h1,h2⟩:=h
  exact ⟨by exact lin4 (.t .v0 .v1) (.n (.T .v2 .k0)) (.T .v2 (.c .v1)) (.q .v3 .v0) (.N 3 .v2) (.d 4 (.w [0,1,1,0,1, -1]) (.w [0,1,1,1,1, -1])) rfl (.n _ (.n _ (.z _ (.n1 _)))) h0 h1.2 h2 rfl, .inl ⟨by exact lin1 (.L .k0 .v0) (.n (.T .v0 .k0)) (.w [1,1]) rfl (.z _ .o) h0,h2.symm⟩⟩
theorem slot_list_getitem_lookup:typeLookup (.type "list") "__getitem__" =pure (some (.builtin "list.__getitem__")):=slot_list_getitem.lookup
section
variable {prog:Program}{w:World}{A:Around}{E:Value→Shared→Prop}{s:Shared}
theorem getItem_list_any {l:Addr}{vs:List Value}{k:Int}{x:Value} (hl:s.heap.IsList l vs.toArray) (hz:vs.length≤sizeMax)
  (hj:seqIndex? k vs.length=some j) (hx:vs[j]? =some x) (h:Q x s):wpAny (model prog w) A (getItem (.ref l) (.int k t)) Q E s:=by
 obtain ⟨h1,h2 | h2⟩:=seqIndex_some hj
 ·obtain ⟨h2,rfl⟩:=h2
  unfold sizeMax at hz
  exact wpAny_getItem_list hl h2 (by exact lin3 (.T .v0 (.k 9223372036854775808)) (.l .v1 (.k 1048576)) (.t .v2 .v1) (.N 2 .v0) (.d 3 (.w [0, -1,1,1,1]) (.w [1,0,1])) rfl (.z _ (.n2 _ _)) hz h1 rfl) (by simpa using hx) h
 ·obtain ⟨h2,h3,rfl⟩:=h2
  unfold sizeMax at hz
  exact wpAny_getItem_list_neg hl h2 (by simpa using h3) (by exact lin2 (.L (.g (.k 9223372036854775808)) .v0) (.l .v1 (.k 1048576)) (.L (.g (.c .v1)) .v0) (.w [1,1,1]) rfl (.z _ (.n1 _)) hz h3) (by simpa using hx) h
end
noncomputable def notSlice:Expr→Bool
 | .Slice .. =>false
 | _=>true
theorem subscripted_plain {o i:Value} (h:notSlice slice=true):subscripted slice false o i=operate [o,i] (getItem o i):=by
 cases slice <;> first | rfl | cases h
theorem letGo_str {x:PySem.Str} (r:Value):letTemporaryGo value (.str x t) r=pure ():=by
 cases value <;> rfl
section
variable {G:Glb}{fi:FI}
theorem zip_get {α' β':Type}{xs:List α'}{ys:List β'}{a:α'}{b:β'} (h1:xs[j]? =some a) (h2:ys[j]? =some b):(a,b)∈xs.zip ys:=by
 have:(xs.zip ys)[j]? =some (a,b):=by rw [List.getElem?_zip_eq_some];exact ⟨h1,h2⟩
 exact List.mem_of_getElem? this
inductive ListAt (s:Shared) (α:List Addr) (N:List (Addr×Obj)) (xs:List PV) (a:Addr):Prop
 | mk (vs:List Value) (n:Nat) (h1:(a,(⟨.type "list",Option.none, .seq vs.toArray n, #[]⟩:Obj))∈N) (h2:xs.length=vs.length) (h3:∀p∈xs.zip vs,Rep α N p.1 p.2) (h4:xs.length≤1048576) (h5:s.heap.IsList a vs.toArray):ListAt s α N xs a
set_option tactic.hygienic true in
theorem RelAt.listAt {σ:St}{held:List (PV×Value)} (R:RelAt G fi h₀ L σ held m α N s) {k:Nat}{xs:List PV}
  (h:cellL k σ=some xs) {a:Addr} (ha:α[k]? =some a):ListAt s α N xs a:=by
 unfold cellL at h
 split at h
 ·rename_i ys e
  cases h
  refine cps fun GC hGC=> ?_
  obtain ⟨vs,n,h1,h2,h3,h4⟩:=R.cells k a _ ha e
  refine hGC ?_
  exact ⟨vs,n,h1,h2,h3,h4,⟨_,(R.nw _ h1).1,rfl,n,rfl⟩⟩
 ·cases h
set_option tactic.hygienic true in
theorem op_item (hs:notSlice slice=true):Op2M G (subscriptTail value slice) itemP:=by
 intro fi A h₀ L env C held s σ a b va vb c σ' Q E hg R hQ
 unfold itemP at hg
 split at hg
 ·rename_i l i
  obtain ⟨α,N,ra,rb⟩:=inv2 R
  obtain ⟨t,e9⟩:=ra.str_inv;obtain ⟨u,rfl⟩:=rb.int_inv;rw [e9];clear e9
  split at hg
  ·rename_i hz
   split at hg
   ·rename_i j hj
    cases hg
    have hch:PySem.Txt.charAt ⟨l.toArray⟩ i=some (l.getD j 0):=by
     unfold PySem.Txt.charAt
     rw [mk_len,hj]
     skip
     have:=(seqIndex_some hj).1
     simp [this]
    have hit:PySem.Txt.item ⟨l.toArray⟩ i=⟨#[l.getD j 0]⟩:=by unfold PySem.Txt.item;rw [hch];rfl
    refine tail_of_ItemOn (SB.item (by
     have h:=seqIndex_some hj
     unfold sizeMax at hz
     unfold fitsSsize
     rw [Bool.not_eq_true',Bool.or_eq_false_iff]
     constructor
     ·exact decide_eq_false (by lia)
     ·exact decide_eq_false (by lia)) (by rw [hch];rfl) ?_) (subscripted_plain hs) letGo_str
    rw [hit]
    exact hQ _ s.heap (s.toks+1) ((R.tail.tail.toks (Nat.succ_pos _)).holdP (.str (l:=[l.getD j 0])))
   ·cases hg
  ·cases hg
 ·rename_i k i
  split at hg
  ·rename_i xs hk
   split at hg
   ·rename_i j hj
    cases hg
    obtain ⟨m,α,N,R'⟩:=R
    obtain ⟨d,hd,rfl⟩:=(R'.held (_,va) (.tail _ (.head _))).cell_inv
    obtain ⟨u,rfl⟩:=(R'.held (_,vb) (.head _)).int_inv
    obtain ⟨vs,n,h1,h2,h3,h4,h5⟩:=R'.listAt hk hd
    have hjl:=(seqIndex_some hj).1
    have e1:xs[j]? =some xs[j]:=List.getElem?_eq_getElem hjl
    have hjl2:j<vs.length:=h2▸hjl
    have e2:vs[j]? =some vs[j]:=List.getElem?_eq_getElem hjl2
    refine tail_any h5.typeIs slot_list_getitem.lookup (getItem_list_any h5 (h2▸h4) (h2▸hj) e2 ?_) (subscripted_plain hs)
    have hr:Rep α N xs[j] vs[j]:=h3 _ (zip_get e1 e2)
    have hgd:xs.getD j .other=xs[j]:=by simp [List.getD,e1]
    rw [hgd] at hQ
    exact hQ _ s.heap s.toks ⟨m,α,N,(R'.drop fun p hp=> .tail _ (.tail _ hp)).hold hr⟩
   ·cases hg
  ·cases hg
 ·rename_i tup xs i
  split at hg
  ·rename_i hz
   split at hg
   ·rename_i j hj
    cases hg
    obtain ⟨m,α,N,R'⟩:=R
    obtain ⟨d,vs,n,rfl,h1,hda,h2,h3⟩:=(R'.held (_,va) (.tail _ (.head _))).seq_inv
    obtain ⟨u,rfl⟩:=(R'.held (_,vb) (.head _)).int_inv
    have hjl:=(seqIndex_some hj).1
    have e1:xs[j]? =some xs[j]:=List.getElem?_eq_getElem hjl
    have hjl2:j<vs.length:=h2▸hjl
    have e2:vs[j]? =some vs[j]:=List.getElem?_eq_getElem hjl2
    have hr:Rep α N xs[j] vs[j]:=h3 _ (zip_get e1 e2)
    have hgd:xs.getD j .other=xs[j]:=by simp [List.getD,e1]
    rw [hgd] at hQ
    have hq:=hQ vs[j] s.heap s.toks ⟨m,α,N,(R'.drop fun p hp=> .tail _ (.tail _ hp)).hold hr⟩
    cases tup
    ·have h5:s.heap.IsList d vs.toArray:=⟨_,(R'.nw _ h1).1,rfl,n,rfl⟩
     exact tail_any h5.typeIs slot_list_getitem.lookup (getItem_list_any h5 (h2▸hz) (h2▸hj) e2 hq) (subscripted_plain hs)
    ·have h5:IsTup s.heap d vs.toArray:=⟨_,(R'.nw _ h1).1,rfl,n,rfl⟩
     have h:=seqIndex_some hj
     unfold sizeMax at hz
     exact item_tupleT h5 (by lia) (by lia) (h2▸hj) e2 hq (subscripted_plain hs)
   ·cases hg
  ·cases hg
 ·cases hg
theorem R_item {sl:Expr}{fs:PM PV} (hv:EvR G fi v fv) (hs:EvR G fi sl fs) (hn:notSlice sl=true):EvR G fi (.Subscript v sl pos) (app2 itemP fv fs):=by
 intro A h₀ L env C held s σ pv σ' Q E hf R hQ
 refine cps fun GC hGC=> ?_
 obtain ⟨a,σ₁,h1,hf⟩:=bnd_ok hf
 obtain ⟨b,σ₂,h2,h3⟩:=bnd_ok hf
 refine hGC ?_
 refine Subscript_ (hv A h₀ L env C held s σ a σ₁ _ _ h1 R fun va h' t' R1=> ?_)
 refine hs A h₀ L env C _ _ σ₁ b σ₂ _ _ h2 R1 fun vb h'' t'' R2=> ?_
 exact op_item hn fi A h₀ L env C held _ σ₂ a b va vb pv σ' _ _ h3 R2 fun v h3 t3 R3=>hQ v h3 t3 R3
noncomputable def PartR (G:Glb) (fi:FI) (e:Option Expr) (f:PM PV):Prop:=
 ∀(A:Around) (h₀:Heap) (L:Addr) (env:Env),Cx G fi A h₀ L env→∀(held:List (PV×Value)) (s:Shared) (σ:St) (pv:PV) (σ':St) (Q:Value→Shared→Prop) (E:Value→Shared→Prop),
  f σ= .ok pv σ'→Rel G fi h₀ L σ held s→(∀v h' t',Rel G fi h₀ L σ' ((pv,v)::held) (Sh s h' t')→Q v (Sh s h' t'))→wpAny (model G.prog G.w) A (evalPart e env) Q E s
theorem P_some {e:Expr}{f:PM PV} (h:EvR G fi e f):PartR G fi (some e) f:=h
theorem P_none:PartR G fi none (pure1 .none):=by
 intro A h₀ L env C held s σ pv σ' Q E hf R hQ
 cases hf
 exact wpAny_pure (hQ .none s.heap s.toks (R.holdP .none))
noncomputable def optI:PV→Option (Option Int)
 | .none=>some none
 | .int i=>some (some i)
 | _=>none
noncomputable def sliceP (o a b:PV):Option PV:=match o,optI a,optI b with
 | .str l,some a,some b=>if l.length≤sizeMax then some (.str (sliceS l a b)) else none
 | _,_,_=>none
noncomputable def sliceM (x a b:PM PV):PM PV:=bnd x fun o=>bnd a fun a=>bnd b fun b=>optM (sliceP o a b)
theorem optI_inv {a:PV}{i:Option Int} (h:optI a=some i) {v:Value} (r:Rep α N a v):(i=none∧v= .none)∨∃k t,i=some k∧v= .int k t:=by
 unfold optI at h
 split at h
 ·cases h;exact .inl ⟨rfl,r.none_inv⟩
 ·cases h;obtain ⟨t,rfl⟩:=r.int_inv;exact .inr ⟨_,t,rfl,rfl⟩
 ·cases h
theorem slice_tail {A:Around}{E:Value→Shared→Prop}{lo up:Option Expr}{l:List Nat}
  {a b:Option Int}{va vb:Value} (ha:(a=none∧va= .none)∨∃k t,a=some k∧va= .int k t) (hb:(b=none∧vb= .none)∨∃k t,b=some k∧vb= .int k t)
  (F:Fr h₀ L s.heap m) (N':News h₀ L s.heap N) (hz:l.length≤sizeMax) (h:∀h' t' k,Fr h₀ L h' m→News h₀ L h' N→Q (.str ⟨(sliceS l a b).toArray⟩ t') {s with heap:=h',toks:=k}):
  wpAny (model G.prog G.w) A (subscriptTail value (.Slice lo up none p) (.str ⟨l.toArray⟩ t) (.ref s.heap.objs.size)) Q E {s with heap:=s.heap.push {cls:= .type "slice",data:= .fields #[va,vb, .none]}}:=by
 have hz':(⟨l.toArray⟩:PySem.Str).length≤sizeLine:=by rw [mk_len];exact sizeMax_le hz
 rw [←slice_eq] at h
 rcases ha with ⟨rfl,rfl⟩ | ⟨i,ti,rfl,rfl⟩ <;> rcases hb with ⟨rfl,rfl⟩ | ⟨j,tj,rfl,rfl⟩
 ·exact slice_strN_nn F N' h rfl letGo_str hz'
 ·exact slice_strN_ns F N' h rfl letGo_str hz'
 ·exact slice_strN_sn F N' h rfl letGo_str hz'
 ·exact slice_strN_ss F N' h rfl letGo_str hz'
set_option tactic.hygienic true in
theorem R_slice {lo up:Option Expr}{fa fb:PM PV} (hv:EvR G fi v fv) (ha:PartR G fi lo fa) (hb:PartR G fi up fb):EvR G fi (.Subscript v (.Slice lo up none p) pos) (sliceM fv fa fb):=by
 intro A h₀ L env C held s σ pv σ' Q E hf R hQ
 obtain ⟨o,σ₁,h1,hf1⟩:=bnd_ok hf
 obtain ⟨a,σ₂,h2,hf2⟩:=bnd_ok hf1
 obtain ⟨b,σ₃,h3,hf3⟩:=bnd_ok hf2
 obtain ⟨h4,e4⟩:=optM_ok hf3
 subst e4
 refine Subscript_ (hv A h₀ L env C held s σ o σ₁ _ _ h1 R fun vo h' t' R1=> ?_)
 refine wpAny_Slice (ha A h₀ L env C _ _ σ₁ a σ₂ _ _ h2 R1 fun va h'' t'' R2=> ?_)
 refine hb A h₀ L env C _ _ σ₂ b _ _ _ h3 R2 fun vb h3' t3 R3=> ?_
 rw [evalPart_none]
 refine wpAny_pure ?_
 obtain ⟨m,α,N,R3⟩:=R3
 unfold sliceP at h4
 split at h4
 ·rename_i l a' b' ea eb
  split at h4
  ·rename_i hz
   cases h4
   obtain ⟨t,rfl⟩:=(R3.held (_,vo) (.tail _ (.tail _ (.head _)))).str_inv
   have ia:=optI_inv ea (R3.held (_,va) (.tail _ (.head _)))
   have ib:=optI_inv eb (R3.held (_,vb) (.head _))
   refine wpAny_toks (slice_tail (s:=Sh s h3' t3) ia ib R3.fr R3.nw hz fun h4 t4 k F4 N4 hk=> ?_)
   exact hQ _ h4 k ⟨m,α,N,((R3.reheap F4 N4 (Nat.lt_of_lt_of_le R3.tok hk)).drop fun p hp=> .tail _ (.tail _ (.tail _ hp))).hold .str⟩
  ·cases h4
 ·cases h4
end
end Mine
end
section
open PySem PySem.W PySem.Calls PyProof.Rows Builtin Builtin.Str
set_option maxRecDepth 10000
set_option tactic.hygienic false
namespace Mine
variable {N:List (Addr×Obj)}{d:Addr}{o o':Obj}{h':Heap}{pv:PV}{v:Value}{t:Tok}{name:PySem.Str}{hsh:Int}{vals:List PV}{j:Nat}
noncomputable def updN (N:List (Addr×Obj)) (d:Addr) (o':Obj):List (Addr×Obj):=N.map fun p=>if p.1=d then (d,o') else p
theorem updN_keys (N:List (Addr×Obj)) (d:Addr) (o':Obj):(updN N d o').map (·.1)=N.map (·.1):=by
 unfold updN
 rw [List.map_map]
 refine List.map_congr_left fun p _=> ?_
 show (if p.1=d then (d,o') else p).1=p.1
 split
 ·rename_i h;exact h.symm
 ·rfl
theorem updN_other {p:Addr×Obj} (h:p∈N) (hd:p.1≠d):p∈updN N d o':=
 List.mem_map.mpr ⟨p,h,if_neg hd⟩
theorem updN_self (h:(d,o)∈N):(d,o')∈updN N d o':=
 List.mem_map.mpr ⟨(d,o),h,if_pos rfl⟩
theorem updN_id (h:∀p∈N,p.1≠d):updN N d o'=N:=by
 unfold updN
 conv=>rhs;rw [←List.map_id N]
 exact List.map_congr_left fun p hp=>if_neg (h p hp)
theorem upd_of:∀{N:List (Addr×Obj)},(N.map (·.1)).Nodup→(d,o)∈N→Upd d o o' N (updN N d o')
 | p::r,nd,h=>by
  rw [List.map_cons,List.nodup_cons] at nd
  by_cases hp:p.1=d
  ·have e:p=(d,o):=by
    rcases List.mem_cons.mp h with e | h
    ·exact e.symm
    ·exact absurd (List.mem_map.mpr ⟨(d,o),h,hp.symm⟩) nd.1
   have hr:∀q∈r,q.1≠d:=fun q hq e'=>nd.1 (List.mem_map.mpr ⟨q,hq,e'.trans hp.symm⟩)
   have e2:updN (p::r) d o'=(d,o')::r:=by
    show (if p.1=d then (d,o') else p)::updN r d o'=_
    rw [if_pos hp,updN_id hr]
   rw [e2,e]
   exact .head hr
  ·have e2:updN (p::r) d o'=p::updN r d o':=by
    show (if p.1=d then (d,o') else p)::updN r d o'=_
    rw [if_neg hp]
   rw [e2]
   refine .tail hp (upd_of nd.2 ?_)
   rcases List.mem_cons.mp h with e | h
   ·exact absurd (by rw [←e]) hp
   ·exact h
section
variable {G:Glb}{fi:FI}{h₀:Heap}{L:Addr}{σ:St}{held:List (PV×Value)}{m:PySem.Str→Option Value}{α:List Addr}{N:List (Addr×Obj)}{s:Shared}
theorem RelAt.notL (R:RelAt G fi h₀ L σ held m α N s) (h:(d,o)∈N):d≠L∧h₀.get? d=none:=⟨(R.nw _ h).2.1,(R.nw _ h).2.2⟩
theorem News.upd {h:Heap} (N':News h₀ L h N) (hs:Heap.SameBut d h h') (ho:h'.get? d=some o'):News h₀ L h' (updN N d o'):=by
 intro p hp
 obtain ⟨q,hq,e⟩:=List.mem_map.mp hp
 have hq':=N' q hq
 by_cases hd:q.1=d
 ·rw [if_pos hd] at e;subst e
  exact ⟨ho,hd▸hq'.2.1,hd▸hq'.2.2⟩
 ·rw [if_neg hd] at e;subst e
  exact ⟨(hs.2 q.1 hd).trans hq'.1,hq'.2⟩
theorem CellIs.mono {tabs:Tabs}{α':List Addr}{N':List (Addr×Obj)}{a:Addr}{c:PCell} (hm:∀o,(a,o)∈N→(a,o)∈N') (hr:∀{pv v},Rep α N pv v→Rep α' N' pv v) (h:CellIs tabs α N a c):CellIs tabs α' N' a c:=by
 cases c with
 | list xs=>obtain ⟨vs,n,h1,h2,h3,h4⟩:=h;exact ⟨vs,n,hm _ h1,h2,fun p hp=>hr (h3 p hp),h4⟩
 | bk id vs=>obtain ⟨o,kvs,h1,h2⟩:=h;exact ⟨o,kvs,hm _ h1,h2⟩
 | dct id vs=>
  obtain ⟨es,n,h1,h2,h3,h4,h5⟩:=h
  exact ⟨es,n,hm _ h1,h2,h3,fun i x pv e1 e2=>(h4 i x pv e1 e2).imp (fun z=>z) fun ⟨q,v,e3,e4⟩=>⟨q,v,e3,hr e4⟩,h5⟩
theorem rep_upd (hd:d∈α) (h:Rep α N pv v):Rep α (updN N d o') pv v:=
 h.mono (fun p hp q=>⟨updN_other hp fun e=>q (e▸hd),q⟩) (fun _ _ e=>e)
theorem RelAt.setCell (R:RelAt G fi h₀ L σ held m α N s) {k:Nat}{c':PCell}{t':Tok} (hk:α[k]? =some d) (ho:(d,o)∈N)
  (hc:CellIs G.tabs α (updN N d o') d c') (F:Fr h₀ L h' m) (N':News h₀ L h' (updN N d o')) (ht:0<t'):
  RelAt G fi h₀ L {σ with cells:=σ.cells.set k c'} held m α (updN N d o') (Sh s h' t'):=by
 have hd:d∈α:=List.mem_of_getElem? hk
 refine ⟨F,N',by rw [updN_keys];exact R.nd,R.an,by rw [List.length_set];exact R.len, ?_, ?_,fun p hp=>rep_upd hd (R.held p hp),ht,R.vlen,fun p hp=>⟨updN_other (R.pin p hp).1 fun e=>(R.pin p hp).2 (e▸hd),(R.pin p hp).2⟩⟩
 ·intro j a c ha hcj
  by_cases hj:j=k
  ·subst hj
   rw [hk] at ha;cases ha
   have e2:(σ.cells.set j c')[j]? =some c:=hcj
   rw [List.getElem?_set] at e2
   simp only [if_true] at e2
   split at e2
   ·cases e2;exact hc
   ·cases e2
  ·have e2:(σ.cells.set k c')[j]? =some c:=hcj
   rw [List.getElem?_set_ne (Ne.symm hj)] at e2
   have hne:a≠d:=fun e=>hj (nodup_inj R.an (e▸ha) hk)
   exact (R.cells j a c ha e2).mono (fun o h=>updN_other h hne) (rep_upd hd)
 ·intro i x pv e1 e2
  exact (R.vars i x pv e1 e2).imp id fun ⟨q,v,e3,e4⟩=>⟨q,v,e3,rep_upd hd e4⟩
theorem RelAt.newCell (R:RelAt G fi h₀ L σ held m α N s) {c:PCell} (hN:(d,o)∈N) (hd:d∉α)
  (hpin:∀p∈G.pins,p.1≠d) (hnot:∀pv v,Rep α N pv v→Rep (α++[d]) N pv v) (hc:CellIs G.tabs α N d c):
  RelAt G fi h₀ L {σ with cells:=σ.cells++[c]} held m (α++[d]) N s:=by
 have R:=R
 refine ⟨R.fr,R.nw,R.nd, ?_,by rw [List.length_append,List.length_append,R.len];rfl, ?_, ?_,fun p hp=>hnot _ _ (R.held p hp),R.tok,R.vlen,fun p hp=>⟨(R.pin p hp).1,fun q=>(List.mem_append.mp q).elim (R.pin p hp).2 fun q=>hpin p hp (List.mem_singleton.mp q)⟩⟩
 ·rw [List.nodup_append]
  exact ⟨R.an,by simp,fun a ha b hb=>by rw [List.mem_singleton] at hb;subst hb;exact fun e=>hd (e▸ha)⟩
 ·intro j a cj ha hcj
  have hcj':(σ.cells++[c])[j]? =some cj:=hcj
  by_cases hj:j<α.length
  ·rw [List.getElem?_append_left hj] at ha
   rw [List.getElem?_append_left (R.len▸hj)] at hcj'
   exact (R.cells j a cj ha hcj').mono (fun _ h=>h) (hnot _ _)
  ·rw [List.getElem?_append_right (Nat.le_of_not_lt hj)] at ha
   rw [List.getElem?_append_right (R.len▸Nat.le_of_not_lt hj)] at hcj'
   have hj0:j-α.length=0:=by
    cases q:j-α.length with
    | zero=>rfl
    | succ n=>rw [q] at ha;simp at ha
   rw [hj0] at ha
   rw [←R.len,hj0] at hcj'
   simp at ha hcj'
   subst ha;subst hcj'
   exact hc.mono (fun _ h=>h) (hnot _ _)
 ·intro i x qv e1 e2
  exact (R.vars i x qv e1 e2).imp id fun ⟨q,v,e3,e4⟩=>⟨q,v,e3,hnot _ _ e4⟩
theorem rep_grow (hfr:∀p∈N,p.1≠d) (h:Rep α N pv v) (o:Obj):Rep (α++[d]) ((d,o)::N) pv v:=by
 refine h.mono (fun p hp q=>⟨.tail _ hp,fun hm=> ?_⟩) (fun k a e=> ?_)
 ·rcases List.mem_append.mp hm with hm | hm
  ·exact q hm
  ·exact hfr p hp (List.mem_singleton.mp hm)
 ·have hk:k<α.length:=(List.getElem?_eq_some_iff.mp e).1
  rw [List.getElem?_append_left hk];exact e
theorem RelAt.pushCell (R:RelAt G fi h₀ L σ held m α N s) {c:PCell} (ho:o.isFreed=false)
  (hc:CellIs G.tabs (α++[s.heap.objs.size]) ((s.heap.objs.size,o)::N) s.heap.objs.size c):
  RelAt G fi h₀ L {σ with cells:=σ.cells++[c]} held m (α++[s.heap.objs.size]) ((s.heap.objs.size,o)::N) {s with heap:=s.heap.push o}:=by
 have hfr:∀p∈N,p.1≠s.heap.objs.size:=fun p hp=>Nat.ne_of_lt (R.lt hp)
 have P:=R.push o ho
 have hd:s.heap.objs.size∉α:=R.fresh
 refine ⟨P.fr,P.nw,P.nd, ?_,by rw [List.length_append,List.length_append,R.len];rfl, ?_, ?_,fun p hp=>rep_grow hfr (R.held p hp) o,R.tok,R.vlen,fun p hp=>⟨.tail _ (R.pin p hp).1,fun q=>(List.mem_append.mp q).elim (R.pin p hp).2 fun q=>hfr p (R.pin p hp).1 (List.mem_singleton.mp q)⟩⟩
 ·rw [List.nodup_append]
  exact ⟨R.an,by simp,fun a ha b hb=>by rw [List.mem_singleton] at hb;subst hb;exact fun e=>hd (e▸ha)⟩
 ·intro j a cj ha hcj
  have hcj':(σ.cells++[c])[j]? =some cj:=hcj
  by_cases hj:j<α.length
  ·rw [List.getElem?_append_left hj] at ha
   rw [List.getElem?_append_left (R.len▸hj)] at hcj'
   exact (R.cells j a cj ha hcj').mono (fun _ h=> .tail _ h) (fun h=>rep_grow hfr h o)
  ·rw [List.getElem?_append_right (Nat.le_of_not_lt hj)] at ha
   rw [List.getElem?_append_right (R.len▸Nat.le_of_not_lt hj)] at hcj'
   have hj0:j-α.length=0:=by
    cases q:j-α.length with
    | zero=>rfl
    | succ n=>rw [q] at ha;simp at ha
   rw [hj0] at ha
   rw [←R.len,hj0] at hcj'
   simp at ha hcj'
   subst ha;subst hcj'
   exact hc
 ·intro i x qv e1 e2
  exact (R.vars i x qv e1 e2).imp id fun ⟨q,v,e3,e4⟩=>⟨q,v,e3,rep_grow hfr e4 o⟩
end
noncomputable def KStr (es:List DictEntry):Prop:=∀e∈es,∃x t,e.key= .str x t
theorem getL_cons (x:PySem.Str) (e:DictEntry) (es:List DictEntry) (hk:KStr (e::es)):getL x (e::es)=if e.key.isStr x then some (some e.val) else getL x es:=by
 unfold getL
 rw [List.find?_cons]
 cases h:e.key.isStr x with
 | true=>simp
 | false=>
  simp only [Bool.false_eq_true,if_false]
  cases q:List.find? (fun d=>d.key.isStr x) es with
  | some e'=>rfl
  | none=>
   obtain ⟨y,t,hy⟩:=hk e (.head _)
   have hr:e.refKey=false:=by simp [DictEntry.refKey,hy]
   simp [List.any_cons,hr]
theorem getL_nil (x:PySem.Str):getL x []=some none:=rfl
theorem getL_some (x:PySem.Str):∀{es:List DictEntry},KStr es→(getL x es).isSome=true
 | [],_=>rfl
 | e::es,hk=>by
  rw [getL_cons x e es hk]
  split
  ·rfl
  ·exact getL_some x fun e' h=>hk e' (.tail _ h)
theorem isStr_eq {x y:PySem.Str}:(Value.str x t).isStr y=true↔x=y:=by
 show (x==y)=true↔_
 exact beq_iff_eq
theorem KStr.put:∀{es:List DictEntry},KStr es→KStr (putL name hsh (.str name t) v es)
 | [],_=>fun e he=>by
  rcases List.mem_cons.mp he with rfl | he
  ·exact ⟨name,t,rfl⟩
  ·cases he
 | e::es,hk=>by
  unfold putL
  split
  ·intro e' he
   rcases List.mem_cons.mp he with rfl | he
   ·obtain ⟨y,u,hy⟩:=hk e (.head _);exact ⟨y,u,hy⟩
   ·exact hk e' (.tail _ he)
  ·intro e' he
   rcases List.mem_cons.mp he with rfl | he
   ·exact hk _ (.head _)
   ·exact KStr.put (fun e'' h=>hk e'' (.tail _ h)) e' he
theorem getL_put (name:PySem.Str) (hsh:Int) (t:Tok) (v:Value) (x:PySem.Str):∀{es:List DictEntry},KStr es→getL x (putL name hsh (.str name t) v es)=if x=name then some (some v) else getL x es
 | [],_=>by
  have hk:KStr [⟨hsh, .str name t,v⟩]:=KStr.put (es:=[]) fun _ h=>nomatch h
  show getL x [⟨hsh, .str name t,v⟩]=_
  rw [getL_cons x _ _ hk]
  by_cases h:x=name
  ·subst h;simp [Value.isStr]
  ·have:(Value.str name t).isStr x=false:=by
    rw [←Bool.not_eq_true,isStr_eq];exact fun e=>h e.symm
   rw [if_neg h];simp only [this,Bool.false_eq_true,if_false]
 | e::es,hk=>by
  have hk':KStr es:=fun e' h=>hk e' (.tail _ h)
  unfold putL
  obtain ⟨y,u,hy⟩:=hk e (.head _)
  split
  ·rename_i hn
   have hk2:KStr (⟨e.hash,e.key,v⟩::es):=fun e' he=>by
    rcases List.mem_cons.mp he with rfl | he
    ·exact ⟨y,u,hy⟩
    ·exact hk' e' he
   rw [getL_cons x _ _ hk2,getL_cons x e es hk]
   have hyn:y=name:=isStr_eq.mp (hy▸hn)
   by_cases h:x=name
   ·have:e.key.isStr x=true:=by rw [hy];exact isStr_eq.mpr (hyn.trans h.symm)
    rw [if_pos this,if_pos h]
   ·have:e.key.isStr x=false:=by rw [hy, ←Bool.not_eq_true,isStr_eq];exact fun e=>h (e.symm.trans hyn)
    simp only [this,Bool.false_eq_true,if_false,h]
  ·rename_i hn
   have hk2:KStr (e::putL name hsh (.str name t) v es):=fun e' he=>by
    rcases List.mem_cons.mp he with rfl | he
    ·exact ⟨y,u,hy⟩
    ·exact KStr.put hk' e' he
   rw [getL_cons x _ _ hk2,getL_cons x e es hk,getL_put name hsh t v x hk']
   by_cases h:e.key.isStr x=true
   ·have hx:y=x:=isStr_eq.mp (hy▸h)
    have:x≠name:=fun q=>hn (by rw [hy];exact isStr_eq.mpr (hx.trans q))
    simp only [h,if_true,this,if_false]
   ·simp only [h,if_false];simp
theorem len_put_new (name:PySem.Str) (hsh:Int) (key v:Value):∀{es:List DictEntry},KStr es→getL name es=some none→(putL name hsh key v es).length=es.length+1
 | [],_,_=>rfl
 | e::es,hk,h=>by
  rw [getL_cons name e es hk] at h
  unfold putL
  split at h
  ·cases h
  ·rename_i hn
   rw [if_neg hn,List.length_cons,len_put_new name hsh key v (fun e' h=>hk e' (.tail _ h)) h,List.length_cons]
theorem len_put_old (name:PySem.Str) (hsh:Int) (key v:Value) {u:Value}:∀{es:List DictEntry},KStr es→getL name es=some (some u)→(putL name hsh key v es).length=es.length
 | [],_,h=>by cases h
 | e::es,hk,h=>by
  rw [getL_cons name e es hk] at h
  unfold putL
  split at h
  ·rename_i hn;rw [if_pos hn];rfl
  ·rename_i hn
   rw [if_neg hn,List.length_cons,len_put_old name hsh key v (fun e' h=>hk e' (.tail _ h)) h,List.length_cons]
theorem filter_set_new (hj:vals[j]? =some .unb) (hu:isUnb pv=false):((vals.set j pv).filter isUnb).length+1=(vals.filter isUnb).length:=by
 induction vals generalizing j with
 | nil=>cases hj
 | cons a vals ih=>
  cases j with
  | zero=>
   simp at hj;subst hj
   rw [List.set_cons_zero,List.filter_cons_of_neg (by simp [hu]),List.filter_cons_of_pos (by rfl),List.length_cons]
  | succ j=>
   simp at hj
   rw [List.set_cons_succ]
   cases h:isUnb a with
   | true=>rw [List.filter_cons_of_pos h,List.filter_cons_of_pos h,List.length_cons,List.length_cons, ←ih hj]
   | false=>rw [List.filter_cons_of_neg (by simp [h]),List.filter_cons_of_neg (by simp [h]),ih hj]
theorem filter_set_old {qv:PV} (hj:vals[j]? =some qv) (hq:isUnb qv=false) (hu:isUnb pv=false):((vals.set j pv).filter isUnb).length=(vals.filter isUnb).length:=by
 induction vals generalizing j with
 | nil=>cases hj
 | cons a vals ih=>
  cases j with
  | zero=>
   simp at hj;subst hj
   rw [List.set_cons_zero,List.filter_cons_of_neg (by simp [hu]),List.filter_cons_of_neg (by simp [hq])]
  | succ j=>
   simp at hj
   rw [List.set_cons_succ]
   cases h:isUnb a with
   | true=>rw [List.filter_cons_of_pos h,List.filter_cons_of_pos h,List.length_cons,List.length_cons,ih hj]
   | false=>rw [List.filter_cons_of_neg (by simp [h]),List.filter_cons_of_neg (by simp [h]),ih hj]
theorem put_keys (name:PySem.Str) (hsh:Int) (t:Tok) (v:Value):∀{es:List DictEntry}{e:DictEntry},e∈putL name hsh (.str name t) v es→(∃e'∈es,e'.key=e.key)∨e.key= .str name t
 | [],e,h=>by
  rcases List.mem_cons.mp h with rfl | h
  ·exact .inr rfl
  ·cases h
 | a::es,e,h=>by
  unfold putL at h
  split at h
  ·rcases List.mem_cons.mp h with rfl | h
   ·exact .inl ⟨a, .head _,rfl⟩
   ·exact .inl ⟨e, .tail _ h,rfl⟩
  ·rcases List.mem_cons.mp h with rfl | h
   ·exact .inl ⟨_, .head _,rfl⟩
   ·rcases put_keys name hsh t v h with ⟨e',h1,h2⟩ | h
    ·exact .inl ⟨e', .tail _ h1,h2⟩
    ·exact .inr h
noncomputable def KTab (tab:List PySem.Str) (es:List DictEntry):Prop:=∀e∈es,∃x t,e.key= .str x t∧x∈tab
theorem KTab.str {tab:List PySem.Str}{es:List DictEntry} (h:KTab tab es):KStr es:=fun e he=>let ⟨x,t,e1,_⟩:=h e he;⟨x,t,e1⟩
theorem KTab.put {tab:List PySem.Str}{es:List DictEntry} (h:KTab tab es) (hn:name∈tab):KTab tab (putL name hsh (.str name t) v es):=fun e he=>by
 rcases put_keys name hsh t v he with ⟨e',h1,h2⟩ | h1
 ·rw [←h2];exact h e' h1
 ·exact ⟨name,t,h1,hn⟩
theorem KTab.none {tab:List PySem.Str} (hn:name∉tab):∀{es:List DictEntry},KTab tab es→getL name es=some none
 | [],_=>rfl
 | e::es,h=>by
  rw [getL_cons name e es h.str]
  obtain ⟨x,t,hx,hm⟩:=h e (.head _)
  have:e.key.isStr name=false:=by rw [hx, ←Bool.not_eq_true,isStr_eq];exact fun q=>hn (q▸hm)
  rw [if_neg (by rw [this];simp)]
  exact KTab.none hn fun e' h'=>h e' (.tail _ h')
theorem dct_set {tabs:Tabs}{α:List Addr}{id:Nat}{es:List DictEntry}{n:Nat}{n':Nat}
  (hd:d∈α) (hj:(tabs.t id)[j]? =some name) (hu:isUnb pv=false) (hr:Rep α N pv v) (h1:(d,dictOf es n)∈N) (h2:(tabs.t id).length=vals.length) (h3:(tabs.t id).Nodup)
  (h4:∀(i:Nat) (x:PySem.Str) (pv:PV),(tabs.t id)[i]? =some x→vals[i]? =some pv→(pv= .unb∧getL x es=some Option.none)∨(isUnb pv=false∧∃v,getL x es=some (some v)∧Rep α N pv v))
  (h5:KTab (tabs.t id) es) (h6:es.length+(vals.filter isUnb).length≤(tabs.t id).length) (h7:(tabs.t id).length≤100):
  CellIs tabs α (updN N d (dictOf (putL name hsh (.str name t) v es) n')) d (.dct id (vals.set j pv)):=by
 refine ⟨_,n',updN_self h1,by rw [List.length_set];exact h2,h3, ?_,KTab.put h5 (List.mem_of_getElem? hj), ?_,h7⟩
 ·intro i x qv e1 e2
  rw [getL_put name hsh t v x h5.str]
  by_cases hi:i=j
  ·subst hi
   rw [hj] at e1;cases e1
   rw [if_pos rfl]
   right
   have e2':=e2
   rw [List.getElem?_set] at e2'
   simp only [if_true] at e2'
   split at e2'
   ·cases e2';exact ⟨hu,v,rfl,rep_upd hd hr⟩
   ·cases e2'
  ·have hne:x≠name:=fun e=>hi (nodup_inj h3 (e▸e1) hj)
   rw [List.getElem?_set_ne (Ne.symm hi)] at e2
   rw [if_neg hne]
   exact (h4 i x qv e1 e2).imp (fun z=>z) fun ⟨q,w,e3,e4⟩=>⟨q,w,e3,rep_upd hd e4⟩
 ·have hjl:j<vals.length:=h2▸(List.getElem?_eq_some_iff.mp hj).1
  have ej:vals[j]? =some vals[j]:=List.getElem?_eq_getElem hjl
  rcases h4 j name _ hj ej with ⟨hunb,hg⟩ | ⟨hq,w,hg,_⟩
  ·have a1:=len_put_new name hsh (.str name t) v h5.str hg
   have a2:=filter_set_new (vals:=vals) (j:=j) (pv:=pv) (by rw [ej,hunb]) hu
   exact lin3 (.l (.a .v0 .v1) .v2) (.l (.a .v3 .v4) .v2) (.q .v0 (.a .v3 .k1)) (.q (.a .v1 .k1) .v4) (.w [1,1,1,1]) rfl (.n5 _ _ _ _ _) h6 a1 a2
  ·have a1:=len_put_old name hsh (.str name t) v h5.str hg
   have a2:=filter_set_old (vals:=vals) (j:=j) (pv:=pv) ej hq hu
   exact lin3 (.l (.a .v0 .v1) .v2) (.l (.a .v3 .v4) .v2) (.q .v0 .v3) (.q .v1 .v4) (.w [1,1,1,1]) rfl (.n5 _ _ _ _ _) h6 a1 a2
end Mine
end
section
open PySem PySem.W PySem.Calls PyProof.Rows Builtin Builtin.Str
set_option maxRecDepth 10000
set_option tactic.hygienic false
namespace Mine
variable {o pv:PV}{α:List Addr}{N:List (Addr×Obj)}{v:Value}{C L:Addr}{id j k:Nat}{σ σ':St}{name:PySem.Str}{pos:Pos}{A:Around}{h₀:Heap}{env:Env}{held:List (PV×Value)}{s:Shared}{E:Value→Shared→Prop}{m:PySem.Str→Option Value}{fs:List (PM PV)}{elts:List Expr}
noncomputable def hand:PV→Bool
 | .glob _=>false
 | .other=>false
 | .unb=>false
 | _=>true
theorem hand_handed (h:hand pv=true) (r:Rep α N pv v):handedIn v=true:=by
 cases r <;> first | rfl | cases h
theorem hand_unb (h:hand pv=true):isUnb pv=false:=by cases pv <;> first | rfl | cases h
noncomputable def dctAt (k id:Nat) (σ:St):Option (List PV):=match σ.cells[k]? with
 | some (.dct id' vals)=>if id'=id then some vals else none
 | _=>none
noncomputable def instK (C:Addr):PV→Option Nat
 | .inst C' k=>if C'=C then some k else none
 | _=>none
noncomputable def attrG (C:Addr) (id j:Nat) (o:PV):PM PV:=fun σ=>match instK C o with
 | some k=>(match dctAt k id σ with
  | some vals=>(match vals[j]? with
   | some pv=>if hand pv then .ok pv σ else .bad
   | none=> .bad)
  | none=> .bad)
 | none=> .bad
noncomputable def attrM (C:Addr) (id j:Nat) (x:PM PV):PM PV:=bnd x (attrG C id j)
noncomputable def attrS (C:Addr) (id j:Nat) (o v:PV):PM Fl:=fun σ=>match instK C o with
 | some k=>(match dctAt k id σ with
  | some vals=>if isUnb v then .bad else .ok .next {σ with cells:=σ.cells.set k (.dct id (vals.set j v))}
  | none=> .bad)
 | none=> .bad
noncomputable def setAttrM (C:Addr) (id j:Nat) (e o:PM PV):PM Fl:=bnd e fun v=>bnd o fun o=>attrS C id j o v
theorem instK_some (h:instK C o=some k):o= .inst C k:=by
 unfold instK at h
 split at h
 ·split at h
  ·rename_i hC;cases h;rw [hC]
  ·cases h
 ·cases h
theorem dctAt_some {vals:List PV} (h:dctAt k id σ=some vals):σ.cells[k]? =some (.dct id vals):=by
 unfold dctAt at h
 split at h
 ·rename_i e
  split at h
  ·rename_i hi;cases h;rw [←hi];exact e
  ·cases h
 ·cases h
theorem isInst {h:Heap}{a dx:Addr}{es:List DictEntry}{n:Nat} (h1:h.get? a=some (instObj C dx)) (h2:h.get? dx=some (dictOf es n)):W.InstAt h a (instObj C dx) C (some (dictOf es n)):=⟨h1,rfl,rfl,h2⟩
section
variable {G:Glb}{fi:FI}
set_option tactic.hygienic true in
theorem R_attr {x:PySem.Str}{xp:Pos}{fx:PM PV}{attr:Option Value} (hx:EvR G fi (.Name x xp) fx)
  (hj:(G.tabs.t id)[j]? =some name) (hg:plainGet G.K C name=true) (hh:hasDictIn G.K C=true) (ha:findIn G.K (.ref C) name=some attr) (hn:noGet G.K attr=true)
  (hbase:∀env,eval (.Attribute (.Name x xp) name pos) env=(do let o ←eval (.Name x xp) env;standAt pos.atName;let r ←holding [o] (getAttr o name true);letTemporaryGo (.Name x xp) o r;pure r)):
  EvR G fi (.Attribute (.Name x xp) name pos) (attrM C id j fx):=by
 intro A h₀ L env Cx held s σ pv σ' Q E hf R hQ
 refine cps fun GC hGC=> ?_
 obtain ⟨o,σ₁,h1,hf1⟩:=bnd_ok hf
 refine hGC ?_
 refine Attribute_Name_ (hx A h₀ L env Cx held s σ o σ₁ _ _ h1 R fun vo h' t' R1=> ?_) (hbase env)
 unfold attrG at hf1
 split at hf1
 ·rename_i k hk
  split at hf1
  ·rename_i vals hv
   split at hf1
   ·rename_i qv hqv
    split at hf1
    ·rename_i hhand
     cases hf1
     have ek:=instK_some hk
     subst ek
     refine cps fun GC hGC=> ?_
     obtain ⟨m,α,N,R1⟩:=R1
     obtain ⟨a,dx,rfl,hi1,hi2,hi3⟩:=(R1.held (_,vo) (.head _)).inst_inv
     obtain ⟨es,n,c1,c2,c3,c4,c5,c6,c7⟩:=R1.cells _ _ _ hi3 (dctAt_some hv)
     refine hGC ?_
     rcases c4 j name _ hj hqv with ⟨e,_⟩ | ⟨_,v,hl,hr⟩
     ·rw [e] at hhand;cases hhand
     ·exact get_own R1.fr Cx.X (isInst (R1.nw _ hi1).1 (R1.nw _ c1).1) hg hh ha hn hl (hand_handed hhand hr)
       (hQ v h' (t'+1) ⟨m,α,N,((R1.toks (Nat.succ_pos _)).drop fun p hp=> .tail _ hp).hold hr⟩)
    ·cases hf1
   ·cases hf1
  ·cases hf1
 ·cases hf1
set_option tactic.hygienic true in
theorem attr_set (Cx:Cx G fi A h₀ L env) {vo:Value}{fl:Fl}
  {Q:Unit→Shared→Prop}
  (hj:(G.tabs.t id)[j]? =some name) (hs:findIn G.K (.ref C) "__setattr__" =some (some (.builtin "object.__setattr__"))) (hp:plainOver G.K C=true) (ht:takerIn G.K C name=some none) (hh:hasDictIn G.K C=true)
  (hf:attrS C id j o pv σ= .ok fl σ') (R:Rel G fi h₀ L σ ((o,vo)::(pv,v)::held) s) (hQ:∀h' t',fl= .next→Rel G fi h₀ L σ' ((pv,v)::held) (Sh s h' t')→Q () (Sh s h' t')):
  wpAny (model G.prog G.w) A (setAttr vo name v) Q E s:=by
 unfold attrS at hf
 split at hf
 ·rename_i k hk
  split at hf
  ·rename_i vals hv
   split at hf
   ·cases hf
   ·rename_i hu
    cases hf
    have ek:=instK_some hk
    subst ek
    refine cps fun GC hGC=> ?_
    obtain ⟨m,α,N,R1⟩:=R
    obtain ⟨a,dx,rfl,hi1,hi2,hi3⟩:=(R1.held (_,vo) (.head _)).inst_inv
    obtain ⟨es,n,c1,c2,c3,c4,c5,c6,c7⟩:=R1.cells _ _ _ hi3 (dctAt_some hv)
    refine hGC ?_
    have hr:Rep α N pv v:=R1.held (_,v) (.tail _ (.head _))
    have hd:dx∈α:=List.mem_of_getElem? hi3
    have hu':isUnb pv=false:=by simpa using hu
    have hcell:=dct_set (tabs:=G.tabs) (hsh:=PyData.keyHash G.w.params name) (t:=s.toks+1) (n':=putN name es n) hd hj hu' hr c1 c2 c3 c4 c5 c6 c7
    refine set_dict (prog:=G.prog) (w:=G.w) R1.fr Cx.X R1.nw (isInst (R1.nw _ hi1).1 (R1.nw _ c1).1) rfl hs hp ht hh (getL_some _ (KTab.str c5)) rfl (upd_of R1.nd c1) ?_ fun h' F' N'=> ?_
    ·refine cps fun GC hGC=> ?_
     obtain ⟨es',n1,d1,d2,d3,d4,d5,d6,d7⟩:=hcell
     refine hGC ?_
     have hnd:((updN N dx (dictOf (putL name (PyData.keyHash G.w.params name) (.str name (s.toks+1)) v es) (putN name es n))).map (·.1)).Nodup:=by rw [updN_keys];exact R1.nd
     have hjl:j<vals.length:=c2▸(List.getElem?_eq_some_iff.mp hj).1
     have ej:vals[j]? =some vals[j]:=List.getElem?_eq_getElem hjl
     rcases c4 j name _ hj ej with ⟨_,hg⟩ | ⟨_,w,hg,_⟩
     ·rw [len_put_new name _ _ v (KTab.str c5) hg];exact lin2 (.l (.a .v0 .k1) (.k 1000)) (.l (.a .v0 .v1) .v2) (.l .v2 (.k 100)) (.w [1,1,1]) rfl (.n3 _ _ _) c6 c7
     ·rw [len_put_old name _ _ v (KTab.str c5) hg];exact lin2 (.l .v0 (.k 1000)) (.l (.a .v0 .v1) .v2) (.l .v2 (.k 100)) (.w [1,1,1]) rfl (.n3 _ _ _) c6 c7
    ·exact hQ h' (s.toks+2) rfl ⟨m,α,_,(R1.setCell hi3 c1 hcell F' N' (Nat.succ_pos _)).drop fun p hp=> .tail _ hp⟩
  ·cases hf
 ·cases hf
theorem X_setAttr {o e:Expr}{pos':Pos}{fo fe:PM PV} (ho:EvR G fi o fo) (he:EvR G fi e fe)
  (hj:(G.tabs.t id)[j]? =some name) (hs:findIn G.K (.ref C) "__setattr__" =some (some (.builtin "object.__setattr__"))) (hp:plainOver G.K C=true) (ht:takerIn G.K C name=some none) (hh:hasDictIn G.K C=true)
  (hsw:∀env,swapsWith e (some (.Attribute o name pos')) pos.line env=pure false):ExR G fi (.Assign [.Attribute o name pos'] e pos) (setAttrM C id j fe fo):=by
 intro A h₀ L env Cx held s σ fl σ' Q E hf R hQ
 refine cps fun GC hGC=> ?_
 obtain ⟨pv,σ₁,h1,hf1⟩:=bnd_ok hf
 obtain ⟨qo,σ₂,h2,hf2⟩:=bnd_ok hf1
 refine hGC ?_
 refine plainObj_wpAny_Assign_Attribute (he A h₀ L env Cx held s σ pv σ₁ _ _ h1 R fun v h' t' R1=> ?_) (hsw env)
 refine ho A h₀ L env Cx _ _ σ₁ qo σ₂ _ _ h2 R1 fun vo h'' t'' R2=> ?_
 exact attr_set Cx hj hs hp ht hh hf2 R2 fun h3 t3 e3 R3=>by subst e3;exact hQ .next h3 t3 R3.tail
noncomputable def appG (k:Nat) (x:PV):PM PV:=fun σ=>match cellL k σ with
 | some xs=>if xs.length<sizeMax then (if isUnb x then .bad else .ok .none {σ with cells:=σ.cells.set k (.list (xs++[x]))}) else .bad
 | none=> .bad
theorem zip_snoc {α' β':Type}{xs:List α'}{ys:List β'} (h:xs.length=ys.length) (a:α') (b:β'):(xs++[a]).zip (ys++[b])=xs.zip ys++[(a,b)]:=by
 rw [List.zip_append h];rfl
set_option tactic.hygienic true in
theorem append_ok {x c:PV}{vx:Value}{d:Addr}
  {Q:Value→Shared→Prop}
  (hf:appG k x σ= .ok c σ') (R:RelAt G fi h₀ L σ held m α N s) (hk:α[k]? =some d) (hx:Rep α N x vx) (hQ:∀h' N',c= .none→RelAt G fi h₀ L σ' held m α N' (Sh s h' s.toks)→Q .none {s with heap:=h'}):
  ∃vs n,s.heap.get? d=some {cls:= .type "list",data:= .seq vs n}∧vs.size≤sizeLine∧
   ∀h',Heap.SameBut d s.heap h'→h'.get? d=some {cls:= .type "list",data:= .seq (vs.push vx) (n+1)}→Q .none {s with heap:=h'}:=by
 unfold appG at hf
 split at hf
 ·rename_i xs hxs
  split at hf
  ·rename_i hz
   split at hf
   ·cases hf
   ·rename_i hu
    cases hf
    refine cps fun GC hGC=> ?_
    obtain ⟨vs,n,h1,h2,h3,h4,_⟩:=R.listAt hxs hk
    refine hGC ?_
    refine ⟨vs.toArray,n,(R.nw _ h1).1,by rw [List.size_toArray, ←h2];exact sizeMax_le (Nat.le_of_lt hz),fun h' hs ho=> ?_⟩
    have e:vs.toArray.push vx=(vs++[vx]).toArray:=by simp
    rw [e] at ho
    have hd:d∈α:=List.mem_of_getElem? hk
    refine hQ h' (updN N d ⟨.type "list",none, .seq (vs++[vx]).toArray (n+1), #[]⟩) rfl (R.setCell hk h1 ?_ (R.fr.change hs (R.notL h1).1 (R.notL h1).2) (Mine.News.upd R.nw hs ho) R.tok)
    refine ⟨vs++[vx],n+1,updN_self h1,by simp [h2], ?_,by rw [List.length_append];exact hz⟩
    intro p hp
    rw [zip_snoc h2] at hp
    rcases List.mem_append.mp hp with hp | hp
    ·exact rep_upd hd (h3 p hp)
    ·rw [List.mem_singleton.mp hp];exact rep_upd hd hx
  ·cases hf
 ·cases hf
noncomputable def evL (fs:List (PM PV)):PM (List PV):=match fs with
 | []=>ret1 []
 | f::fs=>bnd f fun a=>bnd (evL fs) fun as=>ret1 (a::as)
inductive EvsR (G:Glb) (fi:FI):List Expr→List (PM PV)→Prop where
 | nil:EvsR G fi [] []
 | cons {e:Expr}{es:List Expr}{f:PM PV}{fs:List (PM PV)}:EvR G fi e f→(∀env,starEach (e::es) env=(false,eval e env)::starEach es env)→EvsR G fi es fs→EvsR G fi (e::es) (f::fs)
theorem spl_ok {es:List Expr} (H:EvsR G fi es fs) (C:Cx G fi A h₀ L env):
  ∀{held:List (PV×Value)}{s:Shared}{σ σ':St}{pvs:List PV}{Q:List Value→Shared→Prop},
   evL fs σ= .ok pvs σ'→Rel G fi h₀ L σ held s→(∀vs h' t',pvs.length=vs.length→Rel G fi h₀ L σ' (pvs.zip vs++held) (Sh s h' t')→Q vs (Sh s h' t'))→
   wpAny (model G.prog G.w) A (spliced (backTo pos (starEach es env))) Q E s:=by
 induction H with
 | nil=>
  intro held s σ σ' pvs Q hf R hQ
  obtain ⟨rfl,rfl⟩:=ret1_ok hf
  exact Calls.spliced_nil (hQ [] s.heap s.toks rfl R)
 | cons he hst _ ih=>
  intro held s σ σ' pvs Q hf R hQ
  refine cps fun GC hGC=> ?_
  obtain ⟨a,σ₁,h1,hf1⟩:=bnd_ok hf
  obtain ⟨as,σ₂,h2,hf2⟩:=bnd_ok hf1
  obtain ⟨rfl,rfl⟩:=ret1_ok hf2
  refine hGC ?_
  rw [hst env]
  refine Calls.spliced_cons (he A h₀ L env C held s σ a σ₁ _ _ h1 R fun v h' t' R1=> ?_)
  refine ih h2 R1 fun vs h'' t'' hl R2=>hQ (v::vs) h'' t'' (by simp [hl]) (R2.drop fun p hp=> ?_)
  rw [List.zip_cons_cons,List.cons_append] at hp
  rcases List.mem_cons.mp hp with rfl | hp
  ·exact List.mem_append_right _ (.head _)
  ·rcases List.mem_append.mp hp with hp | hp
   ·exact List.mem_append_left _ hp
   ·exact List.mem_append_right _ (.tail _ hp)
noncomputable def tupM (tup:Bool) (fs:List (PM PV)):PM PV:=bnd (evL fs) fun pvs=>if pvs.length≤sizeMax then ret1 (.seq tup pvs) else badM
theorem RelAt.pushSeq (R:RelAt G fi h₀ L σ held m α N s) {tup:Bool}{xs:List PV}{vs:List Value}
  (hl:xs.length=vs.length) (hr:∀p∈xs.zip vs,Rep α N p.1 p.2):
  RelAt G fi h₀ L σ ((.seq tup xs, .ref s.heap.objs.size)::held) m α ((s.heap.objs.size,(⟨.type (if tup then "tuple" else "list"),Option.none, .seq vs.toArray 0, #[]⟩:Obj))::N)
   {s with heap:=s.heap.push ⟨.type (if tup then "tuple" else "list"),Option.none, .seq vs.toArray 0, #[]⟩}:=by
 have P:=R.push ⟨.type (if tup then "tuple" else "list"),Option.none, .seq vs.toArray 0, #[]⟩ rfl
 exact P.hold (.seq (.head _) R.fresh hl fun p hp=>(hr p hp).mono (fun q hq z=>⟨.tail _ hq,z⟩) (fun _ _ e=>e))
theorem R_tup (H:EvsR G fi elts fs):EvR G fi (.Tuple elts k pos) (tupM true fs):=by
 intro A h₀ L env C held s σ pv σ' Q E hf R hQ
 obtain ⟨pvs,σ₁,h1,hf1⟩:=bnd_ok hf
 split at hf1
 ·rename_i hz
  obtain ⟨rfl,rfl⟩:=ret1_ok hf1
  refine Tuple_ (spl_ok H C h1 R fun vs h' t' hl R1=> ?_)
  obtain ⟨m,α,N,R1⟩:=R1
  refine wpAny_newObj_type (hQ _ _ t' ⟨m,α,_,(R1.drop fun p hp=>List.mem_append_right _ hp).pushSeq (tup:=true) hl fun p hp=>R1.held p (List.mem_append_left _ hp)⟩) ?_
  show vs.toArray.size≤sizeLine
  rw [List.size_toArray, ←hl];exact sizeMax_le hz
 ·cases hf1
theorem R_lst (H:EvsR G fi elts fs):EvR G fi (.List elts pos) (tupM false fs):=by
 intro A h₀ L env C held s σ pv σ' Q E hf R hQ
 refine cps fun GC hGC=> ?_
 obtain ⟨pvs,σ₁,h1,hf1⟩:=bnd_ok hf
 refine hGC ?_
 split at hf1
 ·rename_i hz
  obtain ⟨rfl,rfl⟩:=ret1_ok hf1
  refine List_ (spl_ok H C h1 R fun vs h' t' hl R1=> ?_)
  refine cps fun GC hGC=> ?_
  obtain ⟨m,α,N,R1⟩:=R1
  refine hGC ?_
  refine wpAny_newObj_type (hQ _ _ t' ⟨m,α,_,(R1.drop fun p hp=>List.mem_append_right _ hp).pushSeq (tup:=false) hl fun p hp=>R1.held p (List.mem_append_left _ hp)⟩) ?_
  show vs.toArray.size≤sizeLine
  rw [List.size_toArray, ←hl];exact sizeMax_le hz
 ·cases hf1
noncomputable def cellM (fs:List (PM PV)):PM PV:=bnd (evL fs) fun pvs=>fun σ=>if pvs.length≤sizeMax then .ok (.cell σ.cells.length) {σ with cells:=σ.cells++[.list pvs]} else .bad
theorem R_cell (H:EvsR G fi elts fs):EvR G fi (.List elts pos) (cellM fs):=by
 intro A h₀ L env C held s σ pv σ' Q E hf R hQ
 obtain ⟨pvs,σ₁,h1,hf1⟩:=bnd_ok hf
 split at hf1
 ·rename_i hz
  cases hf1
  refine List_ (spl_ok H C h1 R fun vs h' t' hl R1=> ?_)
  obtain ⟨m,α,N,R1⟩:=R1
  have hfr:∀p∈N,p.1≠h'.objs.size:=fun p hp=>Nat.ne_of_lt (R1.lt hp)
  have P:=(R1.drop (held':=held) fun p hp=>List.mem_append_right _ hp).pushCell (o:=⟨.type "list",Option.none, .seq vs.toArray 0, #[]⟩) (c:= .list pvs) rfl
   ⟨vs,0, .head _,hl,fun p hp=>rep_grow hfr (R1.held p (List.mem_append_left _ hp)) _,hz⟩
  refine wpAny_newObj_type (hQ _ _ t' ⟨m,_,_,P.hold (.cell ?_)⟩) ?_
  ·rw [←R1.len];simp
  ·show vs.toArray.size≤sizeLine
   rw [List.size_toArray, ←hl];exact sizeMax_le hz
 ·cases hf1
end
end Mine
end
section
open PySem PySem.W PySem.Calls PyProof.Rows
set_option maxRecDepth 10000
set_option tactic.hygienic false
namespace Mine
variable {L f:Addr}{σ:St}{m:PySem.Str→Option Value}{i:Nat}{pv:PV}{h₀:Heap}{held:List (PV×Value)}{α:List Addr}{N:List (Addr×Obj)}{s:Shared}{pvs:List PV}{vs:List Value}
structure FnAt (G:Glb) (fi:FI) (f:Addr) (params:List PySem.Str) (body:List Stmt):Prop where
 ok:FIok fi
 gen:fi.scope.isGenerator=false
 co:fi.scope.isCoroutine=false
 nocell:∀x∈fi.scope.names,x.2≠ .cell
 bare:fi.cmp=false∧fi.base=[]∧fi.bind=[]∧fi.cbind=[]
 pre:fi.vnames.take params.length=params
 at_:∃oc od name ps dV kV doc pm an cdv ct osl,G.K.lookup f=some ⟨oc,od, .func (fnOf name fi.qual ps body fi.scope dV kV doc pm an cdv ct),osl⟩∧codeIn G.K cdv fi.qual=true∧
  ∀vs:List Value,vs.length=params.length→bindArgs (fnOf name fi.qual ps body fi.scope dV kV doc pm an cdv ct) ⟨vs,[]⟩=pure (params.zip vs)
theorem cellsFrom_nil:∀(names:List (PySem.Str×NameKind)) (n:Nat) (acc:List (PySem.Str×Addr)),(∀x∈names,x.2≠ .cell)→cellsFrom n names acc=acc
 | [],_,_,_=>rfl
 | (y,k)::r,n,acc,h=>by
  unfold cellsFrom
  have hk:(k==NameKind.cell)=false:=by have:=h (y,k) (.head _);simpa using this
  rw [hk]
  exact cellsFrom_nil r _ _ fun x hx=>h x (.tail _ hx)
theorem envOf_eq {q:PySem.Str}{sc:Scope}{cd:Value} (h:∀x∈sc.names,x.2≠ .cell):envOf q sc L f cd=envOfC q sc L f cd:=by
 unfold envOf envOfC
 rw [cellsFrom_nil _ _ _ h]
noncomputable def vars0 (nv:Nat) (args:List PV):List PV:=args++List.replicate (nv-args.length) .unb
noncomputable def scal:PV→Bool
 | .none=>true
 | .bool _=>true
 | .int _=>true
 | .str _=>true
 | _=>false
noncomputable def safe (n:Nat):PV→Bool
 | .none=>true
 | .bool _=>true
 | .int _=>true
 | .str _=>true
 | .cell k=>decide (k<n)
 | .inst _ k=>decide (k<n)
 | .seq _ xs=>xs.all scal
 | .unb=>true
 | _=>false
noncomputable def forget (n:Nat) (p:PV):PV:=if safe n p then p else .other
noncomputable def forgetC (n:Nat):PCell→PCell
 | .list xs=> .list (xs.map (forget n))
 | .dct id vals=> .dct id (vals.map (forget n))
 | .bk id vals=> .bk id vals
noncomputable def handBack (n:Nat) (cells:List PCell) (p:PV):Option PV:=
 if safe n p then some p else match p with
  | .cell k=>(match cells[k]? with
   | some (.list xs)=>if xs.all scal then some (.seq false xs) else none
   | _=>none)
  | _=>none
noncomputable def callF (nv:Nat) (F:PM Fl) (args:List PV):PM PV:=fun σ=>match F ⟨vars0 nv args,σ.cells⟩ with
 | .ok (.ret pv) σ'=> .ok pv ⟨σ.vars,σ'.cells⟩
 | .ok .next σ'=> .ok .none ⟨σ.vars,σ'.cells⟩
 | .ok _ _=> .bad
 | .exc σ'=> .exc ⟨σ.vars,σ'.cells⟩
 | .bad=> .bad
noncomputable def callT (nv:Nat) (F:PM Fl) (args:List PV):PM PV:=fun σ=>match callF nv F args σ with
 | .ok pv σ'=>(match handBack σ.cells.length σ'.cells pv with
  | some qv=> .ok qv ⟨σ.vars,(σ'.cells.take σ.cells.length).map (forgetC σ.cells.length)⟩
  | none=> .bad)
 | .exc σ'=> .exc ⟨σ.vars,(σ'.cells.take σ.cells.length).map (forgetC σ.cells.length)⟩
 | .bad=> .bad
section
variable {G:Glb}{fi:FI}
theorem lookup_zip {β:Type}:∀{ps:List PySem.Str}{vs:List β}{i:Nat}{x:PySem.Str}{v:β},ps.Nodup→ps[i]? =some x→vs[i]? =some v→(ps.zip vs).reverse.lookup x=some v
 | [],_,_,_,_,_,h,_=>by cases h
 | p::ps,[],_,_,_,_,_,h=>by cases h
 | p::ps,w::vs,0,x,v,nd,h1,h2=>by
  simp at h1 h2
  subst h1;subst h2
  rw [List.zip_cons_cons,List.reverse_cons,List.lookup_append]
  have:(ps.zip vs).reverse.lookup p=none:=by
   rw [List.lookup_eq_none_iff]
   intro q hq
   rw [List.mem_reverse] at hq
   have hq':q.1∈ps:=(List.of_mem_zip hq).1
   have hne:¬p=q.1:=fun e=>(List.nodup_cons.mp nd).1 (e▸hq')
   simpa using hne
  rw [this];simp [List.lookup]
 | p::ps,w::vs,i+1,x,v,nd,h1,h2=>by
  simp at h1 h2
  rw [List.zip_cons_cons,List.reverse_cons,List.lookup_append,lookup_zip (List.nodup_cons.mp nd).2 h1 h2]
  rfl
noncomputable def cvars (fi:FI) (σ:St) (m:PySem.Str→Option Value):List (PV×Value):=(fi.vnames.zip σ.vars).filterMap fun p=>if isUnb p.2 then none else (m p.1).map fun v=>(p.2,v)
theorem cvars_mem {x:PySem.Str}{v:Value} (h1:fi.vnames[i]? =some x) (h2:σ.vars[i]? =some pv) (hu:isUnb pv=false) (hm:m x=some v):(pv,v)∈cvars fi σ m:=
 List.mem_filterMap.mpr ⟨(x,pv),zip_get h1 h2,by rw [hu];simp [hm]⟩
theorem cvars_rep (R:RelAt G fi h₀ L σ held m α N s):∀p∈cvars fi σ m,Rep α N p.1 p.2:=by
 intro p hp
 obtain ⟨q,hq,e⟩:=List.mem_filterMap.mp hp
 obtain ⟨i,hi⟩:=List.mem_iff_getElem?.mp hq
 rw [List.getElem?_zip_eq_some] at hi
 rcases R.vars i q.1 q.2 hi.1 hi.2 with h | ⟨hu,v,hv,hr⟩
 ·rw [h] at e;cases e
 ·rw [hu,hv] at e
  simp at e
  subst e
  exact hr
theorem pair_mem_zip (h:pvs.length=vs.length) (h1:pvs[i]? =some pv):∃v,vs[i]? =some v∧(pv,v)∈pvs.zip vs:=by
 have hi:i<vs.length:=h▸(List.getElem?_eq_some_iff.mp h1).1
 exact ⟨vs[i],List.getElem?_eq_getElem hi,zip_get h1 (List.getElem?_eq_getElem hi)⟩
set_option tactic.hygienic true in
theorem call_ok {fj:FI}{params:List PySem.Str}{body:List Stmt}{F:PM Fl} (HF:FnAt G fj f params body) (HB:ExsR G fj body F)
  {A:Around}{env:Env} (C:Cx0 G fi A h₀ L env) (hdep:A.depth+1+2*fj.lv<900) (hun:A.units+3+20*fj.lv<9000)
  {σ':St}{R:Result→Shared→Prop}
  (hf:callF fj.vnames.length F pvs σ= .ok pv σ') (hn:pvs.length=params.length) (hv:pvs.length=vs.length) (hu:∀p∈pvs,isUnb p=false) (hr:∀p∈pvs.zip vs,Rep α N p.1 p.2) (R0:RelAt G fi h₀ L σ held m α N s)
  (hQ:∀v h' t' α' N',RelAt G fi h₀ L σ' ((pv,v)::held) m α' N' (Sh s h' t')→(∀(j:Nat) (a:Addr),α[j]? =some a→α'[j]? =some a)→R (.ok (.ret v)) (Sh s h' t')):
  codeAny (model G.prog G.w) A (.call (.ref f) ⟨vs,[]⟩) R s:=by
 refine cps fun GC hGC=> ?_
 obtain ⟨oc,od,name,ps,dV,kV,doc,pm,an,cdv,ct,osl,hl,hcd,hb⟩:=HF.at_
 obtain ⟨A₀,base,outer,env0,B,hA,hfr,hek⟩:=C.B
 refine hGC ?_
 have hparams:∀p∈params,p∈fj.vnames:=fun p hp=>by rw [←HF.pre] at hp;exact List.mem_of_mem_take hp
 have hpn:params.Nodup:=by rw [←HF.pre];exact HF.ok.nd.sublist (List.take_sublist _ _)
 refine code_def B R0.fr C.X R0.nw C.T hA hfr hek hl hcd (by unfold recursionLimit;exact lin1 (.t .v0 (.k 1000)) (.t (.a (.a .v0 .k1) (.m 2 .v1)) (.k 900)) (.w [1,1]) rfl (.n2 _ _) hdep) (BindsTo.of_eq (hb vs (by exact lin2 (.q .v0 .v1) (.q .v2 .v1) (.q .v2 .v0) (.b (.w [1, -1,1]) (.w [1,1, -1])) rfl (.n3 _ _ _) hn hv)))
  (fun y hy=>HF.ok.loc HF.bare.1 y.1 (hparams y.1 (List.of_mem_zip hy).1)) (fun g L' h₁ FG F' N' B' X' T'=> ?_) HF.co HF.gen HF.ok.kind HF.nocell
 have Cj:Cx G fj (A.deeper (envOf fj.qual fj.scope L' f cdv)) g L' (envOf fj.qual fj.scope L' f cdv):=by
  refine ⟨⟨HF.ok,fun _=>⟨f,cdv,envOf_eq HF.nocell⟩,rfl,rfl,rfl,X',T',⟨A,base,env0::outer,envOf fj.qual fj.scope L' f cdv,B', ?_,rfl,HF.ok.kind⟩,C.hd, ?_, ?_, ?_⟩, ?_, ?_⟩
  ·exact Around.frames_deeper hA
  ·rw [HF.bare.2.1];intro p hp;cases hp
  ·rw [HF.bare.2.2.1];intro p hp;cases hp
  ·rw [HF.bare.2.2.2];intro p hp;cases hp
  ·exact lin1 (.t (.a (.a .v0 .k1) (.m 2 .v1)) (.k 900)) (.t (.a (.a .v0 .k1) (.m 2 .v1)) (.k 900)) (.w [1,1]) rfl (.n2 _ _) hdep
  ·exact lin1 (.t (.a (.a .v0 (.k 3)) (.m 20 .v1)) (.k 9000)) (.t (.a (.a .v0 (.k 3)) (.m 20 .v1)) (.k 9000)) (.w [1,1]) rfl (.n2 _ _) hun
 let mk:List (PV×Value):=(List.range α.length).filterMap fun j=>(α[j]?).map fun a=>(.cell j, .ref a)
 have hmk:∀p∈mk,Rep α N p.1 p.2:=by
  intro p hp
  refine cps fun GC hGC=> ?_
  obtain ⟨j,_,e⟩:=List.mem_filterMap.mp hp
  refine hGC ?_
  cases q:α[j]? with
  | none=>rw [q] at e;cases e
  | some a=>rw [q] at e;simp at e;subst e;exact .cell q
 let hc:List (PV×Value):=mk++(cvars fi σ m++held)
 have hhc:∀p∈hc,Rep α N p.1 p.2:=by
  intro p hp
  rcases List.mem_append.mp hp with hp | hp
  ·exact hmk p hp
  ·rcases List.mem_append.mp hp with hp | hp
   ·exact cvars_rep R0 p hp
   ·exact R0.held p hp
 have Rj:RelAt G fj g L' ⟨vars0 fj.vnames.length pvs,σ.cells⟩ hc (fun y=>List.lookup y (params.zip vs).reverse) α N {s with heap:=h₁,toks:=s.toks+(params.zip vs).length}:=by
  refine ⟨F',N',R0.nd,R0.an,R0.len,R0.cells, ?_,hhc,Nat.lt_of_lt_of_le R0.tok (Nat.le_add_right _ _), ?_,R0.pin⟩
  rotate_left
  ·skip
   have:params.length≤fj.vnames.length:=by rw [←HF.pre];simp;exact Q65 (.n3 _ _ _) rfl
   simp [vars0];exact Q66 (.n4 _ _ _ _) hn this rfl
  intro i x qv e1 e2
  have e2':(vars0 fj.vnames.length pvs)[i]? =some qv:=e2
  unfold vars0 at e2'
  by_cases hi:i<pvs.length
  ·rw [List.getElem?_append_left hi] at e2'
   right
   refine cps fun GC hGC=> ?_
   obtain ⟨v,hv1,hv2⟩:=pair_mem_zip hv e2'
   refine hGC ?_
   have e3:params[i]? =some x:=by rw [←HF.pre,List.getElem?_take_of_lt (by exact Q67 (.n3 _ _ _) hn hi)];exact e1
   exact ⟨hu qv (List.mem_of_getElem? e2'),v,lookup_zip hpn e3 hv1,hr _ hv2⟩
  ·rw [List.getElem?_append_right (Nat.le_of_not_lt hi)] at e2'
   left
   have:=List.mem_of_getElem? e2'
   exact (List.mem_replicate.mp this).2
 have key:∀(fl:Fl) (σ₂:St) (rv:PV),F ⟨vars0 fj.vnames.length pvs,σ.cells⟩= .ok fl σ₂→(fl= .ret rv∨(fl= .next∧rv= .none))→pv=rv→σ'=⟨σ.vars,σ₂.cells⟩→
   wpAny (model G.prog G.w) (A.deeper (envOf fj.qual fj.scope L' f cdv)) (execs body (envOf fj.qual fj.scope L' f cdv))
    (fun fl s'=>LeaveK h₀ L m g R (match fl with | .ret v=>v | _=> .none) s')
    (fun e s'=>wpAny (model G.prog G.w) (A.deeper (envOf fj.qual fj.scope L' f cdv)) (leaving (envOf fj.qual fj.scope L' f cdv) e) (fun _ s''=>R (.error e) s'') (fun e' s''=>R (.error e') s'') s')
    {s with heap:=h₁,toks:=s.toks+(params.zip vs).length}:=by
  intro fl σ₂ rv hF hfl hpv hσ
  subst hpv;subst hσ
  refine HB _ g L' _ Cj hc _ _ fl σ₂ _ _ hF ⟨_,α,N,Rj⟩ fun flow h' t' FR=> ?_
  have fin:∀v,Rel G fj g L' σ₂ ((pv,v)::hc) (Sh s h' t')→LeaveK h₀ L m g R v (Sh s h' t'):=by
   intro v R2
   refine cps fun GC hGC=> ?_
   obtain ⟨m2,α2,N2,R2⟩:=R2
   refine hGC ?_
   refine ⟨L',m2,N2,R2.fr,R2.nw,fun F3 N3=>hQ v h' t' α2 N2 ⟨F3,N3,R2.nd,R2.an,R2.len,R2.cells, ?_, ?_,R2.tok,R0.vlen,R2.pin⟩ fun j a hj=> ?_⟩
   ·intro i x qv e1 e2
    rcases R0.vars i x qv e1 e2 with h | ⟨hu',w,hw,_⟩
    ·exact .inl h
    ·exact .inr ⟨hu',w,hw,R2.held (qv,w) (.tail _ (List.mem_append_right _ (List.mem_append_left _ (cvars_mem e1 e2 hu' hw))))⟩
   ·intro p hp
    rcases List.mem_cons.mp hp with rfl | hp
    ·exact R2.held _ (.head _)
    ·exact R2.held p (.tail _ (List.mem_append_right _ (List.mem_append_right _ hp)))
   ·have hm:((.cell j, .ref a):PV×Value)∈mk:=List.mem_filterMap.mpr ⟨j,List.mem_range.mpr (List.getElem?_eq_some_iff.mp hj).1,by rw [hj];rfl⟩
    have:=R2.held (.cell j, .ref a) (.tail _ (List.mem_append_left _ hm))
    refine cps fun GC hGC=> ?_
    obtain ⟨b,hb1,hb2⟩:=this.cell_inv
    refine hGC ?_
    cases hb2;exact hb1
  rcases hfl with rfl | ⟨rfl,rfl⟩
  ·cases flow with
   | ret v=>exact fin v FR
   | _=>exact FR.elim
  ·cases flow with
   | next=>exact fin .none (let ⟨m2,α2,N2,R2⟩:=FR;⟨m2,α2,N2,R2.hold .none⟩)
   | _=>exact FR.elim
 unfold callF at hf
 split at hf
 ·rename_i rv σ₂ e;cases hf;exact key _ _ _ e (.inl rfl) rfl rfl
 ·rename_i σ₂ e;cases hf;exact key _ _ _ e (.inr ⟨rfl,rfl⟩) rfl rfl
 ·cases hf
 ·cases hf
 ·cases hf
end
end Mine
end
section
open PySem PySem.W PySem.Calls PyProof.Rows
set_option maxRecDepth 10000
set_option tactic.hygienic false
namespace Mine
variable {α:List Addr}{N:List (Addr×Obj)}{p pv:PV}{v:Value}{n:Nat}{vs:List Value}{h₀:Heap}{L:Addr}{held:List (PV×Value)}{m:PySem.Str→Option Value}{s:Shared}{A:Around}{env:Env}
inductive Bel (n:Nat):PV→Prop where
 | none:Bel n .none
 | bool {b:Bool}:Bel n (.bool b)
 | int {i:Int}:Bel n (.int i)
 | str {l:List Nat}:Bel n (.str l)
 | cell {k:Nat}:k<n→Bel n (.cell k)
 | inst {C:Addr}{k:Nat}:k<n→Bel n (.inst C k)
 | seq {tup:Bool}{xs:List PV}:(∀x∈xs,Bel n x)→Bel n (.seq tup xs)
 | mat {e:Int}:Bel n (.mat e)
 | bm {k:Nat}:k<n→Bel n (.bm k)
 | glob {v:Value}:Bel n (.glob v)
 | other:Bel n .other
theorem lt_of_some {β:Type}{l:List β}{k:Nat}{a:β} (h:l[k]? =some a):k<l.length:=(List.getElem?_eq_some_iff.mp h).1
theorem Rep.bel (h:Rep α N pv v):Bel α.length pv:=by
 induction h with
 | none=>exact .none
 | bool=>exact .bool
 | int=>exact .int
 | str=>exact .str
 | cell h=>exact .cell (lt_of_some h)
 | inst _ _ h=>exact .inst (lt_of_some h)
 | seq _ _ hl _ ih=>
  refine .seq fun x hx=> ?_
  obtain ⟨i,hi⟩:=List.mem_iff_getElem?.mp hx
  obtain ⟨w,_,hm⟩:=pair_mem_zip hl hi
  exact ih _ hm
 | mat=>exact .mat
 | bm _ _ h=>exact .bm (lt_of_some h)
 | glob=>exact .glob
 | other=>exact .other
theorem Rep.cut (h:Rep α N pv v):Bel n pv→Rep (α.take n) N pv v:=by
 have sub:∀{a:Addr},a∉α→a∉α.take n:=fun h q=>h (List.mem_of_mem_take q)
 have get:∀{k:Nat}{a:Addr},k<n→α[k]? =some a→(α.take n)[k]? =some a:=fun hk e=>by rw [List.getElem?_take_of_lt hk];exact e
 induction h with
 | none=>exact fun _=> .none
 | bool=>exact fun _=> .bool
 | int=>exact fun _=> .int
 | str=>exact fun _=> .str
 | cell h=>intro b;cases b;exact .cell (get (by assumption) h)
 | inst h1 h2 h3=>intro b;cases b;exact .inst h1 (sub h2) (get (by assumption) h3)
 | seq h1 h2 hl _ ih=>intro b;cases b;exact .seq h1 (sub h2) hl fun p hp=>ih p hp ((by assumption:∀x∈_,Bel n x) p.1 (List.of_mem_zip hp).1)
 | mat h1 h2 h3 h4=>exact fun _=> .mat h1 (sub h2) h3 (sub h4)
 | bm h1 h2 h3=>intro b;cases b;exact .bm h1 (sub h2) (get (by assumption) h3)
 | glob=>exact fun _=> .glob
 | other=>exact fun _=> .other
theorem scal_bel (h:scal p=true):Bel n p:=by cases p <;> first | (cases h;done) | constructor
theorem safe_bel (h:safe n p=true) (hu:isUnb p=false):Bel n p:=by
 cases p with
 | none=>exact .none
 | bool b=>exact .bool
 | int i=>exact .int
 | str l=>exact .str
 | cell k=>exact .cell (of_decide_eq_true h)
 | inst C k=>exact .inst (of_decide_eq_true h)
 | seq t xs=>exact .seq fun x hx=>scal_bel (List.all_eq_true.mp h x hx)
 | mat e=>cases h
 | bm k=>cases h
 | glob v=>cases h
 | other=>cases h
 | unb=>cases hu
theorem forget_unb (n:Nat) (p:PV):isUnb (forget n p)=isUnb p:=by
 unfold forget
 split
 ·rfl
 ·rename_i h
  cases p <;> first | rfl | exact absurd rfl h
theorem forget_rep (h:Rep α N pv v) (hu:isUnb pv=false):Rep (α.take n) N (forget n pv) v:=by
 unfold forget
 split
 ·rename_i hs;exact h.cut (safe_bel hs hu)
 ·exact .other
theorem rep_unb (h:Rep α N pv v):isUnb pv=false:=by cases h <;> rfl
theorem filter_forget (n:Nat) (l:List PV):((l.map (forget n)).filter isUnb).length=(l.filter isUnb).length:=by
 induction l with
 | nil=>rfl
 | cons a l ih=>
  rw [List.map_cons]
  cases h:isUnb a with
  | true=>rw [List.filter_cons_of_pos (by rw [forget_unb];exact h),List.filter_cons_of_pos h,List.length_cons,List.length_cons,ih]
  | false=>rw [List.filter_cons_of_neg (by rw [forget_unb];simp [h]),List.filter_cons_of_neg (by simp [h]),ih]
theorem zip_map_mem {xs:List PV}{f:PV→PV}{p:PV×Value} (h:p∈(xs.map f).zip vs):∃x,(x,p.2)∈xs.zip vs∧p.1=f x:=by
 rw [List.zip_map_left] at h
 obtain ⟨q,hq,rfl⟩:=List.mem_map.mp h
 exact ⟨q.1,hq,rfl⟩
theorem forgetC_is {tabs:Tabs}{a:Addr}{c:PCell} (h:CellIs tabs α N a c):CellIs tabs (α.take n) N a (forgetC n c):=by
 cases c with
 | list xs=>
  refine cps fun GC hGC=> ?_
  obtain ⟨vs,m,h1,h2,h3,h4⟩:=h
  refine hGC ?_
  refine ⟨vs,m,h1,by rw [List.length_map];exact h2,fun p hp=> ?_,by rw [List.length_map];exact h4⟩
  refine cps fun GC hGC=> ?_
  obtain ⟨x,hx,e⟩:=zip_map_mem hp
  refine hGC ?_
  rw [e]
  exact forget_rep (h3 _ hx) (rep_unb (h3 _ hx))
 | bk id vals=>exact h
 | dct id vals=>
  refine cps fun GC hGC=> ?_
  obtain ⟨es,m,h1,h2,h3,h4,h5,h6,h7⟩:=h
  refine hGC ?_
  refine ⟨es,m,h1,by rw [List.length_map];exact h2,h3, ?_,h5,by rw [filter_forget];exact h6,h7⟩
  intro i x pv e1 e2
  rw [List.getElem?_map] at e2
  cases q:vals[i]? with
  | none=>rw [q] at e2;cases e2
  | some qv=>
   rw [q] at e2
   simp at e2
   subst e2
   rcases h4 i x qv e1 q with ⟨rfl,hg⟩ | ⟨hu,v,hg,hr⟩
   ·exact .inl ⟨rfl,hg⟩
   ·exact .inr ⟨by rw [forget_unb];exact hu,v,hg,forget_rep hr hu⟩
section
variable {G:Glb}{fi:FI}
theorem RelAt.trunc {vars:List PV}{cells:List PCell} (hn:n≤α.length)
  (R:RelAt G fi h₀ L ⟨vars,cells⟩ held m α N s) (hv:∀pv∈vars,isUnb pv=false→Bel n pv) (hh:∀p∈held,Bel n p.1):
  RelAt G fi h₀ L ⟨vars,(cells.take n).map (forgetC n)⟩ held m (α.take n) N s:=by
 refine ⟨R.fr,R.nw,R.nd,R.an.sublist (List.take_sublist _ _), ?_, ?_, ?_,fun p hp=>(R.held p hp).cut (hh p hp),R.tok,R.vlen,fun p hp=>⟨(R.pin p hp).1,fun q=>(R.pin p hp).2 (List.mem_of_mem_take q)⟩⟩
 ·have:=R.len
  skip
  have hl:α.length=cells.length:=R.len
  simp [hl]
 ·intro k a c ha hc
  have hc':((cells.take n).map (forgetC n))[k]? =some c:=hc
  rw [List.getElem?_map] at hc'
  have hk:k<n:=by have:=lt_of_some ha;simp at this;exact Q30 (.n4 _ _ _ _) this rfl
  rw [List.getElem?_take_of_lt hk] at ha hc'
  cases q:cells[k]? with
  | none=>rw [q] at hc';cases hc'
  | some c0=>
   rw [q] at hc'
   simp at hc'
   subst hc'
   exact forgetC_is (R.cells k a c0 ha q)
 ·intro i x pv e1 e2
  rcases R.vars i x pv e1 e2 with h | ⟨hu,v,hv1,hr⟩
  ·exact .inl h
  ·exact .inr ⟨hu,v,hv1,hr.cut (hv pv (List.mem_of_getElem? e2) hu)⟩
set_option tactic.hygienic true in
theorem callT_ok {fj:FI}{f:Addr}{params:List PySem.Str}{body:List Stmt}{F:PM Fl} (HF:FnAt G fj f params body) (HB:ExsR G fj body F)
  (C:Cx G fi A h₀ L env) (hlv:fj.lv<fi.lv)
  {σ σ':St}{pvs:List PV}{R:Result→Shared→Prop}
  (hf:callT fj.vnames.length F pvs σ= .ok pv σ') (hn:pvs.length=params.length) (hv:pvs.length=vs.length) (hu:∀p∈pvs,isUnb p=false) (hr:∀p∈pvs.zip vs,Rep α N p.1 p.2) (R0:RelAt G fi h₀ L σ held m α N s)
  (hQ:∀v h' t',Rel G fi h₀ L σ' ((pv,v)::held) (Sh s h' t')→R (.ok (.ret v)) (Sh s h' t')):
  codeAny (model G.prog G.w) A (.call (.ref f) ⟨vs,[]⟩) R s:=by
 unfold callT at hf
 split at hf
 ·rename_i rv σ₁ e1
  split at hf
  ·rename_i qv hb
   cases hf
   refine call_ok HF HB C.toCx0 (by have:=C.dep;exact Q31 (.n3 _ _ _) hlv this) (by have:=C.un;exact Q32 (.n3 _ _ _) hlv this) e1 hn hv hu hr R0 fun v h' t' α' N' R1 hα=>hQ v h' t' ?_
   have e1v:σ₁.vars=σ.vars:=by
    unfold callF at e1
    split at e1 <;> cases e1 <;> rfl
   obtain ⟨vars1,cells1⟩:=σ₁
   simp only at e1v
   subst e1v
   have hln:α.length=σ.cells.length:=R0.len
   have hle:σ.cells.length≤α'.length:=by
    rw [←hln]
    by_cases h0:α.length=0
    ·exact Q68 (.n2 _ _) h0
    ·have hlt:α.length-1<α.length:=by exact Q69 (.n2 _ _) h0 rfl
     have:=hα (α.length-1) _ (List.getElem?_eq_getElem hlt)
     have:=lt_of_some this
     exact Q33 (.n3 _ _ _) this rfl
   have hvb:∀pv∈σ.vars,isUnb pv=false→Bel σ.cells.length pv:=by
    intro qv hq hqu
    obtain ⟨i,hi⟩:=List.mem_iff_getElem?.mp hq
    have hil:i<fi.vnames.length:=by have:=lt_of_some hi;have:=R0.vlen;exact Q70 (.n3 _ _ _) (by assumption) this
    rcases R0.vars i _ qv (List.getElem?_eq_getElem hil) hi with h | ⟨_,w,_,hr'⟩
    ·rw [h] at hqu;cases hqu
    ·rw [←hln];exact hr'.bel
   have hhb:∀p∈held,Bel σ.cells.length p.1:=fun p hp=>by rw [←hln];exact (R0.held p hp).bel
   have T:=(R1.drop (held':=held) fun p hp=> .tail _ hp).trunc hle hvb hhb
   refine ⟨m,α'.take σ.cells.length,N',T.hold ?_⟩
   have hrep:=R1.held (rv,v) (.head _)
   unfold handBack at hb
   split at hb
   ·rename_i hs
    cases hb
    exact hrep.cut (safe_bel hs (rep_unb hrep))
   ·rename_i hs
    split at hb
    ·rename_i k
     split at hb
     ·rename_i xs hk
      split at hb
      ·rename_i hsc
       cases hb
       refine cps fun GC hGC=> ?_
       obtain ⟨a,ha,rfl⟩:=hrep.cell_inv
       obtain ⟨ws,n,c1,c2,c3,c4⟩:=R1.cells k a _ ha hk
       refine hGC ?_
       have hkn:¬k<σ.cells.length:=fun h=>hs (decide_eq_true h)
       refine .seq (tup:=false) (n:=n) c1 (fun hm=> ?_) c2 fun p hp=>(c3 p hp).cut (scal_bel (List.all_eq_true.mp hsc _ (List.of_mem_zip hp).1))
       obtain ⟨i,hi⟩:=List.mem_iff_getElem?.mp hm
       have hin:i<σ.cells.length:=by have:=lt_of_some hi;simp at this;exact Q30 (.n4 _ _ _ _) this rfl
       rw [List.getElem?_take_of_lt hin] at hi
       have:=nodup_inj R1.an hi ha
       exact Q71 (.n3 _ _ _) hkn hin this
      ·cases hb
     ·cases hb
    ·cases hb
  ·cases hf
 ·cases hf
 ·cases hf
theorem Call_any {E:Value→Shared→Prop}{M:Model}{o:Expr}{name:PySem.Str}{apos pos:Pos}{args:List Expr}{Q:Value→Shared→Prop}
  (hbase:attributeBase o name env (eval o env)=eval o env)
  (hform:methodCallForm args.length (backTo pos (starEach args env)) []=true) (hline:(apos.endLine==pos.line)=true)
  (h:wpAny M A (eval o env) (fun ov s₁=>∀pl,wpAny M A (getMethod ov name pl) (fun r s₂=>wpAny M A (callWith pos r.1 r.2 (backTo pos (starEach args env)) []) Q E s₂) E s₁) E s):
  wpAny M A (eval (.Call (.Attribute o name apos) args [] pos) env) Q E s:=by
 rw [arm_eval_Call,hbase]
 refine wpAny_bind (wpAny_mono h (fun ov s₁ h₁=> ?_) fun _ _ e=>e)
 refine wpAny_bind (wpAny_standAt ?_)
 have hform':methodCallForm (args.length+([]:List Keyword).length) (backTo pos (starEach args env)) (backToKw pos (keywordEach [] env))=true:=hform
 have hpos:methodCallPos true o env apos pos=pure pos:=by unfold methodCallPos;simp [hline]
 unfold methodCall
 rw [hform']
 refine wpAny_bind (wpAny_holding (wpAny_mono (h₁ _) (fun r s₂ h₂=> ?_) fun _ _ e=>e))
 exact wpAny_bind (wpAny_of_eq hpos h₂)
end
end Mine
end
section
open PySem PySem.W PySem.Calls PyProof.Rows
set_option maxRecDepth 10000
set_option tactic.hygienic false
namespace Mine
variable {fs:List (PM PV)}{args es:List Expr}{h₀:Heap}{C L f:Addr}{np pos:Pos}{held:List (PV×Value)}{s:Shared}{σ:St}{pvs:List PV}{m:PySem.Str→Option Value}{α:List Addr}{N:List (Addr×Obj)}{fj:FI}{body:List Stmt}{F:PM Fl}{x:PySem.Str}{id na:Nat}
section
variable {G:Glb}{fi:FI}
theorem evL_len:∀{σ σ':St}{pvs:List PV},evL fs σ= .ok pvs σ'→pvs.length=fs.length:=by
 induction fs with
 | nil=>intro σ σ' pvs h;obtain ⟨rfl,_⟩:=ret1_ok h;rfl
 | cons f fs ih=>
  intro σ σ' pvs h
  obtain ⟨a,σ₁,_,h1⟩:=bnd_ok h
  obtain ⟨as,σ₂,h2,h3⟩:=bnd_ok h1
  obtain ⟨rfl,_⟩:=ret1_ok h3
  rw [List.length_cons,List.length_cons,ih h2]
theorem EvsR.plain (H:EvsR G fi es fs) (pos:Pos) (env:Env):(backTo pos (starEach es env)).any (·.1)=false:=by
 induction H with
 | nil=>rfl
 | cons _ hst _ ih=>rw [hst env];exact ih
theorem EvsR.all (H:EvsR G fi es fs) (pos:Pos) (env:Env):(backTo pos (starEach es env)).all (!·.1)=true:=by
 induction H with
 | nil=>rfl
 | cons _ hst _ ih=>rw [hst env];exact ih
theorem EvsR.lens (H:EvsR G fi es fs):es.length=fs.length:=by
 induction H with
 | nil=>rfl
 | cons _ _ _ ih=>rw [List.length_cons,List.length_cons,ih]
theorem callWith_fn (H:EvsR G fi es fs) {A:Around}{env:Env} (C:Cx G fi A h₀ L env) {f:Value} (hk:keepIn G.K f=true) {first:List Value}{E:Value→Shared→Prop}
  {σ':St}{Q:Value→Shared→Prop} (hf:evL fs σ= .ok pvs σ') (R:Rel G fi h₀ L σ held s)
  (hQ:∀vs h' t',pvs.length=vs.length→Rel G fi h₀ L σ' (pvs.zip vs++held) (Sh s h' t')→wpAny (model G.prog G.w) A (call f (first++vs)) Q E (Sh s h' t')):
  wpAny (model G.prog G.w) A (callWith pos f first (backTo pos (starEach es env)) []) Q E s:=by
 have kin:∀{σ:St}{held:List (PV×Value)}{s:Shared},Rel G fi h₀ L σ held s→G.K.In s.heap:=fun R=>let ⟨_,_,_,R⟩:=R;C.X.keeps R.fr.keep
 have key:=spl_ok H C (pos:=pos) (E:=E) (Q:=fun vs s₁=>G.K.In s₁.heap∧wpAny (model G.prog G.w) A (call f (first++vs)) Q E s₁) hf R fun vs h' t' hl R1=>⟨kin R1,hQ vs h' t' hl R1⟩
 cases H with
 | nil=>
  obtain ⟨rfl,rfl⟩:=ret1_ok hf
  exact callWith_K0 (kin R) hk (hQ [] s.heap s.toks rfl R)
 | cons he hst Hr=>exact callWith_K C.X hk key (hst env) (Hr.plain pos env)
theorem zip_rep {vs:List Value} (hl:pvs.length=vs.length)
  (R:RelAt G fi h₀ L σ (pvs.zip vs++held) m α N s):(∀p∈pvs.zip vs,Rep α N p.1 p.2)∧∀p∈pvs,isUnb p=false:=by
 have h1:∀p∈pvs.zip vs,Rep α N p.1 p.2:=fun p hp=>R.held p (List.mem_append_left _ hp)
 refine ⟨h1,fun p hp=> ?_⟩
 obtain ⟨i,hi⟩:=List.mem_iff_getElem?.mp hp
 obtain ⟨v,_,hm⟩:=pair_mem_zip hl hi
 exact rep_unb (h1 _ hm)
theorem R_callG {params:List PySem.Str} (hx:EvR G fi (.Name x np) (pure1 (.glob (.ref f))))
  (H:EvsR G fi args fs) (hk:keepIn G.K (.ref f)=true) (HF:FnAt G fj f params body) (HB:ExsR G fj body F) (hlv:fj.lv<fi.lv) (hn:fs.length=params.length):
  EvR G fi (.Call (.Name x np) args [] pos) (bnd (evL fs) (callT fj.vnames.length F)):=by
 intro A h₀ L env C held s σ pv σ' Q E hf R hQ
 obtain ⟨pvs,σ₁,h1,h2⟩:=bnd_ok hf
 skip
 refine wpAny_bind (hx A h₀ L env C held s σ _ σ _ _ rfl R fun fv h' t' R1=> ?_)
 obtain ⟨α,N,r⟩:=inv1 R1
 have:=r.glob_inv
 subst this
 refine callWith_fn H C hk h1 R1.tail fun vs h'' t'' hl R2=> ?_
 obtain ⟨m,α,N,R2⟩:=R2
 obtain ⟨z1,z2⟩:=zip_rep hl R2
 refine wpAny_call (callT_ok HF HB C hlv h2 (by rw [evL_len h1,hn]) hl z2 z1 (R2.drop (held':=held) fun p hp=>List.mem_append_right _ hp) fun v h3 t3 R3=>hQ v h3 t3 R3)
noncomputable def methM (C:Addr) (id:Nat) (fo:PM PV) (fs:List (PM PV)) (g:List PV→PM PV):PM PV:=bnd fo fun o=>fun σ=>match instK C o with
 | some k=>(match dctAt k id σ with
  | some _=>bnd (evL fs) (fun as=>g (o::as)) σ
  | none=> .bad)
 | none=> .bad
set_option tactic.hygienic true in
theorem R_meth {params:List PySem.Str}{name:PySem.Str}{o:Expr}{apos:Pos}{fo:PM PV}{T:Bool}
  (ho:EvR G fi o fo) (hbase:∀env,attributeBase o name env (eval o env)=eval o env) (hline:(apos.endLine==pos.line)=true) (hlen:fs.length<29)
  (hg:plainGet G.K C name=true) (hf:findIn G.K (.ref C) name=some (some (.ref f))) (hfn:isFn G.K (.ref f)=true) (hk:keepIn G.K (.ref f)=true) (hnot:name∉G.tabs.t id)
  (H:EvsR G fi args fs) (HF:FnAt G fj f params body) (HB:ExsR G fj body F) (hlv:fj.lv<fi.lv) (hn:fs.length+1=params.length):
  EvR G fi (.Call (.Attribute o name apos) args [] pos) (methM C id fo fs (if T then callT fj.vnames.length F else callF fj.vnames.length F)):=by
 intro A h₀ L env Cx held s σ pv σ' Q E hf' R hQ
 refine cps fun GC hGC=> ?_
 obtain ⟨qo,σ₁,h1,h2⟩:=bnd_ok hf'
 refine hGC ?_
 refine Call_any (hbase env) ?_ hline (ho A h₀ L env Cx held s σ qo σ₁ _ _ h1 R fun vo h' t' R1=> ?_)
 ·unfold methodCallForm
  rw [H.all pos env,H.lens]
  simp;exact Q72 (.n1 _) hlen
 ·intro pl
  split at h2
  ·rename_i k hk1
   split at h2
   ·rename_i vals hv
    refine cps fun GC hGC=> ?_
    obtain ⟨pvs,σ₂,h3,h4⟩:=bnd_ok h2
    refine hGC ?_
    have ek:=instK_some hk1
    subst ek
    refine cps fun GC hGC=> ?_
    obtain ⟨m,α,N,R1'⟩:=(fun z=>z) R1
    obtain ⟨a,dx,rfl,hi1,hi2,hi3⟩:=(R1'.held (_,vo) (.head _)).inst_inv
    obtain ⟨es,n,c1,c2,c3,c4,c5,c6,c7⟩:=R1'.cells _ _ _ hi3 (dctAt_some hv)
    refine hGC ?_
    refine method_inst R1'.fr Cx.X (isInst (R1'.nw _ hi1).1 (R1'.nw _ c1).1) hg hf hfn (KTab.none hnot c5) ?_
    refine callWith_fn H Cx hk h3 R1 fun vs h'' t'' hl R2=> ?_
    refine cps fun GC hGC=> ?_
    obtain ⟨m,α,N,R2⟩:=R2
    obtain ⟨z1,z2⟩:=zip_rep hl R2
    refine hGC ?_
    have hself:Rep α N (.inst C k) (.ref a):=R2.held _ (List.mem_append_right _ (.head _))
    have q1:((PV.inst C k)::pvs).length=params.length:=by rw [List.length_cons,evL_len h3,hn]
    have q2:((PV.inst C k)::pvs).length=([Value.ref a]++vs).length:=by simp [hl]
    have q3:∀p∈(PV.inst C k)::pvs,isUnb p=false:=fun p hp=>by
     rcases List.mem_cons.mp hp with rfl | hp
     ·rfl
     ·exact z2 p hp
    have q4:∀p∈((PV.inst C k)::pvs).zip ([Value.ref a]++vs),Rep α N p.1 p.2:=fun p hp=>by
     rcases List.mem_cons.mp hp with rfl | hp
     ·exact hself
     ·exact z1 p hp
    have R3:=R2.drop (held':=held) fun p hp=>List.mem_append_right _ (.tail _ hp)
    cases T
    ·exact wpAny_call (call_ok HF HB Cx.toCx0 (by have:=Cx.dep;exact Q31 (.n3 _ _ _) hlv this) (by have:=Cx.un;exact Q32 (.n3 _ _ _) hlv this) h4 q1 q2 q3 q4 R3 fun v h3 t3 α' N' R4 _=>hQ v h3 t3 ⟨m,α',N',R4⟩)
    ·exact wpAny_call (callT_ok HF HB Cx hlv h4 q1 q2 q3 q4 R3 fun v h3 t3 R4=>hQ v h3 t3 R4)
   ·cases h2
  ·cases h2
theorem frames_under (A:Around) (C:Addr) (vs:List Value) (kw:List (PySem.Str×Value)):(A.under (.builtin "type.__call__" ⟨.ref C::vs,kw⟩)).frames=A.frames:=by
 obtain ⟨a,b,c,d,e⟩:=A
 cases c <;> rfl
noncomputable def newM (C:Addr) (id na nv:Nat) (F:PM Fl) (fs:List (PM PV)):PM PV:=bnd (evL fs) fun as=>fun σ=>
 match callF nv F (.inst C σ.cells.length::as) ⟨σ.vars,σ.cells++[.dct id (List.replicate na .unb)]⟩ with
 | .ok .none σ'=> .ok (.inst C σ.cells.length) σ'
 | _=> .bad
theorem RelAt.pushInst (R:RelAt G fi h₀ L σ held m α N s) {x dx:Addr}{h':Heap}
  (F:Fr h₀ L h' m) (N':News h₀ L h' ((x,instObj C dx)::(dx,dictOf [] 0)::N)) (l1:∀p∈N,p.1<dx) (l2:dx<x) (ht:(G.tabs.t id).length=na) (hnd:(G.tabs.t id).Nodup) (hna:na≤100):
  RelAt G fi h₀ L {σ with cells:=σ.cells++[.dct id (List.replicate na .unb)]} ((.inst C σ.cells.length, .ref x)::held) m (α++[dx]) ((x,instObj C dx)::(dx,dictOf [] 0)::N) {s with heap:=h'}:=by
 have hfr:∀p∈N,p.1≠dx:=fun p hp=>Nat.ne_of_lt (l1 p hp)
 have hfx:∀p∈(dx,dictOf [] 0)::N,p.1≠x:=fun p hp=>by
  rcases List.mem_cons.mp hp with rfl | hp
  ·exact Nat.ne_of_lt l2
  ·exact Nat.ne_of_lt (Nat.lt_trans (l1 p hp) l2)
 have hd:dx∉α:=fun h=>by obtain ⟨o,ho⟩:=R.alpha h;exact hfr _ ho rfl
 have hx:x∉α++[dx]:=fun h=>by
  rcases List.mem_append.mp h with h | h
  ·obtain ⟨o,ho⟩:=R.alpha h;exact hfx _ (.tail _ ho) rfl
  ·rw [List.mem_singleton] at h;exact Nat.ne_of_lt l2 h.symm
 have up:∀{pv v},Rep α N pv v→Rep (α++[dx]) ((x,instObj C dx)::(dx,dictOf [] 0)::N) pv v:=fun h=>
  (rep_grow hfr h (dictOf [] 0)).mono (fun p hp q=>⟨.tail _ hp,q⟩) (fun _ _ e=>e)
 refine ⟨F,N', ?_, ?_,by rw [List.length_append,List.length_append,R.len];rfl, ?_, ?_, ?_,R.tok,R.vlen,fun p hp=>⟨.tail _ (.tail _ (R.pin p hp).1),fun q=>(List.mem_append.mp q).elim (R.pin p hp).2 fun q=>hfr p (R.pin p hp).1 (List.mem_singleton.mp q)⟩⟩
 ·rw [List.map_cons,List.map_cons,List.nodup_cons,List.nodup_cons]
  refine ⟨fun hm=> ?_,fun hm=> ?_,R.nd⟩
  ·have hm':x∈((dx,dictOf [] 0)::N).map (·.1):=hm
   obtain ⟨p,hp,e⟩:=List.mem_map.mp hm'
   exact hfx p hp e
  ·obtain ⟨p,hp,e⟩:=List.mem_map.mp hm
   exact hfr p hp e
 ·rw [List.nodup_append]
  exact ⟨R.an,by simp,fun a ha b hb=>by rw [List.mem_singleton] at hb;subst hb;exact fun e=>hd (e▸ha)⟩
 ·intro j a cj ha hcj
  have hcj':(σ.cells++[.dct id (List.replicate na .unb)])[j]? =some cj:=hcj
  by_cases hj:j<α.length
  ·rw [List.getElem?_append_left hj] at ha
   rw [List.getElem?_append_left (R.len▸hj)] at hcj'
   exact (R.cells j a cj ha hcj').mono (fun _ h=> .tail _ (.tail _ h)) up
  ·rw [List.getElem?_append_right (Nat.le_of_not_lt hj)] at ha
   rw [List.getElem?_append_right (R.len▸Nat.le_of_not_lt hj)] at hcj'
   have hj0:j-α.length=0:=by
    cases q:j-α.length with
    | zero=>rfl
    | succ n=>rw [q] at ha;simp at ha
   rw [hj0] at ha
   rw [←R.len,hj0] at hcj'
   simp at ha hcj'
   subst ha;subst hcj'
   refine ⟨[],0, .tail _ (.head _),by simp [ht],hnd, ?_,(fun e he=>nomatch he), ?_,by exact lin2 (.l .v0 (.k 100)) (.q .v0 .v1) (.l .v1 (.k 100)) (.w [1,1,1]) rfl (.n2 _ _) ht hna⟩
   ·intro i y pv e1 e2
    exact .inl ⟨(List.mem_replicate.mp (List.mem_of_getElem? e2)).2,rfl⟩
   ·rw [ht,List.filter_replicate]
    simp [isUnb]
 ·intro i y qv e1 e2
  exact (R.vars i y qv e1 e2).imp (fun z=>z) fun ⟨q,v,e3,e4⟩=>⟨q,v,e3,up e4⟩
 ·intro p hp
  rcases List.mem_cons.mp hp with rfl | hp
  ·exact .inst (.head _) hx (by rw [←R.len];simp)
  ·exact up (R.held p hp)
theorem R_new {params:List PySem.Str} (hx:EvR G fi (.Name x np) (pure1 (.glob (.ref C))))
  (H:EvsR G fi args fs) (hk:keepIn G.K (.ref C)=true) (hm:makesIn G.K C=true) (hi:findIn G.K (.ref C) "__init__" =some (some (.ref f))) (hfn:isFn G.K (.ref f)=true)
  (HF:FnAt G fj f params body) (HB:ExsR G fj body F) (hlv:fj.lv+1<fi.lv) (hn:fs.length+1=params.length) (ht:(G.tabs.t id).length=na) (hnd:(G.tabs.t id).Nodup) (hna:na≤100):
  EvR G fi (.Call (.Name x np) args [] pos) (newM C id na fj.vnames.length F fs):=by
 intro A h₀ L env Cx' held s σ pv σ' Q E hf R hQ
 refine cps fun GC hGC=> ?_
 obtain ⟨pvs,σ₁,h1,h2⟩:=bnd_ok hf
 refine hGC ?_
 skip
 refine wpAny_bind (hx A h₀ L env Cx' held s σ _ σ _ _ rfl R fun fv h' t' R1=> ?_)
 refine cps fun GC hGC=> ?_
 obtain ⟨α,N,r⟩:=inv1 R1
 refine hGC ?_
 have:=r.glob_inv
 subst this
 refine callWith_fn H Cx' hk h1 R1.tail fun vs h'' t'' hl R2=> ?_
 refine cps fun GC hGC=> ?_
 obtain ⟨m,α,N,R2⟩:=R2
 refine hGC ?_
 refine call_cls R2.fr Cx'.X R2.nw hm hi hfn fun y dx h3 F3 N3 l1 l2=> ?_
 have R3:=R2.pushInst F3 N3 l1 l2 ht hnd hna
 refine cps fun GC hGC=> ?_
 obtain ⟨A₀,base,outer,env0,B,hA,hfr,hek⟩:=Cx'.B
 have Cu:Cx0 G fi (A.under (.builtin "type.__call__" ⟨.ref C::([]++vs),[]⟩)) h₀ L env:=
  ⟨Cx'.ok,Cx'.isenv,Cx'.sc,Cx'.glo,Cx'.bui,Cx'.X,Cx'.T,⟨A₀,base,outer,env0,B,by rw [frames_under];exact hA,hfr,hek⟩,Cx'.hd,Cx'.bs,Cx'.bd,Cx'.cb⟩
 obtain ⟨z1,z2⟩:=zip_rep hl R2
 refine hGC ?_
 have up:∀{pv v},Rep α N pv v→Rep (α++[dx]) ((y,instObj C dx)::(dx,dictOf [] 0)::N) pv v:=fun h=>
  (rep_grow (fun p hp=>Nat.ne_of_lt (l1 p hp)) h (dictOf [] 0)).mono (fun p hp q=>⟨.tail _ hp,q⟩) (fun _ _ e=>e)
 split at h2
 ·rename_i σ₂ e2
  cases h2
  refine call_ok HF HB Cu (by rw [depth_under_make];have:=Cx'.dep;exact lin2 (.t (.a (.a (.a .v0 .k1) .k1) (.m 2 .v1)) (.k 900)) (.t (.a .v1 .k1) .v2) (.t (.a .v0 (.m 2 .v2)) (.k 900)) (.w [1,2,1]) rfl (.n3 _ _ _) hlv this) (by rw [units_under_make];have:=Cx'.un;exact lin2 (.t (.a (.a (.a .v0 .k1) (.k 3)) (.m 20 .v1)) (.k 9000)) (.t (.a .v1 .k1) .v2) (.t (.a .v0 (.m 20 .v2)) (.k 9000)) (.w [1,20,1]) rfl (.n3 _ _ _) hlv this) e2 (by rw [List.length_cons,evL_len h1,hn]) (by simp [hl]) ?_ ?_ R3 ?_
  ·intro p hp
   rcases List.mem_cons.mp hp with rfl | hp
   ·rfl
   ·exact z2 p hp
  ·intro p hp
   rcases List.mem_cons.mp hp with rfl | hp
   ·exact R3.held _ (.head _)
   ·exact up (z1 p hp)
  ·intro v h4 t4 α' N' R4 _
   have:=(R4.held (_,v) (.head _)).none_inv
   subst this
   refine ⟨rfl,hQ _ h4 t4 ⟨m,α',N',R4.drop fun p hp=> ?_⟩⟩
   rcases List.mem_cons.mp hp with rfl | hp
   ·exact .tail _ (.head _)
   ·exact .tail _ (.tail _ (List.mem_append_right _ hp))
 ·cases h2
end
end Mine
end
section
open PySem PySem.W PySem.Calls PyProof.Rows
set_option maxRecDepth 10000
set_option tactic.hygienic false
namespace Mine
variable {v:Value}{fs:List (PM PV)}{pos:Pos}{σ σ':St}{pvs:List PV}{args:List Expr}{l:List Nat}{vs:List Value}{a b:PV}
noncomputable def CWith (G:Glb) (v:Value):Prop:=
 ∀(fi:FI) (A:Around) (h₀:Heap) (L:Addr) (env:Env),Cx G fi A h₀ L env→∀(es:List Expr) (fs:List (PM PV)),EvsR G fi es fs→∀(first:List Value) (pos:Pos) (E:Value→Shared→Prop)
  (held:List (PV×Value)) (s:Shared) (σ σ':St) (pvs:List PV) (Q:Value→Shared→Prop),evL fs σ= .ok pvs σ'→Rel G fi h₀ L σ held s→
  (∀vs h' t',pvs.length=vs.length→Rel G fi h₀ L σ' (pvs.zip vs++held) (Sh s h' t')→wpAny (model G.prog G.w) A (call v (first++vs)) Q E (Sh s h' t'))→
  wpAny (model G.prog G.w) A (callWith pos v first (backTo pos (starEach es env)) []) Q E s
noncomputable def BltOp (G:Glb) (v:Value) (g:List PV→PM PV):Prop:=
 ∀(fi:FI) (A:Around) (h₀:Heap) (L:Addr) (env:Env),Cx G fi A h₀ L env→∀(held:List (PV×Value)) (s:Shared) (σ σ':St) (pvs:List PV) (vs:List Value) (c:PV) (Q:Value→Shared→Prop) (E:Value→Shared→Prop),
  g pvs σ= .ok c σ'→pvs.length=vs.length→Rel G fi h₀ L σ (pvs.zip vs++held) s→(∀v h' t',Rel G fi h₀ L σ' ((c,v)::held) (Sh s h' t')→Q v (Sh s h' t'))→wpAny (model G.prog G.w) A (call v vs) Q E s
section
variable {G:Glb}{fi:FI}
theorem cw_fn (hk:keepIn G.K v=true):CWith G v:=fun _ _ _ _ _ C _ _ H _ _ _ _ _ _ _ _ _ hf R hQ=>callWith_fn H C hk hf R hQ
theorem evalArgs_spl {A:Around}{h₀:Heap}{L:Addr}{env:Env} (C:Cx G fi A h₀ L env) {es:List Expr} (H:EvsR G fi es fs) {E:Value→Shared→Prop}{f:Value}
  {held:List (PV×Value)}{s:Shared}{Q:Args→Shared→Prop} (hf:evL fs σ= .ok pvs σ') (R:Rel G fi h₀ L σ held s)
  (hQ:∀vs h' t',pvs.length=vs.length→Rel G fi h₀ L σ' (pvs.zip vs++held) (Sh s h' t')→Q {pos:=vs} (Sh s h' t')):
  wpAny (model G.prog G.w) A (evalArgs f true (backTo pos (starEach es env)) []) Q E s:=by
 have key:=spl_ok H C (pos:=pos) (E:=E) (Q:=fun vs s₁=>Q {pos:=vs} s₁) hf R hQ
 cases H with
 | nil=>
  obtain ⟨rfl,rfl⟩:=ret1_ok hf
  exact evalArgs_nil3 (hQ [] s.heap s.toks rfl R)
 | cons he hst Hr=>
  rw [hst env] at key ⊢
  exact Calls.evalArgs_plain key
theorem cw_builtin {id:String}:CWith G (.builtin id):=fun _ _ _ _ env C _ _ H _ pos _ _ _ _ _ _ _ hf R hQ=>
 Calls.callWith_builtin (H.plain pos env) (evalArgs_spl C H hf R fun vs h' t' hl R1=>hQ vs h' t' hl R1)
theorem cw_type {T:String}:CWith G (.type T):=fun _ _ _ _ env C _ _ H _ pos _ _ _ _ _ _ _ hf R hQ=>
 PySem.callWith_type (H.plain pos env) (evalArgs_spl C H hf R fun vs h' t' hl R1=>hQ vs h' t' hl R1)
theorem R_bcall {x:PySem.Str}{np:Pos}{g:List PV→PM PV} (hx:EvR G fi (.Name x np) (pure1 (.glob v))) (H:EvsR G fi args fs) (cw:CWith G v) (hb:BltOp G v g):
  EvR G fi (.Call (.Name x np) args [] pos) (bnd (evL fs) g):=by
 intro A h₀ L env C held s σ pv σ' Q E hf R hQ
 obtain ⟨pvs,σ₁,h1,h2⟩:=bnd_ok hf
 skip
 refine wpAny_bind (hx A h₀ L env C held s σ _ σ _ _ rfl R fun fv h' t' R1=> ?_)
 obtain ⟨α,N,r⟩:=inv1 R1
 have:=r.glob_inv
 subst this
 exact cw fi A h₀ L env C args fs H [] pos E held _ σ σ₁ pvs Q h1 R1.tail fun vs h'' t'' hl R2=>hb fi A h₀ L env C held _ σ₁ σ' pvs vs pv Q E h2 hl R2 hQ
noncomputable def SelfOk (G:Glb) (T:String) (ok:PV→St→Bool):Prop:=
 ∀(fi:FI) (A:Around) (h₀:Heap) (L:Addr) (env:Env),Cx G fi A h₀ L env→∀(held:List (PV×Value)) (s:Shared) (σ:St) (pv:PV) (v:Value),ok pv σ=true→Rel G fi h₀ L σ ((pv,v)::held) s→
  s.TypeIs v T∧∀a,v= .ref a→∃o,s.heap.get? a=some o∧o.dict=none
noncomputable def bmethM (ok:PV→St→Bool) (fo:PM PV) (fs:List (PM PV)) (g:List PV→PM PV):PM PV:=bnd fo fun o=>fun σ=>if ok o σ then bnd (evL fs) (fun as=>g (o::as)) σ else .bad
theorem R_bmeth {T:String}{ok:PV→St→Bool}{name:PySem.Str}{id:String}{o:Expr}{apos:Pos}{fo:PM PV}{g:List PV→PM PV} (hs:SelfOk G T ok) (pa:PlainAttrs T) (slot:Slot T name id)
  (hty:typeOf (.builtin id)=pure (.type "method_descriptor")) (ho:EvR G fi o fo) (hbase:∀env,attributeBase o name env (eval o env)=eval o env) (hline:(apos.endLine==pos.line)=true) (hlen:fs.length<29)
  (H:EvsR G fi args fs) (hb:BltOp G (.builtin id) g):EvR G fi (.Call (.Attribute o name apos) args [] pos) (bmethM ok fo fs g):=by
 intro A h₀ L env C held s σ pv σ' Q E hf R hQ
 refine cps fun GC hGC=> ?_
 obtain ⟨qo,σ₁,h1,h2⟩:=bnd_ok hf
 refine hGC ?_
 refine Call_any (hbase env) ?_ hline (ho A h₀ L env C held s σ qo σ₁ _ _ h1 R fun vo h' t' R1=> ?_)
 ·unfold methodCallForm
  rw [H.all pos env,H.lens]
  simp;exact Q72 (.n1 _) hlen
 ·intro pl
  split at h2
  ·rename_i hok
   refine cps fun GC hGC=> ?_
   obtain ⟨pvs,σ₂,h3,h4⟩:=bnd_ok h2
   obtain ⟨ht,hd⟩:=hs fi A h₀ L env C held _ σ₁ qo vo hok R1
   refine hGC ?_
   refine getMethod_builtin ht pa slot hty hd ?_
   refine cw_builtin fi A h₀ L env C args fs H [vo] pos E _ _ σ₁ σ₂ pvs Q h3 R1 fun vs h'' t'' hl R2=> ?_
   refine hb fi A h₀ L env C held _ σ₂ σ' (qo::pvs) ([vo]++vs) pv Q E h4 (by simp [hl]) (R2.drop fun p hp=> ?_) hQ
   rcases List.mem_cons.mp hp with rfl | hp
   ·exact List.mem_append_right _ (.head _)
   ·rcases List.mem_append.mp hp with hp | hp
    ·exact List.mem_append_left _ hp
    ·exact List.mem_append_right _ (.tail _ hp)
  ·cases h2
noncomputable def okStr:PV→St→Bool
 | .str _,_=>true
 | _,_=>false
noncomputable def okList:PV→St→Bool
 | .cell k,σ=>(cellL k σ).isSome
 | _,_=>false
theorem self_str:SelfOk G "str" okStr:=by
 intro fi A h₀ L env C held s σ pv v ok R
 cases pv <;> first | (cases ok;done) | skip
 obtain ⟨α,N,r⟩:=inv1 R
 obtain ⟨t,e9⟩:=r.str_inv;rw [e9];clear e9
 exact ⟨typeIs_str _ _ _,fun _ e=>nomatch e⟩
theorem self_list:SelfOk G "list" okList:=by
 intro fi A h₀ L env C held s σ pv v ok R
 cases pv <;> first | (cases ok;done) | skip
 refine cps fun GC hGC=> ?_
 obtain ⟨xs,hx⟩:=Option.isSome_iff_exists.mp ok
 obtain ⟨m,α,N,R⟩:=R
 obtain ⟨a,ha,rfl⟩:=(R.held (_,v) (.head _)).cell_inv
 obtain ⟨vs,n,h1,h2,h3,h4,h5⟩:=R.listAt hx ha
 refine hGC ?_
 exact ⟨h5.typeIs,fun b e=>by cases e;exact ⟨_,(R.nw _ h1).1,rfl⟩⟩
theorem len_s {β:Type}{l:List β}{n:Nat} (h:l.length=n+1):∃a r,l=a::r∧r.length=n:=by
 cases l with
 | nil=>cases h
 | cons a r=>exact ⟨a,r,rfl,Nat.succ.inj h⟩
theorem mk_one (h:vs.length=1):∃a,vs=[a]:=List.length_eq_one_iff.mp h
theorem mk_two (h:vs.length=2):∃a b,vs=[a,b]:=by
 obtain ⟨a,r,rfl,h'⟩:=len_s h
 obtain ⟨b,rfl⟩:=mk_one h'
 exact ⟨a,b,rfl⟩
theorem mk_three (h:vs.length=3):∃a b c,vs=[a,b,c]:=by
 obtain ⟨a,r,rfl,h'⟩:=len_s h
 obtain ⟨b,c,rfl⟩:=mk_two h'
 exact ⟨a,b,c,rfl⟩
theorem mk_four (h:vs.length=4):∃a b c d,vs=[a,b,c,d]:=by
 obtain ⟨a,r,rfl,h'⟩:=len_s h
 obtain ⟨b,c,d,rfl⟩:=mk_three h'
 exact ⟨a,b,c,d,rfl⟩
noncomputable def g1 {α:Type} (f:PV→PM α):List PV→PM α
 | [a]=>f a
 | _=>badM
noncomputable def g2 {α:Type} (f:PV→PV→PM α):List PV→PM α
 | a::r=>g1 (f a) r
 | _=>badM
noncomputable def g3 {α:Type} (f:PV→PV→PV→PM α):List PV→PM α
 | a::r=>g2 (f a) r
 | _=>badM
noncomputable def g4 {α:Type} (f:PV→PV→PV→PV→PM α):List PV→PM α
 | a::r=>g3 (f a) r
 | _=>badM
inductive G1 {α:Type} (f:PV→PM α) (σ:St) (c:α) (σ':St):List PV→Prop
 | mk (a:PV) (h:f a σ= .ok c σ'):G1 f σ c σ' [a]
inductive G2 {α:Type} (f:PV→PV→PM α) (σ:St) (c:α) (σ':St):List PV→Prop
 | mk (a b:PV) (h:f a b σ= .ok c σ'):G2 f σ c σ' [a,b]
inductive G3 {α:Type} (f:PV→PV→PV→PM α) (σ:St) (c:α) (σ':St):List PV→Prop
 | mk (a b d:PV) (h:f a b d σ= .ok c σ'):G3 f σ c σ' [a,b,d]
inductive G4 {α:Type} (f:PV→PV→PV→PV→PM α) (σ:St) (c:α) (σ':St):List PV→Prop
 | mk (a b d e:PV) (h:f a b d e σ= .ok c σ'):G4 f σ c σ' [a,b,d,e]
theorem g1_ok {α:Type}{f:PV→PM α}{c:α} (h:g1 f pvs σ= .ok c σ'):G1 f σ c σ' pvs:=by
 cases pvs with
 | nil=>cases h
 | cons a r=>cases r with
  | nil=>exact .mk a h
  | cons b r=>cases h
theorem g2_ok {α:Type}{f:PV→PV→PM α}{c:α} (h:g2 f pvs σ= .ok c σ'):G2 f σ c σ' pvs:=by
 cases pvs with
 | nil=>cases h
 | cons a r=>cases g1_ok (f:=f a) h with | mk b h=>exact .mk a b h
theorem g3_ok {α:Type}{f:PV→PV→PV→PM α}{c:α} (h:g3 f pvs σ= .ok c σ'):G3 f σ c σ' pvs:=by
 cases pvs with
 | nil=>cases h
 | cons a r=>cases g2_ok (f:=f a) h with | mk b d h=>exact .mk a b d h
theorem g4_ok {α:Type}{f:PV→PV→PV→PV→PM α}{c:α} (h:g4 f pvs σ= .ok c σ'):G4 f σ c σ' pvs:=by
 cases pvs with
 | nil=>cases h
 | cons a r=>cases g3_ok (f:=f a) h with | mk b d e h=>exact .mk a b d e h
noncomputable def onS {α:Type} (f:List Nat→PM α):PV→PM α
 | .str l=>f l
 | _=>badM
noncomputable def onI {α:Type} (f:Int→PM α):PV→PM α
 | .int i=>f i
 | _=>badM
noncomputable def on1 {α:Type} (f:Nat→PM α):List Nat→PM α
 | [c]=>f c
 | _=>badM
inductive OnS {α:Type} (f:List Nat→PM α) (σ:St) (c:α) (σ':St):PV→Prop
 | mk (l:List Nat) (h:f l σ= .ok c σ'):OnS f σ c σ' (.str l)
inductive OnI {α:Type} (f:Int→PM α) (σ:St) (c:α) (σ':St):PV→Prop
 | mk (i:Int) (h:f i σ= .ok c σ'):OnI f σ c σ' (.int i)
inductive On1 {α:Type} (f:Nat→PM α) (σ:St) (c:α) (σ':St):List Nat→Prop
 | mk (k:Nat) (h:f k σ= .ok c σ'):On1 f σ c σ' [k]
theorem onS_ok {α:Type}{f:List Nat→PM α}{c:α} (h:onS f a σ= .ok c σ'):OnS f σ c σ' a:=by
 cases a <;> first | exact .mk _ h | cases h
theorem onI_ok {α:Type}{f:Int→PM α}{c:α} (h:onI f a σ= .ok c σ'):OnI f σ c σ' a:=by
 cases a <;> first | exact .mk _ h | cases h
theorem on1_ok {α:Type}{f:Nat→PM α}{c:α} (h:on1 f l σ= .ok c σ'):On1 f σ c σ' l:=by
 cases l with
 | nil=>cases h
 | cons a r=>cases r with
  | nil=>exact .mk a h
  | cons b r=>cases h
noncomputable def lenG:List PV→PM PV:=g1 fun a=>match a with
 | .str l=>fun σ=>if l.length≤sizeMax then .ok (.int l.length) σ else .bad
 | .cell k=>fun σ=>match cellL k σ with
  | some xs=> .ok (.int xs.length) σ
  | none=> .bad
 | .seq tup xs=>fun σ=>if tup=false∧xs.length≤sizeMax then .ok (.int xs.length) σ else .bad
 | _=>badM
theorem lenG_str (h:l.length≤sizeMax):lenG [.str l] σ= .ok (.int l.length) σ:=if_pos h
theorem lenG_seq {l:List PV} (h:l.length≤sizeMax):lenG [.seq false l] σ= .ok (.int l.length) σ:=if_pos ⟨rfl,h⟩
theorem lenG_cell {k:Nat}{l:List PV} (h:cellL k σ=some l):lenG [.cell k] σ= .ok (.int l.length) σ:=by
 show (match cellL k σ with
  | some xs=>(Res.ok (PV.int xs.length) σ:Res PV)
  | none=> .bad)=_
 rw [h]
theorem one_arg (h:pvs.length=vs.length) (e:pvs=[a]):∃v,vs=[v]:=mk_one (by rw [←h,e];rfl)
set_option tactic.hygienic true in
theorem b_len:BltOp G (.builtin "len") lenG:=by
 intro fi A h₀ L env C held s σ σ' pvs vs c Q E hf hl R hQ
 replace q:=g1_ok hf;clear hf;obtain ⟨a,hf⟩:=q
 obtain ⟨v,rfl⟩:=one_arg hl rfl
 replace R:Rel G fi h₀ L σ ((a,v)::held) s:=R
 cases a with
 | str l=>
  obtain ⟨α,N,r⟩:=inv1 R
  obtain ⟨t,e9⟩:=r.str_inv;rw [e9];clear e9
  replace hf:(if l.length≤sizeMax then .ok (.int l.length) σ else .bad)=Res.ok c σ':=hf
  split at hf
  ·rename_i hz
   cases hf
   unfold sizeMax at hz
   refine SBL.len (by rw [mk_len];exact Q12 (.n1 _) hz) ?_
   rw [mk_len]
   exact hQ _ s.heap (s.toks+2) ((R.tail.toks (Nat.succ_pos _)).holdP .int)
  ·cases hf
 | cell k=>
  replace hf:(match cellL k σ with
   | some xs=> .ok (.int xs.length) σ
   | none=> .bad)=Res.ok c σ':=hf
  split at hf
  ·rename_i xs hx
   cases hf
   refine cps fun GC hGC=> ?_
   obtain ⟨m,α,N,R'⟩:=R
   obtain ⟨a,ha,rfl⟩:=(R'.held (_,v) (.head _)).cell_inv
   obtain ⟨ws,n,h1,h2,h3,h4,h5⟩:=R'.listAt hx ha
   refine hGC ?_
   refine len_list h5 (by rw [List.size_toArray, ←h2];exact Q12 (.n1 _) h4) ?_
   rw [List.size_toArray, ←h2]
   exact hQ _ s.heap (s.toks+2) ⟨m,α,N,((R'.drop fun p hp=> .tail _ hp).toks (Nat.succ_pos _)).hold .int⟩
  ·cases hf
 | seq tup xs=>
  replace hf:(if tup=false∧xs.length≤sizeMax then .ok (.int xs.length) σ else .bad)=Res.ok c σ':=hf
  split at hf
  ·rename_i hz
   obtain ⟨e,hz⟩:=hz
   cases hf
   subst e
   refine cps fun GC hGC=> ?_
   obtain ⟨m,α,N,R'⟩:=R
   obtain ⟨a,ws,n,rfl,h1,_,h2,h3⟩:=(R'.held (_,v) (.head _)).seq_inv
   refine hGC ?_
   unfold sizeMax at hz
   refine len_list (items:=ws.toArray) ⟨_,(R'.nw _ h1).1,rfl,n,rfl⟩ (by rw [List.size_toArray, ←h2];exact Q12 (.n1 _) hz) ?_
   rw [List.size_toArray, ←h2]
   exact hQ _ s.heap (s.toks+2) ⟨m,α,N,((R'.drop fun p hp=> .tail _ hp).toks (Nat.succ_pos _)).hold .int⟩
  ·cases hf
 | _=>cases hf
noncomputable def appendG:List PV→PM PV:=g2 fun a x=>match a with
 | .cell k=>appG k x
 | _=>badM
theorem two_args (h:pvs.length=vs.length) (e:pvs=[a,b]):∃v w,vs=[v,w]:=mk_two (by rw [←h,e];rfl)
theorem b_append:BltOp G (.builtin "list.append") appendG:=by
 intro fi A h₀ L env C held s σ σ' pvs vs c Q E hf hl R hQ
 replace q:=g2_ok hf;clear hf;obtain ⟨a,x,hf⟩:=q
 cases a with
 | cell k=>
  refine cps fun GC hGC=> ?_
  obtain ⟨v,u,rfl⟩:=two_args hl rfl
  replace R:Rel G fi h₀ L σ ((.cell k,v)::(x,u)::held) s:=R
  obtain ⟨m,α,N,R'⟩:=R
  obtain ⟨a,ha,rfl⟩:=(R'.held (_,v) (.head _)).cell_inv
  obtain ⟨ws,n,w1,w2,w3⟩:=append_ok (Q:=Q) hf R' ha (R'.held (_,u) (.tail _ (.head _))) fun h' N' e R2=>by
   subst e;exact hQ .none h' s.toks ⟨m,α,N',(R2.drop fun p hp=> .tail _ (.tail _ hp)).hold .none⟩
  refine hGC ?_
  exact append_at (hsz:=w2) w1 fun h' hs ho=>w3 h' hs ho
 | _=>cases hf
noncomputable def isInt:PV→Bool
 | .glob (.type t)=>t == "int"
 | _=>false
noncomputable def isiG:List PV→PM PV:=g2 fun a b=>onI (fun _=>fun σ=>bif isInt b then .ok (.bool true) σ else .bad) a
theorem isInt_eq (h:isInt b=true):b= .glob (.type "int"):=by
 cases b with
 | glob v=>cases v with
  | type t=>rw [eq_of_beq (show (t == "int")=true from h)]
  | _=>cases h
 | _=>cases h
theorem b_isi:BltOp G (.builtin "isinstance") isiG:=by
 intro fi A h₀ L env C held s σ σ' pvs vs c Q E hf hl R hQ
 replace q:=g2_ok hf;clear hf;obtain ⟨a,b,hf⟩:=q
 replace q:=onI_ok hf;clear hf;obtain ⟨i,hf⟩:=q
 obtain ⟨v,u,rfl⟩:=two_args hl rfl
 replace R:Rel G fi h₀ L σ ((.int i,v)::(b,u)::held) s:=R
 replace hf:(bif isInt b then Res.ok (.bool true) σ else .bad)=Res.ok c σ':=hf
 cases hb:isInt b with
 | true=>
  rw [hb] at hf
  cases hf
  rw [isInt_eq hb] at R
  obtain ⟨α,N,r1,r2⟩:=inv2 R
  have:=r1.glob_inv;subst this
  obtain ⟨t,e9⟩:=r2.int_inv;rw [e9];clear e9
  exact PySem.IsiPair.int_int (hQ _ s.heap s.toks (R.tail.tail.holdP .bool))
 | false=>rw [hb] at hf;cases hf
end
end Mine
end
section
open PySem PySem.W PySem.Calls PyProof.Rows Builtin Builtin.Str
set_option maxRecDepth 10000
set_option tactic.hygienic false
namespace Mine
noncomputable def expTab (n:Nat):Nat→List Nat→List Nat
 | _,[]=>[]
 | col,c::r=>if c=9 then List.replicate (n-col%n) 32++expTab n (col+(n-col%n)) r else c::expTab n (if c==10||c==13 then 0 else col+1) r
theorem expTab_id (n:Nat):∀(l:List Nat) (col:Nat),9∉l→expTab n col l=l
 | [],_,_=>rfl
 | c::r,col,h=>by
  unfold expTab
  have hc:c≠9:=fun e=>h (e▸ .head _)
  rw [if_neg hc,expTab_id n r _ fun q=>h (.tail _ q)]
theorem expTab_len (n:Nat):∀(l:List Nat) (col:Nat),(expTab n col l).length≤l.length*(n+1)
 | [],_=>by simp [expTab]
 | c::r,col=>by
  unfold expTab
  split
  ·have:=expTab_len n r (col+(n-col%n))
   rw [List.length_append,List.length_replicate,List.length_cons,Nat.add_mul];exact lin2 (.l (.a .v4 .v2) (.a .v3 (.m 1 (.a .v0 .k1)))) (.l .v2 .v3) (.b 4 .v0 .v1) (.d 2 (.w [0,1,1,1]) (.w [0,1,1,1])) rfl (.n5 _ _ _ _ _) this rfl
  ·have:=expTab_len n r (if c==10||c==13 then 0 else col+1)
   rw [List.length_cons,List.length_cons,Nat.add_mul];exact lin1 (.l (.a .v0 .k1) (.a .v1 (.m 1 (.a .v2 .k1)))) (.l .v0 .v1) (.w [1,1]) rfl (.n3 _ _ _) this
noncomputable def expB (n:Int) (c:Nat) (st:Array Nat×Nat):Sem (ForInStep (Array Nat×Nat)):=
 if (c==9)=true then
  (if tooLong (st.1.size+(if n>0 then n.toNat-st.2%n.toNat else 0))=true then (unsupported "str.expandtabs:memory" >>= fun (_:PUnit)=>pure (.yield (st.1++Array.replicate (if n>0 then n.toNat-st.2%n.toNat else 0) 32,st.2+(if n>0 then n.toNat-st.2%n.toNat else 0))))
  else pure (.yield (st.1++Array.replicate (if n>0 then n.toNat-st.2%n.toNat else 0) 32,st.2+(if n>0 then n.toNat-st.2%n.toNat else 0))))
 else pure (.yield (st.1.push c,if (c==10||c==13)=true then 0 else st.2+1))
theorem expandtabs_tree (l:List Nat) (n:Int) (t u:Tok) (h0:0<n) (h1:n<2^31): «str.expandtabs» ⟨[.str ⟨l.toArray⟩ t, .int n u],[]⟩=
  (if (!l.toArray.contains 9)=true then (do rule "str.expandtabs.no-tab";ret (.str ⟨l.toArray⟩ t)) else (forIn l.toArray ((#[],0):Array Nat×Nat) (expB n) >>= fun r=>retStr ⟨r.1⟩)):=by
 have e1:(decide (n < -(2^31:Int))||decide (n≥2^31))=false:=by
  rw [Bool.or_eq_false_iff];exact ⟨decide_eq_false (by exact lin1 (.n (.T .v0 (.g (.k 2147483648)))) (.T .k0 .v0) (.w [1,1]) rfl (.z _ .o) h0),decide_eq_false (by exact lin1 (.n (.L (.k 2147483648) .v0)) (.T .v0 (.k 2147483648)) (.w [1,1]) rfl (.z _ .o) h1)⟩
 show (if (decide (n < -(2^31:Int))||decide (n≥2^31))=true then _ else
  (if (!l.toArray.contains 9)=true then (do rule "str.expandtabs.no-tab";ret (.str ⟨l.toArray⟩ t)) else (forIn l.toArray ((#[],0):Array Nat×Nat) (expB n) >>= fun r=>retStr ⟨r.1⟩)))=_
 rw [e1,if_neg Bool.false_ne_true]
theorem expB_tab (n:Nat) (h0:0<n) (out:List Nat) (col:Nat) (ht:tooLong (out.length+(n-col%n))=false):
  expB n 9 (out.toArray,col)=pure (.yield ((out++List.replicate (n-col%n) 32).toArray,col+(n-col%n))):=by
 have hb':(if (n:Int)>0 then (n:Int).toNat-col%(n:Int).toNat else 0)=n-col%n:=by rw [if_pos (by exact Q34 (.n1 _) h0)];simp
 unfold expB
 rw [if_pos (by rfl)]
 simp only [hb',List.size_toArray,ht,Bool.false_eq_true,if_false]
 have e:out.toArray++Array.replicate (n-col%n) 32=(out++List.replicate (n-col%n) 32).toArray:=by simp
 rw [e]
theorem expB_else (n:Nat) (c:Nat) (hc:c≠9) (out:List Nat) (col:Nat):
  expB n c (out.toArray,col)=pure (.yield ((out++[c]).toArray,if (c==10||c==13)=true then 0 else col+1)):=by
 unfold expB
 rw [if_neg (by simp [hc])]
 have e:out.toArray.push c=(out++[c]).toArray:=by simp
 rw [e]
theorem expB_loop (n:Nat) (h0:0<n) (hn:n≤64):∀(l:List Nat) (out:List Nat) (col:Nat),out.length+l.length*(n+1)≤2^24→
  (forIn l (out.toArray,col) (expB n):Sem (Array Nat×Nat)) >>= (fun r=>retStr ⟨r.1⟩)=retStr ⟨(out++expTab n col l).toArray⟩
 | [],out,col,_=>by simp [expTab]
 | c::r,out,col,hb=>by
  rw [List.forIn_cons]
  rw [List.length_cons,Nat.add_mul] at hb
  by_cases hc:c=9
  ·subst hc
   have hm:n-col%n≤n:=Nat.sub_le _ _
   have ht:tooLong (out.length+(n-col%n))=false:=by
    unfold tooLong sizeLine
    exact decide_eq_false (by exact lin2 (.n (.t (.k 16777216) (.a .v0 .v3))) (.l (.a .v0 (.a .v2 (.m 1 (.a .v1 .k1)))) (.k 16777216)) (.l .v3 .v1) (.w [1,1,1]) rfl (.n4 _ _ _ _) hb hm)
   have ih:=expB_loop n h0 hn r (out++List.replicate (n-col%n) 32) (col+(n-col%n)) (by rw [List.length_append,List.length_replicate];exact lin2 (.l (.a (.a .v0 .v3) .v2) (.k 16777216)) (.l (.a .v0 (.a .v2 (.m 1 (.a .v1 .k1)))) (.k 16777216)) (.l .v3 .v1) (.w [1,1,1]) rfl (.n4 _ _ _ _) hb hm)
   rw [expB_tab n h0 out col ht]
   simp only [pure_bind]
   rw [ih]
   conv=>rhs;unfold expTab
   rw [if_pos rfl,List.append_assoc]
  ·have ih:=expB_loop n h0 hn r (out++[c]) (if (c==10||c==13)=true then 0 else col+1) (by rw [List.length_append];simp;exact lin1 (.l (.a (.a .v0 .k1) .v1) (.k 16777216)) (.l (.a .v0 (.a .v1 (.m 1 (.a .v2 .k1)))) (.k 16777216)) (.w [1,1]) rfl (.n3 _ _ _) hb)
   rw [expB_else n c hc out col]
   simp only [pure_bind]
   rw [ih]
   conv=>rhs;unfold expTab
   rw [if_neg hc,List.append_assoc]
   rfl
theorem gives_expandtabs (l:List Nat) (n:Nat) (t u:Tok) (h0:0<n) (hn:n≤64) (hl:l.length≤65536):Gives («str.expandtabs» ⟨[.str ⟨l.toArray⟩ t, .int n u],[]⟩) (if l.contains 9 then .str ⟨(expTab n 0 l).toArray⟩ else .val (.str ⟨l.toArray⟩ t)):=by
 rw [expandtabs_tree l n t u (by exact Q34 (.n1 _) h0) (by exact lin1 (.T (.c .v0) (.k 2147483648)) (.l .v0 (.k 64)) (.w [1,1]) rfl (.n1 _) hn)]
 have e:l.toArray.contains 9=l.contains 9:=by simp
 rw [e]
 cases h:l.contains 9 with
 | false=>exact .rule (.of_eq rfl)
 | true=>
  simp only [Bool.not_true,Bool.false_eq_true,if_false,if_true]
  rw [List.forIn_toArray]
  have:=expB_loop n h0 hn l [] 0 (by
   have:l.length*(n+1)≤65536*65:=Nat.mul_le_mul hl (by exact lin1 (.l (.a .v0 .k1) (.k 65)) (.l .v0 (.k 64)) (.w [1,1]) rfl (.n1 _) hn)
   simp;exact lin1 (.l .v0 (.k 16777216)) (.l .v0 (.m 65536 (.k 65))) (.w [1,1]) rfl (.n1 _) this)
  refine .of_eq ?_
  rw [show (#[]:Array Nat)=([]:List Nat).toArray from rfl,this]
  rfl
end Mine
end
section
open PySem PySem.W PySem.Calls PyProof.Rows Builtin Builtin.Str
set_option maxRecDepth 10000
set_option tactic.hygienic false
namespace Mine
variable {c:Nat}{t:Tok}{Q:Value→Shared→Prop}
theorem tr_split:splitId "dict.__getitem__" =some ("dict","__getitem__"):=by kernel_rfl
theorem tr_kind:(Manifest.find? "dict").bind (·.attrs.lookup "__getitem__")=some .slot∨(Manifest.find? "dict").bind (·.attrs.lookup "__getitem__")=some .method:=by
 first | exact .inl (by decide +kernel) | exact .inr (by decide +kernel)
structure TransAt (K:Frag) (tab C:Addr) (f:Nat→Nat):Prop where
 typ:typeIn K (.ref tab)=some (.ref C)
 noseq:noSeq K C=true
 get:specialIn K (.ref tab) "__getitem__" =some (some (.builtin "dict.__getitem__"))
 ins:instIn K (.ref tab) (.type "dict")=some true
 at_:∃oc od es n sl,K.lookup tab=some ⟨oc,od, .dict es n,sl⟩∧IntKeys es∧∀c:Nat,c<128→∃i t e,es.findIdx? (fun e=>Value.isInt (c:Int) e.key)=some i∧es[i]? =some e∧e.val= .int (f c) t∧f c<128
section
variable {prog:Program}{w:World}{A:Around}{E:Value→Shared→Prop}{s:Shared}{K:Frag}{tab C:Addr}{f:Nat→Nat}
theorem tab_body (X:K.In s.heap) (T:TransAt K tab C f) (hc:c<128) (h:∀u k,Q (.int (f c) u) {s with toks:=k}):
  wpAny (model prog w) A («dict.__getitem__» ⟨[.ref tab, .int c t],[]⟩) (fun fin s'=>∃v,fin= .done (.ret v)∧Q v s') E s:=by
 refine cps fun GC hGC=> ?_
 obtain ⟨oc,od,es,n,sl,hl,hk,hv⟩:=T.at_
 obtain ⟨i,u,e,h1,h2,h3,_⟩:=hv c hc
 refine hGC ?_
 have ho:=X _ _ hl
 show wpAny _ A (do
  if let some v ←dictGet tab (.int c t) then return ←ret v
  match ←Builtin.Dict.missed tab (.int c t) with
  | some v=>ret v
  | none=>do
   if (←typeOf (.ref tab)) != .type "dict" then
    if let some r ←callSpecial? (.ref tab) "__missing__" [.int c t] then rule "dict.__getitem__.missing-hook";return ←ret r
   rule "dict.__getitem__.keyerror"
   raiseNew (←newExc (.type "KeyError") [.int c t])) _ E s
 refine wpAny_bind ?_
 unfold dictGet
 refine wpAny_holding ?_
 refine wpAny_bind (wpAny_pyHash_int (wpAny_bind (wpAny_dictFind_int (s:={s with toks:=s.toks+1}) ho rfl hk ?_)))
 rw [h1]
 refine wpAny_bind (wpAny_dictEntries (s:={s with toks:=s.toks+1}) ho rfl (wpAny_pure ?_))
 rw [h2]
 simp only [Option.map_some,h3]
 exact wpAny_pure ⟨_,rfl,h u (s.toks+1)⟩
theorem tab_item (X:K.In s.heap) (T:TransAt K tab C f) (hc:c<128)
  (h:∀u k,Q (.int (f c) u) {s with toks:=k}):wpAny (model prog w) A (getItem (.ref tab) (.int c t)) Q E s:=by
 unfold getItem
 refine wpAny_holding ?_
 have seq:∀{Q:Value→Shared→Prop},Q (.int c t) s→wpAny (model prog w) A (sequenceKey (.ref tab) (.int c t) "__getitem__") Q E s:=by
  intro Q q
  unfold sequenceKey
  refine wpAny_bind ((looks_typeIn X T.typ).here ?_)
  refine wpAny_bind ((anyM_none X T.noseq).here ?_)
  exact wpAny_pure q
 refine wpAny_bind (seq ?_)
 have bind:bindSpecial (.builtin "dict.__getitem__") (.ref tab)=pure (.builtin "dict.__getitem__",[.ref tab]):=slot_dict_getitem.bind _
 unfold callSpecial?
 refine wpAny_bind (wpAny_bind ((looks_specialIn X T.get).here ?_))
 refine wpAny_holding ?_
 rw [bind]
 refine wpAny_bind (wpAny_pure (wpAny_bind ?_))
 refine wpAny_call (codeAny_call_builtin slot_dict_getitem.plain entry_dict_getitem ?_)
 have hk:builtinKind "dict.__getitem__" =(Manifest.find? "dict").bind (·.attrs.lookup "__getitem__"):=by simp only [builtinKind,tr_split]
 have check:∀{Q:Unit→Shared→Prop}{E:Value→Shared→Prop},Q () s→wpAny (model prog w) A.in1 (checkBuiltinCall "dict.__getitem__" ⟨[.ref tab]++[.int c t],[]⟩) Q E s:=by
  intro Q E hQ
  have ha:=args_dict_getitem (.ref tab) (.int c t)
  rcases tr_kind with h' | h' <;>
  ·simp only [checkBuiltinCall,hk,h',tr_split]
   refine wpAny_bind ((looks_instIn X T.ins).here ?_)
   simp only [Bool.not_true,Bool.false_eq_true,if_false]
   cases hsig:Manifest.signature? "dict.__getitem__" with
   | none=>exact wpAny_pure hQ
   | some sig=>
    simp only [argsOk,hsig] at ha
    have h2:Bind.checkArgs "dict.__getitem__" sig ⟨[.ref tab]++[.int c t],[]⟩=pure ():=ha
    show wpAny _ _ (Bind.checkArgs "dict.__getitem__" sig ⟨[.ref tab]++[.int c t],[]⟩) Q E s
    rw [h2];exact wpAny_pure hQ
 refine check ?_
 refine wpAny_mono (tab_body X T hc (Q:=fun v s'=>Q v s') h) (fun fin s' h'=> ?_) fun _ _ e=>e
 obtain ⟨v,rfl,hq⟩:=h'
 exact wpAny_pure (wpAny_pure hq)
end
end Mine
end
section
open PySem PySem.W PySem.Calls PyProof.Rows Builtin Builtin.Str
set_option maxRecDepth 10000
set_option tactic.hygienic false
namespace Mine
section
variable {prog:Program}{w:World}{A:Around}{E:Value→Shared→Prop}{s:Shared}{K:Frag}{tab C:Addr}{f:Nat→Nat}
theorem tab_lookup (X:K.In s.heap) (T:TransAt K tab C f) {c:Nat} (hc:c<128) {Q:Mapped→Shared→Prop} (h:∀k,Q (.char (f c)) {s with toks:=k}):
  wpAny (model prog w) A (tableLookup (.ref tab) c) Q E s:=by
 unfold tableLookup
 refine wpAny_bind (wpAny_attempt (wpAny_bind (wpAny_mkInt ?_)))
 refine tab_item (s:={s with toks:=s.toks+1}) X T hc fun u k=> ?_
 refine cps fun GC hGC=> ?_
 obtain ⟨_,_,_,_,_,_,_,hv⟩:=T.at_
 obtain ⟨_,_,_,_,_,_,hf⟩:=hv c hc
 refine hGC ?_
 refine wpAny_bind (wpAny_pure ?_)
 have e:((decide ((f c:Int)<0)||decide ((f c:Int)>0x10FFFF)))=false:=by
  rw [Bool.or_eq_false_iff];exact ⟨decide_eq_false (by exact Q73 (.n1 _)),decide_eq_false (by exact lin1 (.n (.T (.k 1114111) (.c .v0))) (.t .v0 (.k 128)) (.w [1,1]) rfl (.n1 _) hf)⟩
 show wpAny _ A (if (decide ((f c:Int)<0)||decide ((f c:Int)>0x10FFFF))=true then _ else pure (Mapped.char (f c:Int).toNat)) Q E _
 rw [e,if_neg Bool.false_ne_true]
 exact wpAny_pure (h k)
theorem joined (l:List Nat) (g:Nat→Nat):∀acc:Array Nat,(l.map fun c=>(⟨#[g c]⟩:PySem.Str)).foldl (fun acc p=>acc++p.cps) acc=acc++(l.map g).toArray:=by
 induction l with
 | nil=>intro acc;simp
 | cons a l ih=>intro acc;rw [List.map_cons,List.foldl_cons,ih];simp
set_option tactic.hygienic true in
inductive TrI (f:Nat→Nat) (L:List Nat) (s:Shared) (rest:List Nat):(List PySem.Str×Nat×Bool×List (Nat×Option Nat)×Bool)→Shared→Prop
 | mk (done:List Nat) (k:Nat) (known:List (Nat×Option Nat)) (e1:L=done++rest) (hk:∀c a,known.lookup c=some a→a=some (f c)):
  TrI f L s rest ((done.map fun c=>(⟨#[f c]⟩:PySem.Str)).reverse,done.length,true,known,false) {s with toks:=k}
theorem iv {f:Nat→Nat}{L rest:List Nat}{s:Shared}{P:(List PySem.Str×Nat×Bool×List (Nat×Option Nat)×Bool)→Shared→Prop}
  (h:∀(done:List Nat) (k:Nat) (known:List (Nat×Option Nat)),L=done++rest→(∀c a,known.lookup c=some a→a=some (f c))→P ((done.map fun c=>(⟨#[f c]⟩:PySem.Str)).reverse,done.length,true,known,false) {s with toks:=k}):
  ∀b s',TrI f L s rest b s'→P b s':=fun _ _ q=>match q with | .mk a b c d e=>h a b c d e
theorem tr_body (X:K.In s.heap) (T:TransAt K tab C f) {l:List Nat}{t:Tok} (hl:∀c∈l,c<128) (hz:l.length≤65536) {Q:Value→Shared→Prop} (h:∀u k,Q (.str ⟨(l.map f).toArray⟩ u) {s with toks:=k}):
  wpAny (model prog w) A («str.translate» ⟨[.str ⟨l.toArray⟩ t, .ref tab],[]⟩) (fun fin s'=>∃v,fin= .done (.ret v)∧Q v s') E s:=by
 unfold «str.translate»
 refine wpAny_bind (m:=strOneArg "translate" ⟨[.str ⟨l.toArray⟩ t, .ref tab],[]⟩) (wpAny_pure ?_)
 dsimp only
 cases l with
 | nil=>
  rw [if_pos (by rfl)]
  exact wpAny_bind (wpAny_rule (wpAny_bind (wpAny_pure (wpAny_bind (wpAny_pure (wpAny_pure ⟨_,rfl,h t s.toks⟩))))))
 | cons c0 l0=>
  generalize hL:c0::l0=L at *
  rw [if_neg (by rw [←hL];simp [PySem.Str.length])]
  refine wpAny_bind ?_
  have hall:(L.toArray.all fun x=>decide (x<128))=true:=by
   rw [List.all_toArray,List.all_eq_true];exact fun x hx=>decide_eq_true (hl x hx)
  rw [hall,List.forIn_toArray]
  have hf:∀c,c<128→f c<128:=fun c hc=>by
   obtain ⟨_,_,_,_,_,_,_,hv⟩:=T.at_
   obtain ⟨_,_,_,_,_,_,hf⟩:=hv c hc
   exact hf
  refine wpAny_forIn_list _ (TrI f L s) _ ?_ ?_ L _ (.mk [] s.toks [] rfl fun _ _ e=>by cases e)
  ·refine fun x rest=>iv fun done k known e1 hk=> ?_
   have hx:x<128:=hl x (by rw [e1];exact List.mem_append_right _ (.head _))
   have hlen:done.length<L.length:=by rw [e1];simp
   have ht:tooLong done.length=false:=by unfold tooLong sizeLine;exact decide_eq_false (by exact lin2 (.n (.t (.k 16777216) .v0)) (.l .v1 (.k 65536)) (.t .v0 .v1) (.w [1,1,1]) rfl (.n2 _ _) hz hlen)
   skip
   rw [ht,if_neg Bool.false_ne_true,if_pos rfl]
   have next:∀(k':Nat) (known':List (Nat×Option Nat)),(∀c a,known'.lookup c=some a→a=some (f c))→
     TrI f L s rest ((⟨#[f x]⟩:PySem.Str)::(done.map fun c=>(⟨#[f c]⟩:PySem.Str)).reverse,done.length+1,true,known',false) {s with toks:=k'}:=fun k' known' hk'=>by
    have:=TrI.mk (s:=s) (done++[x]) k' known' (show L=(done++[x])++rest by rw [e1];simp) hk'
    rw [List.map_append,List.reverse_append,List.length_append] at this
    exact this
   split
   ·have:=hk x _ (by assumption)
    subst this
    refine wpAny_bind (wpAny_pure ?_)
    exact wpAny_pure (next k known hk)
   ·refine wpAny_bind (tab_lookup (s:={s with toks:=k}) X T hx fun k2=> ?_)
    dsimp only
    rw [if_pos (hf x hx)]
    refine wpAny_bind (wpAny_pure ?_)
    refine wpAny_pure (next k2 ((x,some (f x))::known) fun c a e=> ?_)
    rw [List.lookup_cons] at e
    split at e
    ·rename_i hc
     have:c=x:=by simpa using hc
     subst this
     exact (Option.some.inj e).symm
    ·exact hk c a e
  ·refine iv fun done k known e1 hk=> ?_
   rw [List.append_nil] at e1
   subst e1
   skip
   have ht:tooLong L.length=false:=by unfold tooLong sizeLine;exact decide_eq_false (by exact lin1 (.n (.t (.k 16777216) .v0)) (.l .v0 (.k 65536)) (.w [1,1]) rfl (.n1 _) hz)
   rw [ht,if_neg Bool.false_ne_true,List.reverse_reverse,joined]
   have e2:(#[]:Array Nat)++(L.map f).toArray=(L.map f).toArray:=by simp
   rw [e2]
   refine wpAny_bind (wpAny_mkStr (wpAny_pure ⟨_,rfl,h k (k+1)⟩) ?_)
   skip
   simp [PySem.Str.length,sizeLine_eq];exact lin1 (.l .v0 (.k 16777216)) (.l .v0 (.k 65536)) (.w [1,1]) rfl (.n1 _) hz
end
end Mine
end
section
open PySem PySem.W PySem.Calls PyProof.Rows
set_option maxRecDepth 10000
set_option tactic.hygienic false
namespace Mine
variable {s:Shared}{x:PySem.Str}{pvs:List PV}{vs:List Value}{a b c:PV}{l:List Nat}{σ:St}{tab:Addr}
section
variable {G:Glb}{fi:FI}
theorem mk_typeIs {t:Tok}:s.TypeIs (.str x t) "str" :=typeIs_str _ _ _
noncomputable def findG (pvs:List PV):PM PV:=if pvs.length=3
 then g3 (fun a b d=>onS (fun l=>onS (on1 fun c=>onI (fun i=>ret1 (.int (toI (findN l c (clip0 l.length i) (l.length-clip0 l.length i))))) d) b) a) pvs
 else g4 (fun a b d e=>onS (fun l=>onS (on1 fun c=>onI (fun i=>onI (fun j=>ret1 (.int (toI (findN l c (clip0 l.length i) (min (clip0 l.length j) l.length-clip0 l.length i))))) e) d) b) a) pvs
theorem three_args (h:pvs.length=vs.length) (e:pvs=[a,b,c]):∃v w u,vs=[v,w,u]:=mk_three (by rw [←h,e];rfl)
theorem four_args {d:PV} (h:pvs.length=vs.length) (e:pvs=[a,b,c,d]):∃v w u z,vs=[v,w,u,z]:=mk_four (by rw [←h,e];rfl)
theorem b_find:BltOp G (.builtin "str.find") findG:=by
 intro fi A h₀ L env C held s σ σ' pvs vs c Q E hf hl R hQ
 unfold findG at hf
 split at hf
 ·replace q:=g3_ok hf;clear hf;obtain ⟨_,_,_,hf⟩:=q
  replace q:=onS_ok hf;clear hf;obtain ⟨l,hf⟩:=q
  replace q:=onS_ok hf;clear hf;obtain ⟨_,hf⟩:=q
  replace q:=on1_ok hf;clear hf;obtain ⟨c,hf⟩:=q
  replace q:=onI_ok hf;clear hf;obtain ⟨i,hf⟩:=q
  obtain ⟨v1,v2,v3,rfl⟩:=three_args hl rfl
  replace R:Rel G fi h₀ L σ ((.str l,v1)::(.str [c],v2)::(.int i,v3)::held) s:=R
  obtain ⟨rfl,rfl⟩:=ret1_ok hf
  obtain ⟨m,α,N,R'⟩:=(fun z=>z) R
  obtain ⟨t1,rfl⟩:=(R'.held (_,v1) (.head _)).str_inv
  obtain ⟨t2,rfl⟩:=(R'.held (_,v2) (.tail _ (.head _))).str_inv
  obtain ⟨t3,rfl⟩:=(R'.held (_,v3) (.tail _ (.tail _ (.head _)))).int_inv
  exact call_gives F.slot_str_find mk_typeIs F.entry_str_find (F.args_str_find_3 _ _ _) (gives_find1 l c i t1 t2 t3) (hQ _ s.heap (s.toks+1) ((R.tail.tail.tail.toks (Nat.succ_pos _)).holdP .int))
 ·replace q:=g4_ok hf;clear hf;obtain ⟨_,_,_,_,hf⟩:=q
  replace q:=onS_ok hf;clear hf;obtain ⟨l,hf⟩:=q
  replace q:=onS_ok hf;clear hf;obtain ⟨_,hf⟩:=q
  replace q:=on1_ok hf;clear hf;obtain ⟨c,hf⟩:=q
  replace q:=onI_ok hf;clear hf;obtain ⟨i,hf⟩:=q
  replace q:=onI_ok hf;clear hf;obtain ⟨j,hf⟩:=q
  obtain ⟨v1,v2,v3,v4,rfl⟩:=four_args hl rfl
  replace R:Rel G fi h₀ L σ ((.str l,v1)::(.str [c],v2)::(.int i,v3)::(.int j,v4)::held) s:=R
  obtain ⟨rfl,rfl⟩:=ret1_ok hf
  obtain ⟨m,α,N,R'⟩:=(fun z=>z) R
  obtain ⟨t1,rfl⟩:=(R'.held (_,v1) (.head _)).str_inv
  obtain ⟨t2,rfl⟩:=(R'.held (_,v2) (.tail _ (.head _))).str_inv
  obtain ⟨t3,rfl⟩:=(R'.held (_,v3) (.tail _ (.tail _ (.head _)))).int_inv
  obtain ⟨t4,rfl⟩:=(R'.held (_,v4) (.tail _ (.tail _ (.tail _ (.head _))))).int_inv
  exact call_gives F.slot_str_find mk_typeIs F.entry_str_find (F.args_str_find_4 _ _ _ _) (gives_find2 l c i j t1 t2 t3 t4) (hQ _ s.heap (s.toks+1) ((R.tail.tail.tail.tail.toks (Nat.succ_pos _)).holdP .int))
noncomputable def rfindG:List PV→PM PV:=g4 fun a b d e=>onS (fun l=>onS (on1 fun c=>onI (fun i=>onI (fun j=>if i=0 then ret1 (.int (toI (rfindN l c (min (clip0 l.length j) l.length)))) else badM) e) d) b) a
theorem b_rfind:BltOp G (.builtin "str.rfind") rfindG:=by
 intro fi A h₀ L env C held s σ σ' pvs vs c Q E hf hl R hQ
 replace q:=g4_ok hf;clear hf;obtain ⟨_,_,_,_,hf⟩:=q
 replace q:=onS_ok hf;clear hf;obtain ⟨l,hf⟩:=q
 replace q:=onS_ok hf;clear hf;obtain ⟨_,hf⟩:=q
 replace q:=on1_ok hf;clear hf;obtain ⟨c,hf⟩:=q
 replace q:=onI_ok hf;clear hf;obtain ⟨i,hf⟩:=q
 replace q:=onI_ok hf;clear hf;obtain ⟨j,hf⟩:=q
 split at hf
 ·rename_i hi0
  subst hi0
  obtain ⟨v1,v2,v3,v4,rfl⟩:=four_args hl rfl
  replace R:Rel G fi h₀ L σ ((.str l,v1)::(.str [c],v2)::(.int 0,v3)::(.int j,v4)::held) s:=R
  obtain ⟨rfl,rfl⟩:=ret1_ok hf
  obtain ⟨m,α,N,R'⟩:=(fun z=>z) R
  obtain ⟨t1,rfl⟩:=(R'.held (_,v1) (.head _)).str_inv
  obtain ⟨t2,rfl⟩:=(R'.held (_,v2) (.tail _ (.head _))).str_inv
  obtain ⟨t3,rfl⟩:=(R'.held (_,v3) (.tail _ (.tail _ (.head _)))).int_inv
  obtain ⟨t4,rfl⟩:=(R'.held (_,v4) (.tail _ (.tail _ (.tail _ (.head _))))).int_inv
  exact call_gives F.slot_str_rfind mk_typeIs F.entry_str_rfind (F.args_str_rfind_4 _ _ _ _) (gives_rfind2 l c j t1 t2 t3 t4) (hQ _ s.heap (s.toks+1) ((R.tail.tail.tail.tail.toks (Nat.succ_pos _)).holdP .int))
 ·cases hf
noncomputable def expG:List PV→PM PV:=g2 fun a b=>onS (fun l=>onI (fun n=>if 0<n∧n≤64∧l.length≤65536 then ret1 (.str (expTab n.toNat 0 l)) else badM) b) a
theorem expG_go {n:Int} (h:0<n∧n≤64∧l.length≤65536):expG [.str l, .int n] σ= .ok (.str (expTab n.toNat 0 l)) σ:=congrFun (if_pos h) σ
theorem b_exp:BltOp G (.builtin "str.expandtabs") expG:=by
 intro fi A h₀ L env C held s σ σ' pvs vs c Q E hf hl R hQ
 replace q:=g2_ok hf;clear hf;obtain ⟨_,_,hf⟩:=q
 replace q:=onS_ok hf;clear hf;obtain ⟨l,hf⟩:=q
 replace q:=onI_ok hf;clear hf;obtain ⟨n,hf⟩:=q
 ·split at hf
  ·rename_i hc
   obtain ⟨h0,h1,h2⟩:=hc
   obtain ⟨v1,v2,rfl⟩:=two_args hl rfl
   replace R:Rel G fi h₀ L σ ((.str l,v1)::(.int n,v2)::held) s:=R
   obtain ⟨rfl,rfl⟩:=ret1_ok hf
   obtain ⟨α,N,r2,r1⟩:=inv2 R
   obtain ⟨t1,e9⟩:=r1.str_inv;rw [e9];clear e9
   obtain ⟨t2,e9⟩:=r2.int_inv;rw [e9];clear e9
   obtain ⟨k,rfl⟩:∃k:Nat,n=k:=⟨n.toNat,by exact lin2 (.Q .v0 (.c .v1)) (.T .k0 .v0) (.N 1 .v0) (.b (.d 2 (.w [0,1,1]) (.w [1,0,0,1])) (.d 2 (.w [0, -1,1]) (.w [1, -1,1]))) rfl (.z _ (.n1 _)) h0 rfl⟩
   refine call_gives F.slot_str_expandtabs mk_typeIs F.entry_str_expandtabs (F.args_str_expandtabs_2 _ _) (gives_expandtabs l k t1 t2 (by exact lin1 (.t .k0 .v0) (.T .k0 (.c .v0)) (.w [1,1]) rfl (.n1 _) h0) (by exact lin1 (.l .v0 (.k 64)) (.L (.c .v0) (.k 64)) (.w [1,1]) rfl (.n1 _) h1) h2) ?_
   cases hc9:l.contains 9 with
   | false=>
    have hn:9∉l:=by rw [List.contains_eq_mem] at hc9;exact of_decide_eq_false hc9
    simp only [Bool.false_eq_true,if_false]
    have e:expTab (k:Int).toNat 0 l=l:=by rw [Int.toNat_natCast];exact expTab_id k l 0 hn
    rw [e] at hQ
    exact hQ _ s.heap s.toks (R.tail.tail.holdP .str)
   | true=>
    simp only [if_true]
    refine ⟨?_, ?_⟩
    ·rw [mk_len]
     have:=expTab_len k l 0
     have:l.length*(k+1)≤65536*65:=Nat.mul_le_mul h2 (by exact lin1 (.l (.a .v0 .k1) (.k 65)) (.L (.c .v0) (.k 64)) (.w [1,1]) rfl (.n1 _) h1)
     rw [sizeLine_eq];exact lin2 (.l .v0 (.k 16777216)) (.l .v0 .v1) (.l .v1 (.m 65536 (.k 65))) (.w [1,1,1]) rfl (.n2 _ _) (by assumption) this
    ·rw [Int.toNat_natCast] at hQ
     exact hQ _ s.heap (s.toks+1) ((R.tail.tail.toks (Nat.succ_pos _)).holdP .str)
  ·cases hf
noncomputable def isRef (tab:Addr):PV→Bool
 | .glob (.ref a)=>a==tab
 | _=>false
theorem isRef_eq (h:isRef tab b=true):b= .glob (.ref tab):=by
 cases b with
 | glob v=>cases v with
  | ref a=>rw [eq_of_beq (show (a==tab)=true from h)]
  | _=>cases h
 | _=>cases h
noncomputable def trG (tab:Addr) (f:Nat→Nat):List PV→PM PV:=g2 fun a b=>onS (fun l=>if isRef tab b=true∧l.all (· < 128)∧l.length≤65536 then ret1 (.str (l.map f)) else badM) a
theorem trG_go {f:Nat→Nat} (h1:l.all (· < 128)=true) (h2:l.length≤65536):trG tab f [.str l, .glob (.ref tab)] σ= .ok (.str (l.map f)) σ:=congrFun (if_pos ⟨beq_self_eq_true tab,h1,h2⟩) σ
theorem b_tr {C':Addr}{f:Nat→Nat} (T:TransAt G.K tab C' f):BltOp G (.builtin "str.translate") (trG tab f):=by
 intro fi A h₀ L env C held s σ σ' pvs vs c Q E hf hl R hQ
 replace q:=g2_ok hf;clear hf;obtain ⟨_,b,hf⟩:=q
 replace q:=onS_ok hf;clear hf;obtain ⟨l,hf⟩:=q
 ·split at hf
  ·rename_i hc
   obtain ⟨h0,h1,h2⟩:=hc
   obtain ⟨v1,v2,rfl⟩:=two_args hl rfl
   replace R:Rel G fi h₀ L σ ((.str l,v1)::(b,v2)::held) s:=R
   rw [isRef_eq h0] at R
   obtain ⟨rfl,rfl⟩:=ret1_ok hf
   obtain ⟨m,α,N,R'⟩:=(fun z=>z) R
   obtain ⟨t1,rfl⟩:=(R'.held (_,v1) (.head _)).str_inv
   have:=(R'.held (_,v2) (.tail _ (.head _))).glob_inv
   subst this
   have X:G.K.In s.heap:=C.X.keeps R'.fr.keep
   refine wpAny_call (codeAny_call_builtin F.slot_str_translate.plain F.entry_str_translate ?_)
   refine F.slot_str_translate.check _ _ _ _ _ _ _ _ mk_typeIs (F.args_str_translate_2 _ _) ?_
   refine wpAny_toks (wpAny_mono (tr_body X T (fun c hc=>of_decide_eq_true (List.all_eq_true.mp h1 c hc)) h2 (Q:=fun v s'=>s.toks≤s'.toks→Q v s') fun u k hk=>hQ _ s.heap k ((R.tail.tail.toks (Nat.lt_of_lt_of_le R.tok hk)).holdP .str)) (fun fin s' h' hk=> ?_) fun _ _ e _=>e)
   obtain ⟨v,rfl,hq⟩:=h'
   exact hq hk
  ·cases hf
theorem const_str {M:Model}{A:Around}{E:Value→Shared→Prop}{env:Env}{k:Nat}{p:Pos}{Q:Value→Shared→Prop} (h:Q (.str x s.toks) {s with toks:=s.toks+1}):
  wpAny M A (eval (.Constant (.str x) k p) env) Q E s:=fun _ _ _=>h
noncomputable def repG (y z:List Nat):PV→Option PV
 | .str l=>if l.length≤65536 then some (.str (PySem.Txt.replace ⟨l.toArray⟩ ⟨y.toArray⟩ ⟨z.toArray⟩).cps.toList) else none
 | _=>none
set_option tactic.hygienic true in
theorem R_replace {o:Expr}{apos pos p1 p2:Pos}{k1 k2:Nat}{y z:List Nat}{ys zs:PySem.Str}{fo:PM PV} (ho:EvR G fi o fo) (hbase:∀env,attributeBase o "replace" env (eval o env)=eval o env) (hline:(apos.endLine==pos.line)=true)
  (hy:ys=⟨y.toArray⟩) (hz:zs=⟨z.toArray⟩) (hyz:(y==z)=false) (hzl:z.length≤14):
  EvR G fi (.Call (.Attribute o "replace" apos) [.Constant (.str ys) k1 p1, .Constant (.str zs) k2 p2] [] pos) (lift1 (repG y z) fo):=by
 intro A h₀ L env C held s σ pv σ' Q E hf R hQ
 obtain ⟨a,h1,h2⟩:=lift1_ok hf
 subst hy;subst hz
 refine Call_any (hbase env) rfl hline (ho A h₀ L env C held s σ a σ' _ _ h1 R fun vo h' t' R1=> ?_)
 intro pl
 unfold repG at h2
 split at h2
 ·rename_i l
  split at h2
  ·rename_i hl
   cases h2
   obtain ⟨α,N,r⟩:=inv1 R1
   obtain ⟨t,e9⟩:=r.str_inv;rw [e9];clear e9
   refine getMethod_builtin mk_typeIs F.plainAttrs_str F.slot_str_replace F.type_str_replace (fun _ e=>nomatch e) ?_
   refine Calls.callWith_builtin rfl (Calls.evalArgs_plain (Calls.spliced_cons ?_))
   refine const_str (k:=k1) (p:=p1) (env:=env) ?_
   refine Calls.spliced_cons (const_str (k:=k2) (p:=p2) (env:=env) ?_)
   refine Calls.spliced_nil ?_
   have ht:=R1.tok
   refine wpAny_toks (SC.replaceW (s:={Sh s h' t' with toks:=t'+1+1}) (Nat.ne_of_gt ht) (Nat.succ_ne_zero _) (Nat.ne_of_lt (Nat.lt_succ_self _)) (by rw [mk_beq];exact hyz) (by rw [mk_len];exact lin1 (.l .v0 (.k 1048576)) (.l .v0 (.k 65536)) (.w [1,1]) rfl (.n1 _) hl) (by rw [mk_len];exact hzl) fun u k hk=> ?_)
   have e:PySem.Txt.replace ⟨l.toArray⟩ ⟨y.toArray⟩ ⟨z.toArray⟩=⟨((PySem.Txt.replace ⟨l.toArray⟩ ⟨y.toArray⟩ ⟨z.toArray⟩).cps.toList).toArray⟩:=by simp
   rw [e]
   exact hQ _ h' k ((R1.tail.toks (Nat.lt_of_lt_of_le (Nat.succ_pos _) hk)).holdP .str)
  ·cases h2
 ·cases h2
end
end Mine
end
section
open PySem PySem.W PySem.Calls PyProof.Rows
set_option maxRecDepth 100000
set_option tactic.hygienic false
namespace Mine
open Sem (wp)
variable {A:Around}{E Q:Value→Shared→Prop}{s:Shared}{c expr:Bool}{n:Nat}{tk:Tok}{x:Value}
theorem if_not {α:Type}{M:Model}{a b:Sem α}{Q:α→Shared→Prop} (hc:c=false) (h:wpAny M A b Q E s):wpAny M A (if c=true then a else b) Q E s:=by
 subst hc;exact h
theorem if_so {α:Type}{M:Model}{a b:Sem α}{Q:α→Shared→Prop} (hc:c=true) (h:wpAny M A a Q E s):wpAny M A (if c=true then a else b) Q E s:=by
 subst hc;exact h
theorem lk_list_append:typeLookup (.type "list") "append" =pure (some (.builtin "list.append")):=by rw [typeLookup_type,builtinLookup_eq_fast];kernel_rfl
theorem typeOf_list_append:typeOf (.builtin "list.append")=pure (.type "method_descriptor"):=by kernel_rfl
theorem slot_md_get:Slot "method_descriptor" "__get__" "method_descriptor.__get__" :=
 .of (owner:= "method_descriptor") (n:= "__get__") (by rw [typeLookup_type,builtinLookup_eq_fast];kernel_rfl) (by decide +kernel) (by decide +kernel) (by decide +kernel)
  (by first | exact .inl (by decide +kernel) | exact .inr (by decide +kernel)) (by rw [isSubtype_type];kernel_rfl)
theorem md_set:typeLookup (.type "method_descriptor") "__set__" =pure none:=by rw [typeLookup_type,builtinLookup_eq_fast];kernel_rfl
theorem md_del:typeLookup (.type "method_descriptor") "__delete__" =pure none:=by rw [typeLookup_type,builtinLookup_eq_fast];kernel_rfl
theorem entry_md_get:entryFor table "method_descriptor.__get__" =some Builtin.«method_descriptor.__get__»:=entryFor_of_tree (by kernel_rfl)
theorem args_md_get (a b c:Value):argsOk "method_descriptor.__get__" ⟨[a,b,c],[]⟩:=by unfold argsOk;kernel_rfl
theorem told_list_append:Manifest.toldItsClass.contains "list.append" =false:=by first | decide +kernel | kernel_rfl
theorem owner_list_append:(".".intercalate ("list.append".cutAt '.').dropLast)= "list" :=by
 have e0: "list.append".cutAt '.'=["list","append"]:=by first | rfl | decide +kernel
 rw [e0];decide +kernel
section
variable {prog:Program}{w:World}{A:Around}{E:Value→Shared→Prop}{h:Heap}{g:Array GenState}{d:Drawn}{t:Nat}{os:OsState}{a:Addr}{o:Obj}
theorem app_get {R:Result→Shared→Prop} (hx:h.get? a=some o) (hc:o.cls= .type "list")
  (hq:R (.ok (.ret (.ref h.objs.size))) ⟨h.push {cls:= .type "builtin_function_or_method",data:= .fields #[.builtin "list.append", .ref a]},g,d,t,os⟩):
  codeAny (model prog w) A (.call (.builtin "method_descriptor.__get__") ⟨[.builtin "list.append", .ref a, .type "list"],[]⟩) R ⟨h,g,d,t,os⟩:=by
 have hT:(⟨h,g,d,t,os⟩:Shared).TypeIs (.ref a) "list" :=⟨_,hx,hc⟩
 have hT5:(⟨h,g,d,t,os⟩:Shared).TypeIs (.builtin "list.append") "method_descriptor" :=typeOf_list_append
 refine codeAny_call_builtin slot_md_get.plain entry_md_get (slot_md_get.check _ _ _ _ _ _ _ _ hT5 (args_md_get _ _ _) ?_)
 unfold Builtin.«method_descriptor.__get__»
 refine wpAny_bind (wpAny_of_eq (a:=(Value.builtin "list.append",some (.ref a),some (.type "list"))) (by first | rfl | kernel_rfl) ?_)
 simp only [told_list_append,Bool.false_eq_true,if_false]
 show wpAny _ _ (do
   (do if !(←isInstance (.ref a) (.type (".".intercalate ("list.append".cutAt '.').dropLast))) then
      rule "descr.get.wrong-instance"
      raiseError "TypeError" s!"descriptor '{(("list.append".cutAt '.').getLastD "" : Str).toString}' for '{← typeName (.type (".".intercalate ("list.append".cutAt '.').dropLast))}' objects doesn't apply to a '{← typeNameOf (.ref a)}' object" :Sem Unit)
   let v ←newFields "builtin_function_or_method" [.builtin "list.append", .ref a]
   ret v) _ _ _
 refine wpAny_bind (wpAny_bind (wpAny_isInstance (T:= "list") (b:=true) hT (by rw [owner_list_append];rw [isSubtype_type];kernel_rfl) ?_))
 refine wpAny_pure (wpAny_bind ?_)
 exact wpAny_newObj_type (wpAny_pure hq)
theorem app_entry {vs:Array Value}{Q:Fin→Shared→Prop} (hx:h.get? a=some {cls:= .type "list",data:= .seq vs n})
  (hq:Q (.done (.ret (.ref h.objs.size))) ⟨h.push {cls:= .type "builtin_function_or_method",data:= .fields #[.builtin "list.append", .ref a]},g,d,t,os⟩):
  wpAny (model prog w) A (Builtin.«object.__getattribute__» ⟨[.ref a, .str "append" tk],[]⟩) Q E ⟨h,g,d,t,os⟩:=by
 have hT:(⟨h,g,d,t,os⟩:Shared).TypeIs (.ref a) "list" :=⟨_,hx,rfl⟩
 have hT5:(⟨h,g,d,t,os⟩:Shared).TypeIs (.builtin "list.append") "method_descriptor" :=typeOf_list_append
 have f4:=lk_list_append
 have f5:=typeOf_list_append
 have f6:=slot_md_get.lookup
 have f7:=md_set
 have f8:=md_del
 repeat (any_goals (first | assumption | wp_step))
 refine app_get hx rfl ?_
 repeat (any_goals (first | assumption | wp_step))
theorem app_call {vs:Array Value}{R:Result→Shared→Prop} (hx:h.get? a=some {cls:= .type "list",data:= .seq vs n})
  (hq:R (.ok (.ret (.ref h.objs.size))) ⟨h.push {cls:= .type "builtin_function_or_method",data:= .fields #[.builtin "list.append", .ref a]},g,d,t,os⟩):
  codeAny (model prog w) A (.call (.builtin "list.__getattribute__") ⟨[.ref a, .str "append" tk],[]⟩) R ⟨h,g,d,t,os⟩:=
 codeAny_call_builtin F.slot_list_getattribute.plain F.entry_list_ga (F.slot_list_getattribute.check _ _ _ _ _ _ _ _ (show (⟨h,g,d,t,os⟩:Shared).TypeIs (.ref a) "list" from ⟨_,hx,rfl⟩) (F.args_list_getattribute_2 _ _) (app_entry hx hq))
theorem app_by {vs:Array Value}{fill:Bool} (hx:h.get? a=some {cls:= .type "list",data:= .seq vs n})
  (hq:Q (.ref h.objs.size) ⟨h.push {cls:= .type "builtin_function_or_method",data:= .fields #[.builtin "list.append", .ref a]},g,d,t,os⟩):wpAny (model prog w) A (getAttrBy (.ref a) (.str "append" tk) fill expr) Q E ⟨h,g,d,t,os⟩:=by
 have hT:(⟨h,g,d,t,os⟩:Shared).TypeIs (.ref a) "list" :=⟨_,hx,rfl⟩
 have f2:=F.slot_list_getattribute.lookup
 have f3:=F.slot_list_getattribute.bind (.ref a)
 have hx0:(expr&&onTheHeap (Value.builtin "list.__getattribute__"))=false:=by cases expr <;> rfl
 repeat (any_goals (first | assumption | wp_step))
 refine app_call hx ?_
 repeat (any_goals (first | assumption | wp_step))
theorem app_attr {vs:Array Value} (hx:h.get? a=some {cls:= .type "list",data:= .seq vs n})
  (hq:Q (.ref h.objs.size) ⟨h.push {cls:= .type "builtin_function_or_method",data:= .fields #[.builtin "list.append", .ref a]},g,d,t+1,os⟩):wpAny (model prog w) A (getAttr (.ref a) "append" expr) Q E ⟨h,g,d,t,os⟩:=by
 unfold getAttr
 repeat (any_goals (first | assumption | with_reducible apply app_by hx | wp_step))
theorem sub_list_module:isSubtype (.type "list") (.type "module")=pure false:=by rw [isSubtype_type];kernel_rfl
theorem sub_list_type:isSubtype (.type "list") (.type "type")=pure false:=by rw [isSubtype_type];kernel_rfl
noncomputable def sigOf (id:String):Manifest.Signature:=(Manifest.signature? id).getD ⟨.hand,"","", .none,[]⟩
theorem sig_app:Manifest.signature? "list.append" =some (sigOf "list.append"):=by first | rfl | kernel_rfl
theorem kind_app:builtinKind "list.append" =some .method:=by first | kernel_rfl | decide +kernel
theorem varargs_app:Manifest.varargsMethods.contains "list.append" =false:=by first | decide +kernel | kernel_rfl
theorem ca_app (a b:Value):Bind.checkArgs "list.append" {sigOf "list.append" with full:=toString (Bind.lastOf "list")++toString "." ++ toString (Bind.lastOf "list.append")} ⟨[a,b],[]⟩=pure ():=by kernel_rfl
theorem check_app {b:Addr}{Q:Unit→Shared→Prop}{vs:Array Value} (hb:h.get? b=some {cls:= .type "list",data:= .seq vs n}) (hq:Q () ⟨h,g,d,t,os⟩):
  wpAny (model prog w) A (checkBoundCall "list.append" ⟨[.ref b,x],[]⟩) Q E ⟨h,g,d,t,os⟩:=by
 have hT:(⟨h,g,d,t,os⟩:Shared).TypeIs (.ref b) "list" :=⟨_,hb,rfl⟩
 have f1:=kind_app
 have f2:=varargs_app
 have f3:=sub_list_module
 have f4:=sub_list_type
 unfold checkBoundCall
 rw [sig_app]
 skip
 rw [f1]
 refine if_not (by decide) ?_
 refine wpAny_bind (wpAny_isInstance hT f3 ?_)
 refine if_not (by rw [f2];decide) ?_
 refine wpAny_bind (m:=isType (.ref b)) ?_
 repeat (any_goals (first | assumption | with_reducible exact wpAny_of_eq (ca_app _ _) hq | wp_step))
theorem bm_call {b:Addr}{R:Result→Shared→Prop}{vs:Array Value} (hx:h.get? a=some {cls:= .type "builtin_function_or_method",data:= .fields #[.builtin "list.append", .ref b]})
  (hb:h.get? b=some {cls:= .type "list",data:= .seq vs n})
  (hq:codeAny (model prog w) A (.builtin "list.append" ⟨[.ref b,x],[]⟩) R ⟨h,g,d,t,os⟩):codeAny (model prog w) A (.call (.ref a) ⟨[x],[]⟩) R ⟨h,g,d,t,os⟩:=by
 refine codeAny_of_tree ?_
 show wpAny _ A.in1 (callAny (.ref a) ⟨[x],[]⟩) _ _ _
 simp only [callAny]
 refine wpAny_bind (wpAny_load hx ?_)
 simp only [show (Value.type "builtin_function_or_method" == Value.type "method" || Value.type "builtin_function_or_method" == Value.type "builtin_function_or_method" || Value.type "builtin_function_or_method" == Value.type "method-wrapper")=true by decide,if_true]
 refine if_so (by decide) ?_
 refine wpAny_bind (check_app hb ?_)
 refine wpAny_bind (wpAny_pure (wpAny_pure ?_))
 exact ⟨Code.quiet_builtin _ (by decide +kernel),hq⟩
end
section
variable {M:Model}{A:Around}{E:Value→Shared→Prop}{s:Shared}
theorem callWith_bm {pos:Pos}{u:Addr}{first:List Value}{args:List (Bool×Sem Value)} (hplain:args.any (·.1)=false)
  (h:wpAny M A (evalArgs (.ref u) true args []) (fun x s₁=>(∃vs,s₁.heap.get? u=some {cls:= .type "builtin_function_or_method",data:= .fields vs})∧wpAny M A (call (.ref u) (first++x.pos) x.kw) Q E s₁) E s):wpAny M A (callWith pos (.ref u) first args []) Q E s:=by
 unfold callWith
 refine wpAny_bind (wpAny_holding (wpAny_mono h (fun x s₁ h₁=>wpAny_bind (wpAny_standAt ?_)) fun _ _ x=>x))
 refine cps fun GC hGC=> ?_
 obtain ⟨⟨vs,ho⟩,hcall⟩:=h₁
 refine hGC ?_
 simp only [hplain,List.any_nil,Bool.or_false]
 refine wpAny_bind (m:=keeperOf (.ref u)) ?_
 unfold keeperOf
 refine wpAny_bind (wpAny_load ho ?_)
 simp only [show (Value.type "builtin_function_or_method" != Value.type "method")=true by decide,show (Value.type "builtin_function_or_method" == Value.type "builtin_function_or_method" || Value.type "builtin_function_or_method" == Value.type "method-wrapper")=true by decide,if_true]
 refine wpAny_pure ?_
 exact wpAny_bind (wpAny_mono hcall (fun r s₂ hr=>wpAny_bind (wpAny_holding (wpAny_point (wpAny_pure hr)))) fun _ _ x=>x)
end
end Mine
end
section
open PySem PySem.W PySem.Calls PyProof.Rows
set_option maxRecDepth 10000
set_option tactic.hygienic false
namespace Mine
variable {x:PySem.Str}{pos:Pos}{fx:PM PV}
theorem bm_append {prog:Program}{w:World}{A:Around}{E:Value→Shared→Prop}{s:Shared}{a D:Addr}{its:Array Value}{n:Nat}{x:Value}{Q:Value→Shared→Prop}
  (hx:s.heap.get? a=some {cls:= .type "builtin_function_or_method",data:= .fields #[.builtin "list.append", .ref D]}) (ho:s.heap.get? D=some {cls:= .type "list",data:= .seq its n})
  (h:∀h',Heap.SameBut D s.heap h'→h'.get? D=some {cls:= .type "list",data:= .seq (its.push x) (n+1)}→Q .none {s with heap:=h'}) (hsz:its.size≤sizeLine):
  wpAny (model prog w) A (call (.ref a) [x]) Q E s:=by
 refine wpAny_call ?_
 refine bm_call hx ho (codeAny_builtin PySem.F.entry_list_append ?_)
 show wpAny _ _ (updateSeq D (·.push x) >>= fun _=>ret .none) _ _ s
 refine wpAny_bind ?_
 refine wpAny_updateSeq ho rfl (wpAny_pure (h _ (Heap.SameBut.update ..) ?_))
 rw [Heap.get?_update_self _ ho (by rw [mapSeq_push];rfl),mapSeq_push]
section
variable {G:Glb}{fi:FI}
noncomputable def bmG:PV→PM PV
 | .cell k=>fun σ=>if (cellL k σ).isSome then .ok (.bm k) σ else .bad
 | _=>badM
set_option tactic.hygienic true in
theorem R_bm {xp:Pos} (hx:EvR G fi (.Name x xp) fx)
  (hbase:∀env,eval (.Attribute (.Name x xp) "append" pos) env=(do let o ←eval (.Name x xp) env;standAt pos.atName;let r ←holding [o] (getAttr o "append" true);letTemporaryGo (.Name x xp) o r;pure r)):
  EvR G fi (.Attribute (.Name x xp) "append" pos) (bnd fx bmG):=by
 intro A h₀ L env C held s σ pv σ' Q E hf R hQ
 refine cps fun GC hGC=> ?_
 obtain ⟨o,σ₁,h1,hf1⟩:=bnd_ok hf
 refine hGC ?_
 refine Attribute_Name_ (hx A h₀ L env C held s σ o σ₁ _ _ h1 R fun vo h' t' R1=> ?_) (hbase env)
 unfold bmG at hf1
 split at hf1
 ·rename_i k
  split at hf1
  ·rename_i hs
   cases hf1
   refine cps fun GC hGC=> ?_
   obtain ⟨xs,hxs⟩:=Option.isSome_iff_exists.mp hs
   obtain ⟨m,α,N,R1⟩:=R1
   obtain ⟨a,ha,rfl⟩:=(R1.held (_,vo) (.head _)).cell_inv
   obtain ⟨vs,n,w1,w2,w3,w4,_⟩:=R1.listAt hxs ha
   refine hGC ?_
   have P:=(R1.drop (held':=held) fun p hp=> .tail _ hp).push ⟨.type "builtin_function_or_method",none, .fields #[.builtin "list.append", .ref a], #[]⟩ rfl
   refine app_attr (R1.nw _ w1).1 (hQ _ _ (t'+1) ⟨m,α,_,(P.toks (Nat.succ_pos _)).hold (.bm (.head _) R1.fresh ha)⟩)
  ·cases hf1
 ·cases hf1
noncomputable def pushM (fx fa:PM PV):PM PV:=bnd fx fun o=>bnd fa fun x=>match o with
 | .bm k=>appG k x
 | _=>badM
set_option tactic.hygienic true in
theorem R_push {np:Pos}{e:Expr}{fa:PM PV} (hx:EvR G fi (.Name x np) fx) (ha:EvR G fi e fa) (hst:∀env,starEach [e] env=[(false,eval e env)]):
  EvR G fi (.Call (.Name x np) [e] [] pos) (pushM fx fa):=by
 intro A h₀ L env C held s σ pv σ' Q E hf R hQ
 refine cps fun GC hGC=> ?_
 obtain ⟨qo,σ₁,h1,hf1⟩:=bnd_ok hf
 obtain ⟨qx,σ₂,h2,hf2⟩:=bnd_ok hf1
 refine hGC ?_
 split at hf2
 ·rename_i k
  show wpAny _ A (do callWith pos (←eval (.Name x np) env) [] (backTo pos (starEach [e] env)) (backToKw pos (keywordEach [] env))) Q E s
  refine wpAny_bind (hx A h₀ L env C held s σ _ σ₁ _ _ h1 R fun fv h' t' R1=> ?_)
  refine cps fun GC hGC=> ?_
  obtain ⟨α0,N0,r0⟩:=inv1 R1
  obtain ⟨u,b0,rfl, -, -, -⟩:=r0.bm_inv
  refine hGC ?_
  have H:EvsR G fi [e] [fa]:= .cons ha (fun env=>hst env) .nil
  refine callWith_bm (H.plain pos env) ?_
  have he:evL [fa] σ₁= .ok [qx] σ₂:=by
   unfold evL bnd;rw [h2];rfl
  refine evalArgs_spl C H (pvs:=[qx]) he R1 fun vs h'' t'' hl R2=> ?_
  refine cps fun GC hGC=> ?_
  obtain ⟨va,rfl⟩:=one_arg hl rfl
  have R2:Rel G fi h₀ L σ₂ ((qx,va)::(.bm k, .ref u)::held) (Sh s h'' t''):=R2
  obtain ⟨m,α,N,R'⟩:=R2
  obtain ⟨u2,b2,eu2,g1,g2,g3⟩:=(R'.held (_,Value.ref u) (.tail _ (.head _))).bm_inv
  refine hGC ?_
  cases eu2
  refine ⟨⟨_,(R'.nw _ g1).1⟩, ?_⟩
  refine cps fun GC hGC=> ?_
  obtain ⟨ws,n,w1,w2,w3⟩:=append_ok (Q:=Q) hf2 R' g3 (R'.held (_,va) (.head _)) fun h3 N' ee R3=>by
   subst ee;exact hQ .none h3 t'' ⟨m,α,N',(R3.drop fun p hp=> .tail _ (.tail _ hp)).hold .none⟩
  refine hGC ?_
  exact bm_append (R'.nw _ g1).1 w1 (fun h' hs ho=>w3 h' hs ho) w2
 ·cases hf2
end
end Mine
end
section
open PySem PySem.W PySem.Calls PyProof.Rows
set_option maxRecDepth 10000
set_option tactic.hygienic false
namespace Mine
variable {i j k k2:Nat}{x:PySem.Str}{pos tpos vpos:Pos}{e ea eb t₁ t₂:Expr}{fa fb:PM PV}
section
variable {G:Glb}{fi:FI}
noncomputable def AsgR (G:Glb) (fi:FI) (t:Expr) (g:PV→PM Fl):Prop:=
 ∀(A:Around) (h₀:Heap) (L:Addr) (env:Env),Cx G fi A h₀ L env→∀(held:List (PV×Value)) (s:Shared) (σ:St) (pv:PV) (v:Value) (fl:Fl) (σ':St) (Q:Unit→Shared→Prop) (E:Value→Shared→Prop),
  g pv σ= .ok fl σ'→Rel G fi h₀ L σ ((pv,v)::held) s→(∀h' t',fl= .next→Rel G fi h₀ L σ' ((pv,v)::held) (Sh s h' t')→Q () (Sh s h' t'))→wpAny (model G.prog G.w) A (assign t env v) Q E s
noncomputable def setG (i:Nat) (pv:PV):PM Fl:=fun σ=>if isUnb pv then .bad else .ok .next {σ with vars:=σ.vars.set i pv}
theorem A_name (hx:nm fi i=some x):AsgR G fi (.Name x pos) (setG i):=by
 intro A h₀ L env C held s σ pv v fl σ' Q E hf R hQ
 unfold setG at hf
 split at hf
 ·cases hf
 ·rename_i hu
  cases hf
  exact assign_Name (store_ok C hx (by simpa using hu) R fun h' t' R'=>hQ h' t' rfl R')
noncomputable def attrSG (C:Addr) (id j:Nat) (fo:PM PV) (pv:PV):PM Fl:=bnd fo fun o=>attrS C id j o pv
theorem A_attr {C:Addr}{id:Nat}{name:PySem.Str}{o:Expr}{fo:PM PV} (ho:EvR G fi o fo)
  (hj:(G.tabs.t id)[j]? =some name) (hs:findIn G.K (.ref C) "__setattr__" =some (some (.builtin "object.__setattr__"))) (hp:plainOver G.K C=true) (ht:takerIn G.K C name=some none) (hh:hasDictIn G.K C=true):
  AsgR G fi (.Attribute o name pos) (attrSG C id j fo):=by
 intro A h₀ L env Cx held s σ pv v fl σ' Q E hf R hQ
 obtain ⟨qo,σ₁,h1,h2⟩:=bnd_ok hf
 show wpAny _ A (do
  let ov ←holding [v] (eval o env)
  standAt pos.atName
  holding [v,ov] (setAttr ov name v)
  release [v,ov] []) Q E s
 refine wpAny_bind (wpAny_holding (ho A h₀ L env Cx _ s σ qo σ₁ _ _ h1 R fun vo h' t' R1=> ?_))
 refine wpAny_bind (wpAny_standAt (wpAny_bind (wpAny_holding ?_)))
 exact attr_set Cx hj hs hp ht hh h2 R1 fun h3 t3 e3 R3=>wpAny_release (hQ h3 t3 e3 R3)
noncomputable def set2M (g₁ g₂:PV→PM Fl) (f:PM PV):PM Fl:=bnd f fun pv=>bnd (g₁ pv) fun _=>g₂ pv
theorem X_set2 {g₁ g₂:PV→PM Fl}{f:PM PV} (h1:AsgR G fi t₁ g₁) (h2:AsgR G fi t₂ g₂) (h:EvR G fi e f)
  (he:∀env,(assignEach [t₁,t₂] env).map (·.2)=[assign t₁ env,assign t₂ env]) (hw:∀env,swappedStores [t₁,t₂] e env=pure none):
  ExR G fi (.Assign [t₁,t₂] e pos) (set2M g₁ g₂ f):=by
 intro A h₀ L env C held s σ fl σ' Q E hf R hQ
 refine cps fun GC hGC=> ?_
 obtain ⟨pv,σ₁,k1,hf1⟩:=bnd_ok hf
 obtain ⟨f1,σ₂,k2,k3⟩:=bnd_ok hf1
 refine hGC ?_
 refine wpAny_Assign_two (h A h₀ L env C held s σ pv σ₁ _ _ k1 R fun v h' t' R1=> ?_) (he env) (hw env)
 refine h1 A h₀ L env C held _ σ₁ pv v f1 σ₂ _ _ k2 R1 fun h2' t2 e2 R2=> ?_
 refine h2 A h₀ L env C held _ σ₂ pv v fl σ' _ _ k3 R2 fun h3 t3 e3 R3=> ?_
 subst e3
 exact hQ .next h3 t3 R3.tail
theorem two_of_len {β γ:Type}{a b:β}{ws:List γ} (h:[a,b].length=ws.length):∃v w,ws=[v,w]:=by
 match ws,h with
 | [v,w],_=>exact ⟨v,w,rfl⟩
noncomputable def swap2M (i j:Nat) (fa fb:PM PV):PM Fl:=bnd fa fun a=>bnd fb fun b=>bnd (setG j b) fun _=>setG i a
theorem X_swap2 {y:PySem.Str}{p1 p2:Pos} (hx:nm fi i=some x) (hy:nm fi j=some y)
  (ha:EvR G fi ea fa) (hb:EvR G fi eb fb) (ha1:∀env,starEach [ea,eb] env=(false,eval ea env)::starEach [eb] env) (hb1:∀env,starEach [eb] env=(false,eval eb env)::starEach [] env)
  (hw:∀L f cd,swappedStores [.Tuple [.Name x p1, .Name y p2] k tpos] (.Tuple [ea,eb] k2 vpos) (envOfC fi.qual fi.scope L f cd)=pure (some [x,y])):
  ExR G fi (.Assign [.Tuple [.Name x p1, .Name y p2] k tpos] (.Tuple [ea,eb] k2 vpos) pos) (swap2M i j fa fb):=by
 intro A h₀ L env C held s σ fl σ' Q E hf R hQ
 refine cps fun GC hGC=> ?_
 obtain ⟨a,σ₁,k1,hf1⟩:=bnd_ok hf
 obtain ⟨b,σ₂,k2',hf2⟩:=bnd_ok hf1
 obtain ⟨f3,σ₃,k3,k4⟩:=bnd_ok hf2
 refine hGC ?_
 have T:EvR G fi (.Tuple [ea,eb] k2 vpos) (tupM true [fa,fb]):=R_tup (.cons ha ha1 (.cons hb hb1 .nil))
 have ht:tupM true [fa,fb] σ= .ok (.seq true [a,b]) σ₂:=by
  have e:evL [fa,fb] σ= .ok [a,b] σ₂:=by
   simp only [evL,bnd,k1,k2',ret1]
  unfold tupM bnd
  rw [e]
  rfl
 have hh:=C.hd
 refine Assign_Tuple_swapped (names:=[x,y]) (T A h₀ L env C held s σ _ σ₂ _ _ ht R fun v h' t' R1=> ?_) rfl (by obtain ⟨f,cd,e⟩:=C.isenv (nm_some hx).1;rw [e];exact hw L f cd)
 refine cps fun GC hGC=> ?_
 obtain ⟨m,α,N,R1⟩:=R1
 obtain ⟨d,ws,n,rfl,h1,hda,h2,h3⟩:=(R1.held (_,v) (.head _)).seq_inv
 obtain ⟨va,vb,rfl⟩:=two_of_len h2
 refine hGC ?_
 refine unpackItemsN_ (items:=[va,vb].toArray) R1.fr R1.nw (News.isTup R1.nw h1) C.hd rfl fun h4 F4 N4=> ?_
 have R2:=((R1.reheap F4 N4 R1.tok).drop (held':=held) fun p hp=> .tail _ hp).hold (h3 (a,va) (.head _)) |>.hold (h3 (b,vb) (.tail _ (.head _)))
 skip
 unfold setG at k3 k4
 split at k3
 ·cases k3
 ·rename_i hub
  cases k3
  split at k4
  ·cases k4
  ·rename_i hua
   cases k4
   refine assignInOrder_cons (bindName_ (store_ok C hy (by simpa using hub) ⟨m,α,N,R2⟩ fun h5 t5 R3=> ?_))
   refine assignInOrder_cons (bindName_ (store_ok C hx (by simpa using hua) R3.tail fun h6 t6 R4=> ?_))
   exact assignInOrder_nil (hQ .next h6 t6 R4.tail)
noncomputable def unp2M (g₁ g₂:PV→PM Fl) (fa fb:PM PV):PM Fl:=bnd fa fun a=>bnd fb fun b=>bnd (g₁ a) fun _=>g₂ b
theorem X_unp2 {g₁ g₂:PV→PM Fl} (hvn:fi.cmp=false) (h1:AsgR G fi t₁ g₁) (h2:AsgR G fi t₂ g₂)
  (ha:EvR G fi ea fa) (hb:EvR G fi eb fb) (ha1:∀env,starEach [ea,eb] env=(false,eval ea env)::starEach [eb] env) (hb1:∀env,starEach [eb] env=(false,eval eb env)::starEach [] env)
  (he:∀env,assignEach [t₁,t₂] env=[(false,assign t₁ env),(false,assign t₂ env)])
  (hw:∀L f cd,swappedStores [.Tuple [t₁,t₂] k tpos] (.Tuple [ea,eb] k2 vpos) (envOfC fi.qual fi.scope L f cd)=pure none):
  ExR G fi (.Assign [.Tuple [t₁,t₂] k tpos] (.Tuple [ea,eb] k2 vpos) pos) (unp2M g₁ g₂ fa fb):=by
 intro A h₀ L env C held s σ fl σ' Q E hf R hQ
 refine cps fun GC hGC=> ?_
 obtain ⟨a,σ₁,k1,hf1⟩:=bnd_ok hf
 obtain ⟨b,σ₂,k2',hf2⟩:=bnd_ok hf1
 obtain ⟨f3,σ₃,k3,k4⟩:=bnd_ok hf2
 refine hGC ?_
 have T:EvR G fi (.Tuple [ea,eb] k2 vpos) (tupM true [fa,fb]):=R_tup (.cons ha ha1 (.cons hb hb1 .nil))
 have ht:tupM true [fa,fb] σ= .ok (.seq true [a,b]) σ₂:=by
  have e:evL [fa,fb] σ= .ok [a,b] σ₂:=by
   simp only [evL,bnd,k1,k2',ret1]
  unfold tupM bnd
  rw [e]
  rfl
 refine Assign_Tuple (T A h₀ L env C held s σ _ σ₂ _ _ ht R fun v h' t' R1=> ?_) rfl (by obtain ⟨f,cd,e⟩:=C.isenv hvn;rw [e];exact hw L f cd)
 refine cps fun GC hGC=> ?_
 obtain ⟨m,α,N,R1⟩:=R1
 obtain ⟨d,ws,n,rfl,q1,hda,q2,q3⟩:=(R1.held (_,v) (.head _)).seq_inv
 obtain ⟨va,vb,rfl⟩:=two_of_len q2
 refine hGC ?_
 refine unpackN_ (items:=[va,vb].toArray) R1.fr R1.nw (News.isTup R1.nw q1) C.hd (by rw [he env];rfl) (by rw [he env];rfl) fun h4 F4 N4=> ?_
 have R2:=((R1.reheap F4 N4 R1.tok).drop (held':=held) fun p hp=> .tail _ hp).hold (q3 (b,vb) (.tail _ (.head _))) |>.hold (q3 (a,va) (.head _))
 rw [he env]
 refine assignInOrder_cons (h1 A h₀ L env C _ _ σ₂ a va f3 σ₃ _ _ k3 ⟨m,α,N,R2⟩ fun h5 t5 e5 R3=> ?_)
 refine assignInOrder_cons (h2 A h₀ L env C _ _ σ₃ b vb fl σ' _ _ k4 R3.tail fun h6 t6 e6 R4=> ?_)
 subst e6
 exact assignInOrder_nil (hQ .next h6 t6 R4.tail)
noncomputable def augM (g:PV→PV→Option PV) (i:Nat) (fe:PM PV):PM Fl:=bnd (lift2 g (vr i) fe) (setG i)
theorem X_aug {op:Operator}{g:PV→PV→Option PV} (hop:Op2 G (inplaceOp op) g) {fe:PM PV} (hx:nm fi i=some x) (he:EvR G fi e fe):
  ExR G fi (.AugAssign (.Name x tpos) op e pos) (augM g i fe):=by
 have hx':=hx
 obtain ⟨hc,hx⟩:=nm_some hx
 intro A h₀ L env C held s σ fl σ' Q E hf R hQ
 refine cps fun GC hGC=> ?_
 obtain ⟨c,σ₁,h0,k4⟩:=bnd_ok hf
 obtain ⟨a,σ₂,b,h1,h2,h3⟩:=lift2_ok h0
 refine hGC ?_
 refine wpAny_AugAssign_Name ?_
 refine cps fun GC hGC=> ?_
 obtain ⟨rfl,e1,hu1⟩:=vr_ok h1
 obtain ⟨m,α,N,R0⟩:=(fun z=>z) R
 obtain ⟨f0,cd,henv⟩:=C.isenv hc
 refine hGC ?_
 have hm:x∈fi.vnames:=List.mem_of_getElem? hx
 rcases R0.vars i x a hx e1 with rfl | ⟨_,va,hv,hr⟩
 ·cases hu1
 rw [henv]
 refine wpAny_loadName_local (m:=m) C.ok.kind (C.ok.loc hc x hm) R0.fr.ns hv ?_
 rw [←henv]
 have R1:Rel G fi h₀ L σ₂ ((a,va)::held) s:=⟨m,α,N,R0.hold hr⟩
 refine he A h₀ L env C _ _ σ₂ b σ₁ _ _ h2 R1 fun vb h'' t'' R2=> ?_
 refine hop fi A h₀ L env C held _ σ₁ a b va vb c _ _ h3 R2 fun v h3 t3 R3=> ?_
 unfold setG at k4
 split at k4
 ·cases k4
 ·rename_i hu
  cases k4
  exact store_ok C hx' (by simpa using hu) R3 fun h6 t6 R4=>hQ .next h6 t6 R4.tail
end
end Mine
end
section
open PySem
set_option maxRecDepth 100000
set_option tactic.hygienic false
namespace Mine
namespace RX
open PySem.Sre PySem.Sre.M
variable {e:En}{k:Nat}{r:Option Nat}{c:Cf}
structure En where
 C:Array Nat
 T:Array Nat
 lim:Nat
 st:Nat
structure Cf where
 pc:Nat
 pos:Nat
 fr:List Sre.Frame
 lp:Array Loop
 inn:Option Nat
 hd:Nat
 om:Bool
 sn:Seen
noncomputable abbrev mk (e:En) (c:Cf):M:=
 {code:=e.C,text:=e.T,lim:=e.lim,start:=e.st,pc:=c.pc,pos:=c.pos,handed:=c.hd,outermost:=c.om,marks:= #[],loops:=c.lp,inner:=c.inn,frames:=c.fr,weight:=c.fr.length,seen:=c.sn}
noncomputable abbrev an (e:En) (c:Cf) (b:Bool):M:=
 {code:=e.C,text:=e.T,lim:=e.lim,start:=e.st,pc:=c.pc,pos:=c.pos,handed:=c.hd,outermost:=c.om,marks:= #[],loops:=c.lp,inner:=c.inn,frames:=c.fr,weight:=c.fr.length,seen:=c.sn,answer:=some b}
noncomputable def Fin (e:En) (k:Nat) (m:M) (r:Option Nat):Prop:=∃n,n≤k∧match r with
 | some h=>(runFor n m).outcome=some .matched∧(runFor n m).handed=h∧(runFor n m).start=e.st
 | none=>(runFor n m).outcome=some .failed
theorem fin_step {m:M} (ho:m.outcome=none) (h:Fin e k m.step r):Fin e (k+1) m r:=by
 obtain ⟨n,hn,h⟩:=h
 refine ⟨n+1,Nat.succ_le_succ hn, ?_⟩
 have:runFor (n+1) m=runFor n m.step:=by
  show (if m.outcome.isSome then m else runFor n m.step)=_
  rw [ho];rfl
 rw [this];exact h
theorem Fin.mono {k':Nat}{m:M} (h:Fin e k m r) (hk:k≤k'):Fin e k' m r:=let ⟨n,hn,h⟩:=h;⟨n,Nat.le_trans hn hk,h⟩
noncomputable def Acc (C:Array Nat) (i:Nat) (P:Nat→Bool):Prop:=∀c sn,∃sn',accepts C i c sn= .ok (P c,sn')
noncomputable def opAt (C:Array Nat) (i:Nat):Option Op:=ops[C.getD i 0]?
noncomputable def charOp:Op→Bool
 | .ANY | .ANY_ALL | .LITERAL | .NOT_LITERAL | .IN=>true
 | _=>false
variable {e:En}{k:Nat}{r:Option Nat}
theorem step_run (h:c.pc<e.C.size):(mk e c).step=(mk e c).exec:=by
 unfold Sre.M.step
 simp only [Option.isSome_none,Bool.false_eq_true,if_false]
 rw [if_pos h]
theorem f_char {op:Op}{P:Nat→Bool} (h:c.pc<e.C.size) (ho:opAt e.C c.pc=some op) (hc:charOp op=true) (hA:Acc e.C c.pc P) (hp:c.pos<e.lim) (hP:P (e.T.getD c.pos 0)=true)
  (hk:∀sn,Fin e k (mk e {c with pc:=c.pc+itemWidth e.C c.pc,pos:=c.pos+1,sn:=sn}) r):Fin e (k+1) (mk e c) r:=by
 refine fin_step rfl ?_
 rw [step_run h]
 obtain ⟨sn',ha⟩:=hA (e.T.getD c.pos 0) (c.sn.add (e.C.getD c.pc 0))
 have key:(mk e c).exec=mk e {c with pc:=c.pc+itemWidth e.C c.pc,pos:=c.pos+1,sn:=sn'}:=by
  unfold Sre.M.exec
  have hw:(mk e c).word 0=e.C.getD c.pc 0:=rfl
  rw [hw,show ops[e.C.getD c.pc 0]? =some op from ho]
  cases op <;> first | (cases hc;done) | skip
  all_goals
   simp only []
   rw [if_neg (by simpa using hp),ha,hP]
 rw [key];exact hk sn'
theorem f_charF {op:Op}{P:Nat→Bool} (h:c.pc<e.C.size) (ho:opAt e.C c.pc=some op) (hc:charOp op=true) (hA:Acc e.C c.pc P) (hp:c.pos<e.lim→P (e.T.getD c.pos 0)=false)
  (hk:∀sn,Fin e k (an e {c with sn:=sn} false) r):Fin e (k+1) (mk e c) r:=by
 refine fin_step rfl ?_
 rw [step_run h]
 obtain ⟨sn',ha⟩:=hA (e.T.getD c.pos 0) (c.sn.add (e.C.getD c.pc 0))
 have key:∃sn,(mk e c).exec=an e {c with sn:=sn} false:=by
  unfold Sre.M.exec
  have hw:(mk e c).word 0=e.C.getD c.pc 0:=rfl
  rw [hw,show ops[e.C.getD c.pc 0]? =some op from ho]
  by_cases hpos:c.pos<e.lim
  ·refine ⟨sn', ?_⟩
   cases op <;> first | (cases hc;done) | skip
   all_goals
    simp only []
    rw [if_neg (by simpa using hpos),ha,hp hpos]
    rfl
  ·refine ⟨c.sn.add (e.C.getD c.pc 0), ?_⟩
   cases op <;> first | (cases hc;done) | skip
   all_goals
    simp only []
    rw [if_pos (by simpa using hpos)]
    rfl
 obtain ⟨sn,key⟩:=key
 rw [key];exact hk sn
noncomputable def cnt (T:Array Nat) (P:Nat→Bool):Nat→Nat→Nat
 | 0,_=>0
 | n+1,p=>if P (T.getD p 0) then cnt T P n (p+1)+1 else 0
theorem run_eq {C T:Array Nat}{i:Nat}{P:Nat→Bool} (hA:Acc C i P):∀(n p f:Nat) (sn:Seen),∃sn',Sre.run C T i n p f sn= .ok (f+cnt T P n p,sn')
 | 0,p,f,sn=>⟨sn,rfl⟩
 | n+1,p,f,sn=>by
  obtain ⟨s1,h1⟩:=hA (T.getD p 0) sn
  unfold Sre.run
  rw [h1]
  cases hP:P (T.getD p 0)
  ·refine ⟨s1, ?_⟩
   unfold cnt
   rw [hP]
   rfl
  ·obtain ⟨s2,h2⟩:=run_eq hA n (p+1) (f+1) s1
   refine ⟨s2, ?_⟩
   show Sre.run C T i n (p+1) (f+1) s1=_
   rw [h2]
   conv=>rhs;unfold cnt
   rw [hP,if_pos rfl]
   congr 2;exact Q13 (.n2 _ _)
noncomputable def fr0 (c:Cf) (w:Wait) (n:Int) (wh:Bool) (lpi:Nat:=0) (bg:Option Nat:=none):Sre.Frame:=
 {wait:=w,pc:=c.pc,pos:=c.pos,outermost:=c.om,count:=n,kept:={whole:=wh},loop:=lpi,began:=bg}
theorem keep_eq {wh:Bool}:(mk e c).keep wh={whole:=wh}:=by
 unfold M.keep
 cases wh <;> simp
noncomputable def small (c:Cf):Prop:=c.fr.length<16000000
theorem attempt_eq {f:Sre.Frame}{t p:Nat}{om:Bool} (hf:f.kept.marks= #[]) (hs:small c):(mk e c).attempt f t p om=mk e {c with fr:=f::c.fr,pc:=t,pos:=p,hd:=p,om:=om}:=by
 unfold M.attempt
 rw [hf]
 unfold small at hs
 rw [if_neg (by show ¬(c.fr.length+1+0>16777216);exact lin1 (.n (.t (.k 16777216) (.a (.a .v0 .k1) .k0))) (.t .v0 (.k 16000000)) (.w [1,1]) rfl (.n1 _) hs)]
 rfl
noncomputable def most (w:Nat) (room:Nat):Nat:=min w room
theorem f_rep1 {P:Nat→Bool}{n:Nat} (h:c.pc<e.C.size) (ho:opAt e.C c.pc=some .REPEAT_ONE) (hA:Acc e.C (c.pc+4) P) (hs:small c)
  (hn:n=cnt e.T P (min (e.C.getD (c.pc+3) 0) (e.lim-c.pos)) c.pos) (hle:e.C.getD (c.pc+2) 0≤n) (hpos:c.pos≤e.lim)
  (hroom:e.C.getD (c.pc+2) 0≤e.lim-c.pos)
  (hk:∀sn wh,Fin e k (mk e {c with pc:=c.pc+1+e.C.getD (c.pc+1) 0,pos:=c.pos+n,hd:=c.pos+n,fr:=fr0 {c with pos:=c.pos+n} .giveBack n wh::c.fr,sn:=sn}) r):Fin e (k+1) (mk e c) r:=by
 refine fin_step rfl ?_
 rw [step_run h]
 obtain ⟨sn',ha⟩:=run_eq (T:=e.T) hA (min (e.C.getD (c.pc+3) 0) (e.lim-c.pos)) c.pos 0 ((c.sn.add (e.C.getD c.pc 0)).add (e.C.getD (c.pc+4) 0))
 have key:(mk e c).exec=mk e {c with pc:=c.pc+1+e.C.getD (c.pc+1) 0,pos:=c.pos+n,hd:=c.pos+n,fr:=fr0 {c with pos:=c.pos+n} .giveBack n c.inn.isSome::c.fr,sn:=sn'}:=by
  unfold Sre.M.exec
  have hw:(mk e c).word 0=e.C.getD c.pc 0:=rfl
  rw [hw,show ops[e.C.getD c.pc 0]? =some .REPEAT_ONE from ho]
  simp only []
  have hr:((e.lim:Int)-(c.pos:Int)).toNat=e.lim-c.pos:=by exact Q14 (.n4 _ _ _ _) rfl rfl
  rw [if_neg (by show ¬((e.C.getD (c.pc+2) 0:Int)>_);exact lin3 (.n (.T (.s (.c .v0) (.c .v1)) (.c .v2))) (.l .v1 .v0) (.l .v2 .v3) (.b 3 .v0 .v1) (.d 3 (.w [0,1,1,0,1]) (.w [0,1,1,1,1])) rfl (.n4 _ _ _ _) hpos hroom rfl)]
  show (match Sre.run e.C e.T (c.pc+4) (min (e.C.getD (c.pc+3) 0) ((e.lim:Int)-(c.pos:Int)).toNat) c.pos 0 ((c.sn.add (e.C.getD c.pc 0)).add (e.C.getD (c.pc+4) 0)) with
   | .error why=>_
   | .ok (n,seen)=>_)=_
  rw [hr,ha,Nat.zero_add, ←hn]
  simp only []
  rw [if_neg (by show ¬(n<e.C.getD (c.pc+2) 0);exact lin1 (.n (.t .v0 .v1)) (.l .v1 .v0) (.w [1,1]) rfl (.n2 _ _) hle)]
  exact attempt_eq (c:={c with pos:=c.pos+n,sn:=sn'}) (by show (M.keep (mk e {c with pos:=c.pos+n,sn:=sn'}) c.inn.isSome).marks= #[];rw [keep_eq]) hs |>.trans (by
   show mk e _=mk e _
   congr 1
   show Cf.mk _ _ ({(mk e {c with pos:=c.pos+n,sn:=sn'}).frame .giveBack with count:=(n:Int),kept:=(mk e {c with pos:=c.pos+n,sn:=sn'}).keep c.inn.isSome}::c.fr) _ _ _ _ _=_
   rw [keep_eq];rfl)
 rw [key];exact hk sn' _
theorem f_rep1F {P:Nat→Bool} (h:c.pc<e.C.size) (ho:opAt e.C c.pc=some .REPEAT_ONE) (hA:Acc e.C (c.pc+4) P) (hpos:c.pos≤e.lim)
  (hn:cnt e.T P (min (e.C.getD (c.pc+3) 0) (e.lim-c.pos)) c.pos<e.C.getD (c.pc+2) 0)
  (hk:∀c',c'.fr=c.fr→c'.lp=c.lp→c'.inn=c.inn→Fin e k (an e c' false) r):Fin e (k+1) (mk e c) r:=by
 refine fin_step rfl ?_
 rw [step_run h]
 refine cps fun GC hGC=> ?_
 obtain ⟨sn',ha⟩:=run_eq (T:=e.T) hA (min (e.C.getD (c.pc+3) 0) (e.lim-c.pos)) c.pos 0 ((c.sn.add (e.C.getD c.pc 0)).add (e.C.getD (c.pc+4) 0))
 have key:∃sn,(mk e c).exec=an e {c with sn:=sn} false:=by
  unfold Sre.M.exec
  have hw:(mk e c).word 0=e.C.getD c.pc 0:=rfl
  rw [hw,show ops[e.C.getD c.pc 0]? =some .REPEAT_ONE from ho]
  simp only []
  have hr:((e.lim:Int)-(c.pos:Int)).toNat=e.lim-c.pos:=by exact Q14 (.n4 _ _ _ _) rfl rfl
  by_cases hroom:(e.C.getD (c.pc+2) 0:Int)>(e.lim:Int)-(c.pos:Int)
  ·exact ⟨c.sn.add (e.C.getD c.pc 0),by rw [if_pos (by exact hroom)];rfl⟩
  ·refine ⟨sn', ?_⟩
   rw [if_neg (by exact hroom)]
   show (match Sre.run e.C e.T (c.pc+4) (min (e.C.getD (c.pc+3) 0) ((e.lim:Int)-(c.pos:Int)).toNat) c.pos 0 ((c.sn.add (e.C.getD c.pc 0)).add (e.C.getD (c.pc+4) 0)) with
    | .error why=>_
    | .ok (n,seen)=>_)=_
   rw [hr,ha,Nat.zero_add]
   simp only []
   rw [if_pos (by exact hn)]
   rfl
 obtain ⟨sn,key⟩:=key
 refine hGC ?_
 rw [key];exact hk _ rfl rfl rfl
theorem f_jump {op:Op} (h:c.pc<e.C.size) (ho:opAt e.C c.pc=some op) (hop:op= .JUMP∨op= .INFO) (hk:∀sn,Fin e k (mk e {c with pc:=c.pc+1+e.C.getD (c.pc+1) 0,sn:=sn}) r):Fin e (k+1) (mk e c) r:=by
 refine fin_step rfl ?_
 rw [step_run h]
 have key:(mk e c).exec=mk e {c with pc:=c.pc+1+e.C.getD (c.pc+1) 0,sn:=c.sn.add (e.C.getD c.pc 0)}:=by
  unfold Sre.M.exec
  have hw:(mk e c).word 0=e.C.getD c.pc 0:=rfl
  rw [hw,show ops[e.C.getD c.pc 0]? =some op from ho]
  rcases hop with rfl | rfl <;> rfl
 rw [key];exact hk _
theorem f_succ (h:c.pc<e.C.size) (ho:opAt e.C c.pc=some .SUCCESS) (hk:∀sn,Fin e k (an e {c with hd:=c.pos,sn:=sn} true) r):Fin e (k+1) (mk e c) r:=by
 refine fin_step rfl ?_
 rw [step_run h]
 have key:(mk e c).exec=an e {c with hd:=c.pos,sn:=c.sn.add (e.C.getD c.pc 0)} true:=by
  unfold Sre.M.exec
  have hw:(mk e c).word 0=e.C.getD c.pc 0:=rfl
  rw [hw,show ops[e.C.getD c.pc 0]? =some .SUCCESS from ho]
  simp only []
  rw [if_neg (by simp)]
  rfl
 rw [key];exact hk _
end RX
end Mine
end
section
open PySem
set_option maxRecDepth 100000
set_option tactic.hygienic false
namespace Mine
namespace RX
open PySem.Sre PySem.Sre.M
variable {c:Cf}{alt i n:Nat}{fs:List Sre.Frame}
variable {e:En}{k:Nat}{r:Option Nat}
theorem putBack_eq {m:M}{f:Sre.Kept} (hm:m.marks= #[]) (h1:m.lastmark= -1) (h2:m.lastindex= -1) (hf:f.marks= #[]) (h3:f.lastmark= -1) (h4:f.lastindex= -1):m.putBack f=m:=by
 unfold M.putBack
 rw [hf,h3,h4,hm]
 cases m
 simp_all
noncomputable def okK (f:Sre.Kept):Prop:=f.marks= #[]∧f.lastmark= -1∧f.lastindex= -1
theorem okK_of {wh:Bool}:okK {whole:=wh}:=⟨rfl,rfl,rfl⟩
theorem alt_go {kp:Sre.Kept} (hkp:okK kp) (hs:small c) (h0:(e.C.getD alt 0==0)=false):
  (mk e c).alternative alt kp=mk e {c with fr:={wait:= .nextBranch,pc:=alt,pos:=c.pos,outermost:=c.om,kept:=kp}::c.fr,pc:=alt+1,hd:=c.pos}:=by
 unfold M.alternative
 rw [if_neg (by show ¬((e.C.getD alt 0==0)=true);rw [h0];decide)]
 exact attempt_eq hkp.1 hs
theorem alt_end {kp:Sre.Kept} (h0:(e.C.getD alt 0==0)=true):(mk e c).alternative alt kp=an e c false:=by
 unfold M.alternative
 rw [if_pos (by exact h0)]
 rfl
theorem f_branch (h:c.pc<e.C.size) (ho:opAt e.C c.pc=some .BRANCH) (hs:small c) (h0:(e.C.getD (c.pc+1) 0==0)=false)
  (hk:∀sn kp,okK kp→Fin e k (mk e {c with fr:={wait:= .nextBranch,pc:=c.pc+1,pos:=c.pos,outermost:=c.om,kept:=kp}::c.fr,pc:=c.pc+2,hd:=c.pos,sn:=sn}) r):Fin e (k+1) (mk e c) r:=by
 refine fin_step rfl ?_
 rw [step_run h]
 have key:(mk e c).exec=(mk e {c with sn:=c.sn.add (e.C.getD c.pc 0)}).alternative (c.pc+1) ((mk e {c with sn:=c.sn.add (e.C.getD c.pc 0)}).keep c.inn.isSome):=by
  unfold Sre.M.exec
  have hw:(mk e c).word 0=e.C.getD c.pc 0:=rfl
  rw [hw,show ops[e.C.getD c.pc 0]? =some .BRANCH from ho]
 rw [key,keep_eq,alt_go (c:={c with sn:=c.sn.add (e.C.getD c.pc 0)}) okK_of hs h0]
 exact hk _ _ okK_of
theorem f_ans {b:Bool}{f:Sre.Frame} (hf:c.fr=f::fs) (hkp:f.kept.marks= #[])
  (hk:Fin e k (M.resume (mk e {c with fr:=fs,pc:=f.pc,pos:=f.pos,om:=f.outermost}) f b) r):Fin e (k+1) (an e c b) r:=by
 obtain ⟨pc,pos,fr,lp,inn,hd,om,sn⟩:=c
 cases hf
 refine fin_step rfl ?_
 have key:(an e ⟨pc,pos,f::fs,lp,inn,hd,om,sn⟩ b).step=M.resume (mk e ⟨f.pc,f.pos,fs,lp,inn,hd,f.outermost,sn⟩) f b:=by
  unfold Sre.M.step
  simp only [Option.isSome_none,Bool.false_eq_true,if_false]
  rw [hkp]
  have hw:(f::fs).length-(1+(#[]:Array (Option Nat)).size)=fs.length:=by simp
  rw [hw]
 rw [key];exact hk
noncomputable def good (f:Sre.Frame):Prop:=f.kept.marks= #[]∧(f.wait= .nextBranch∨f.wait= .giveBack∨f.wait= .closeLoop∨f.wait= .maxMore∨f.wait= .maxTail)
theorem f_win {h:Nat}:∀(fs:List Sre.Frame) (c:Cf),c.fr=fs→(∀f∈fs,good f)→c.hd=h→Fin e (fs.length+1) (an e c true) (some h)
 | [],c,hf,_,hh=>by
  obtain ⟨pc,pos,fr,lp,inn,hd,om,sn⟩:=c
  cases hf;cases hh
  exact ⟨1,Nat.le_refl 1,rfl,rfl,rfl⟩
 | f::fs,c,hf,hg,hh=>by
  have hgf:=hg f (.head _)
  refine f_ans hf hgf.1 ?_
  have rest:=fun c' (h1:c'.fr=fs) (h2:c'.hd=h)=>f_win (h:=h) fs c' h1 (fun g hg'=>hg g (.tail _ hg')) h2
  unfold M.resume
  rcases hgf.2 with e1 | e1 | e1 | e1 | e1 <;> rw [e1] <;> simp only [if_true]
  ·exact rest {c with fr:=fs,pc:=f.pc,pos:=f.pos,om:=f.outermost} rfl hh
  ·exact rest {c with fr:=fs,pc:=f.pc,pos:=f.pos,om:=f.outermost} rfl hh
  ·exact rest {c with fr:=fs,pc:=f.pc,pos:=f.pos,om:=f.outermost,inn:=_,lp:=_} rfl hh
  ·exact rest {c with fr:=fs,pc:=f.pc,pos:=f.pos,om:=f.outermost,lp:=_} rfl hh
  ·exact rest {c with fr:=fs,pc:=f.pc,pos:=f.pos,om:=f.outermost,inn:=_} rfl hh
theorem f_lose (hf:c.fr=[]):Fin e 1 (an e c false) none:=by
 obtain ⟨pc,pos,fr,lp,inn,hd,om,sn⟩:=c
 cases hf
 exact ⟨1,Nat.le_refl 1,rfl⟩
theorem f_nextB {f:Sre.Frame} (hf:c.fr=f::fs) (hw:f.wait= .nextBranch) (hkp:okK f.kept) (hs:fs.length<16000000) (h0:(e.C.getD (f.pc+e.C.getD f.pc 0) 0==0)=false)
  (hk:∀om,Fin e k (mk e {c with fr:={wait:= .nextBranch,pc:=f.pc+e.C.getD f.pc 0,pos:=f.pos,outermost:=om,kept:=f.kept}::fs,pc:=f.pc+e.C.getD f.pc 0+1,pos:=f.pos,hd:=f.pos,om:=om}) r):
  Fin e (k+1) (an e c false) r:=by
 refine f_ans hf hkp.1 ?_
 unfold M.resume
 rw [hw]
 simp only [Bool.false_eq_true,if_false]
 rw [putBack_eq rfl rfl rfl hkp.1 hkp.2.1 hkp.2.2]
 rw [show (mk e {c with fr:=fs,pc:=f.pc,pos:=f.pos,om:=f.outermost}).code.getD f.pc 0=e.C.getD f.pc 0 from rfl]
 rw [alt_go (c:={c with fr:=fs,pc:=f.pc,pos:=f.pos,om:=f.outermost}) hkp hs h0]
 exact hk _
theorem f_nextBF {f:Sre.Frame} (hf:c.fr=f::fs) (hw:f.wait= .nextBranch) (hkp:okK f.kept) (h0:(e.C.getD (f.pc+e.C.getD f.pc 0) 0==0)=true)
  (hk:∀pc om,Fin e k (an e {c with fr:=fs,pc:=pc,pos:=f.pos,om:=om} false) r):Fin e (k+1) (an e c false) r:=by
 refine f_ans hf hkp.1 ?_
 unfold M.resume
 rw [hw]
 simp only [Bool.false_eq_true,if_false]
 rw [putBack_eq rfl rfl rfl hkp.1 hkp.2.1 hkp.2.2]
 rw [show (mk e {c with fr:=fs,pc:=f.pc,pos:=f.pos,om:=f.outermost}).code.getD f.pc 0=e.C.getD f.pc 0 from rfl]
 rw [alt_end (c:={c with fr:=fs,pc:=f.pc,pos:=f.pos,om:=f.outermost}) h0]
 exact hk _ _
theorem f_give {f:Sre.Frame} (hf:c.fr=f::fs) (hw:f.wait= .giveBack) (hkp:okK f.kept) (hs:fs.length<16000000) (hn:f.count=(n+1:Nat)) (hle:e.C.getD (f.pc+2) 0≤n)
  (hk:∀om,Fin e k (mk e {c with fr:={wait:= .giveBack,pc:=f.pc,pos:=f.pos-1,outermost:=om,count:=(n:Int),kept:=f.kept}::fs,pc:=f.pc+1+e.C.getD (f.pc+1) 0,pos:=f.pos-1,hd:=f.pos-1,om:=om}) r):
  Fin e (k+1) (an e c false) r:=by
 refine f_ans hf hkp.1 ?_
 unfold M.resume
 rw [hw]
 simp only [Bool.false_eq_true,if_false]
 rw [putBack_eq rfl rfl rfl hkp.1 hkp.2.1 hkp.2.2]
 have e1:f.count-1=(n:Int):=by exact lin1 (.Q (.s .v0 .k1) (.c .v1)) (.Q .v0 (.c (.a .v1 .k1))) (.b (.w [1, -1]) (.w [1,1])) rfl (.z _ (.n1 _)) hn
 rw [e1,if_neg (by show ¬((n:Int)<(e.C.getD (f.pc+2) 0:Int));exact lin1 (.n (.T (.c .v0) (.c .v1))) (.l .v1 .v0) (.w [1,1]) rfl (.n2 _ _) hle)]
 unfold M.afterRun
 have:=attempt_eq (e:=e) (c:={c with fr:=fs,pc:=f.pc,pos:=f.pos-1,om:=f.outermost}) (f:={wait:= .giveBack,pc:=f.pc,pos:=f.pos-1,outermost:=f.outermost,count:=(n:Int),kept:=f.kept}) (t:=f.pc+1+e.C.getD (f.pc+1) 0) (p:=f.pos-1) (om:=f.outermost) hkp.1 hs
 show Fin e k (M.attempt (mk e {c with fr:=fs,pc:=f.pc,pos:=f.pos-1,om:=f.outermost}) {wait:= .giveBack,pc:=f.pc,pos:=f.pos-1,outermost:=f.outermost,count:=(n:Int),kept:=f.kept} (f.pc+1+e.C.getD (f.pc+1) 0) (f.pos-1) f.outermost) r
 rw [this]
 exact hk _
theorem f_giveF {f:Sre.Frame} (hf:c.fr=f::fs) (hw:f.wait= .giveBack) (hkp:okK f.kept) (hn:f.count=(n:Nat)) (hle:n<e.C.getD (f.pc+2) 0+1)
  (hk:∀pc om,Fin e k (an e {c with fr:=fs,pc:=pc,pos:=f.pos,om:=om} false) r):Fin e (k+1) (an e c false) r:=by
 refine f_ans hf hkp.1 ?_
 unfold M.resume
 rw [hw]
 simp only [Bool.false_eq_true,if_false]
 rw [putBack_eq rfl rfl rfl hkp.1 hkp.2.1 hkp.2.2]
 rw [if_pos (by show (f.count-1<(e.C.getD (f.pc+2) 0:Int));exact lin2 (.T (.s .v0 .k1) (.c .v1)) (.Q .v0 (.c .v2)) (.t .v2 (.a .v1 .k1)) (.w [1,1,1]) rfl (.z _ (.n2 _ _)) hn hle)]
 exact hk f.pc _
noncomputable def dl:Loop:={pc:=0,outer:=none}
theorem f_repeat (h:c.pc<e.C.size) (ho:opAt e.C c.pc=some .REPEAT) (hs:small c)
  (hk:∀sn,Fin e k (mk e {c with pc:=c.pc+1+e.C.getD (c.pc+1) 0,hd:=c.pos,lp:=c.lp.push {pc:=c.pc,outer:=c.inn},inn:=some c.lp.size,fr:={wait:= .closeLoop,pc:=c.pc,pos:=c.pos,outermost:=c.om,loop:=c.lp.size}::c.fr,sn:=sn}) r):Fin e (k+1) (mk e c) r:=by
 refine fin_step rfl ?_
 rw [step_run h]
 have key:(mk e c).exec=mk e {c with pc:=c.pc+1+e.C.getD (c.pc+1) 0,hd:=c.pos,lp:=c.lp.push {pc:=c.pc,outer:=c.inn},inn:=some c.lp.size,fr:={wait:= .closeLoop,pc:=c.pc,pos:=c.pos,outermost:=c.om,loop:=c.lp.size}::c.fr,sn:=c.sn.add (e.C.getD c.pc 0)}:=by
  unfold Sre.M.exec
  have hw:(mk e c).word 0=e.C.getD c.pc 0:=rfl
  rw [hw,show ops[e.C.getD c.pc 0]? =some .REPEAT from ho]
  exact attempt_eq (c:={c with lp:=c.lp.push {pc:=c.pc,outer:=c.inn},inn:=some c.lp.size,sn:=c.sn.add (e.C.getD c.pc 0)})
   (f:={wait:= .closeLoop,pc:=c.pc,pos:=c.pos,outermost:=c.om,loop:=c.lp.size}) rfl hs
 rw [key];exact hk _
theorem f_more {l:Loop} (h:c.pc<e.C.size) (ho:opAt e.C c.pc=some .MAX_UNTIL) (hs:small c) (hi:c.inn=some i) (hl:c.lp.getD i dl=l)
  (hleast:¬(l.count+1<(e.C.getD (l.pc+2) 0:Nat))) (hmost:l.count+1<(e.C.getD (l.pc+3) 0:Nat)∨e.C.getD (l.pc+3) 0=maxRepeat) (hb:l.began≠some c.pos)
  (hk:∀sn,Fin e k (mk e {c with pc:=l.pc+4,hd:=c.pos,lp:=c.lp.modify i fun l'=>{l' with count:=l.count+1,began:=some c.pos},fr:={wait:= .maxMore,pc:=c.pc+1,pos:=c.pos,outermost:=c.om,count:=l.count+1,kept:={whole:=true},loop:=i,began:=l.began}::c.fr,sn:=sn}) r):Fin e (k+1) (mk e c) r:=by
 refine fin_step rfl ?_
 rw [step_run h]
 have key:(mk e c).exec=mk e {c with pc:=l.pc+4,hd:=c.pos,lp:=c.lp.modify i fun l'=>{l' with count:=l.count+1,began:=some c.pos},fr:={wait:= .maxMore,pc:=c.pc+1,pos:=c.pos,outermost:=c.om,count:=l.count+1,kept:={whole:=true},loop:=i,began:=l.began}::c.fr,sn:=c.sn.add (e.C.getD c.pc 0)}:=by
  unfold Sre.M.exec
  have hw:(mk e c).word 0=e.C.getD c.pc 0:=rfl
  rw [hw,show ops[e.C.getD c.pc 0]? =some .MAX_UNTIL from ho]
  simp only []
  unfold M.until_
  show (match c.inn with
   | none=>_
   | some i=>_)=_
  rw [hi]
  simp only []
  rw [show M.loopAt {code:=e.C,text:=e.T,lim:=e.lim,start:=e.st,pc:=c.pc+1,pos:=c.pos,handed:=c.hd,outermost:=c.om,marks:= #[],loops:=c.lp,inner:=some i,frames:=c.fr,weight:=c.fr.length,seen:=c.sn.add (e.C.getD c.pc 0)} i=l from hl]
  rw [if_neg hleast]
  rw [if_neg (by decide),if_pos (by
   simp only [Bool.and_eq_true,Bool.or_eq_true,decide_eq_true_eq,beq_iff_eq,bne_iff_ne]
   exact ⟨hmost,hb⟩)]
  unfold M.round
  rw [show M.loopAt {code:=e.C,text:=e.T,lim:=e.lim,start:=e.st,pc:=c.pc+1,pos:=c.pos,handed:=c.hd,outermost:=c.om,marks:= #[],loops:=c.lp,inner:=some i,frames:=c.fr,weight:=c.fr.length,seen:=c.sn.add (e.C.getD c.pc 0)} i=l from hl]
  have hke:M.keep {code:=e.C,text:=e.T,lim:=e.lim,start:=e.st,pc:=c.pc+1,pos:=c.pos,handed:=c.hd,outermost:=c.om,marks:= #[],loops:=c.lp,inner:=some i,frames:=c.fr,weight:=c.fr.length,seen:=c.sn.add (e.C.getD c.pc 0)} true={whole:=true}:=
   keep_eq (e:=e) (c:={c with pc:=c.pc+1,inn:=some i,sn:=c.sn.add (e.C.getD c.pc 0)})
  rw [hke]
  exact attempt_eq (c:={c with pc:=c.pc+1,inn:=some i,lp:=c.lp.modify i fun l'=>{l' with count:=l.count+1,began:=some c.pos},sn:=c.sn.add (e.C.getD c.pc 0)})
   (f:={wait:= .maxMore,pc:=c.pc+1,pos:=c.pos,outermost:=c.om,count:=l.count+1,kept:={whole:=true},loop:=i,began:=l.began}) rfl hs
 rw [key];exact hk _
theorem afterLoop_eq {n:Int}{l:Loop} (hl:c.lp.getD i dl=l) (hs:small c):
  (mk e c).afterLoop .maxTail i n (fun _=>false)=mk e {c with inn:=l.outer,hd:=c.pos,fr:={wait:= .maxTail,pc:=c.pc,pos:=c.pos,outermost:=c.om,count:=n,loop:=i}::c.fr}:=by
 unfold M.afterLoop
 rw [show (mk e c).loopAt i=l from hl]
 have hke:M.keep (mk e {c with inn:=l.outer}) false={}:=keep_eq (e:=e) (c:={c with inn:=l.outer})
 show M.attempt (mk e {c with inn:=l.outer}) {wait:= .maxTail,pc:=c.pc,pos:=c.pos,outermost:=c.om,count:=n,kept:=M.keep (mk e {c with inn:=l.outer}) false,loop:=i} c.pc c.pos c.om=_
 rw [hke]
 exact attempt_eq (c:={c with inn:=l.outer}) rfl hs
theorem f_maxMoreF {f:Sre.Frame}{l:Loop} (hf:c.fr=f::fs) (hw:f.wait= .maxMore) (hkp:okK f.kept) (hs:fs.length<16000000) (hl:c.lp.getD f.loop dl=l) (hi:f.loop<c.lp.size)
  (hk:∀om lp,lp.size=c.lp.size→Fin e k (mk e {c with pc:=f.pc,pos:=f.pos,om:=om,hd:=f.pos,inn:=l.outer,lp:=lp,fr:={wait:= .maxTail,pc:=f.pc,pos:=f.pos,outermost:=om,count:=f.count,loop:=f.loop}::fs}) r):
  Fin e (k+1) (an e c false) r:=by
 refine f_ans hf hkp.1 ?_
 unfold M.resume
 rw [hw]
 simp only [Bool.false_eq_true,if_false]
 have e1:(M.setLoop (mk e {c with fr:=fs,pc:=f.pc,pos:=f.pos,om:=f.outermost}) f.loop fun l=>{l with began:=f.began})=mk e {c with fr:=fs,pc:=f.pc,pos:=f.pos,om:=f.outermost,lp:=c.lp.modify f.loop fun l=>{l with began:=f.began}}:=rfl
 rw [e1,putBack_eq rfl rfl rfl hkp.1 hkp.2.1 hkp.2.2]
 have e2:(M.setLoop (mk e {c with fr:=fs,pc:=f.pc,pos:=f.pos,om:=f.outermost,lp:=c.lp.modify f.loop fun l=>{l with began:=f.began}}) f.loop fun l=>{l with count:=f.count-1})=
  mk e {c with fr:=fs,pc:=f.pc,pos:=f.pos,om:=f.outermost,lp:=(c.lp.modify f.loop fun l=>{l with began:=f.began}).modify f.loop fun l=>{l with count:=f.count-1}}:=rfl
 rw [e2]
 have e3:((c.lp.modify f.loop fun l=>{l with began:=f.began}).modify f.loop fun l=>{l with count:=f.count-1}).getD f.loop dl={l with began:=f.began,count:=f.count-1}:=by
  rw [←hl]
  simp [Array.getD,Array.getElem_modify,hi]
 rw [afterLoop_eq (c:={c with fr:=fs,pc:=f.pc,pos:=f.pos,om:=f.outermost,lp:=(c.lp.modify f.loop fun l=>{l with began:=f.began}).modify f.loop fun l=>{l with count:=f.count-1}}) e3 hs]
 exact hk _ _ (by simp)
theorem f_assertN (h:c.pc<e.C.size) (ho:opAt e.C c.pc=some .ASSERT_NOT) (hb:e.C.getD (c.pc+2) 0=0) (hs:small c)
  (hk:∀sn kp,okK kp→Fin e k (mk e {c with pc:=c.pc+3,hd:=c.pos,om:=false,fr:={wait:= .lookNot,pc:=c.pc,pos:=c.pos,outermost:=c.om,kept:=kp}::c.fr,sn:=sn}) r):Fin e (k+1) (mk e c) r:=by
 refine fin_step rfl ?_
 rw [step_run h]
 have key:∃kp,okK kp∧(mk e c).exec=mk e {c with pc:=c.pc+3,hd:=c.pos,om:=false,fr:={wait:= .lookNot,pc:=c.pc,pos:=c.pos,outermost:=c.om,kept:=kp}::c.fr,sn:=c.sn.add (e.C.getD c.pc 0)}:=by
  unfold Sre.M.exec
  have hw:(mk e c).word 0=e.C.getD c.pc 0:=rfl
  rw [hw,show ops[e.C.getD c.pc 0]? =some .ASSERT_NOT from ho]
  simp only []
  rw [show M.word {code:=e.C,text:=e.T,lim:=e.lim,start:=e.st,pc:=c.pc,pos:=c.pos,handed:=c.hd,outermost:=c.om,marks:= #[],loops:=c.lp,inner:=c.inn,frames:=c.fr,weight:=c.fr.length,seen:=c.sn.add (e.C.getD c.pc 0)} 2=e.C.getD (c.pc+2) 0 from rfl,hb]
  rw [if_neg (by exact Q6 (.n1 _))]
  refine ⟨M.keep (mk e {c with sn:=c.sn.add (e.C.getD c.pc 0)}) (true&&c.inn.isSome),by rw [keep_eq];exact okK_of, ?_⟩
  exact attempt_eq (c:={c with sn:=c.sn.add (e.C.getD c.pc 0)}) (f:={wait:= .lookNot,pc:=c.pc,pos:=c.pos,outermost:=c.om,kept:=M.keep (mk e {c with sn:=c.sn.add (e.C.getD c.pc 0)}) (true&&c.inn.isSome)}) (by rw [keep_eq]) hs
 obtain ⟨kp,hkp,key⟩:=key
 rw [key];exact hk _ _ hkp
theorem f_lookT {f:Sre.Frame} (hf:c.fr=f::fs) (hw:f.wait= .lookNot) (hkp:okK f.kept)
  (hk:∀pc pos om,Fin e k (an e {c with fr:=fs,pc:=pc,pos:=pos,om:=om} false) r):Fin e (k+1) (an e c true) r:=by
 refine f_ans hf hkp.1 ?_
 unfold M.resume
 rw [hw]
 simp only [if_true]
 exact hk f.pc f.pos f.outermost
theorem f_lookF {f:Sre.Frame} (hf:c.fr=f::fs) (hw:f.wait= .lookNot) (hkp:okK f.kept)
  (hk:Fin e k (mk e {c with fr:=fs,pc:=f.pc+1+e.C.getD (f.pc+1) 0,pos:=f.pos,om:=f.outermost}) r):Fin e (k+1) (an e c false) r:=by
 refine f_ans hf hkp.1 ?_
 unfold M.resume
 rw [hw]
 simp only [Bool.false_eq_true,if_false]
 rw [putBack_eq rfl rfl rfl hkp.1 hkp.2.1 hkp.2.2]
 exact hk
theorem f_tailF {f:Sre.Frame} (hf:c.fr=f::fs) (hw:f.wait= .maxTail) (hkp:f.kept.marks= #[])
  (hk:∀pc pos om inn,Fin e k (an e {c with fr:=fs,pc:=pc,pos:=pos,om:=om,inn:=inn} false) r):Fin e (k+1) (an e c false) r:=by
 refine f_ans hf hkp ?_
 unfold M.resume
 rw [hw]
 exact hk f.pc f.pos f.outermost _
theorem f_closeF {f:Sre.Frame} (hf:c.fr=f::fs) (hw:f.wait= .closeLoop) (hkp:f.kept.marks= #[])
  (hk:∀pc pos om inn lp,Fin e k (an e {c with fr:=fs,pc:=pc,pos:=pos,om:=om,inn:=inn,lp:=lp} false) r):Fin e (k+1) (an e c false) r:=by
 refine f_ans hf hkp ?_
 unfold M.resume
 rw [hw]
 exact hk f.pc f.pos f.outermost _ _
end RX
end Mine
end
section
open PySem
set_option maxRecDepth 100000
set_option tactic.hygienic false
namespace Mine
namespace RX
open PySem.Sre PySem.Sre.M
variable {c f i p:Nat}{l:List Nat}{C:Array Nat}{yes:Bool}
variable {e:En}{k:Nat}{r:Option Nat}
theorem f_untilTail {c:Cf}{l:Loop} (h:c.pc<e.C.size) (ho:opAt e.C c.pc=some .MAX_UNTIL) (hs:small c) (hi:c.inn=some i) (hl:c.lp.getD i dl=l)
  (hleast:¬(l.count+1<(e.C.getD (l.pc+2) 0:Nat))) (hmost:¬(l.count+1<(e.C.getD (l.pc+3) 0:Nat)∨e.C.getD (l.pc+3) 0=maxRepeat))
  (hk:∀sn,Fin e k (mk e {c with pc:=c.pc+1,hd:=c.pos,inn:=l.outer,fr:={wait:= .maxTail,pc:=c.pc+1,pos:=c.pos,outermost:=c.om,count:=l.count+1,loop:=i}::c.fr,sn:=sn}) r):Fin e (k+1) (mk e c) r:=by
 refine fin_step rfl ?_
 rw [step_run h]
 have key:(mk e c).exec=mk e {c with pc:=c.pc+1,hd:=c.pos,inn:=l.outer,fr:={wait:= .maxTail,pc:=c.pc+1,pos:=c.pos,outermost:=c.om,count:=l.count+1,loop:=i}::c.fr,sn:=c.sn.add (e.C.getD c.pc 0)}:=by
  unfold Sre.M.exec
  have hw:(mk e c).word 0=e.C.getD c.pc 0:=rfl
  rw [hw,show ops[e.C.getD c.pc 0]? =some .MAX_UNTIL from ho]
  simp only []
  unfold M.until_
  show (match c.inn with
   | none=>_
   | some i=>_)=_
  rw [hi]
  simp only []
  rw [show M.loopAt {code:=e.C,text:=e.T,lim:=e.lim,start:=e.st,pc:=c.pc+1,pos:=c.pos,handed:=c.hd,outermost:=c.om,marks:= #[],loops:=c.lp,inner:=some i,frames:=c.fr,weight:=c.fr.length,seen:=c.sn.add (e.C.getD c.pc 0)} i=l from hl]
  rw [if_neg hleast]
  rw [if_neg (by decide),if_neg (by
   simp only [Bool.and_eq_true,Bool.or_eq_true,decide_eq_true_eq,beq_iff_eq,bne_iff_ne]
   exact fun z=>hmost z.1)]
  exact afterLoop_eq (c:={c with pc:=c.pc+1,inn:=some i,sn:=c.sn.add (e.C.getD c.pc 0)}) hl hs
 rw [key];exact hk _
theorem acc_lit (h:opAt C i=some .LITERAL):Acc C i (fun c=>c==C.getD (i+1) 0):=fun c sn=>⟨sn,by
 unfold accepts
 dsimp only
 rw [show ops[C.getD i 0]? =_ from h]⟩
theorem acc_all (h:opAt C i=some .ANY_ALL):Acc C i (fun _=>true):=fun c sn=>⟨sn,by
 unfold accepts
 dsimp only
 rw [show ops[C.getD i 0]? =_ from h]⟩
theorem acc_any (h:opAt C i=some .ANY):Acc C i (fun c=>c != 10):=fun c sn=>⟨sn,by
 unfold accepts
 dsimp only
 rw [show ops[C.getD i 0]? =_ from h]⟩
noncomputable def SetIs (C:Array Nat) (f i:Nat) (yes:Bool) (P:Nat→Bool):Prop:=∀c sn,∃sn',inSet C c f i yes sn= .ok (P c,sn')
theorem set_end (h:opAt C i=some .FAILURE):SetIs C (f+1) i yes (fun _=> !yes):=fun c sn=>⟨sn.add (C.getD i 0),by
 unfold inSet
 dsimp only
 rw [show ops[C.getD (i+0) 0]? =_ from h];rfl⟩
theorem set_neg {P:Nat→Bool} (h:opAt C i=some .NEGATE) (hs:SetIs C f (i+1) (!yes) P):SetIs C (f+1) i yes P:=fun c sn=>by
 obtain ⟨s1,h1⟩:=hs c (sn.add (C.getD i 0))
 refine ⟨s1, ?_⟩
 unfold inSet
 dsimp only
 rw [show ops[C.getD (i+0) 0]? =_ from h]
 exact h1
theorem set_lit {P:Nat→Bool} (h:opAt C i=some .LITERAL) (hs:SetIs C f (i+2) yes P):SetIs C (f+1) i yes (fun c=>if c==C.getD (i+1) 0 then yes else P c):=fun c sn=>by
 obtain ⟨s1,h1⟩:=hs c (sn.add (C.getD i 0))
 unfold inSet
 dsimp only
 rw [show ops[C.getD (i+0) 0]? =_ from h]
 simp only []
 cases (c==C.getD (i+1) 0)
 ·exact ⟨s1,h1⟩
 ·exact ⟨_,rfl⟩
theorem set_chars {P:Nat→Bool} (h:opAt C i=some .CHARSET) (hs:SetIs C f (i+9) yes P):
  SetIs C (f+1) i yes (fun c=>if (decide (c<256)&&(C.getD (i+(1+c/32)) 0).testBit (c%32))=true then yes else P c):=fun c sn=>by
 obtain ⟨s1,h1⟩:=hs c (sn.add (C.getD i 0))
 unfold inSet
 dsimp only
 rw [show ops[C.getD (i+0) 0]? =_ from h]
 simp only []
 cases (decide (c<256)&&(C.getD (i+(1+c/32)) 0).testBit (c%32))
 ·exact ⟨s1,h1⟩
 ·exact ⟨_,rfl⟩
theorem set_cat {P q:Nat→Bool} (h:opAt C i=some .CATEGORY) (hq:∀c,category (C.getD (i+1) 0) c= .ok (q c)) (hs:SetIs C f (i+2) yes P):
  SetIs C (f+1) i yes (fun c=>if q c then yes else P c):=fun c sn=>by
 obtain ⟨s1,h1⟩:=hs c ((sn.add (C.getD i 0)).add (55+C.getD (i+1) 0))
 unfold inSet
 dsimp only
 rw [show ops[C.getD (i+0) 0]? =_ from h]
 simp only []
 rw [hq c]
 cases q c
 ·exact ⟨s1,h1⟩
 ·exact ⟨_,rfl⟩
theorem acc_in {P:Nat→Bool} (h:opAt C i=some .IN) (hs:SetIs C C.size (i+2) true P):Acc C i P:=fun c sn=>by
 obtain ⟨s1,h1⟩:=hs c sn
 refine ⟨s1, ?_⟩
 unfold accepts
 dsimp only
 rw [show ops[C.getD i 0]? =_ from h]
 exact h1
theorem Acc.congr {P P':Nat→Bool} (h:Acc C i P) (e:∀c,P c=P' c):Acc C i P':=fun c sn=>by
 obtain ⟨s1,h1⟩:=h c sn
 exact ⟨s1,by rw [h1,e c]⟩
noncomputable def Rest (e:En) (p:Nat) (l:List Nat):Prop:=p+l.length=e.lim∧∀(i c:Nat),l[i]? =some c→e.T.getD (p+i) 0=c
theorem Rest.head (h:Rest e p (c::l)):e.T.getD p 0=c:=h.2 0 c rfl
theorem Rest.tail (h:Rest e p (c::l)):Rest e (p+1) l:=⟨by have:=h.1;rw [List.length_cons] at this;exact Q15 (.n3 _ _ _) this,fun i d hd=>by rw [show p+1+i=p+(i+1) by exact Q13 (.n2 _ _)];exact h.2 (i+1) d hd⟩
theorem Rest.lt (h:Rest e p (c::l)):p<e.lim:=by have:=h.1;rw [List.length_cons] at this;exact lin1 (.t .v0 .v1) (.q (.a .v0 (.a .v2 .k1)) .v1) (.w [1,1]) rfl (.n3 _ _ _) this
theorem Rest.nil (h:Rest e p []):¬p<e.lim:=by have:=h.1;rw [List.length_nil] at this;exact lin1 (.n (.t .v0 .v1)) (.q (.a .v0 .k0) .v1) (.w [1, -1]) rfl (.n2 _ _) this
theorem Rest.le (h:Rest e p l):p≤e.lim:=by have:=h.1;exact lin1 (.l .v0 .v1) (.q (.a .v0 .v2) .v1) (.w [1,1]) rfl (.n3 _ _ _) this
theorem Rest.len (h:Rest e p l):e.lim-p=l.length:=by have:=h.1;exact lin2 (.q .v3 .v2) (.q (.a .v1 .v2) .v0) (.b 3 .v0 .v1) (.b (.d 2 (.w [0, -1,1,1]) (.w [1, -1,1,1])) (.d 2 (.w [0,1,1, -1]) (.w [0,1,1]))) rfl (.n4 _ _ _ _) this rfl
theorem Rest.drop {p:Nat}{P:Nat→Bool}:∀{l:List Nat},Rest e p l→Rest e (p+(l.takeWhile P).length) (l.dropWhile P)
 | [],h=>h
 | c::l,h=>by
  cases hc:P c
  ·rw [List.takeWhile_cons,List.dropWhile_cons,hc];exact h
  ·rw [List.takeWhile_cons,List.dropWhile_cons,hc]
   have:=Rest.drop (P:=P) h.tail
   simp only [if_true,List.length_cons]
   rw [show p+((l.takeWhile P).length+1)=p+1+(l.takeWhile P).length by exact lin0 (.q (.a .v0 (.a .v1 .k1)) (.a (.a .v0 .k1) .v1)) (.b (.w [1]) (.w [1])) rfl (.n2 _ _)]
   exact this
theorem cnt_eq {P:Nat→Bool}:∀{l:List Nat}{p:Nat},Rest e p l→cnt e.T P l.length p=(l.takeWhile P).length
 | [],p,h=>rfl
 | c::l,p,h=>by
  rw [List.length_cons]
  unfold cnt
  rw [h.head,List.takeWhile_cons]
  cases hc:P c
  ·rfl
  ·simp only [if_true,List.length_cons]
   rw [cnt_eq h.tail]
theorem cnt_min {P:Nat→Bool}{m:Nat} (h:Rest e p l) (hm:l.length≤m):(l.takeWhile P).length=cnt e.T P (min m (e.lim-p)) p:=by
 rw [h.len,Nat.min_eq_right hm,cnt_eq h]
end RX
end Mine
end
section
open PySem
set_option maxRecDepth 100000
set_option tactic.hygienic false
namespace Mine
namespace RX
open PySem.Sre PySem.Sre.M
variable {C T:Array Nat}{lim p pc:Nat}{l:List Nat}
noncomputable def C6:Array Nat:= #[14,4,0,1,4294967295,24,17,1,4294967295,13,12,21,9,0,908,939524096,671088640,0,0,0,0,0,1,1]
noncomputable def C7:Array Nat:= #[14,4,0,1,4294967295,24,9,0,4294967295,13,4,8,12,0,1,16,92,1]
noncomputable def C2:Array Nat:= #[14,4,0,1,4294967295,24,11,0,4294967295,13,6,16,32,16,9,0,1,23,16,0,1,16,35,13,4,8,13,0,24,5,0,4294967295,2,1,18,16,10,1]
theorem chk256 {f g:Nat→Bool} (h:((List.range 256).all fun c=>f c==g c)=true):∀c,c<256→f c=g c:=fun c hc=>by
 have:=List.all_eq_true.mp h c (List.mem_range.mpr hc)
 simpa using this
noncomputable def ordin (c:Nat):Bool:= !(c==34||c==35||c==39||c==40||c==41||c==91||c==92||c==93||c==123||c==125)
theorem acc6:Acc C6 9 ordin:=by
 refine (acc_in (P:=fun c=>if (decide (c<256)&&(C6.getD (12+(1+c/32)) 0).testBit (c%32))=true then false else true) (by rfl) ?_).congr ?_
 ·exact set_neg (f:=23) (by rfl) (set_chars (f:=22) (by rfl) (set_end (f:=21) (by rfl)))
 ·intro c
  by_cases hc:c<256
  ·exact chk256 (f:=fun c=>if (decide (c<256)&&(C6.getD (12+(1+c/32)) 0).testBit (c%32))=true then false else true) (g:=ordin) (by decide +kernel) c hc
  ·have h1:(if (decide (c<256)&&(C6.getD (12+(1+c/32)) 0).testBit (c%32))=true then false else true)=true:=by
    rw [show decide (c<256)=false from decide_eq_false hc];rfl
   rw [h1]
   have nb:∀k,k<256→(c==k)=false:=fun k hk=>beq_eq_false_iff_ne.mpr fun e=>hc (e▸hk)
   unfold ordin
   simp only [nb 34 (by decide),nb 35 (by decide),nb 39 (by decide),nb 40 (by decide),nb 41 (by decide),nb 91 (by decide),nb 92 (by decide),nb 93 (by decide),nb 123 (by decide),nb 125 (by decide)]
   rfl
noncomputable def whiteU (c:Nat):Bool:=Unicode.isSpace c
theorem acc7:Acc C7 9 whiteU:=by
 refine (acc_in (P:=fun c=>if Unicode.isSpace c then true else false) (by rfl) ?_).congr ?_
 ·exact set_cat (f:=17) (q:=Unicode.isSpace) (by rfl) (fun c=>by
   show (Except.ok (Unicode.isSpace c)).map (· != (12%2==1))=_
   cases Unicode.isSpace c <;> rfl) (set_end (f:=16) (by rfl))
 ·intro c;unfold whiteU;cases Unicode.isSpace c <;> rfl
noncomputable def white2 (c:Nat):Bool:=c==32||c==9
theorem acc2:Acc C2 9 white2:=by
 refine (acc_in (P:=fun c=>if c==C2.getD (11+1) 0 then true else if c==C2.getD (13+1) 0 then true else false) (by rfl) ?_).congr ?_
 ·exact set_lit (f:=37) (by rfl) (set_lit (f:=36) (by rfl) (set_end (f:=35) (by rfl)))
 ·intro c
  show (if (c==32)=true then true else if (c==9)=true then true else false)=_
  unfold white2
  cases c==32 <;> cases c==9 <;> rfl
noncomputable def at0 (T:Array Nat) (lim p pc:Nat) (sn:Seen):Cf:={pc:=pc,pos:=p,fr:=[],lp:= #[],inn:=none,hd:=p,om:=true,sn:=sn}
theorem start_eq (hh:header C=(1,pc)) (hp:p<lim):∃sn,forMatch C T 0 p lim false false=mk ⟨C,T,lim,p⟩ (at0 T lim p pc sn):=by
 unfold forMatch
 rw [hh]
 skip
 rw [if_neg (by simp;lia)]
 refine ⟨if (header C).2==0 then {} else ({}:Seen).add 14, ?_⟩
 have e:pc=(header C).2:=by rw [hh]
 rw [e]
 rfl
theorem start_none (hh:header C=(1,pc)) (hp:lim=p) {e:En}:Fin e 1 (forMatch C T 0 p lim false false) none:=by
 subst hp
 unfold forMatch
 rw [hh]
 skip
 rw [if_pos (by simp)]
 exact ⟨1,Nat.le_refl 1,rfl⟩
theorem h6:header C6=(1,5):=by rfl
theorem h7:header C7=(1,5):=by rfl
theorem h2:header C2=(1,5):=by rfl
theorem chew (hR:Rest ⟨C6,T,lim,p⟩ p l) (hl:l.length≤4294967295):
  Fin ⟨C6,T,lim,p⟩ 5 (forMatch C6 T 0 p lim false false) (if (l.takeWhile ordin).length=0 then none else some (p+(l.takeWhile ordin).length)):=by
 cases l with
 | nil=>exact (start_none h6 (by have:=hR.1;simp at this;exact Q35 (.n2 _ _) this)).mono (by exact lin0 (.l .k1 (.k 5)) (.w [1]) rfl .o)
 | cons c r=>
  obtain ⟨sn,hs⟩:=start_eq (T:=T) h6 hR.lt
  rw [hs]
  have hn:=cnt_min (P:=ordin) hR hl
  by_cases h0:((c::r).takeWhile ordin).length=0
  ·rw [if_pos h0]
   refine f_rep1F (P:=ordin) (k:=4) (by show 5<24;decide) (by rfl) acc6 hR.le ?_ fun c' h1 _ _=>(f_lose h1).mono (by exact lin0 (.l .k1 (.k 4)) (.w [1]) rfl .o)
   show cnt T ordin (min 4294967295 (lim-p)) p<1
   have:cnt T ordin (min 4294967295 (lim-p)) p=0:=by rw [←hn,h0]
   exact lin2 (.t .v0 .k1) (.q .v1 .v0) (.q .v1 .k0) (.w [1, -1,1]) rfl (.n2 _ _) hn h0
  ·rw [if_neg h0]
   refine f_rep1 (P:=ordin) (k:=4) (n:=((c::r).takeWhile ordin).length) (by show 5<24;decide) (by rfl) acc6 (by show 0<16000000;decide) hn ?_ hR.le ?_ fun sn wh=> ?_
   ·show 1≤_;exact lin1 (.l .k1 .v0) (.n (.q .v0 .k0)) (.w [1,1]) rfl (.n1 _) h0
   ·show 1≤_;have:=hR.lt;have e1:(⟨C6,T,lim,p⟩:En).lim=lim:=rfl;simp only [at0] at *;exact lin2 (.l .k1 .v2) (.t .v1 .v0) (.b 2 .v0 .v1) (.d 2 (.w [0, -1,1,1]) (.w [1,0,0,1])) rfl (.n3 _ _ _) this rfl
   ·refine f_succ (k:=3) (by show 23<24;decide) (by rfl) fun sn=> ?_
    refine (f_win _ _ rfl ?_ rfl).mono (by simp [at0])
    intro f hf
    rw [List.mem_singleton.mp hf]
    exact ⟨rfl, .inr (.inl rfl)⟩
theorem back7:∀(j:Nat) (c:Cf) (om:Bool) (kp:Sre.Kept),okK kp→(∀i,i<j→(⟨C7,T,lim,p⟩:En).T.getD (p+i) 0≠92)→
  c.fr=[{wait:= .giveBack,pc:=5,pos:=p+j,outermost:=om,count:=(j:Int),kept:=kp}]→Fin ⟨C7,T,lim,p⟩ (2*j+3) (an ⟨C7,T,lim,p⟩ c false) none
 | 0,c,om,kp,hk,_,hf=>(f_giveF (n:=0) hf rfl hk rfl (by show 0<0+1;decide) fun pc om=>(f_lose rfl).mono (k':=2) (by exact Q74 .o))
 | j+1,c,om,kp,hk,hT,hf=>by
  refine f_give (k:=2*j+4) (n:=j) hf rfl hk (by decide) rfl (by exact Q2 (.n1 _)) fun om=> ?_
  refine f_charF (k:=2*j+3) (op:= .LITERAL) (P:=fun c=>c==92) (by show 15<18;decide) (by rfl) rfl (acc_lit (C:=C7) (i:=15) (by rfl)) (fun _=> ?_) fun sn=> ?_
  ·have:=hT j (Nat.lt_succ_self j)
   simpa using this
  ·exact back7 j _ om kp hk (fun i hi=>hT i (Nat.lt_succ_of_lt hi)) (by simp)
theorem take_get {P:Nat→Bool}:∀{l:List Nat}{i:Nat},i<(l.takeWhile P).length→∃c,l[i]? =some c∧P c=true
 | [],i,h=>by simp at h
 | c::l,i,h=>by
  rw [List.takeWhile_cons] at h
  cases hc:P c
  ·rw [hc] at h;simp at h
  ·rw [hc] at h
   cases i with
   | zero=>exact ⟨c,rfl,hc⟩
   | succ i=>
    simp only [if_true,List.length_cons] at h
    exact take_get (l:=l) (Nat.lt_of_succ_lt_succ h)
theorem slash (hR:Rest ⟨C7,T,lim,p⟩ p l) (hl:l.length≤4294967295):
  Fin ⟨C7,T,lim,p⟩ (2*l.length+9) (forMatch C7 T 0 p lim false false) (if (l.dropWhile whiteU).head? =some 92 then some (p+(l.takeWhile whiteU).length+1) else none):=by
 cases l with
 | nil=>exact (start_none h7 (by have:=hR.1;simp at this;exact Q35 (.n2 _ _) this)).mono (by exact lin0 (.l .k1 (.a (.m 2 .v0) (.k 9))) (.w [1]) rfl (.n1 _))
 | cons c r=>
  obtain ⟨sn,hs⟩:=start_eq (T:=T) h7 hR.lt
  rw [hs]
  have hn:=cnt_min (P:=whiteU) hR hl
  have hD:=hR.drop (P:=whiteU)
  have hle:((c::r).takeWhile whiteU).length≤(c::r).length:=(List.takeWhile_sublist _).length_le
  refine f_rep1 (P:=whiteU) (k:=2*(c::r).length+8) (n:=((c::r).takeWhile whiteU).length) (by show 5<18;decide) (by rfl) acc7 (by show 0<16000000;decide) hn (by exact Q2 (.n1 _)) hR.le (by exact Q2 (.n1 _)) fun sn wh=> ?_
  by_cases hh:((c::r).dropWhile whiteU).head? =some 92
  ·rw [if_pos hh]
   obtain ⟨r',hr'⟩:∃r',(c::r).dropWhile whiteU=92::r':=by
    cases hd:(c::r).dropWhile whiteU with
    | nil=>rw [hd] at hh;cases hh
    | cons a b=>rw [hd] at hh;cases hh;exact ⟨b,rfl⟩
   rw [hr'] at hD
   refine f_char (k:=2*(c::r).length+7) (op:= .LITERAL) (P:=fun c=>c==92) (by show 15<18;decide) (by rfl) rfl (acc_lit (C:=C7) (i:=15) (by rfl)) hD.lt (by show (T.getD (p+((c::r).takeWhile whiteU).length) 0==92)=true;rw [show T.getD (p+((c::r).takeWhile whiteU).length) 0=92 from hD.head];rfl) fun sn=> ?_
   refine f_succ (k:=2*(c::r).length+6) (by show 17<18;decide) (by rfl) fun sn=> ?_
   refine (f_win _ _ rfl ?_ rfl).mono (by simp [at0])
   intro f hf
   rw [List.mem_singleton.mp hf]
   exact ⟨rfl, .inr (.inl rfl)⟩
  ·rw [if_neg hh]
   refine f_charF (k:=2*(c::r).length+7) (op:= .LITERAL) (P:=fun c=>c==92) (by show 15<18;decide) (by rfl) rfl (acc_lit (C:=C7) (i:=15) (by rfl)) (fun hp=> ?_) fun sn=> ?_
   ·cases hd:(c::r).dropWhile whiteU with
    | nil=>rw [hd] at hD;exact absurd hp hD.nil
    | cons a b=>
     rw [hd] at hD hh
     show (T.getD (p+((c::r).takeWhile whiteU).length) 0==92)=false
     rw [show T.getD (p+((c::r).takeWhile whiteU).length) 0=a from hD.head]
     simpa using hh
   ·refine (back7 ((c::r).takeWhile whiteU).length _ true {whole:=wh} okK_of ?_ rfl).mono (by exact lin1 (.l (.a (.m 2 .v0) (.k 3)) (.a (.m 2 .v1) (.k 7))) (.l .v0 .v1) (.w [1,2]) rfl (.n2 _ _) hle)
    intro i hi hx
    obtain ⟨d,hd,hP⟩:=take_get hi
    have h2:T.getD (p+i) 0=d:=hR.2 i d hd
    have h3:T.getD (p+i) 0=92:=hx
    rw [h2] at h3
    subst h3
    revert hP
    decide +kernel
theorem round2 {q k:Nat} (c:Cf) (hpc:c.pc=17) (hpos:c.pos=q) (hs:c.fr.length<100) (h35:q<lim→T.getD q 0≠35) (h10:q<lim→T.getD q 0≠10)
  (hk:∀c':Cf,c'.fr=c.fr→Fin ⟨C2,T,lim,p⟩ k (an ⟨C2,T,lim,p⟩ c' false) none):Fin ⟨C2,T,lim,p⟩ (k+7) (mk ⟨C2,T,lim,p⟩ c) none:=by
 obtain ⟨pc,pos,fr,lp,inn,hd,om,sn⟩:=c
 subst hpc;subst hpos
 have hs':fr.length<100:=hs
 refine f_repeat (k:=k+6) (by show 17<38;decide) (by rfl) (by show fr.length<16000000;exact Q36 (.n1 _) hs) fun sn=> ?_
 have hl:(lp.push {pc:=17,outer:=inn}).getD lp.size dl={pc:=17,outer:=inn}:=by simp [Array.getD]
 refine f_more (k:=k+5) (i:=lp.size) (l:={pc:=17,outer:=inn}) (by show 34<38;decide) (by rfl) (by show fr.length+1<16000000;exact Q16 (.n1 _) hs) rfl hl (by show ¬((-1:Int)+1<0);exact lin0 (.n (.T (.a (.g .k1) .k1) .k0)) (.w [1]) rfl .o) (.inl (by show (-1:Int)+1<1;exact Q75 .o)) (by simp) fun sn=> ?_
 refine f_charF (k:=k+4) (op:= .LITERAL) (P:=fun c=>c==35) (by show 21<38;decide) (by rfl) rfl (acc_lit (C:=C2) (i:=21) (by rfl)) (fun hp=>by simpa using h35 hp) fun sn=> ?_
 refine f_maxMoreF (k:=k+3) (l:={pc:=17,count:=0,began:=some pos,outer:=inn}) rfl rfl okK_of (by show fr.length+1<16000000;exact Q16 (.n1 _) hs) ?_ ?_ fun om lp' hlp=> ?_
 ·simp [Array.getD,Array.getElem_modify]
 ·simp
 refine f_charF (k:=k+2) (op:= .LITERAL) (P:=fun c=>c==10) (by show 35<38;decide) (by rfl) rfl (acc_lit (C:=C2) (i:=35) (by rfl)) (fun hp=>by simpa using h10 hp) fun sn=> ?_
 refine f_tailF (k:=k+1) rfl rfl rfl fun _ _ _ _=> ?_
 refine f_closeF (k:=k) rfl rfl rfl fun _ _ _ _ _=> ?_
 exact hk _ rfl
theorem back2:∀(j:Nat) (c:Cf) (om:Bool) (kp:Sre.Kept),okK kp→(∀i,i<j→T.getD (p+i) 0≠35∧T.getD (p+i) 0≠10)→
  c.fr=[{wait:= .giveBack,pc:=5,pos:=p+j,outermost:=om,count:=(j:Int),kept:=kp}]→Fin ⟨C2,T,lim,p⟩ (8*j+3) (an ⟨C2,T,lim,p⟩ c false) none
 | 0,c,om,kp,hk,_,hf=>(f_giveF (n:=0) hf rfl hk rfl (by show 0<0+1;decide) fun pc om=>(f_lose rfl).mono (k':=2) (by exact Q74 .o))
 | j+1,c,om,kp,hk,hT,hf=>by
  have hTj:=hT j (Nat.lt_succ_self j)
  refine f_give (k:=8*j+10) (n:=j) hf rfl hk (by decide) rfl (by exact Q2 (.n1 _)) fun om=> ?_
  refine round2 (k:=8*j+3) (q:=p+j) _ (by rfl) (by exact lin1 (.q .v2 (.a .v0 .v1)) (.b 2 (.a .v0 (.a .v1 .k1)) .k1) (.b (.d 1 (.w [0, -1,1]) (.w [1, -1,1])) (.d 1 (.w [0,1,1]) (.w [0,1,1]))) rfl (.n3 _ _ _) rfl) (by show 1<100;decide) (fun _=>hTj.1) (fun _=>hTj.2) fun c' hc'=> ?_
  exact back2 j c' om kp hk (fun i hi=>hT i (Nat.lt_succ_of_lt hi)) (by rw [hc'];simp)
theorem junk (hR:Rest ⟨C2,T,lim,p⟩ p l) (hl:l.length≤4294967295) (hh:∀d,(l.dropWhile white2).head? =some d→d≠35∧d≠10):
  Fin ⟨C2,T,lim,p⟩ (8*l.length+14) (forMatch C2 T 0 p lim false false) none:=by
 cases l with
 | nil=>exact (start_none h2 (by have:=hR.1;simp at this;exact Q35 (.n2 _ _) this)).mono (by exact lin0 (.l .k1 (.a (.m 8 .v0) (.k 14))) (.w [1]) rfl (.n1 _))
 | cons c r=>
  obtain ⟨sn,hs⟩:=start_eq (T:=T) h2 hR.lt
  rw [hs]
  have hn:=cnt_min (P:=white2) hR hl
  have hD:=hR.drop (P:=white2)
  have hle:((c::r).takeWhile white2).length≤(c::r).length:=(List.takeWhile_sublist _).length_le
  refine f_rep1 (P:=white2) (k:=8*(c::r).length+13) (n:=((c::r).takeWhile white2).length) (by show 5<38;decide) (by rfl) acc2 (by show 0<16000000;decide) hn (by exact Q2 (.n1 _)) hR.le (by exact Q2 (.n1 _)) fun sn wh=> ?_
  have hx:∀x,p+((c::r).takeWhile white2).length<lim→(x=35∨x=10)→T.getD (p+((c::r).takeWhile white2).length) 0≠x:=by
   intro x hp hx hT
   cases hd:(c::r).dropWhile white2 with
   | nil=>rw [hd] at hD;exact absurd hp hD.nil
   | cons a b=>
    rw [hd] at hD hh
    have h1:T.getD (p+((c::r).takeWhile white2).length) 0=a:=hD.head
    have h2:=hh a rfl
    rw [h1] at hT
    rcases hx with e | e
    ·exact h2.1 (hT.trans e)
    ·exact h2.2 (hT.trans e)
  refine (round2 (k:=8*((c::r).takeWhile white2).length+3) (q:=p+((c::r).takeWhile white2).length) _ (by rfl) (by rfl) (by show 1<100;decide) (fun hp=>hx 35 hp (.inl rfl)) (fun hp=>hx 10 hp (.inr rfl)) fun c' hc'=> ?_).mono (by exact lin1 (.l (.a (.a (.m 8 .v0) (.k 3)) (.k 7)) (.a (.m 8 .v1) (.k 13))) (.l .v0 .v1) (.w [1,8]) rfl (.n2 _ _) hle)
  refine back2 ((c::r).takeWhile white2).length c' true {whole:=wh} okK_of (fun i hi=> ?_) hc'
  obtain ⟨d,hd,hP⟩:=take_get hi
  have h2:T.getD (p+i) 0=d:=hR.2 i d hd
  rw [h2]
  constructor <;> (rintro rfl;revert hP;decide)
end RX
end Mine
end
section
open PySem
set_option maxRecDepth 100000
set_option tactic.hygienic false
namespace Mine
namespace RX
open PySem.Sre PySem.Sre.M
variable {hi i lpc p pb pb' pl pu q:Nat}{om om':Bool}{n:Int}{b:Option Nat}
structure ILit (C:Array Nat) (pc q pc':Nat):Prop where
 lt:pc<C.size
 op:opAt C pc=some .LITERAL
 w:C.getD (pc+1) 0=q
 nx:pc+itemWidth C pc=pc'
structure IAll (C:Array Nat) (pc pc':Nat):Prop where
 lt:pc<C.size
 op:opAt C pc=some .ANY_ALL
 nx:pc+itemWidth C pc=pc'
structure IRun (C:Array Nat) (pc hi pc':Nat) (P:Nat→Bool):Prop where
 lt:pc<C.size
 op:opAt C pc=some .REPEAT_ONE
 lo:C.getD (pc+2) 0=0
 hi:C.getD (pc+3) 0=hi
 nx:pc+1+C.getD (pc+1) 0=pc'
 acc:Acc C (pc+4) P
structure IJmp (C:Array Nat) (pc pc':Nat):Prop where
 lt:pc<C.size
 op:opAt C pc=some .JUMP
 nx:pc+1+C.getD (pc+1) 0=pc'
structure ISuc (C:Array Nat) (pc:Nat):Prop where
 lt:pc<C.size
 op:opAt C pc=some .SUCCESS
structure IRpt (C:Array Nat) (pc pu hi:Nat):Prop where
 lt:pc<C.size
 op:opAt C pc=some .REPEAT
 lo:C.getD (pc+2) 0=0
 hi:C.getD (pc+3) 0=hi
 nx:pc+1+C.getD (pc+1) 0=pu
 ltu:pu<C.size
 opu:opAt C pu=some .MAX_UNTIL
structure IBra (C:Array Nat) (pc pc2:Nat):Prop where
 lt:pc<C.size
 op:opAt C pc=some .BRANCH
 nz:(C.getD (pc+1) 0==0)=false
 nx:pc+1+C.getD (pc+1) 0=pc2
structure INot (C:Array Nat) (pc pc':Nat):Prop where
 lt:pc<C.size
 op:opAt C pc=some .ASSERT_NOT
 bk:C.getD (pc+2) 0=0
 nx:pc+1+C.getD (pc+1) 0=pc'
section
variable {e:En}{k:Nat}{r:Option Nat}{pc pc' pos hd:Nat}{fr:List Sre.Frame}{lp:Array Loop}{inn:Option Nat}{om:Bool}{sn:Seen}
theorem g_lit (h:ILit e.C pc q pc') (hp:pos<e.lim) (hc:e.T.getD pos 0=q) (hk:∀sn,Fin e k (mk e ⟨pc',pos+1,fr,lp,inn,hd,om,sn⟩) r):Fin e (k+1) (mk e ⟨pc,pos,fr,lp,inn,hd,om,sn⟩) r:=by
 refine f_char (op:= .LITERAL) (P:=fun c=>c==e.C.getD (pc+1) 0) h.lt h.op rfl (acc_lit h.op) hp ?_ fun sn=> ?_
 ·show (e.T.getD pos 0==e.C.getD (pc+1) 0)=true;rw [hc,h.w];simp
 ·have:=hk sn
  rw [←h.nx] at this;exact this
theorem g_litF (h:ILit e.C pc q pc') (hc:pos<e.lim→e.T.getD pos 0≠q) (hk:∀sn,Fin e k (an e ⟨pc,pos,fr,lp,inn,hd,om,sn⟩ false) r):Fin e (k+1) (mk e ⟨pc,pos,fr,lp,inn,hd,om,sn⟩) r:=by
 refine f_charF (op:= .LITERAL) (P:=fun c=>c==e.C.getD (pc+1) 0) h.lt h.op rfl (acc_lit h.op) (fun hp=> ?_) hk
 show (e.T.getD pos 0==e.C.getD (pc+1) 0)=false
 rw [h.w];simpa using hc hp
theorem g_all (h:IAll e.C pc pc') (hp:pos<e.lim) (hk:∀sn,Fin e k (mk e ⟨pc',pos+1,fr,lp,inn,hd,om,sn⟩) r):Fin e (k+1) (mk e ⟨pc,pos,fr,lp,inn,hd,om,sn⟩) r:=by
 refine f_char (op:= .ANY_ALL) (P:=fun _=>true) h.lt h.op rfl (acc_all h.op) hp rfl fun sn=> ?_
 have:=hk sn
 rw [←h.nx] at this;exact this
theorem g_allF (h:IAll e.C pc pc') (hp:¬pos<e.lim) (hk:∀sn,Fin e k (an e ⟨pc,pos,fr,lp,inn,hd,om,sn⟩ false) r):Fin e (k+1) (mk e ⟨pc,pos,fr,lp,inn,hd,om,sn⟩) r:=
 f_charF (op:= .ANY_ALL) (P:=fun _=>true) h.lt h.op rfl (acc_all h.op) (fun hp'=>absurd hp' hp) hk
noncomputable def gb (pc pos:Nat) (om:Bool) (n:Nat) (wh:Bool):Sre.Frame:={wait:= .giveBack,pc:=pc,pos:=pos,outermost:=om,count:=(n:Int),kept:={whole:=wh}}
theorem gb_good {n:Nat}{wh:Bool}:good (gb pc pos om n wh):=⟨rfl, .inr (.inl rfl)⟩
theorem g_run {P:Nat→Bool}{n:Nat} (h:IRun e.C pc hi pc' P) (hs:fr.length<16000000) (hn:n=cnt e.T P (min hi (e.lim-pos)) pos) (hpos:pos≤e.lim)
  (hk:∀sn wh,Fin e k (mk e ⟨pc',pos+n,gb pc (pos+n) om n wh::fr,lp,inn,pos+n,om,sn⟩) r):Fin e (k+1) (mk e ⟨pc,pos,fr,lp,inn,hd,om,sn⟩) r:=by
 refine f_rep1 (P:=P) (n:=n) h.lt h.op h.acc hs (by show n=cnt e.T P (min (e.C.getD (pc+3) 0) (e.lim-pos)) pos;rw [h.hi];exact hn) (by show e.C.getD (pc+2) 0≤n;rw [h.lo];exact Q2 (.n1 _)) hpos
  (by show e.C.getD (pc+2) 0≤e.lim-pos;rw [h.lo];exact Q2 (.n1 _)) fun sn wh=> ?_
 have:=hk sn wh
 rw [←h.nx] at this;exact this
theorem g_jmp (h:IJmp e.C pc pc') (hk:∀sn,Fin e k (mk e ⟨pc',pos,fr,lp,inn,hd,om,sn⟩) r):Fin e (k+1) (mk e ⟨pc,pos,fr,lp,inn,hd,om,sn⟩) r:=by
 refine f_jump h.lt h.op (.inl rfl) fun sn=> ?_
 have:=hk sn
 rw [←h.nx] at this;exact this
theorem g_suc (h:ISuc e.C pc) (hk:∀sn,Fin e k (an e ⟨pc,pos,fr,lp,inn,pos,om,sn⟩ true) r):Fin e (k+1) (mk e ⟨pc,pos,fr,lp,inn,hd,om,sn⟩) r:=
 f_succ h.lt h.op hk
noncomputable def cl (pc pos:Nat) (om:Bool) (i:Nat):Sre.Frame:={wait:= .closeLoop,pc:=pc,pos:=pos,outermost:=om,loop:=i}
theorem cl_good:good (cl pc pos om i):=⟨rfl, .inr (.inr (.inl rfl))⟩
theorem g_rpt (h:IRpt e.C pc pu hi) (hs:fr.length<16000000) (hk:∀sn,Fin e k (mk e ⟨pu,pos,cl pc pos om lp.size::fr,lp.push {pc:=pc,outer:=inn},some lp.size,pos,om,sn⟩) r):
  Fin e (k+1) (mk e ⟨pc,pos,fr,lp,inn,hd,om,sn⟩) r:=by
 refine f_repeat h.lt h.op hs fun sn=> ?_
 have:=hk sn
 rw [←h.nx] at this;exact this
noncomputable def mm (pc pos:Nat) (om:Bool) (n:Int) (i:Nat) (b:Option Nat):Sre.Frame:={wait:= .maxMore,pc:=pc,pos:=pos,outermost:=om,count:=n,kept:={whole:=true},loop:=i,began:=b}
theorem mm_good:good (mm pc pos om n i b):=⟨rfl, .inr (.inr (.inr (.inl rfl)))⟩
structure LpIs (lp:Array Loop) (inn:Option Nat) (i lpc p:Nat):Prop where
 inn:inn=some i
 lt:i<lp.size
 pc:(lp.getD i dl).pc=lpc
 cnt: -1≤(lp.getD i dl).count
 beg:∀b,(lp.getD i dl).began=some b→b<p
theorem LpIs.ne (h:LpIs lp inn i lpc p):(lp.getD i dl).began≠some p:=fun e=>Nat.lt_irrefl _ (h.beg p e)
theorem getD_mod {f:Loop→Loop} (h:i<lp.size):(lp.modify i f).getD i dl=f (lp.getD i dl):=by
 simp [Array.getD,Array.getElem_modify,h]
theorem getD_push {l:Loop}:(lp.push l).getD lp.size dl=l:=by simp [Array.getD]
theorem LpIs.new:LpIs (lp.push {pc:=pc,outer:=inn}) (some lp.size) lp.size pc p:=
 ⟨rfl,by simp,by rw [getD_push],by rw [getD_push];show (-1:Int)≤ -1;exact lin0 (.L (.g .k1) (.g .k1)) (.w [1]) rfl .o,fun b hb=>by rw [getD_push] at hb;cases hb⟩
theorem LpIs.next {p':Nat} (h:LpIs lp inn i lpc p) (hp:p<p'):LpIs (lp.modify i fun l'=>{l' with count:=(lp.getD i dl).count+1,began:=some p}) inn i lpc p':=
 ⟨h.inn,by simpa using h.lt,by rw [getD_mod h.lt];exact h.pc,by rw [getD_mod h.lt];show -1≤(lp.getD i dl).count+1;have:=h.cnt;exact lin1 (.L (.g .k1) (.a .v0 .k1)) (.L (.g .k1) .v0) (.w [1,1]) rfl (.z _ .o) this,fun b hb=>by rw [getD_mod h.lt] at hb;cases hb;exact hp⟩
theorem g_more (h:IRpt e.C lpc pu hi) (hs:fr.length<16000000) (hL:LpIs lp inn i lpc pos) (hhi:hi=maxRepeat∨(lp.getD i dl).count+1<(hi:Nat))
  (hk:∀sn n b,Fin e k (mk e ⟨lpc+4,pos,mm (pu+1) pos om n i b::fr,lp.modify i fun l'=>{l' with count:=(lp.getD i dl).count+1,began:=some pos},inn,pos,om,sn⟩) r):
  Fin e (k+1) (mk e ⟨pu,pos,fr,lp,inn,hd,om,sn⟩) r:=by
 refine f_more (i:=i) (l:=lp.getD i dl) h.ltu h.opu hs hL.inn rfl (by rw [hL.pc,h.lo];have:=hL.cnt;exact Q76 (.z _ .o) this) ?_ hL.ne fun sn=> ?_
 ·show (lp.getD i dl).count+1<(e.C.getD ((lp.getD i dl).pc+3) 0:Nat)∨e.C.getD ((lp.getD i dl).pc+3) 0=maxRepeat
  rw [hL.pc,h.hi]
  exact hhi.symm
 ·have:=hk sn ((lp.getD i dl).count+1) (lp.getD i dl).began
  rw [←hL.pc] at this;exact this
noncomputable def mt (pc pos:Nat) (om:Bool) (n:Int) (i:Nat):Sre.Frame:={wait:= .maxTail,pc:=pc,pos:=pos,outermost:=om,count:=n,loop:=i}
theorem mt_good:good (mt pc pos om n i):=⟨rfl, .inr (.inr (.inr (.inr rfl)))⟩
theorem g_moreF (hs:fr.length<16000000) (hi:i<lp.size)
  (hk:∀om lp inn,Fin e k (mk e ⟨pu,p,mt pu p om n i::fr,lp,inn,p,om,sn⟩) r):Fin e (k+1) (an e ⟨pc,pos,mm pu p om' n i b::fr,lp,inn,hd,om,sn⟩ false) r:=
 f_maxMoreF (f:=mm pu p om' n i b) rfl rfl okK_of hs rfl hi fun om lp' _=>hk om lp' _
theorem g_tail (h:IRpt e.C lpc pu hi) (hs:fr.length<16000000) (hinn:inn=some i) (hpc:(lp.getD i dl).pc=lpc) (hcnt: -1≤(lp.getD i dl).count) (hhi:hi≠maxRepeat) (hge:(hi:Int)≤(lp.getD i dl).count+1)
  (hk:∀sn n inn',Fin e k (mk e ⟨pu+1,pos,mt (pu+1) pos om n i::fr,lp,inn',pos,om,sn⟩) r):Fin e (k+1) (mk e ⟨pu,pos,fr,lp,inn,hd,om,sn⟩) r:=by
 refine f_untilTail (i:=i) (l:=lp.getD i dl) h.ltu h.opu hs hinn rfl (by rw [hpc,h.lo];exact Q76 (.z _ .o) hcnt) ?_ fun sn=>hk sn _ _
 rw [hpc,h.hi]
 rintro (h1 | h1)
 ·exact lin2 .f (.L (.c .v0) (.a .v1 .k1)) (.T (.a .v1 .k1) (.c .v0)) (.w [0,1,1]) rfl (.n _ (.z _ .o)) hge h1
 ·exact hhi h1
noncomputable def nb (pc pos:Nat) (om:Bool) (kp:Sre.Kept):Sre.Frame:={wait:= .nextBranch,pc:=pc,pos:=pos,outermost:=om,kept:=kp}
theorem nb_good {kp:Sre.Kept} (h:okK kp):good (nb pc pos om kp):=⟨h.1, .inl rfl⟩
theorem g_bra {pc2:Nat} (h:IBra e.C pc pc2) (hs:fr.length<16000000) (hk:∀sn kp,okK kp→Fin e k (mk e ⟨pc+2,pos,nb (pc+1) pos om kp::fr,lp,inn,pos,om,sn⟩) r):Fin e (k+1) (mk e ⟨pc,pos,fr,lp,inn,hd,om,sn⟩) r:=
 f_branch h.lt h.op hs h.nz hk
theorem g_nextB {kp:Sre.Kept} (hkp:okK kp) (hs:fr.length<16000000) (hn:pb+e.C.getD pb 0=pb') (h0:(e.C.getD pb' 0==0)=false)
  (hk:∀om,Fin e k (mk e ⟨pb'+1,p,nb pb' p om kp::fr,lp,inn,p,om,sn⟩) r):Fin e (k+1) (an e ⟨pc,pos,nb pb p om' kp::fr,lp,inn,hd,om,sn⟩ false) r:=by
 refine f_nextB (f:=nb pb p om' kp) rfl rfl hkp hs (by show (e.C.getD (pb+e.C.getD pb 0) 0==0)=false;rw [hn];exact h0) fun om=> ?_
 have:=hk om
 rw [←hn] at this;exact this
theorem g_nextBF {kp:Sre.Kept} (hkp:okK kp) (hn:pb+e.C.getD pb 0=pb') (h0:(e.C.getD pb' 0==0)=true)
  (hk:∀pc om,Fin e k (an e ⟨pc,p,fr,lp,inn,hd,om,sn⟩ false) r):Fin e (k+1) (an e ⟨pc,pos,nb pb p om' kp::fr,lp,inn,hd,om,sn⟩ false) r:=
 f_nextBF (f:=nb pb p om' kp) rfl rfl hkp (by show (e.C.getD (pb+e.C.getD pb 0) 0==0)=true;rw [hn];exact h0) hk
noncomputable def ln (pc pos:Nat) (om:Bool) (kp:Sre.Kept):Sre.Frame:={wait:= .lookNot,pc:=pc,pos:=pos,outermost:=om,kept:=kp}
theorem g_not (h:INot e.C pc pc') (hs:fr.length<16000000) (hk:∀sn kp,okK kp→Fin e k (mk e ⟨pc+3,pos,ln pc pos om kp::fr,lp,inn,pos,false,sn⟩) r):Fin e (k+1) (mk e ⟨pc,pos,fr,lp,inn,hd,om,sn⟩) r:=
 f_assertN h.lt h.op h.bk hs hk
theorem g_lookT {kp:Sre.Kept} (hkp:okK kp) (hk:∀pc pos om,Fin e k (an e ⟨pc,pos,fr,lp,inn,hd,om,sn⟩ false) r):Fin e (k+1) (an e ⟨pc,pos,ln pl p om' kp::fr,lp,inn,hd,om,sn⟩ true) r:=
 f_lookT (f:=ln pl p om' kp) rfl rfl hkp hk
theorem g_lookF {kp:Sre.Kept} (h:INot e.C pl pc') (hkp:okK kp) (hk:Fin e k (mk e ⟨pc',p,fr,lp,inn,hd,om',sn⟩) r):Fin e (k+1) (an e ⟨pc,pos,ln pl p om' kp::fr,lp,inn,hd,om,sn⟩ false) r:=by
 refine f_lookF (f:=ln pl p om' kp) rfl rfl hkp ?_
 rw [←h.nx] at hk
 exact hk
theorem g_win (hg:∀g∈fr,good g):Fin e (fr.length+1) (an e ⟨pc,pos,fr,lp,inn,hd,om,sn⟩ true) (some hd):=f_win fr _ rfl hg rfl
end
theorem good_cons {f:Sre.Frame}{fs:List Sre.Frame} (h:good f) (hs:∀g∈fs,good g):∀g∈f::fs,good g:=fun g hg=>(List.mem_cons.mp hg).elim (fun e=>e▸h) (hs g)
end RX
end Mine
end
section
open PySem
set_option maxRecDepth 100000
set_option tactic.hygienic false
namespace Mine
namespace RX
set_option genInjectivity false
open PySem.Sre PySem.Sre.M
noncomputable def C3:Array Nat:= #[14,9,4,1,4294967295,16,34,16,39,0,7,72,16,34,16,34,16,34,24,12,0,4294967295,13,7,21,16,34,16,92,0,1,23,37,0,4294967295,7,6,16,92,3,15,15,13,16,34,5,7,0,16,34,16,34,1,15,2,0,24,12,0,4294967295,13,7,21,16,34,16,92,0,1,18,23,9,0,1,16,34,16,34,16,34,18,15,186,56,16,34,24,17,0,4294967295,13,12,21,9,1024,4,268435456,0,0,0,0,0,0,1,23,24,0,4294967295,16,92,3,24,17,0,4294967295,13,12,21,9,1024,4,268435456,0,0,0,0,0,0,1,18,24,6,0,1,16,34,1,15,130,72,16,39,16,39,16,39,24,12,0,4294967295,13,7,21,16,39,16,92,0,1,23,37,0,4294967295,7,6,16,92,3,15,15,13,16,39,5,7,0,16,39,16,39,1,15,2,0,24,12,0,4294967295,13,7,21,16,39,16,92,0,1,18,23,9,0,1,16,39,16,39,16,39,18,15,58,56,16,39,24,17,0,4294967295,13,12,21,9,1024,128,268435456,0,0,0,0,0,0,1,23,24,0,4294967295,16,92,3,24,17,0,4294967295,13,12,21,9,1024,128,268435456,0,0,0,0,0,0,1,18,24,6,0,1,16,39,1,15,2,0,1]
noncomputable def scan1 (q:Nat):List Nat→Nat
 | []=>0
 | c::r=>if c=92 then (match r with
   | []=>0
   | _::r'=>2+scan1 q r')
  else if c=q then 1 else if c=10 then 0 else 1+scan1 q r
noncomputable def scan3 (q:Nat):List Nat→Nat
 | []=>0
 | c::r=>if c=92 then (match r with
   | []=>0
   | _::r'=>2+scan3 q r')
  else if c=q∧r.take 2=[q,q] then 3 else 1+scan3 q r
noncomputable def strN (q:Nat) (l:List Nat):Nat:=if l.take 3=[q,q,q] then 3+scan3 q (l.drop 3) else 1+scan1 q (l.drop 1)
noncomputable def plain1 (q c:Nat):Bool:= !(c==10||c==q||c==92)
noncomputable def plain3 (q c:Nat):Bool:= !(c==q||c==92)
theorem scan1_skip {q:Nat}:∀l:List Nat,scan1 q l=(l.takeWhile (plain1 q)).length+scan1 q (l.dropWhile (plain1 q))
 | []=>rfl
 | c::r=>by
  cases hc:plain1 q c
  ·rw [List.takeWhile_cons,List.dropWhile_cons,hc];simp
  ·rw [List.takeWhile_cons,List.dropWhile_cons,hc]
   simp only [if_true,List.length_cons]
   have h:=scan1_skip (q:=q) r
   unfold plain1 at hc
   simp at hc
   conv=>lhs;unfold scan1
   rw [if_neg hc.2,if_neg hc.1.2,if_neg hc.1.1,h];exact Q77 (.n2 _ _)
theorem scan3_skip {q:Nat}:∀l:List Nat,scan3 q l=(l.takeWhile (plain3 q)).length+scan3 q (l.dropWhile (plain3 q))
 | []=>rfl
 | c::r=>by
  cases hc:plain3 q c
  ·rw [List.takeWhile_cons,List.dropWhile_cons,hc];simp
  ·rw [List.takeWhile_cons,List.dropWhile_cons,hc]
   simp only [if_true,List.length_cons]
   have h:=scan3_skip (q:=q) r
   unfold plain3 at hc
   simp at hc
   conv=>lhs;unfold scan3
   rw [if_neg hc.2,if_neg (fun z=>hc.1 z.1),h];exact Q77 (.n2 _ _)
theorem drop_head {P:Nat→Bool}{l:List Nat}{d:Nat}:(l.dropWhile P).head? =some d→P d=false:=by
 induction l with
 | nil=>intro h;cases h
 | cons c l ih=>
  intro h
  rw [List.dropWhile_cons] at h
  cases hc:P c
  ·rw [hc] at h;cases h;exact hc
  ·rw [hc] at h;exact ih h
theorem take_drop_len {P:Nat→Bool} (l:List Nat):(l.takeWhile P).length+(l.dropWhile P).length=l.length:=by
 induction l with
 | nil=>rfl
 | cons c l ih=>
  rw [List.takeWhile_cons,List.dropWhile_cons]
  cases hc:P c
  ·simp
  ·simp only [if_true,List.length_cons];exact lin1 (.q (.a (.a .v0 .k1) .v1) (.a .v2 .k1)) (.q (.a .v0 .v1) .v2) (.b (.w [1, -1]) (.w [1,1])) rfl (.n3 _ _ _) ih
theorem i268:ISuc C3 268:=(⟨by show 268<269;decide,by kernel_rfl⟩:ISuc C3 268)
section
structure SgP where
 b:Nat
 q:Nat
 n92:q≠92
 n10:q≠10
 iL:ILit C3 b q (b+2)
 iR:IRun C3 (b+2) 4294967295 (b+20) (plain1 q)
 iP:IRpt C3 (b+20) (b+45) 4294967295
 iB:ILit C3 (b+24) 92 (b+26)
 iA:IAll C3 (b+26) (b+27)
 iR2:IRun C3 (b+27) 4294967295 (b+45) (plain1 q)
 iT:IRun C3 (b+46) 1 (b+53) (fun c=>c==q)
 iJ:IJmp C3 (b+53) 268
variable (h:SgP)
theorem exit1 {T:Array Nat}{lim st p pc pos hd i:Nat}{l:List Nat}{fs:List Sre.Frame}{lp:Array Loop}{inn:Option Nat}{om om':Bool}{sn:Seen}{n:Int}{b:Option Nat} (hR:Rest ⟨C3,T,lim,st⟩ p l)
  (hi:i<lp.size) (hs:fs.length+5<16000000) (hg:∀g∈fs,good g):Fin ⟨C3,T,lim,st⟩ (fs.length+7) (an ⟨C3,T,lim,st⟩ ⟨pc,pos,mm (h.b+46) p om' n i b::fs,lp,inn,hd,om,sn⟩ false) (some (p+if l.head? =some h.q then 1 else 0)):=by
 refine g_moreF (k:=fs.length+6) (by exact Q78 (.n1 _) hs) hi fun om lp' inn'=> ?_
 have hn:(if l.head? =some h.q then 1 else 0)=cnt T (fun c=>c==h.q) (min 1 (lim-p)) p:=by
  cases l with
  | nil=>
   have h0:lim-p=0:=hR.len
   rw [h0];rfl
  | cons a r=>
   have h0:lim-p=r.length+1:=hR.len
   rw [show min 1 (lim-p)=1 by exact lin2 (.q .v2 .k1) (.q .v1 (.a .v0 .k1)) (.M 2 .k1 .v1) (.b (.d 2 (.w [0, -1,1]) (.w [0, -1,1, -1])) (.d 2 (.w [0,1,1]) (.w [1,1,1]))) rfl (.n3 _ _ _) h0 rfl]
   unfold cnt
   rw [show T.getD p 0=a from hR.head]
   by_cases ha:a=h.q
   ·rw [if_pos (by simpa using ha),if_pos (by simpa using ha)];rfl
   ·rw [if_neg (by simpa using ha),if_neg (by simpa using ha)]
 refine g_run (k:=fs.length+5) h.iT (by simp only [List.length_cons];exact Q79 (.n1 _) hs) hn hR.le fun sn wh=> ?_
 refine g_jmp (k:=fs.length+4) h.iJ fun sn=> ?_
 refine g_suc (k:=fs.length+3) i268 fun sn=> ?_
 exact g_win (good_cons gb_good (good_cons mt_good hg))
theorem loop1 {T:Array Nat}{lim st:Nat} (hlim:lim≤4000000):∀(n:Nat) (l:List Nat) (p i hd:Nat) (fr:List Sre.Frame) (lp:Array Loop) (inn:Option Nat) (om:Bool) (sn:Seen),l.length≤n→Rest ⟨C3,T,lim,st⟩ p l→(∀d,l.head? =some d→plain1 h.q d=false)→
  LpIs lp inn i (h.b+20) p→(∀g∈fr,good g)→fr.length+3*l.length+10<16000000→Fin ⟨C3,T,lim,st⟩ (7*l.length+fr.length+12) (mk ⟨C3,T,lim,st⟩ ⟨(h.b+45),p,fr,lp,inn,hd,om,sn⟩) (some (p+scan1 h.q l)):=by
 intro n
 induction n with
 | zero=>
  intro l p i hd fr lp inn om sn hl hR hh hL hg hs
  cases l with
  | cons _ _=>simp at hl
  | nil=>
   refine Fin.mono (k:=(fr.length+7)+2) ?_ (by simp only [List.length_nil];exact lin0 (.l (.a (.a .v0 (.k 7)) (.k 2)) (.a (.a (.m 7 .k0) .v0) (.k 12))) (.w [1]) rfl (.n1 _))
   refine g_more h.iP (by exact Q80 (.n2 _ _) hs) hL (.inl rfl) fun sn n b=> ?_
   refine g_litF h.iB (fun hp=>absurd hp hR.nil) fun sn=> ?_
   exact exit1 h hR (by simpa using hL.lt) (by exact Q81 (.n2 _ _) hs) hg
 | succ n ih=>
  intro l p i hd fr lp inn om sn hl hR hh hL hg hs
  cases l with
  | nil=>exact ih [] p i hd fr lp inn om sn (by simp) hR hh hL hg hs
  | cons a r=>
   simp only [List.length_cons] at hl hs
   by_cases ha:a=92
   ·subst ha
    cases r with
    | nil=>
     refine Fin.mono (k:=(fr.length+7)+3) ?_ (by simp only [List.length_cons,List.length_nil];exact lin0 (.l (.a (.a .v0 (.k 7)) (.k 3)) (.a (.a (.m 7 (.a .k0 .k1)) .v0) (.k 12))) (.w [1]) rfl (.n1 _))
     refine g_more h.iP (by exact Q17 (.n2 _ _) hs) hL (.inl rfl) fun sn n b=> ?_
     refine g_lit h.iB hR.lt hR.head fun sn=> ?_
     refine g_allF h.iA hR.tail.nil fun sn=> ?_
     rw [show scan1 h.q [92]=(if ([92]:List Nat).head? =some h.q then 1 else 0) from (if_neg (fun e=>h.n92 (Option.some.inj e).symm)).symm]
     exact exit1 h hR (by simpa using hL.lt) (by exact Q37 (.n2 _ _) hs) hg
    | cons d r'=>
     have hR2:=hR.tail.tail
     have hD:=hR2.drop (P:=plain1 h.q)
     have htl:=take_drop_len (P:=plain1 h.q) r'
     have hsc:scan1 h.q (92::d::r')=2+((r'.takeWhile (plain1 h.q)).length+scan1 h.q (r'.dropWhile (plain1 h.q))):=by
      rw [←scan1_skip r'];rfl
     simp only [List.length_cons] at hs hl
     have hl1:=hR2.1
     have e1:(⟨C3,T,lim,st⟩:En).lim=lim:=rfl
     refine Fin.mono (k:=(7*(r'.dropWhile (plain1 h.q)).length+(fr.length+2)+12)+4) ?_ (by simp only [List.length_cons];exact lin1 (.l (.a (.a (.a (.m 7 .v0) (.a .v1 (.k 2))) (.k 12)) (.k 4)) (.a (.a (.m 7 (.a (.a .v2 .k1) .k1)) .v1) (.k 12))) (.q (.a .v3 .v0) .v2) (.w [1,7]) rfl (.n4 _ _ _ _) htl)
     refine g_more h.iP (by exact Q82 (.n2 _ _) hs) hL (.inl rfl) fun sn n b=> ?_
     refine g_lit h.iB hR.lt hR.head fun sn=> ?_
     refine g_all h.iA hR.tail.lt fun sn=> ?_
     refine g_run h.iR2 (by simp only [List.length_cons];exact Q83 (.n2 _ _) hs) (cnt_min (m:=4294967295) hR2 (by exact lin2 (.l .v0 (.k 4294967295)) (.l .v1 (.k 4000000)) (.q (.a (.a (.a .v2 .k1) .k1) .v0) .v1) (.w [1,1,1]) rfl (.n3 _ _ _) hlim hl1)) hR2.le fun sn wh=> ?_
     rw [hsc,show p+(2+((r'.takeWhile (plain1 h.q)).length+scan1 h.q (r'.dropWhile (plain1 h.q))))=p+1+1+(r'.takeWhile (plain1 h.q)).length+scan1 h.q (r'.dropWhile (plain1 h.q)) by exact Q84 (.n3 _ _ _)]
     exact ih (r'.dropWhile (plain1 h.q)) (p+1+1+(r'.takeWhile (plain1 h.q)).length) i _ _ _ _ _ _ (by exact Q85 (.n4 _ _ _ _) hl htl) hD (fun d hd=>drop_head hd) (hL.next (by exact Q86 (.n2 _ _))) (good_cons gb_good (good_cons mm_good hg)) (by simp only [List.length_cons];exact lin2 (.t (.a (.a (.a (.a .v0 .k1) .k1) (.m 3 .v1)) (.k 10)) (.k 16000000)) (.t (.a (.a .v0 (.m 3 (.a (.a .v2 .k1) .k1))) (.k 10)) (.k 16000000)) (.q (.a .v3 .v1) .v2) (.w [1,1,3]) rfl (.n4 _ _ _ _) hs htl)
   ·have hpl:=hh a rfl
    have hsc:scan1 h.q (a::r)=if (a::r).head? =some h.q then 1 else 0:=by
     unfold plain1 at hpl
     simp at hpl
     unfold scan1
     rw [if_neg ha]
     by_cases hq:a=h.q
     ·rw [if_pos hq,if_pos (by simpa using hq)]
     ·have h10:a=10:=by
       by_cases h10:a=10
       ·exact h10
       ·exact absurd (hpl h10 hq) ha
      rw [if_neg hq,if_pos h10,if_neg (by simpa using hq)]
    rw [hsc]
    refine Fin.mono (k:=(fr.length+7)+2) ?_ (by simp only [List.length_cons];exact lin0 (.l (.a (.a .v0 (.k 7)) (.k 2)) (.a (.a (.m 7 (.a .v1 .k1)) .v0) (.k 12))) (.w [1]) rfl (.n2 _ _))
    refine g_more h.iP (by exact Q17 (.n2 _ _) hs) hL (.inl rfl) fun sn n b=> ?_
    refine g_litF h.iB (fun hp hx=>ha (hR.head.symm.trans hx)) fun sn=> ?_
    exact exit1 h hR (by simpa using hL.lt) (by exact Q37 (.n2 _ _) hs) hg
theorem alt1 {T:Array Nat}{lim st p hd:Nat} (hlim:lim≤4000000) {l:List Nat}{fr:List Sre.Frame}{lp:Array Loop}{inn:Option Nat}{om:Bool}{sn:Seen} (hR:Rest ⟨C3,T,lim,st⟩ p (h.q::l)) (hg:∀g∈fr,good g) (hs:fr.length<100):
  Fin ⟨C3,T,lim,st⟩ (7*l.length+fr.length+30) (mk ⟨C3,T,lim,st⟩ ⟨h.b,p,fr,lp,inn,hd,om,sn⟩) (some (p+(1+scan1 h.q l))):=by
 have hR1:=hR.tail
 have hD:=hR1.drop (P:=plain1 h.q)
 have htl:=take_drop_len (P:=plain1 h.q) l
 have e1:(⟨C3,T,lim,st⟩:En).lim=lim:=rfl
 have hll:=hR1.1
 refine Fin.mono (k:=(7*(l.dropWhile (plain1 h.q)).length+(fr.length+2)+12)+3) ?_ (by exact lin1 (.l (.a (.a (.a (.m 7 .v0) (.a .v1 (.k 2))) (.k 12)) (.k 3)) (.a (.a (.m 7 .v2) .v1) (.k 30))) (.q (.a .v3 .v0) .v2) (.w [1,7]) rfl (.n4 _ _ _ _) htl)
 refine g_lit h.iL hR.lt hR.head fun sn=> ?_
 refine g_run h.iR (by exact Q36 (.n1 _) hs) (cnt_min (m:=4294967295) hR1 (by exact lin2 (.l .v0 (.k 4294967295)) (.l .v1 (.k 4000000)) (.q (.a (.a .v2 .k1) .v0) .v1) (.w [1,1,1]) rfl (.n3 _ _ _) hlim hll)) hR1.le fun sn wh=> ?_
 refine g_rpt h.iP (by simp only [List.length_cons];exact Q16 (.n1 _) hs) fun sn=> ?_
 rw [scan1_skip l,show p+(1+((l.takeWhile (plain1 h.q)).length+scan1 h.q (l.dropWhile (plain1 h.q))))=p+1+(l.takeWhile (plain1 h.q)).length+scan1 h.q (l.dropWhile (plain1 h.q)) by exact Q87 (.n3 _ _ _)]
 exact loop1 h hlim _ (l.dropWhile (plain1 h.q)) (p+1+(l.takeWhile (plain1 h.q)).length) lp.size _ _ _ _ _ _ (Nat.le_refl _) hD (fun d hd=>drop_head hd) LpIs.new (good_cons cl_good (good_cons gb_good hg)) (by simp only [List.length_cons];exact lin4 (.t (.a (.a (.a (.a .v0 .k1) .k1) (.m 3 .v1)) (.k 10)) (.k 16000000)) (.l .v2 (.k 4000000)) (.t .v0 (.k 100)) (.q (.a .v3 .v1) .v4) (.q (.a (.a .v5 .k1) .v4) .v2) (.w [1,3,1,3,3]) rfl (.n6 _ _ _ _ _ _) hlim hs htl hll)
end
theorem accp_90:Acc C3 90 (plain1 34):=by
 refine (acc_in (P:=fun c=>if (decide (c<256)&&(C3.getD (93+(1+c/32)) 0).testBit (c%32))=true then false else true) (by rfl) ?_).congr ?_
 ·exact set_neg (f:=268) (by rfl) (set_chars (f:=267) (by rfl) (set_end (f:=266) (by rfl)))
 ·intro c
  by_cases hc:c<256
  ·exact chk256 (f:=fun c=>if (decide (c<256)&&(C3.getD (93+(1+c/32)) 0).testBit (c%32))=true then false else true) (g:=plain1 34) (by decide +kernel) c hc
  ·have h1:(if (decide (c<256)&&(C3.getD (93+(1+c/32)) 0).testBit (c%32))=true then false else true)=true:=by
    rw [show decide (c<256)=false from decide_eq_false hc];rfl
   rw [h1]
   unfold plain1
   simp;exact ⟨⟨Q18 (.n1 _) hc,Q88 (.n1 _) hc⟩,Q19 (.n1 _) hc⟩
theorem accp_115:Acc C3 115 (plain1 34):=by
 refine (acc_in (P:=fun c=>if (decide (c<256)&&(C3.getD (118+(1+c/32)) 0).testBit (c%32))=true then false else true) (by rfl) ?_).congr ?_
 ·exact set_neg (f:=268) (by rfl) (set_chars (f:=267) (by rfl) (set_end (f:=266) (by rfl)))
 ·intro c
  by_cases hc:c<256
  ·exact chk256 (f:=fun c=>if (decide (c<256)&&(C3.getD (118+(1+c/32)) 0).testBit (c%32))=true then false else true) (g:=plain1 34) (by decide +kernel) c hc
  ·have h1:(if (decide (c<256)&&(C3.getD (118+(1+c/32)) 0).testBit (c%32))=true then false else true)=true:=by
    rw [show decide (c<256)=false from decide_eq_false hc];rfl
   rw [h1]
   unfold plain1
   simp;exact ⟨⟨Q18 (.n1 _) hc,Q88 (.n1 _) hc⟩,Q19 (.n1 _) hc⟩
theorem i84:ILit C3 84 34 86:=(⟨by show 84<269;decide,by kernel_rfl,by kernel_rfl,by kernel_rfl⟩:ILit C3 84 34 86)
theorem i86:IRun C3 86 4294967295 104 (plain1 34):=(⟨by show 86<269;decide,by kernel_rfl,by kernel_rfl,by kernel_rfl,by kernel_rfl,accp_90⟩:IRun C3 86 4294967295 104 (plain1 34))
theorem i104:IRpt C3 104 129 4294967295:=(⟨by show 104<269;decide,by kernel_rfl,by kernel_rfl,by kernel_rfl,by kernel_rfl,by show 129<269;decide,by kernel_rfl⟩:IRpt C3 104 129 4294967295)
theorem i108:ILit C3 108 92 110:=(⟨by show 108<269;decide,by kernel_rfl,by kernel_rfl,by kernel_rfl⟩:ILit C3 108 92 110)
theorem i110:IAll C3 110 111:=(⟨by show 110<269;decide,by kernel_rfl,by kernel_rfl⟩:IAll C3 110 111)
theorem i111:IRun C3 111 4294967295 129 (plain1 34):=(⟨by show 111<269;decide,by kernel_rfl,by kernel_rfl,by kernel_rfl,by kernel_rfl,accp_115⟩:IRun C3 111 4294967295 129 (plain1 34))
theorem i130:IRun C3 130 1 137 (fun c=>c==34):=(⟨by show 130<269;decide,by kernel_rfl,by kernel_rfl,by kernel_rfl,by kernel_rfl,(acc_lit (by kernel_rfl):Acc C3 134 _)⟩:IRun C3 130 1 137 (fun c=>c==34))
theorem i137:IJmp C3 137 268:=(⟨by show 137<269;decide,by kernel_rfl,by kernel_rfl⟩:IJmp C3 137 268)
@[reducible] noncomputable def sg34:SgP:=⟨84,34,by decide,by decide,i84,i86,i104,i108,i110,i111,i130,i137⟩
theorem accp_218:Acc C3 218 (plain1 39):=by
 refine (acc_in (P:=fun c=>if (decide (c<256)&&(C3.getD (221+(1+c/32)) 0).testBit (c%32))=true then false else true) (by rfl) ?_).congr ?_
 ·exact set_neg (f:=268) (by rfl) (set_chars (f:=267) (by rfl) (set_end (f:=266) (by rfl)))
 ·intro c
  by_cases hc:c<256
  ·exact chk256 (f:=fun c=>if (decide (c<256)&&(C3.getD (221+(1+c/32)) 0).testBit (c%32))=true then false else true) (g:=plain1 39) (by decide +kernel) c hc
  ·have h1:(if (decide (c<256)&&(C3.getD (221+(1+c/32)) 0).testBit (c%32))=true then false else true)=true:=by
    rw [show decide (c<256)=false from decide_eq_false hc];rfl
   rw [h1]
   unfold plain1
   simp;exact ⟨⟨Q18 (.n1 _) hc,Q89 (.n1 _) hc⟩,Q19 (.n1 _) hc⟩
theorem accp_243:Acc C3 243 (plain1 39):=by
 refine (acc_in (P:=fun c=>if (decide (c<256)&&(C3.getD (246+(1+c/32)) 0).testBit (c%32))=true then false else true) (by rfl) ?_).congr ?_
 ·exact set_neg (f:=268) (by rfl) (set_chars (f:=267) (by rfl) (set_end (f:=266) (by rfl)))
 ·intro c
  by_cases hc:c<256
  ·exact chk256 (f:=fun c=>if (decide (c<256)&&(C3.getD (246+(1+c/32)) 0).testBit (c%32))=true then false else true) (g:=plain1 39) (by decide +kernel) c hc
  ·have h1:(if (decide (c<256)&&(C3.getD (246+(1+c/32)) 0).testBit (c%32))=true then false else true)=true:=by
    rw [show decide (c<256)=false from decide_eq_false hc];rfl
   rw [h1]
   unfold plain1
   simp;exact ⟨⟨Q18 (.n1 _) hc,Q89 (.n1 _) hc⟩,Q19 (.n1 _) hc⟩
theorem i212:ILit C3 212 39 214:=(⟨by show 212<269;decide,by kernel_rfl,by kernel_rfl,by kernel_rfl⟩:ILit C3 212 39 214)
theorem i214:IRun C3 214 4294967295 232 (plain1 39):=(⟨by show 214<269;decide,by kernel_rfl,by kernel_rfl,by kernel_rfl,by kernel_rfl,accp_218⟩:IRun C3 214 4294967295 232 (plain1 39))
theorem i232:IRpt C3 232 257 4294967295:=(⟨by show 232<269;decide,by kernel_rfl,by kernel_rfl,by kernel_rfl,by kernel_rfl,by show 257<269;decide,by kernel_rfl⟩:IRpt C3 232 257 4294967295)
theorem i236:ILit C3 236 92 238:=(⟨by show 236<269;decide,by kernel_rfl,by kernel_rfl,by kernel_rfl⟩:ILit C3 236 92 238)
theorem i238:IAll C3 238 239:=(⟨by show 238<269;decide,by kernel_rfl,by kernel_rfl⟩:IAll C3 238 239)
theorem i239:IRun C3 239 4294967295 257 (plain1 39):=(⟨by show 239<269;decide,by kernel_rfl,by kernel_rfl,by kernel_rfl,by kernel_rfl,accp_243⟩:IRun C3 239 4294967295 257 (plain1 39))
theorem i258:IRun C3 258 1 265 (fun c=>c==39):=(⟨by show 258<269;decide,by kernel_rfl,by kernel_rfl,by kernel_rfl,by kernel_rfl,(acc_lit (by kernel_rfl):Acc C3 262 _)⟩:IRun C3 258 1 265 (fun c=>c==39))
theorem i265:IJmp C3 265 268:=(⟨by show 265<269;decide,by kernel_rfl,by kernel_rfl⟩:IJmp C3 265 268)
@[reducible] noncomputable def sg39:SgP:=⟨212,39,by decide,by decide,i212,i214,i232,i236,i238,i239,i258,i265⟩
section
structure TrP where
 b:Nat
 q:Nat
 n92:q≠92
 iL0:ILit C3 b q (b+2)
 iL1:ILit C3 (b+2) q (b+4)
 iL2:ILit C3 (b+4) q (b+6)
 iR:IRun C3 (b+6) 4294967295 (b+19) (plain3 q)
 iP:IRpt C3 (b+19) (b+57) 4294967295
 iBr:IBra C3 (b+23) (b+30)
 iE:ILit C3 (b+25) 92 (b+27)
 iA:IAll C3 (b+27) (b+28)
 iJ1:IJmp C3 (b+28) (b+44)
 iQ:ILit C3 (b+31) q (b+33)
 iN:INot C3 (b+33) (b+41)
 iN1:ILit C3 (b+36) q (b+38)
 iN2:ILit C3 (b+38) q (b+40)
 iN3:ISuc C3 (b+40)
 iJ2:IJmp C3 (b+41) (b+44)
 iR2:IRun C3 (b+44) 4294967295 (b+57) (plain3 q)
 iP2:IRpt C3 (b+58) (b+68) 1
 iT0:ILit C3 (b+62) q (b+64)
 iT1:ILit C3 (b+64) q (b+66)
 iT2:ILit C3 (b+66) q (b+68)
 iJ:IJmp C3 (b+69) 268
 n1:b+24+C3.getD (b+24) 0=b+30
 z1:(C3.getD (b+30) 0==0)=false
 n2:b+30+C3.getD (b+30) 0=b+43
 z2:(C3.getD (b+43) 0==0)=true
variable (h:TrP)
theorem exit3 {T:Array Nat}{lim st p pc pos hd i:Nat}{l:List Nat}{fs:List Sre.Frame}{lp:Array Loop}{inn:Option Nat}{om om':Bool}{sn:Seen}{n:Int}{b:Option Nat} (hR:Rest ⟨C3,T,lim,st⟩ p l)
  (hi:i<lp.size) (hs:fs.length+5<16000000) (hg:∀g∈fs,good g):Fin ⟨C3,T,lim,st⟩ (fs.length+15) (an ⟨C3,T,lim,st⟩ ⟨pc,pos,mm (h.b+58) p om' n i b::fs,lp,inn,hd,om,sn⟩ false) (some (p+if l.take 3=[h.q,h.q,h.q] then 3 else 0)):=by
 refine g_moreF (k:=fs.length+14) (by exact Q78 (.n1 _) hs) hi fun om lp' inn'=> ?_
 refine g_rpt (k:=fs.length+13) h.iP2 (by simp only [List.length_cons];exact Q79 (.n1 _) hs) fun sn=> ?_
 have hL:LpIs (lp'.push {pc:=(h.b+58),outer:=inn'}) (some lp'.size) lp'.size (h.b+58) p:=LpIs.new
 have hc0:((lp'.push {pc:=(h.b+58),outer:=inn'}).getD lp'.size dl).count+1<(1:Nat):=by rw [getD_push];show (-1:Int)+1<1;exact Q75 .o
 refine g_more (k:=fs.length+12) h.iP2 (by simp only [List.length_cons];exact Q90 (.n1 _) hs) hL (.inr hc0) fun sn n2 b2=> ?_
 have hlt:lp'.size<((lp'.push {pc:=(h.b+58),outer:=inn'}).modify lp'.size fun l'=>{l' with count:=((lp'.push {pc:=(h.b+58),outer:=inn'}).getD lp'.size dl).count+1,began:=some p}).size:=by simp
 have fin:∀(k:Nat) (lp:Array Loop) (inn:Option Nat) (omx:Bool) (sn:Seen) (pc pos hd:Nat) (om':Bool) (n2:Int) (b2:Option Nat),lp'.size<lp.size→fs.length+8≤k→
   Fin ⟨C3,T,lim,st⟩ k (an ⟨C3,T,lim,st⟩ ⟨pc,pos,mm (h.b+69) p om' n2 lp'.size b2::cl (h.b+58) p om lp'.size::mt (h.b+58) p om n i::fs,lp,inn,hd,omx,sn⟩ false) (some (p+0)):=by
  intro k lp inn omx sn pc pos hd om' n2 b2 hlt hk
  refine Fin.mono (k:=fs.length+4+3) ?_ (by exact lin1 (.l (.a (.a .v0 (.k 4)) (.k 3)) .v1) (.l (.a .v0 (.k 8)) .v1) (.w [1,1]) rfl (.n2 _ _) hk)
  refine g_moreF (by simp only [List.length_cons];exact Q90 (.n1 _) hs) hlt fun om lp inn=> ?_
  refine g_jmp h.iJ fun sn=> ?_
  refine g_suc i268 fun sn=> ?_
  exact g_win (good_cons mt_good (good_cons cl_good (good_cons mt_good hg)))
 have no:∀{l':List Nat},¬(l'.take 3=[h.q,h.q,h.q])→(if l'.take 3=[h.q,h.q,h.q] then 3 else 0)=0:=fun h=>if_neg h
 rcases l with _ | ⟨x1,l⟩
 ·rw [no (by simp)]
  exact g_litF (k:=fs.length+11) h.iT0 (fun hp=>absurd hp hR.nil) fun sn=>fin (fs.length+11) _ _ _ _ _ _ _ _ _ _ hlt (by exact Q91 (.n1 _))
 by_cases h1:x1=h.q
 rotate_left
 ·rw [no (by simp [h1])]
  exact g_litF (k:=fs.length+11) h.iT0 (fun hp hx=>h1 (hR.head.symm.trans hx)) fun sn=>fin (fs.length+11) _ _ _ _ _ _ _ _ _ _ hlt (by exact Q91 (.n1 _))
 subst h1
 refine g_lit (k:=fs.length+11) h.iT0 hR.lt hR.head fun sn=> ?_
 have hR1:=hR.tail
 rcases l with _ | ⟨x2,l⟩
 ·rw [no (by simp)]
  exact g_litF (k:=fs.length+10) h.iT1 (fun hp=>absurd hp hR1.nil) fun sn=>fin (fs.length+10) _ _ _ _ _ _ _ _ _ _ hlt (by exact Q92 (.n1 _))
 by_cases h2:x2=h.q
 rotate_left
 ·rw [no (by simp [h2])]
  exact g_litF (k:=fs.length+10) h.iT1 (fun hp hx=>h2 (hR1.head.symm.trans hx)) fun sn=>fin (fs.length+10) _ _ _ _ _ _ _ _ _ _ hlt (by exact Q92 (.n1 _))
 subst h2
 refine g_lit (k:=fs.length+10) h.iT1 hR1.lt hR1.head fun sn=> ?_
 have hR2:=hR1.tail
 rcases l with _ | ⟨x3,l⟩
 ·rw [no (by simp)]
  exact g_litF (k:=fs.length+9) h.iT2 (fun hp=>absurd hp hR2.nil) fun sn=>fin (fs.length+9) _ _ _ _ _ _ _ _ _ _ hlt (by exact Q93 (.n1 _))
 by_cases h3:x3=h.q
 rotate_left
 ·rw [no (by simp [h3])]
  exact g_litF (k:=fs.length+9) h.iT2 (fun hp hx=>h3 (hR2.head.symm.trans hx)) fun sn=>fin (fs.length+9) _ _ _ _ _ _ _ _ _ _ hlt (by exact Q93 (.n1 _))
 subst h3
 refine g_lit (k:=fs.length+9) h.iT2 hR2.lt hR2.head fun sn=> ?_
 rw [if_pos (by rfl)]
 refine g_tail (k:=fs.length+8) h.iP2 (i:=lp'.size) (by simp only [List.length_cons];exact lin1 (.t (.a (.a (.a .v0 .k1) .k1) .k1) (.k 16000000)) (.t (.a .v0 (.k 5)) (.k 16000000)) (.w [1,1]) rfl (.n1 _) hs) rfl ?_ ?_ (by decide) ?_ fun sn n' inn'=> ?_
 ·rw [getD_mod (by simp),getD_push]
 ·rw [getD_mod (by simp),getD_push];show (-1:Int)≤ -1+1;exact lin0 (.L (.g .k1) (.a (.g .k1) .k1)) (.w [1]) rfl .o
 ·rw [getD_mod (by simp),getD_push];show ((1:Nat):Int)≤ -1+1+1;exact lin0 (.L (.c .k1) (.a (.a (.g .k1) .k1) .k1)) (.w [1]) rfl .o
 refine Fin.mono (k:=fs.length+5+2) ?_ (by exact lin0 (.l (.a (.a .v0 (.k 5)) (.k 2)) (.a .v0 (.k 8))) (.w [1]) rfl (.n1 _))
 refine g_jmp h.iJ fun sn=> ?_
 refine g_suc i268 fun sn=> ?_
 exact g_win (good_cons mt_good (good_cons mm_good (good_cons cl_good (good_cons mt_good hg))))
theorem loop3 {T:Array Nat}{lim st:Nat} (hlim:lim≤4000000):∀(n:Nat) (l:List Nat) (p i hd:Nat) (fr:List Sre.Frame) (lp:Array Loop) (inn:Option Nat) (om:Bool) (sn:Seen),l.length≤n→Rest ⟨C3,T,lim,st⟩ p l→(∀d,l.head? =some d→plain3 h.q d=false)→
  LpIs lp inn i (h.b+19) p→(∀g∈fr,good g)→fr.length+3*l.length+10<16000000→Fin ⟨C3,T,lim,st⟩ (16*l.length+fr.length+30) (mk ⟨C3,T,lim,st⟩ ⟨(h.b+57),p,fr,lp,inn,hd,om,sn⟩) (some (p+scan3 h.q l)):=by
 intro n
 induction n with
 | zero=>
  intro l p i hd fr lp inn om sn hl hR hh hL hg hs
  cases l with
  | cons _ _=>simp at hl
  | nil=>
   refine Fin.mono (k:=(fr.length+15)+6) ?_ (by simp only [List.length_nil];exact lin0 (.l (.a (.a .v0 (.k 15)) (.k 6)) (.a (.a (.m 16 .k0) .v0) (.k 30))) (.w [1]) rfl (.n1 _))
   refine g_more h.iP (by exact Q80 (.n2 _ _) hs) hL (.inl rfl) fun sn n b=> ?_
   refine g_bra h.iBr (by simp only [List.length_cons];exact Q94 (.n2 _ _) hs) fun sn kp hkp=> ?_
   refine g_litF h.iE (fun hp=>absurd hp hR.nil) fun sn=> ?_
   refine g_nextB (pb':=(h.b+30)) hkp (by simp only [List.length_cons];exact Q94 (.n2 _ _) hs) h.n1 h.z1 fun om=> ?_
   refine g_litF h.iQ (fun hp=>absurd hp hR.nil) fun sn=> ?_
   refine g_nextBF (pb':=(h.b+43)) hkp h.n2 h.z2 fun pc om=> ?_
   exact exit3 h hR (by simpa using hL.lt) (by exact Q81 (.n2 _ _) hs) hg
 | succ n ih=>
  intro l p i hd fr lp inn om sn hl hR hh hL hg hs
  cases l with
  | nil=>exact ih [] p i hd fr lp inn om sn (by simp) hR hh hL hg hs
  | cons a r=>
   simp only [List.length_cons] at hl hs
   have hl0:=hR.1
   have e1:(⟨C3,T,lim,st⟩:En).lim=lim:=rfl
   simp only [List.length_cons] at hl0
   by_cases ha:a=92
   ·subst ha
    cases r with
    | nil=>
     refine Fin.mono (k:=(fr.length+15)+7) ?_ (by simp only [List.length_cons,List.length_nil];exact lin0 (.l (.a (.a .v0 (.k 15)) (.k 7)) (.a (.a (.m 16 (.a .k0 .k1)) .v0) (.k 30))) (.w [1]) rfl (.n1 _))
     refine g_more h.iP (by exact Q17 (.n2 _ _) hs) hL (.inl rfl) fun sn n b=> ?_
     refine g_bra h.iBr (by simp only [List.length_cons];exact Q20 (.n2 _ _) hs) fun sn kp hkp=> ?_
     refine g_lit h.iE hR.lt hR.head fun sn=> ?_
     refine g_allF h.iA hR.tail.nil fun sn=> ?_
     refine g_nextB (pb':=(h.b+30)) hkp (by simp only [List.length_cons];exact Q20 (.n2 _ _) hs) h.n1 h.z1 fun om=> ?_
     refine g_litF h.iQ (fun hp hx=>absurd (hR.head.symm.trans hx).symm h.n92) fun sn=> ?_
     refine g_nextBF (pb':=(h.b+43)) hkp h.n2 h.z2 fun pc om=> ?_
     rw [show scan3 h.q [92]=(if ([92]:List Nat).take 3=[h.q,h.q,h.q] then 3 else 0) from (if_neg (fun e=>h.n92 (List.cons.inj e).1.symm)).symm]
     exact exit3 h hR (by simpa using hL.lt) (by exact Q37 (.n2 _ _) hs) hg
    | cons d r'=>
     have hR2:=hR.tail.tail
     have hD:=hR2.drop (P:=plain3 h.q)
     have htl:=take_drop_len (P:=plain3 h.q) r'
     have hsc:scan3 h.q (92::d::r')=2+((r'.takeWhile (plain3 h.q)).length+scan3 h.q (r'.dropWhile (plain3 h.q))):=by
      rw [←scan3_skip r'];rfl
     simp only [List.length_cons] at hs hl hl0
     refine Fin.mono (k:=(16*(r'.dropWhile (plain3 h.q)).length+(fr.length+3)+30)+6) ?_ (by simp only [List.length_cons];exact lin1 (.l (.a (.a (.a (.m 16 .v0) (.a .v1 (.k 3))) (.k 30)) (.k 6)) (.a (.a (.m 16 (.a (.a .v2 .k1) .k1)) .v1) (.k 30))) (.q (.a .v3 .v0) .v2) (.w [1,16]) rfl (.n4 _ _ _ _) htl)
     refine g_more h.iP (by exact Q82 (.n2 _ _) hs) hL (.inl rfl) fun sn n b=> ?_
     refine g_bra h.iBr (by simp only [List.length_cons];exact Q83 (.n2 _ _) hs) fun sn kp hkp=> ?_
     refine g_lit h.iE hR.lt hR.head fun sn=> ?_
     refine g_all h.iA hR.tail.lt fun sn=> ?_
     refine g_jmp h.iJ1 fun sn=> ?_
     refine g_run h.iR2 (by simp only [List.length_cons];exact lin1 (.t (.a (.a .v0 .k1) .k1) (.k 16000000)) (.t (.a (.a .v0 (.m 3 (.a (.a .v1 .k1) .k1))) (.k 10)) (.k 16000000)) (.w [1,1]) rfl (.n2 _ _) hs) (cnt_min (m:=4294967295) hR2 (by exact lin2 (.l .v0 (.k 4294967295)) (.l .v1 (.k 4000000)) (.q (.a .v2 (.a (.a .v0 .k1) .k1)) .v1) (.w [1,1,1]) rfl (.n3 _ _ _) hlim hl0)) hR2.le fun sn wh=> ?_
     rw [hsc,show p+(2+((r'.takeWhile (plain3 h.q)).length+scan3 h.q (r'.dropWhile (plain3 h.q))))=p+1+1+(r'.takeWhile (plain3 h.q)).length+scan3 h.q (r'.dropWhile (plain3 h.q)) by exact Q84 (.n3 _ _ _)]
     exact ih (r'.dropWhile (plain3 h.q)) (p+1+1+(r'.takeWhile (plain3 h.q)).length) i _ _ _ _ _ _ (by exact Q85 (.n4 _ _ _ _) hl htl) hD (fun d hd=>drop_head hd) (hL.next (by exact Q86 (.n2 _ _))) (good_cons gb_good (good_cons (nb_good hkp) (good_cons mm_good hg))) (by simp only [List.length_cons];exact lin2 (.t (.a (.a (.a (.a (.a .v0 .k1) .k1) .k1) (.m 3 .v1)) (.k 10)) (.k 16000000)) (.t (.a (.a .v0 (.m 3 (.a (.a .v2 .k1) .k1))) (.k 10)) (.k 16000000)) (.q (.a .v3 .v1) .v2) (.w [1,1,3]) rfl (.n4 _ _ _ _) hs htl)
   ·have hpl:=hh a rfl
    have haq:a=h.q:=by
     unfold plain3 at hpl
     simp at hpl
     by_cases h:a=h.q
     ·exact h
     ·exact absurd (hpl h) ha
    subst haq
    by_cases ht:r.take 2=[h.q,h.q]
    ·obtain ⟨r',rfl⟩:∃r',r=h.q::h.q::r':=by
      match r,ht with
      | x::y::r',ht=>simp at ht;exact ⟨r',by rw [ht.1,ht.2]⟩
     have hsc:scan3 h.q (h.q::h.q::h.q::r')=if (h.q::h.q::h.q::r':List Nat).take 3=[h.q,h.q,h.q] then 3 else 0:=by
      rw [if_pos (by rfl)]
      unfold scan3
      rw [if_neg h.n92,if_pos ⟨rfl,by rfl⟩]
     rw [hsc]
     simp only [List.length_cons] at hs hl hl0
     refine Fin.mono (k:=(fr.length+15)+11) ?_ (by simp only [List.length_cons];exact lin0 (.l (.a (.a .v0 (.k 15)) (.k 11)) (.a (.a (.m 16 (.a (.a (.a .v1 .k1) .k1) .k1)) .v0) (.k 30))) (.w [1]) rfl (.n2 _ _))
     refine g_more h.iP (by exact lin1 (.t .v0 (.k 16000000)) (.t (.a (.a .v0 (.m 3 (.a (.a (.a .v1 .k1) .k1) .k1))) (.k 10)) (.k 16000000)) (.w [1,1]) rfl (.n2 _ _) hs) hL (.inl rfl) fun sn n b=> ?_
     refine g_bra h.iBr (by simp only [List.length_cons];exact Q95 (.n2 _ _) hs) fun sn kp hkp=> ?_
     refine g_litF h.iE (fun hp hx=>absurd (hR.head.symm.trans hx) h.n92) fun sn=> ?_
     refine g_nextB (pb':=(h.b+30)) hkp (by simp only [List.length_cons];exact Q95 (.n2 _ _) hs) h.n1 h.z1 fun om=> ?_
     refine g_lit h.iQ hR.lt hR.head fun sn=> ?_
     refine g_not h.iN (by simp only [List.length_cons];exact lin1 (.t (.a (.a .v0 .k1) .k1) (.k 16000000)) (.t (.a (.a .v0 (.m 3 (.a (.a (.a .v1 .k1) .k1) .k1))) (.k 10)) (.k 16000000)) (.w [1,1]) rfl (.n2 _ _) hs) fun sn kp' hkp'=> ?_
     refine g_lit h.iN1 hR.tail.lt hR.tail.head fun sn=> ?_
     refine g_lit h.iN2 hR.tail.tail.lt hR.tail.tail.head fun sn=> ?_
     refine g_suc h.iN3 fun sn=> ?_
     refine g_lookT hkp' fun pc pos om=> ?_
     refine g_nextBF (pb':=(h.b+43)) hkp h.n2 h.z2 fun pc om=> ?_
     exact exit3 h hR (by simpa using hL.lt) (by exact lin1 (.t (.a .v0 (.k 5)) (.k 16000000)) (.t (.a (.a .v0 (.m 3 (.a (.a (.a .v1 .k1) .k1) .k1))) (.k 10)) (.k 16000000)) (.w [1,1]) rfl (.n2 _ _) hs) hg
    ·have hR1:=hR.tail
     have hD:=hR1.drop (P:=plain3 h.q)
     have htl:=take_drop_len (P:=plain3 h.q) r
     have hsc:scan3 h.q (h.q::r)=1+((r.takeWhile (plain3 h.q)).length+scan3 h.q (r.dropWhile (plain3 h.q))):=by
      rw [←scan3_skip r]
      conv=>lhs;unfold scan3
      rw [if_neg h.n92,if_neg (fun z=>ht z.2)]
     refine Fin.mono (k:=(16*(r.dropWhile (plain3 h.q)).length+(fr.length+3)+30)+2+11) ?_ (by simp only [List.length_cons];exact lin1 (.l (.a (.a (.a (.a (.m 16 .v0) (.a .v1 (.k 3))) (.k 30)) (.k 2)) (.k 11)) (.a (.a (.m 16 (.a .v2 .k1)) .v1) (.k 30))) (.q (.a .v3 .v0) .v2) (.w [1,16]) rfl (.n4 _ _ _ _) htl)
     refine g_more h.iP (by exact Q17 (.n2 _ _) hs) hL (.inl rfl) fun sn n b=> ?_
     refine g_bra h.iBr (by simp only [List.length_cons];exact Q20 (.n2 _ _) hs) fun sn kp hkp=> ?_
     refine g_litF h.iE (fun hp hx=>absurd (hR.head.symm.trans hx) h.n92) fun sn=> ?_
     refine g_nextB (pb':=(h.b+30)) hkp (by simp only [List.length_cons];exact Q20 (.n2 _ _) hs) h.n1 h.z1 fun om2=> ?_
     refine g_lit h.iQ hR.lt hR.head fun sn=> ?_
     refine g_not h.iN (by simp only [List.length_cons];exact Q96 (.n2 _ _) hs) fun sn kp' hkp'=> ?_
     have tail:∀(k pc pos hd:Nat) (om':Bool) (sn:Seen),(16*(r.dropWhile (plain3 h.q)).length+(fr.length+3)+30)+2+1≤k→Fin ⟨C3,T,lim,st⟩ k
       (an ⟨C3,T,lim,st⟩ ⟨pc,pos,ln (h.b+33) (p+1) om' kp'::nb (h.b+30) p om2 kp::mm ((h.b+57)+1) p om n i b::fr,lp.modify i fun l'=>{l' with count:=(lp.getD i dl).count+1,began:=some p},inn,hd,false,sn⟩ false) (some (p+scan3 h.q (h.q::r))):=by
      intro k pc pos hd om' sn hk
      refine Fin.mono (k:=(16*(r.dropWhile (plain3 h.q)).length+(fr.length+3)+30)+2+1) ?_ hk
      refine g_lookF h.iN hkp' ?_
      refine g_jmp h.iJ2 fun sn=> ?_
      refine g_run h.iR2 (by simp only [List.length_cons];exact Q96 (.n2 _ _) hs) (cnt_min (m:=4294967295) hR1 (by exact lin2 (.l .v0 (.k 4294967295)) (.l .v1 (.k 4000000)) (.q (.a .v2 (.a .v0 .k1)) .v1) (.w [1,1,1]) rfl (.n3 _ _ _) hlim hl0)) hR1.le fun sn wh=> ?_
      rw [hsc,show p+(1+((r.takeWhile (plain3 h.q)).length+scan3 h.q (r.dropWhile (plain3 h.q))))=p+1+(r.takeWhile (plain3 h.q)).length+scan3 h.q (r.dropWhile (plain3 h.q)) by exact Q87 (.n3 _ _ _)]
      exact ih (r.dropWhile (plain3 h.q)) (p+1+(r.takeWhile (plain3 h.q)).length) i _ _ _ _ _ _ (by exact lin2 (.l .v0 .v1) (.l (.a .v2 .k1) (.a .v1 .k1)) (.q (.a .v3 .v0) .v2) (.w [1,1,1]) rfl (.n4 _ _ _ _) hl htl) hD (fun d hd=>drop_head hd) (hL.next (by exact lin0 (.t .v0 (.a (.a .v0 .k1) .v1)) (.w [1]) rfl (.n2 _ _))) (good_cons gb_good (good_cons (nb_good hkp) (good_cons mm_good hg))) (by simp only [List.length_cons];exact lin2 (.t (.a (.a (.a (.a (.a .v0 .k1) .k1) .k1) (.m 3 .v1)) (.k 10)) (.k 16000000)) (.t (.a (.a .v0 (.m 3 (.a .v2 .k1))) (.k 10)) (.k 16000000)) (.q (.a .v3 .v1) .v2) (.w [1,1,3]) rfl (.n4 _ _ _ _) hs htl)
     rcases r with _ | ⟨x,r⟩
     ·exact g_litF h.iN1 (fun hp=>absurd hp hR1.nil) fun sn=>tail _ _ _ _ _ _ (by exact Q97 (.n2 _ _))
     by_cases hx1:x=h.q
     rotate_left
     ·exact g_litF h.iN1 (fun hp hx=>hx1 (hR1.head.symm.trans hx)) fun sn=>tail _ _ _ _ _ _ (by exact Q97 (.n2 _ _))
     subst hx1
     refine g_lit h.iN1 hR1.lt hR1.head fun sn=> ?_
     rcases r with _ | ⟨y,r⟩
     ·exact g_litF h.iN2 (fun hp=>absurd hp hR1.tail.nil) fun sn=>tail _ _ _ _ _ _ (by exact Q98 (.n2 _ _))
     ·exact g_litF h.iN2 (fun hp hx=>ht (by rw [show y=h.q from hR1.tail.head.symm.trans hx];rfl)) fun sn=>tail _ _ _ _ _ _ (by exact Q98 (.n2 _ _))
theorem alt3 {T:Array Nat}{lim st p hd:Nat} (hlim:lim≤4000000) {l:List Nat}{fr:List Sre.Frame}{lp:Array Loop}{inn:Option Nat}{om:Bool}{sn:Seen} (hR:Rest ⟨C3,T,lim,st⟩ p (h.q::h.q::h.q::l)) (hg:∀g∈fr,good g) (hs:fr.length<100):
  Fin ⟨C3,T,lim,st⟩ (16*l.length+fr.length+50) (mk ⟨C3,T,lim,st⟩ ⟨h.b,p,fr,lp,inn,hd,om,sn⟩) (some (p+(3+scan3 h.q l))):=by
 have hR1:=hR.tail
 have hR2:=hR1.tail
 have hR3:=hR2.tail
 have hD:=hR3.drop (P:=plain3 h.q)
 have htl:=take_drop_len (P:=plain3 h.q) l
 have e1:(⟨C3,T,lim,st⟩:En).lim=lim:=rfl
 have hll:=hR3.1
 refine Fin.mono (k:=(16*(l.dropWhile (plain3 h.q)).length+(fr.length+2)+30)+5) ?_ (by exact lin1 (.l (.a (.a (.a (.m 16 .v0) (.a .v1 (.k 2))) (.k 30)) (.k 5)) (.a (.a (.m 16 .v2) .v1) (.k 50))) (.q (.a .v3 .v0) .v2) (.w [1,16]) rfl (.n4 _ _ _ _) htl)
 refine g_lit h.iL0 hR.lt hR.head fun sn=> ?_
 refine g_lit h.iL1 hR1.lt hR1.head fun sn=> ?_
 refine g_lit h.iL2 hR2.lt hR2.head fun sn=> ?_
 refine g_run h.iR (by exact Q36 (.n1 _) hs) (cnt_min (m:=4294967295) hR3 (by exact lin2 (.l .v0 (.k 4294967295)) (.l .v1 (.k 4000000)) (.q (.a (.a (.a (.a .v2 .k1) .k1) .k1) .v0) .v1) (.w [1,1,1]) rfl (.n3 _ _ _) hlim hll)) hR3.le fun sn wh=> ?_
 refine g_rpt h.iP (by simp only [List.length_cons];exact Q16 (.n1 _) hs) fun sn=> ?_
 rw [scan3_skip l,show p+(3+((l.takeWhile (plain3 h.q)).length+scan3 h.q (l.dropWhile (plain3 h.q))))=p+1+1+1+(l.takeWhile (plain3 h.q)).length+scan3 h.q (l.dropWhile (plain3 h.q)) by exact lin0 (.q (.a .v0 (.a (.k 3) (.a .v1 .v2))) (.a (.a (.a (.a (.a .v0 .k1) .k1) .k1) .v1) .v2)) (.b (.w [1]) (.w [1])) rfl (.n3 _ _ _)]
 exact loop3 h hlim _ (l.dropWhile (plain3 h.q)) (p+1+1+1+(l.takeWhile (plain3 h.q)).length) lp.size _ _ _ _ _ _ (Nat.le_refl _) hD (fun d hd=>drop_head hd) LpIs.new (good_cons cl_good (good_cons gb_good hg)) (by simp only [List.length_cons];exact lin4 (.t (.a (.a (.a (.a .v0 .k1) .k1) (.m 3 .v1)) (.k 10)) (.k 16000000)) (.l .v2 (.k 4000000)) (.t .v0 (.k 100)) (.q (.a .v3 .v1) .v4) (.q (.a (.a (.a (.a .v5 .k1) .k1) .k1) .v4) .v2) (.w [1,3,1,3,3]) rfl (.n6 _ _ _ _ _ _) hlim hs htl hll)
theorem no3 {T:Array Nat}{lim st p hd k:Nat}{r:Option Nat}{l:List Nat}{fr:List Sre.Frame}{lp:Array Loop}{inn:Option Nat}{om:Bool}{sn:Seen} (hR:Rest ⟨C3,T,lim,st⟩ p l) (ht:¬l.take 3=[h.q,h.q,h.q])
  (hk:∀pc pos sn,Fin ⟨C3,T,lim,st⟩ k (an ⟨C3,T,lim,st⟩ ⟨pc,pos,fr,lp,inn,hd,om,sn⟩ false) r):Fin ⟨C3,T,lim,st⟩ (k+3) (mk ⟨C3,T,lim,st⟩ ⟨h.b,p,fr,lp,inn,hd,om,sn⟩) r:=by
 rcases l with _ | ⟨x1,l⟩
 ·exact Fin.mono (k:=k+1) (g_litF h.iL0 (fun hp=>absurd hp hR.nil) fun sn=>hk _ _ _) (by exact Q99 (.n1 _))
 by_cases h1:x1=h.q
 rotate_left
 ·exact Fin.mono (k:=k+1) (g_litF h.iL0 (fun hp hx=>h1 (hR.head.symm.trans hx)) fun sn=>hk _ _ _) (by exact Q99 (.n1 _))
 subst h1
 refine g_lit (k:=k+2) h.iL0 hR.lt hR.head fun sn=> ?_
 have hR1:=hR.tail
 rcases l with _ | ⟨x2,l⟩
 ·exact Fin.mono (k:=k+1) (g_litF h.iL1 (fun hp=>absurd hp hR1.nil) fun sn=>hk _ _ _) (by exact Q100 (.n1 _))
 by_cases h2:x2=h.q
 rotate_left
 ·exact Fin.mono (k:=k+1) (g_litF h.iL1 (fun hp hx=>h2 (hR1.head.symm.trans hx)) fun sn=>hk _ _ _) (by exact Q100 (.n1 _))
 subst h2
 refine g_lit (k:=k+1) h.iL1 hR1.lt hR1.head fun sn=> ?_
 have hR2:=hR1.tail
 rcases l with _ | ⟨x3,l⟩
 ·exact g_litF h.iL2 (fun hp=>absurd hp hR2.nil) fun sn=>hk _ _ _
 ·exact g_litF h.iL2 (fun hp hx=>ht (by rw [show x3=h.q from hR2.head.symm.trans hx];rfl)) fun sn=>hk _ _ _
end
theorem accp_22:Acc C3 22 (plain3 34):=by
 refine (acc_in (P:=fun c=>if c==C3.getD (25+1) 0 then false else if c==C3.getD (27+1) 0 then false else true) (by rfl) ?_).congr ?_
 ·exact set_neg (f:=268) (by rfl) (set_lit (f:=267) (by rfl) (set_lit (f:=266) (by rfl) (set_end (f:=265) (by rfl))))
 ·intro c
  show (if (c==34)=true then false else if (c==92)=true then false else true)=_
  unfold plain3
  cases c==34 <;> cases c==92 <;> rfl
theorem accp_60:Acc C3 60 (plain3 34):=by
 refine (acc_in (P:=fun c=>if c==C3.getD (63+1) 0 then false else if c==C3.getD (65+1) 0 then false else true) (by rfl) ?_).congr ?_
 ·exact set_neg (f:=268) (by rfl) (set_lit (f:=267) (by rfl) (set_lit (f:=266) (by rfl) (set_end (f:=265) (by rfl))))
 ·intro c
  show (if (c==34)=true then false else if (c==92)=true then false else true)=_
  unfold plain3
  cases c==34 <;> cases c==92 <;> rfl
theorem i12:ILit C3 12 34 14:=(⟨by show 12<269;decide,by kernel_rfl,by kernel_rfl,by kernel_rfl⟩:ILit C3 12 34 14)
theorem i14:ILit C3 14 34 16:=(⟨by show 14<269;decide,by kernel_rfl,by kernel_rfl,by kernel_rfl⟩:ILit C3 14 34 16)
theorem i16:ILit C3 16 34 18:=(⟨by show 16<269;decide,by kernel_rfl,by kernel_rfl,by kernel_rfl⟩:ILit C3 16 34 18)
theorem i18:IRun C3 18 4294967295 31 (plain3 34):=(⟨by show 18<269;decide,by kernel_rfl,by kernel_rfl,by kernel_rfl,by kernel_rfl,accp_22⟩:IRun C3 18 4294967295 31 (plain3 34))
theorem i31:IRpt C3 31 69 4294967295:=(⟨by show 31<269;decide,by kernel_rfl,by kernel_rfl,by kernel_rfl,by kernel_rfl,by show 69<269;decide,by kernel_rfl⟩:IRpt C3 31 69 4294967295)
theorem i35:IBra C3 35 42:=(⟨by show 35<269;decide,by kernel_rfl,by kernel_rfl,by kernel_rfl⟩:IBra C3 35 42)
theorem i37:ILit C3 37 92 39:=(⟨by show 37<269;decide,by kernel_rfl,by kernel_rfl,by kernel_rfl⟩:ILit C3 37 92 39)
theorem i39:IAll C3 39 40:=(⟨by show 39<269;decide,by kernel_rfl,by kernel_rfl⟩:IAll C3 39 40)
theorem i40:IJmp C3 40 56:=(⟨by show 40<269;decide,by kernel_rfl,by kernel_rfl⟩:IJmp C3 40 56)
theorem i43:ILit C3 43 34 45:=(⟨by show 43<269;decide,by kernel_rfl,by kernel_rfl,by kernel_rfl⟩:ILit C3 43 34 45)
theorem i45:INot C3 45 53:=(⟨by show 45<269;decide,by kernel_rfl,by kernel_rfl,by kernel_rfl⟩:INot C3 45 53)
theorem i48:ILit C3 48 34 50:=(⟨by show 48<269;decide,by kernel_rfl,by kernel_rfl,by kernel_rfl⟩:ILit C3 48 34 50)
theorem i50:ILit C3 50 34 52:=(⟨by show 50<269;decide,by kernel_rfl,by kernel_rfl,by kernel_rfl⟩:ILit C3 50 34 52)
theorem i52:ISuc C3 52:=(⟨by show 52<269;decide,by kernel_rfl⟩:ISuc C3 52)
theorem i53:IJmp C3 53 56:=(⟨by show 53<269;decide,by kernel_rfl,by kernel_rfl⟩:IJmp C3 53 56)
theorem i56:IRun C3 56 4294967295 69 (plain3 34):=(⟨by show 56<269;decide,by kernel_rfl,by kernel_rfl,by kernel_rfl,by kernel_rfl,accp_60⟩:IRun C3 56 4294967295 69 (plain3 34))
theorem i70:IRpt C3 70 80 1:=(⟨by show 70<269;decide,by kernel_rfl,by kernel_rfl,by kernel_rfl,by kernel_rfl,by show 80<269;decide,by kernel_rfl⟩:IRpt C3 70 80 1)
theorem i74:ILit C3 74 34 76:=(⟨by show 74<269;decide,by kernel_rfl,by kernel_rfl,by kernel_rfl⟩:ILit C3 74 34 76)
theorem i76:ILit C3 76 34 78:=(⟨by show 76<269;decide,by kernel_rfl,by kernel_rfl,by kernel_rfl⟩:ILit C3 76 34 78)
theorem i78:ILit C3 78 34 80:=(⟨by show 78<269;decide,by kernel_rfl,by kernel_rfl,by kernel_rfl⟩:ILit C3 78 34 80)
theorem i81:IJmp C3 81 268:=(⟨by show 81<269;decide,by kernel_rfl,by kernel_rfl⟩:IJmp C3 81 268)
@[reducible] noncomputable def tr34:TrP:=⟨12,34,by decide,i12,i14,i16,i18,i31,i35,i37,i39,i40,i43,i45,i48,i50,i52,i53,i56,i70,i74,i76,i78,i81,by kernel_rfl,by kernel_rfl,by kernel_rfl,by kernel_rfl⟩
theorem accp_150:Acc C3 150 (plain3 39):=by
 refine (acc_in (P:=fun c=>if c==C3.getD (153+1) 0 then false else if c==C3.getD (155+1) 0 then false else true) (by rfl) ?_).congr ?_
 ·exact set_neg (f:=268) (by rfl) (set_lit (f:=267) (by rfl) (set_lit (f:=266) (by rfl) (set_end (f:=265) (by rfl))))
 ·intro c
  show (if (c==39)=true then false else if (c==92)=true then false else true)=_
  unfold plain3
  cases c==39 <;> cases c==92 <;> rfl
theorem accp_188:Acc C3 188 (plain3 39):=by
 refine (acc_in (P:=fun c=>if c==C3.getD (191+1) 0 then false else if c==C3.getD (193+1) 0 then false else true) (by rfl) ?_).congr ?_
 ·exact set_neg (f:=268) (by rfl) (set_lit (f:=267) (by rfl) (set_lit (f:=266) (by rfl) (set_end (f:=265) (by rfl))))
 ·intro c
  show (if (c==39)=true then false else if (c==92)=true then false else true)=_
  unfold plain3
  cases c==39 <;> cases c==92 <;> rfl
theorem i140:ILit C3 140 39 142:=(⟨by show 140<269;decide,by kernel_rfl,by kernel_rfl,by kernel_rfl⟩:ILit C3 140 39 142)
theorem i142:ILit C3 142 39 144:=(⟨by show 142<269;decide,by kernel_rfl,by kernel_rfl,by kernel_rfl⟩:ILit C3 142 39 144)
theorem i144:ILit C3 144 39 146:=(⟨by show 144<269;decide,by kernel_rfl,by kernel_rfl,by kernel_rfl⟩:ILit C3 144 39 146)
theorem i146:IRun C3 146 4294967295 159 (plain3 39):=(⟨by show 146<269;decide,by kernel_rfl,by kernel_rfl,by kernel_rfl,by kernel_rfl,accp_150⟩:IRun C3 146 4294967295 159 (plain3 39))
theorem i159:IRpt C3 159 197 4294967295:=(⟨by show 159<269;decide,by kernel_rfl,by kernel_rfl,by kernel_rfl,by kernel_rfl,by show 197<269;decide,by kernel_rfl⟩:IRpt C3 159 197 4294967295)
theorem i163:IBra C3 163 170:=(⟨by show 163<269;decide,by kernel_rfl,by kernel_rfl,by kernel_rfl⟩:IBra C3 163 170)
theorem i165:ILit C3 165 92 167:=(⟨by show 165<269;decide,by kernel_rfl,by kernel_rfl,by kernel_rfl⟩:ILit C3 165 92 167)
theorem i167:IAll C3 167 168:=(⟨by show 167<269;decide,by kernel_rfl,by kernel_rfl⟩:IAll C3 167 168)
theorem i168:IJmp C3 168 184:=(⟨by show 168<269;decide,by kernel_rfl,by kernel_rfl⟩:IJmp C3 168 184)
theorem i171:ILit C3 171 39 173:=(⟨by show 171<269;decide,by kernel_rfl,by kernel_rfl,by kernel_rfl⟩:ILit C3 171 39 173)
theorem i173:INot C3 173 181:=(⟨by show 173<269;decide,by kernel_rfl,by kernel_rfl,by kernel_rfl⟩:INot C3 173 181)
theorem i176:ILit C3 176 39 178:=(⟨by show 176<269;decide,by kernel_rfl,by kernel_rfl,by kernel_rfl⟩:ILit C3 176 39 178)
theorem i178:ILit C3 178 39 180:=(⟨by show 178<269;decide,by kernel_rfl,by kernel_rfl,by kernel_rfl⟩:ILit C3 178 39 180)
theorem i180:ISuc C3 180:=(⟨by show 180<269;decide,by kernel_rfl⟩:ISuc C3 180)
theorem i181:IJmp C3 181 184:=(⟨by show 181<269;decide,by kernel_rfl,by kernel_rfl⟩:IJmp C3 181 184)
theorem i184:IRun C3 184 4294967295 197 (plain3 39):=(⟨by show 184<269;decide,by kernel_rfl,by kernel_rfl,by kernel_rfl,by kernel_rfl,accp_188⟩:IRun C3 184 4294967295 197 (plain3 39))
theorem i198:IRpt C3 198 208 1:=(⟨by show 198<269;decide,by kernel_rfl,by kernel_rfl,by kernel_rfl,by kernel_rfl,by show 208<269;decide,by kernel_rfl⟩:IRpt C3 198 208 1)
theorem i202:ILit C3 202 39 204:=(⟨by show 202<269;decide,by kernel_rfl,by kernel_rfl,by kernel_rfl⟩:ILit C3 202 39 204)
theorem i204:ILit C3 204 39 206:=(⟨by show 204<269;decide,by kernel_rfl,by kernel_rfl,by kernel_rfl⟩:ILit C3 204 39 206)
theorem i206:ILit C3 206 39 208:=(⟨by show 206<269;decide,by kernel_rfl,by kernel_rfl,by kernel_rfl⟩:ILit C3 206 39 208)
theorem i209:IJmp C3 209 268:=(⟨by show 209<269;decide,by kernel_rfl,by kernel_rfl⟩:IJmp C3 209 268)
@[reducible] noncomputable def tr39:TrP:=⟨140,39,by decide,i140,i142,i144,i146,i159,i163,i165,i167,i168,i171,i173,i176,i178,i180,i181,i184,i198,i202,i204,i206,i209,by kernel_rfl,by kernel_rfl,by kernel_rfl,by kernel_rfl⟩
theorem i10:IBra C3 10 83:=(⟨by show 10<269;decide,by kernel_rfl,by kernel_rfl,by kernel_rfl⟩:IBra C3 10 83)
theorem h3:header C3=(1,10):=by kernel_rfl
theorem strM {T:Array Nat}{lim p q:Nat}{l:List Nat} (hq:q=34∨q=39) (hlim:lim≤4000000) (hR:Rest ⟨C3,T,lim,p⟩ p (q::l)):
  Fin ⟨C3,T,lim,p⟩ (16*l.length+100) (forMatch C3 T 0 p lim false false) (some (p+strN q (q::l))):=by
 obtain ⟨sn,hs⟩:=start_eq (T:=T) h3 hR.lt
 rw [hs]
 refine Fin.mono (k:=(16*l.length+90)+1) ?_ (by exact lin0 (.l (.a (.a (.m 16 .v0) (.k 90)) .k1) (.a (.m 16 .v0) (.k 100))) (.w [1]) rfl (.n1 _))
 refine g_bra i10 (by decide) fun sn kp hkp=> ?_
 by_cases ht:(q::l).take 3=[q,q,q]
 ·obtain ⟨l',rfl⟩:∃l',l=q::q::l':=by
   match l,ht with
   | x::y::l',ht=>simp at ht;exact ⟨l',by rw [ht.1,ht.2]⟩
  have e:strN q (q::q::q::l')=3+scan3 q l':=by unfold strN;rw [if_pos ht];rfl
  rw [e]
  rcases hq with rfl | rfl
  ·exact Fin.mono (alt3 tr34 hlim hR (good_cons (nb_good hkp) (fun _ h=>nomatch h)) (by show 1<100;decide)) (by simp only [List.length_cons,List.length_nil];exact lin0 (.l (.a (.a (.m 16 .v0) (.a .k0 .k1)) (.k 50)) (.a (.m 16 (.a (.a .v0 .k1) .k1)) (.k 90))) (.w [1]) rfl (.n1 _))
  ·refine Fin.mono (k:=(16*l'.length+60)+1+3+1+3) ?_ (by simp only [List.length_cons];exact lin0 (.l (.a (.a (.a (.a (.a (.m 16 .v0) (.k 60)) .k1) (.k 3)) .k1) (.k 3)) (.a (.m 16 (.a (.a .v0 .k1) .k1)) (.k 90))) (.w [1]) rfl (.n1 _))
   refine no3 tr34 hR (by simp) fun pc pos sn=> ?_
   refine g_nextB (pb':=83) hkp (by decide) (by kernel_rfl) (by kernel_rfl) fun om=> ?_
   refine Fin.mono (k:=(16*l'.length+60)+1+1) ?_ (by exact lin0 (.l (.a (.a (.a (.m 16 .v0) (.k 60)) .k1) .k1) (.a (.m 16 .v0) (.k 64))) (.w [1]) rfl (.n1 _))
   refine g_litF i84 (fun hp hx=>absurd (hR.head.symm.trans hx) (by decide)) fun sn=> ?_
   refine g_nextB (pb':=139) hkp (by decide) (by kernel_rfl) (by kernel_rfl) fun om=> ?_
   exact Fin.mono (alt3 tr39 hlim hR (good_cons (nb_good hkp) (fun _ h=>nomatch h)) (by show 1<100;decide)) (by simp only [List.length_cons,List.length_nil];exact lin0 (.l (.a (.a (.m 16 .v0) (.a .k0 .k1)) (.k 50)) (.a (.m 16 .v0) (.k 60))) (.w [1]) rfl (.n1 _))
 ·have e:strN q (q::l)=1+scan1 q l:=by unfold strN;rw [if_neg ht];rfl
  rw [e]
  rcases hq with rfl | rfl
  ·refine Fin.mono (k:=(16*l.length+60)+1+3) ?_ (by exact lin0 (.l (.a (.a (.a (.m 16 .v0) (.k 60)) .k1) (.k 3)) (.a (.m 16 .v0) (.k 90))) (.w [1]) rfl (.n1 _))
   refine no3 tr34 hR ht fun pc pos sn=> ?_
   refine g_nextB (pb':=83) hkp (by decide) (by kernel_rfl) (by kernel_rfl) fun om=> ?_
   exact Fin.mono (alt1 sg34 hlim hR (good_cons (nb_good hkp) (fun _ h=>nomatch h)) (by show 1<100;decide)) (by simp only [List.length_cons,List.length_nil];exact Q101 (.n1 _))
  ·refine Fin.mono (k:=(16*l.length+60)+1+3+1+1+1+3) ?_ (by exact lin0 (.l (.a (.a (.a (.a (.a (.a (.a (.m 16 .v0) (.k 60)) .k1) (.k 3)) .k1) .k1) .k1) (.k 3)) (.a (.m 16 .v0) (.k 90))) (.w [1]) rfl (.n1 _))
   refine no3 tr34 hR (by simp) fun pc pos sn=> ?_
   refine g_nextB (pb':=83) hkp (by decide) (by kernel_rfl) (by kernel_rfl) fun om=> ?_
   refine g_litF i84 (fun hp hx=>absurd (hR.head.symm.trans hx) (by decide)) fun sn=> ?_
   refine g_nextB (pb':=139) hkp (by decide) (by kernel_rfl) (by kernel_rfl) fun om=> ?_
   refine Fin.mono (k:=(16*l.length+60)+1+3) ?_ (by exact lin0 (.l (.a (.a (.a (.m 16 .v0) (.k 60)) .k1) (.k 3)) (.a (.m 16 .v0) (.k 64))) (.w [1]) rfl (.n1 _))
   refine no3 tr39 hR ht fun pc pos sn=> ?_
   refine g_nextB (pb':=211) hkp (by decide) (by kernel_rfl) (by kernel_rfl) fun om=> ?_
   exact Fin.mono (alt1 sg39 hlim hR (good_cons (nb_good hkp) (fun _ h=>nomatch h)) (by show 1<100;decide)) (by simp only [List.length_cons,List.length_nil];exact Q101 (.n1 _))
end RX
end Mine
end
section
open PySem
set_option maxRecDepth 100000
set_option tactic.hygienic false
namespace Mine
namespace RX
open PySem.Sre PySem.Sre.M PySem.Builtin.Re
variable {n:Nat}
theorem runFor_done:∀(n:Nat) (m:M),m.outcome.isSome=true→runFor n m=m
 | 0,_,_=>rfl
 | n+1,m,h=>by show (if m.outcome.isSome then m else runFor n m.step)=m;rw [h];rfl
theorem runFor_add:∀(a b:Nat) (m:M),runFor (a+b) m=runFor b (runFor a m)
 | 0,b,m=>by rw [Nat.zero_add];rfl
 | a+1,b,m=>by
  rw [show a+1+b=(a+b)+1 by exact lin0 (.q (.a (.a .v0 .k1) .v1) (.a (.a .v0 .v1) .k1)) (.b (.w [1]) (.w [1])) rfl (.n2 _ _)]
  show (if m.outcome.isSome then m else runFor (a+b) m.step)=runFor b (if m.outcome.isSome then m else runFor a m.step)
  by_cases h:m.outcome.isSome=true
  ·rw [if_pos h,if_pos h,runFor_done b m h]
  ·rw [if_neg h,if_neg h,runFor_add a b m.step]
theorem runFor_eq {a b:Nat}{m:M} (ha:(runFor a m).outcome.isSome=true) (hb:(runFor b m).outcome.isSome=true):runFor a m=runFor b m:=by
 rcases Nat.le_total a b with h | h
 ·obtain ⟨c,rfl⟩:=Nat.exists_eq_add_of_le h
  rw [runFor_add,runFor_done c _ ha]
 ·obtain ⟨c,rfl⟩:=Nat.exists_eq_add_of_le h
  rw [runFor_add,runFor_done c _ hb]
section
variable {Md:Model}{A:Around}{E:Value→Shared→Prop}{s:Shared}
theorem drive:∀(T n:Nat) (m:M) (Q:M→Shared→Prop),(runFor n m).outcome.isSome=true→n≤4*T→0<T→Q (runFor n m) s→wpAny Md A (reDrive T m) Q E s
 | 0,n,m,Q,_,_,h0,_=>absurd h0 (Nat.lt_irrefl 0)
 | T+1,n,m,Q,hn,hle,_,hQ=>by
  show wpAny Md A (if (m.runFor 4).outcome.isSome=true then pure (m.runFor 4) else (do rule "sre.turn";reDrive T (m.runFor 4))) Q E s
  by_cases h:(m.runFor 4).outcome.isSome=true
  ·rw [if_pos h,runFor_eq h hn]
   exact wpAny_pure hQ
  ·rw [if_neg h]
   have h4:4<n:=by
    rcases Nat.lt_or_ge 4 n with h4 | h4
    ·exact h4
    ·obtain ⟨c,hc⟩:=Nat.exists_eq_add_of_le h4
     exact absurd (by rw [hc,runFor_add,runFor_done c _ hn];exact hn) h
   obtain ⟨c,rfl⟩:=Nat.exists_eq_add_of_le (Nat.le_of_lt h4)
   rw [runFor_add] at hn hQ
   refine wpAny_bind (wpAny_rule (drive T c (m.runFor 4) Q hn (by exact lin1 (.l .v0 (.m 4 .v1)) (.l (.a (.k 4) .v0) (.m 4 (.a .v1 .k1))) (.w [1,1]) rfl (.n2 _ _) hle) (by exact lin2 (.t .k0 .v0) (.l (.a (.k 4) .v1) (.m 4 (.a .v0 .k1))) (.t (.k 4) (.a (.k 4) .v1)) (.w [4,1,1]) rfl (.n2 _ _) hle h4) hQ))
theorem rules_ok {c:Nat→Bool}{t:Nat→String}:∀(l:List Nat) (Q:PUnit→Shared→Prop),Q ⟨⟩ s→
  wpAny Md A (forIn l PUnit.unit fun i _=>(if c i=true then (do rule (t i);pure (ForInStep.yield PUnit.unit)) else pure (ForInStep.yield PUnit.unit):Sem (ForInStep PUnit))) Q E s
 | [],Q,h=>wpAny_pure h
 | i::l,Q,h=>by
  rw [List.forIn_cons]
  cases c i
  ·exact wpAny_bind (wpAny_pure (rules_ok l Q h))
  ·exact wpAny_bind (wpAny_bind (wpAny_rule (wpAny_pure (rules_ok l Q h))))
theorem toEnd {m:M}{Q:Option M→Shared→Prop} (hn:n≤4*2^64) (ho:(runFor n m).outcome=some .matched) (hQ:Q (some (runFor n m)) s):wpAny Md A (reRunToEnd m) Q E s:=by
 unfold reRunToEnd
 refine wpAny_bind (drive (2^64) n m _ (by rw [ho];rfl) hn (by decide) ?_)
 refine wpAny_bind (rules_ok (c:=fun i=>(runFor n m).seen.has i) (t:=fun i=>Sre.names.getD i "") _ _ ?_)
 rw [ho]
 exact wpAny_pure hQ
theorem toEndF {m:M}{Q:Option M→Shared→Prop} (hn:n≤4*2^64) (ho:(runFor n m).outcome=some .failed) (hQ:Q none s):wpAny Md A (reRunToEnd m) Q E s:=by
 unfold reRunToEnd
 refine wpAny_bind (drive (2^64) n m _ (by rw [ho];rfl) hn (by decide) ?_)
 refine wpAny_bind (rules_ok (c:=fun i=>(runFor n m).seen.has i) (t:=fun i=>Sre.names.getD i "") _ _ ?_)
 rw [ho]
 exact wpAny_pure hQ
end
end RX
end Mine
end
section
open PySem
set_option maxRecDepth 100000
set_option tactic.hygienic false
namespace Mine
namespace RX
open PySem.Sre PySem.Sre.M PySem.Builtin.Re
variable {P:Addr}{t t1:Tok}{a b i:Int}{C:Array Nat}{e:En}{k:Nat}
noncomputable def PatAt (h:Heap) (P:Addr) (C:Array Nat):Prop:=∃x0 x1 x3 x4 tp t2 t6 items n,h.get? P=some {cls:= .type "re.Pattern",data:= .fields #[x0,x1, .int 0 t2,x3,x4, .ref tp, .int 0 t6]}∧
 h.get? tp=some {cls:= .type "tuple",data:= .seq items n}∧(items.map reRawOf).map (·.toNat)=C
noncomputable def tgt (P:Addr) (x:Str) (t:Tok) (pos lim:Int):Sem ReTarget:=do
 let fs ←fieldsOf (.ref P)
 let (text,kind) ←reTextOf (.str x t)
 let want:=reRawNat (fs.getD 6 .none)
 if want==0&&kind==1 then raiseError "TypeError" "cannot use a string pattern on a bytes-like object"
 if want==1&&kind==0 then raiseError "TypeError" "cannot use a bytes pattern on a string-like object"
 reNoCollectionInside (.str x t) kind
 let clip (i:Int):Nat:=min i.toNat text.size
 pure {pattern:= .ref P,string:= .str x t,code:=(←reRawItems (fs.getD 5 .none)).map (·.toNat),text,kind,groups:=reRawNat (fs.getD 2 .none),pos:=clip pos,lim:=clip lim}
theorem tgt1 {x:Str}:reTarget "re.Pattern.match" "match" ⟨[.ref P, .str x t],[]⟩=tgt P x t 0 (2^63-1):=by rfl
theorem tgt2 {x:Str}:reTarget "re.Pattern.match" "match" ⟨[.ref P, .str x t, .int i t1],[]⟩=(do let a ←reSsize (.int i t1);tgt P x t a (2^63-1)):=by rfl
theorem tgt3 {x:Str}{t2:Tok}{j:Int}:reTarget "re.Pattern.match" "match" ⟨[.ref P, .str x t, .int i t1, .int j t2],[]⟩=(do let a ←reSsize (.int i t1);let b ←reSsize (.int j t2);tgt P x t a b):=by rfl
section
variable {prog:Program}{w:World}{A:Around}{E:Value→Shared→Prop}{s:Shared}
theorem ssize_ok {Q:Int→Shared→Prop} (h1: -(2^63)≤i) (h2:i<2^63) (hQ:Q i s):wpAny (model prog w) A (reSsize (.int i t)) Q E s:=by
 unfold reSsize
 refine wpAny_bind (wpAny_of_eq (a:=i) (by rfl) ?_)
 rw [if_neg (by simp;exact ⟨lin1 (.L (.g (.k 9223372036854775808)) .v0) (.L (.g (.k 9223372036854775808)) .v0) (.w [1,1]) rfl (.z _ .o) h1,lin1 (.T .v0 (.k 9223372036854775808)) (.T .v0 (.k 9223372036854775808)) (.w [1,1]) rfl (.z _ .o) h2⟩)]
 exact wpAny_bind (wpAny_pure (wpAny_pure hQ))
theorem tgt_ok {x:Str}{Q:ReTarget→Shared→Prop} (hP:PatAt s.heap P C)
  (hQ:Q {pattern:= .ref P,string:= .str x t,code:=C,text:=x.cps,kind:=0,groups:=0,pos:=min a.toNat x.cps.size,lim:=min b.toNat x.cps.size} s):
  wpAny (model prog w) A (tgt P x t a b) Q E s:=by
 refine cps fun GC hGC=> ?_
 obtain ⟨x0,x1,x3,x4,tp,u2,u6,items,n,h1,h2,h3⟩:=hP
 refine hGC ?_
 unfold tgt
 refine wpAny_bind ?_
 unfold fieldsOf
 refine wpAny_bind (wpAny_load h1 (wpAny_pure ?_))
 refine wpAny_bind (wpAny_of_eq (a:=(x.cps,0)) (by rfl) ?_)
 show wpAny _ A (do
  reNoCollectionInside (.str x t) 0
  let r ←reRawItems (.ref tp)
  pure {pattern:= .ref P,string:= .str x t,code:=r.map (·.toNat),text:=x.cps,kind:=0,groups:=0,pos:=min a.toNat x.cps.size,lim:=min b.toNat x.cps.size}) Q E s
 refine wpAny_bind (wpAny_of_eq (a:=()) (by rfl) ?_)
 refine wpAny_bind ?_
 unfold reRawItems seqItems?
 refine wpAny_bind (wpAny_bind (wpAny_load h2 (wpAny_pure (wpAny_pure ?_))))
 show wpAny _ A (pure {pattern:= .ref P,string:= .str x t,code:=(items.map reRawOf).map (·.toNat),text:=x.cps,kind:=0,groups:=0,pos:=min a.toNat x.cps.size,lim:=min b.toNat x.cps.size}) Q E s
 rw [h3]
 exact wpAny_pure hQ
theorem tgt_ok' {x:Str}{p q:Nat}{Q:ReTarget→Shared→Prop} (hP:PatAt s.heap P C) (hp:min a.toNat x.cps.size=p) (hq:min b.toNat x.cps.size=q)
  (hQ:Q {pattern:= .ref P,string:= .str x t,code:=C,text:=x.cps,kind:=0,groups:=0,pos:=p,lim:=q} s):
  wpAny (model prog w) A (tgt P x t a b) Q E s:=by
 subst hp;subst hq
 exact tgt_ok hP hQ
noncomputable def matObj (x p:Value) (i j k:Int) (tp:Addr):Obj:={cls:= .type "re.Match",data:= .fields #[x,p,rawInt i,rawInt j,rawInt k, .ref tp]}
noncomputable def spanObj (st e:Int):Obj:={cls:= .type "tuple",data:= .seq #[rawInt st,rawInt e] 0}
theorem answer_ok {t:ReTarget}{m:M}{h:Nat}{Q:Value→Shared→Prop} (hg:t.groups=0) (hf:Fin e k m (some h)) (hk:k≤2^60)
  (hQ:∀i j l,Q (.ref (s.heap.objs.size+1)) {s with heap:=(s.heap.push (spanObj e.st h)).push (matObj t.string t.pattern i j l s.heap.objs.size)}):wpAny (model prog w) A (reAnswer t m) (fun fin s'=>∃r,fin= .done (.ret r)∧Q r s') E s:=by
 refine cps fun GC hGC=> ?_
 obtain ⟨n,hn,h1,h2,h3⟩:=hf
 refine hGC ?_
 unfold reAnswer
 refine wpAny_bind (toEnd (by exact Q102 (.n2 _ _) hk hn) h1 ?_)
 show wpAny _ A (do let v ←reNewMatch t.pattern t.string t.groups t.pos t.lim (runFor n m);ret v) _ E s
 rw [hg]
 refine wpAny_bind ?_
 show wpAny _ A (do
  let tp ←newTuple [rawInt (runFor n m).start,rawInt (runFor n m).handed]
  newFields "re.Match" [t.string,t.pattern,rawInt t.pos,rawInt t.lim,rawInt (runFor n m).lastindex,tp]) _ E s
 rw [h2,h3]
 refine wpAny_bind (wpAny_newObj_type ?_ (by show 2≤sizeLine;rw [sizeLine_eq];decide))
 refine wpAny_newObj_type (wpAny_pure ⟨_,rfl, ?_⟩)
 have:=hQ t.pos t.lim (runFor n m).lastindex
 rw [show s.heap.objs.size+1=(s.heap.push (spanObj e.st h)).objs.size by simp [Heap.push]] at this
 exact this
theorem answer_no {t:ReTarget}{m:M}{Q:Value→Shared→Prop} (hf:Fin e k m none) (hk:k≤2^60)
  (hQ:Q .none s):wpAny (model prog w) A (reAnswer t m) (fun fin s'=>∃r,fin= .done (.ret r)∧Q r s') E s:=by
 obtain ⟨n,hn,h1⟩:=hf
 unfold reAnswer
 refine wpAny_bind (toEndF (by exact Q102 (.n2 _ _) hk hn) h1 ?_)
 exact wpAny_pure ⟨_,rfl,hQ⟩
end
end RX
end Mine
end
section
open PySem
set_option maxRecDepth 100000
set_option tactic.hygienic false
namespace Mine
namespace RX
open PySem.Sre PySem.Sre.M PySem.Builtin.Re
variable {a b:Addr}{o:Obj}{args:List Value}
theorem slot_pat_match:Slot "re.Pattern" "match" "re.Pattern.match" :=
 .of (owner:= "re.Pattern") (n:= "match") (by rw [typeLookup_type,builtinLookup_eq_fast];kernel_rfl) (by decide +kernel) (by decide +kernel) (by decide +kernel)
  (by first | exact .inl (by decide +kernel) | exact .inr (by decide +kernel)) (by rw [isSubtype_type];kernel_rfl)
theorem type_pat_match:typeOf (.builtin "re.Pattern.match")=pure (.type "method_descriptor"):=by kernel_rfl
theorem entry_pat_match:entryFor table "re.Pattern.match" =some Builtin.«re.Pattern.match»:=entryFor_of_tree (by kernel_rfl)
theorem plainAttrs_pat:PlainAttrs "re.Pattern" :=
 ⟨⟨"object.__getattribute__",by rw [typeLookup_type,builtinLookup_eq_fast];kernel_rfl,by decide +kernel⟩,by rw [typeLookup_type,builtinLookup_eq_fast];kernel_rfl⟩
theorem args_pat_match_1 (a x:Value):argsOk "re.Pattern.match" ⟨[a,x],[]⟩:=by unfold argsOk;kernel_rfl
theorem slot_mat_end:Slot "re.Match" "end" "re.Match.end" :=
 .of (owner:= "re.Match") (n:= "end") (by rw [typeLookup_type,builtinLookup_eq_fast];kernel_rfl) (by decide +kernel) (by decide +kernel) (by decide +kernel)
  (by first | exact .inl (by decide +kernel) | exact .inr (by decide +kernel)) (by rw [isSubtype_type];kernel_rfl)
theorem type_mat_end:typeOf (.builtin "re.Match.end")=pure (.type "method_descriptor"):=by kernel_rfl
theorem entry_mat_end:entryFor table "re.Match.end" =some Builtin.«re.Match.end»:=entryFor_of_tree (by kernel_rfl)
theorem plainAttrs_mat:PlainAttrs "re.Match" :=
 ⟨⟨"object.__getattribute__",by rw [typeLookup_type,builtinLookup_eq_fast];kernel_rfl,by decide +kernel⟩,by rw [typeLookup_type,builtinLookup_eq_fast];kernel_rfl⟩
theorem args_mat_end (a:Value):argsOk "re.Match.end" ⟨[a],[]⟩:=by unfold argsOk;kernel_rfl
theorem sub_pat_module:isSubtype (.type "re.Pattern") (.type "module")=pure false:=by rw [isSubtype_type];kernel_rfl
theorem sig_pat:Manifest.signature? "re.Pattern.match" =some (sigOf "re.Pattern.match"):=by first | rfl | kernel_rfl
theorem kind_pat:builtinKind "re.Pattern.match" =some .method:=by first | kernel_rfl | decide +kernel
theorem varargs_pat:Manifest.varargsMethods.contains "re.Pattern.match" =false:=by first | decide +kernel | kernel_rfl
theorem ca_pat2 (a b c:Value):Bind.checkArgs "re.Pattern.match" {sigOf "re.Pattern.match" with full:=toString (Bind.lastOf "re.Pattern")++toString "." ++ toString (Bind.lastOf "re.Pattern.match")} ⟨[a,b,c],[]⟩=pure ():=by kernel_rfl
theorem ca_pat3 (a b c d:Value):Bind.checkArgs "re.Pattern.match" {sigOf "re.Pattern.match" with full:=toString (Bind.lastOf "re.Pattern")++toString "." ++ toString (Bind.lastOf "re.Pattern.match")} ⟨[a,b,c,d],[]⟩=pure ():=by kernel_rfl
section
variable {prog:Program}{w:World}{A:Around}{E:Value→Shared→Prop}{h:Heap}{g:Array GenState}{d:Drawn}{t:Nat}{os:OsState}
theorem check_pat {Q:Unit→Shared→Prop} (hb:h.get? b=some o) (ho:∃vs,o={cls:= .type "re.Pattern",data:= .fields vs})
  (hc:Bind.checkArgs "re.Pattern.match" {sigOf "re.Pattern.match" with full:=toString (Bind.lastOf "re.Pattern")++toString "." ++ toString (Bind.lastOf "re.Pattern.match")} ⟨.ref b::args,[]⟩=pure ()) (hq:Q () ⟨h,g,d,t,os⟩):
  wpAny (model prog w) A (checkBoundCall "re.Pattern.match" ⟨.ref b::args,[]⟩) Q E ⟨h,g,d,t,os⟩:=by
 obtain ⟨vs,rfl⟩:=ho
 have hT:(⟨h,g,d,t,os⟩:Shared).TypeIs (.ref b) "re.Pattern" :=⟨_,hb,rfl⟩
 have f1:=kind_pat
 have f2:=varargs_pat
 have f3:=sub_pat_module
 unfold checkBoundCall
 rw [sig_pat]
 skip
 rw [f1]
 refine if_not (by decide) ?_
 refine wpAny_bind (wpAny_isInstance hT f3 ?_)
 refine if_not (by rw [f2];decide) ?_
 refine wpAny_bind ?_
 refine wpAny_bind (m:=isType (.ref b)) ?_
 repeat (any_goals (first | assumption | with_reducible exact wpAny_of_eq hc hq | wp_step))
theorem pat_call {R:Result→Shared→Prop} (hx:h.get? a=some {cls:= .type "builtin_function_or_method",data:= .fields #[.builtin "re.Pattern.match", .ref b]}) (hb:h.get? b=some o) (ho:∃vs,o={cls:= .type "re.Pattern",data:= .fields vs})
  (hc:Bind.checkArgs "re.Pattern.match" {sigOf "re.Pattern.match" with full:=toString (Bind.lastOf "re.Pattern")++toString "." ++ toString (Bind.lastOf "re.Pattern.match")} ⟨.ref b::args,[]⟩=pure ())
  (hq:codeAny (model prog w) A (.builtin "re.Pattern.match" ⟨.ref b::args,[]⟩) R ⟨h,g,d,t,os⟩):codeAny (model prog w) A (.call (.ref a) ⟨args,[]⟩) R ⟨h,g,d,t,os⟩:=by
 refine codeAny_of_tree ?_
 show wpAny _ A.in1 (callAny (.ref a) ⟨args,[]⟩) _ _ _
 simp only [callAny]
 refine wpAny_bind (wpAny_load hx ?_)
 simp only [show (Value.type "builtin_function_or_method" == Value.type "method" || Value.type "builtin_function_or_method" == Value.type "builtin_function_or_method" || Value.type "builtin_function_or_method" == Value.type "method-wrapper")=true by decide,if_true]
 refine if_so (by decide) ?_
 refine wpAny_bind (check_pat hb ho hc ?_)
 refine wpAny_bind (wpAny_pure (wpAny_pure ?_))
 exact ⟨Code.quiet_builtin _ (by decide +kernel),hq⟩
theorem end_body {tp:Addr}{x p:Value}{i j k st e:Int}{n:Nat}{s:Shared}{Q:Value→Shared→Prop} (ha:s.heap.get? a=some (matObj x p i j k tp)) (ht:s.heap.get? tp=some {cls:= .type "tuple",data:= .seq #[rawInt st,rawInt e] n})
  (hQ:Q (.int e s.toks) {s with toks:=s.toks+1}):wpAny (model prog w) A (Builtin.«re.Match.end» ⟨[.ref a],[]⟩) (fun fin s'=>∃r,fin= .done (.ret r)∧Q r s') E s:=by
 have ff:∀{Q:Array Value→Shared→Prop},Q #[x,p,rawInt i,rawInt j,rawInt k, .ref tp] s→wpAny (model prog w) A (fieldsOf (.ref a)) Q E s:=fun q=>by
  unfold fieldsOf
  exact wpAny_bind (wpAny_load ha (wpAny_pure q))
 have fr:∀{Q:Array Int→Shared→Prop},Q #[st,e] s→wpAny (model prog w) A (reRawItems (.ref tp)) Q E s:=fun q=>by
  unfold reRawItems seqItems?
  refine wpAny_bind (wpAny_bind (wpAny_load ht (wpAny_pure (wpAny_pure ?_))))
  rw [show Array.map reRawOf ((some #[rawInt st,rawInt e]).getD #[])= #[st,e] by simp [reRawOf,rawInt]]
  exact q
 unfold Builtin.«re.Match.end» reOneGroup
 refine wpAny_bind (wpAny_bind (wpAny_of_eq (a:=(.ref a,[])) (by rfl) ?_))
 refine wpAny_bind ?_
 unfold reFound
 refine wpAny_bind (ff (wpAny_bind (fr (wpAny_pure ?_))))
 refine wpAny_bind (wpAny_pure (wpAny_pure ?_))
 show wpAny _ A (do let v ←mkInt e;ret v) _ E s
 exact wpAny_bind (wpAny_mkInt (wpAny_pure ⟨_,rfl,hQ⟩))
end
end RX
end Mine
end
section
open PySem PySem.W PySem.Calls PyProof.Rows
set_option maxRecDepth 10000
set_option tactic.hygienic false
namespace Mine
open RX in
variable {B P:Addr}{C:Array Nat}
noncomputable def PatK (K:Frag) (P:Addr) (C:Array Nat):Prop:=∃x0 x1 x3 x4 tp t2 t6 items n,K.lookup P=some {cls:= .type "re.Pattern",data:= .fields #[x0,x1, .int 0 t2,x3,x4, .ref tp, .int 0 t6]}∧
 K.lookup tp=some {cls:= .type "tuple",data:= .seq items n}∧(items.map Builtin.Re.reRawOf).map (·.toNat)=C
theorem PatK.at_ {K:Frag}{h:Heap} (hP:PatK K P C) (X:K.In h):RX.PatAt h P C:=by
 refine cps fun GC hGC=> ?_
 obtain ⟨x0,x1,x3,x4,tp,t2,t6,items,n,h1,h2,h3⟩:=hP
 refine hGC ?_
 exact ⟨x0,x1,x3,x4,tp,t2,t6,items,n,X _ _ h1,X _ _ h2,h3⟩
noncomputable def ScOk (C:Array Nat) (sc:List Nat→Option (Option Nat)):Prop:=∀(T:Array Nat) (lim p:Nat) (l:List Nat) (r:Option Nat),lim≤4000000→RX.Rest ⟨C,T,lim,p⟩ p l→sc l=some r→
 ∃k,k≤2^60∧RX.Fin ⟨C,T,lim,p⟩ k (Sre.forMatch C T 0 p lim false false) (r.map (p + ·))
noncomputable def goMat (sc:List Nat→Option (Option Nat)) (l:List Nat) (i j:Int):PM PV:=if 0≤i∧i≤j∧j≤(l.length:Int)∧l.length≤4000000 then (match sc ((l.drop i.toNat).take (j-i).toNat) with
 | some (some n)=>ret1 (.mat (i+n))
 | some none=>ret1 .none
 | none=>badM) else badM
noncomputable def matG (sc:List Nat→Option (Option Nat)) (pvs:List PV):PM PV:=if pvs.length=1
 then g1 (onS fun l=>goMat sc l 0 l.length) pvs
 else if pvs.length=2 then g2 (fun a b=>onS (fun l=>onI (fun i=>goMat sc l i l.length) b) a) pvs
 else g3 (fun a b d=>onS (fun l=>onI (fun i=>onI (fun j=>goMat sc l i j) d) b) a) pvs
theorem rest_of {C:Array Nat}{l:List Nat}{i j:Nat} (h1:i≤j) (h2:j≤l.length):RX.Rest ⟨C,l.toArray,j,i⟩ i ((l.drop i).take (j-i)):=by
 refine ⟨by simp;exact lin5 (.q (.a .v0 .v5) .v1) (.l .v0 .v1) (.l .v1 .v2) (.M 5 .v3 .v4) (.b 4 .v2 .v0) (.b 3 .v1 .v0) (.b (.d 3 (.d 6 (.d 9 (.w [0, -1,0,0,0, -1,1]) (.w [1, -1,0,0,0, -1,1])) (.w [1,0,0,0,1,0,1])) (.d 7 (.d 8 (.w [0, -1,0,0,0, -1,1,0,1]) (.w [1, -1,0,0,0, -1,1,0,1])) (.w [1,0,0,0,1]))) (.d 3 (.d 6 (.d 9 (.w [0,1,0,0,0,1,1]) (.w [0,1,0,0,0,1,1,1])) (.w [0,1,1,1,1,1])) (.d 7 (.w [0,1,1,1,1]) (.w [0,1,1,1,1,1])))) rfl (.n6 _ _ _ _ _ _) h1 h2 rfl rfl rfl,fun k c hk=> ?_⟩
 rw [List.getElem?_take] at hk
 split at hk
 ·rw [List.getElem?_drop] at hk
  show l.toArray.getD (i+k) 0=c
  simp [hk]
 ·cases hk
section
variable {G:Glb}{fi:FI}
theorem mat_answer {A:Around}{E:Value→Shared→Prop}{C:Array Nat}{sc:List Nat→Option (Option Nat)} (hs:ScOk C sc) {h₀:Heap}{L:Addr}{held:List (PV×Value)}{s:Shared}{σ σ':St}{l:List Nat}{i j:Int}{c:PV}{P:Addr}{t:Tok}{Q:Value→Shared→Prop}
  (hf:goMat sc l i j σ= .ok c σ') (R:Rel G fi h₀ L σ held s) (hQ:∀v h' t',Rel G fi h₀ L σ' ((c,v)::held) (Sh s h' t')→Q v (Sh s h' t')):
  wpAny (model G.prog G.w) A (Builtin.Re.reAnswer {pattern:= .ref P,string:= .str ⟨l.toArray⟩ t,code:=C,text:=l.toArray,kind:=0,groups:=0,pos:=i.toNat,lim:=j.toNat}
   (Sre.forMatch C l.toArray 0 i.toNat j.toNat false false)) (fun fin s'=>∃r,fin= .done (.ret r)∧Q r s') E s:=by
 unfold goMat at hf
 split at hf
 ·rename_i hc
  refine cps fun GC hGC=> ?_
  obtain ⟨h0,h1,h2,h3⟩:=hc
  refine hGC ?_
  have hR:=rest_of (C:=C) (l:=l) (i:=i.toNat) (j:=j.toNat) (by exact lin3 (.l .v2 .v3) (.L .v0 .v1) (.N 2 .v0) (.N 3 .v1) (.d 2 (.d 5 (.w [0, -1,0,1,1,1]) (.w [1, -1,0,1,1,1])) (.w [0,1,1])) rfl (.z _ (.z _ (.n2 _ _))) h1 rfl rfl) (by exact lin2 (.l .v2 .v1) (.L .v0 (.c .v1)) (.N 2 .v0) (.d 2 (.w [0,1,1,1]) (.w [0,1,1])) rfl (.z _ (.n2 _ _)) h2 rfl)
  rw [show j.toNat-i.toNat=(j-i).toNat by exact lin5 (.q .v4 .v5) (.L .k0 .v1) (.N 5 (.s .v0 .v1)) (.b 4 .v2 .v3) (.N 2 .v0) (.N 3 .v1) (.b (.d 2 (.d 5 (.d 8 (.d 11 (.w [0,1,0, -1,0, -1,0,1,1]) (.w [0,1,0, -1,0, -1,0,1,1,1])) (.w [1,0,1, -1,0,1,1,1])) (.d 9 (.d 10 (.w [0, -1,0,1,1, -1,0,1,1]) (.w [1,0,1,0,0, -1,0,1,1])) (.d 10 (.w [0, -1,0,1,1, -1,0,1,1,1]) (.w [1,0,0,0,0, -1,0,1,1,1])))) (.w [0,1,1])) (.d 3 (.d 6 (.d 9 (.d 8 (.w [0, -1,0, -1,0,1,0,1,1]) (.w [1, -1,0, -1,0,1,0,1,1])) (.d 8 (.w [0, -1,1, -1,0,1,0,1,1]) (.w [1, -1,1, -1,0,1,0,1,1]))) (.w [0,1,0,1,1])) (.w [0,1,1]))) rfl (.z _ (.z _ (.n4 _ _ _ _))) h0 rfl rfl rfl rfl] at hR
  cases hn:sc ((l.drop i.toNat).take (j-i).toNat) with
  | none=>rw [hn] at hf;cases hf
  | some o=>
   rw [hn] at hf
   cases o with
   | none=>
    refine cps fun GC hGC=> ?_
    obtain ⟨rfl,rfl⟩:=ret1_ok hf
    obtain ⟨k,hk,hF⟩:=hs l.toArray j.toNat i.toNat _ none (by exact Q103 (.z _ (.n2 _ _)) h2 h3 rfl) hR hn
    refine hGC ?_
    exact RX.answer_no hF hk (hQ _ s.heap s.toks (R.holdP .none))
   | some n=>
    refine cps fun GC hGC=> ?_
    obtain ⟨rfl,rfl⟩:=ret1_ok hf
    obtain ⟨k,hk,hF⟩:=hs l.toArray j.toNat i.toNat _ (some n) (by exact Q103 (.z _ (.n2 _ _)) h2 h3 rfl) hR hn
    refine hGC ?_
    refine RX.answer_ok rfl hF hk fun a b d=> ?_
    refine cps fun GC hGC=> ?_
    obtain ⟨m,α,N,R⟩:=R
    refine hGC ?_
    have P1:=R.push (RX.spanObj i.toNat (i.toNat+n:Nat)) rfl
    have P2:=P1.push (RX.matObj (.str ⟨l.toArray⟩ t) (.ref P) a b d s.heap.objs.size) rfl
    have hsz:(s.heap.push (RX.spanObj i.toNat (i.toNat+n:Nat))).objs.size=s.heap.objs.size+1:=by simp [Heap.push]
    have ee:(i.toNat+n:Nat)=(i+n:Int):=by exact lin2 (.Q (.c (.a .v2 .v1)) (.a .v0 (.c .v1))) (.L .k0 .v0) (.N 2 .v0) (.b (.d 2 (.w [0, -1,1]) (.w [1, -1,1])) (.d 2 (.w [0,1,1]) (.w [0,1,1,1]))) rfl (.z _ (.n2 _ _)) h0 rfl
    have hfr:=P1.fresh
    rw [hsz] at P2 hfr
    refine hQ _ _ s.toks ⟨m,α,_,P2.hold ?_⟩
    rw [←ee]
    exact .mat (.head _) hfr (.tail _ (.head _)) R.fresh
 ·cases hf
theorem reraise {A:Around}{E:Value→Shared→Prop}{s:Shared}{args:List Value}{t:Builtin.Re.ReTarget→Prop}:True:=trivial
theorem mat_body {A:Around}{E:Value→Shared→Prop}{C:Array Nat}{sc:List Nat→Option (Option Nat)} (hs:ScOk C sc) {h₀:Heap}{L:Addr}{held:List (PV×Value)}{s:Shared}{σ σ':St}{c:PV}{P:Addr}{pvs:List PV}{vs:List Value}{Q:Value→Shared→Prop}
  (hP:PatK G.K P C) (X:G.K.In h₀) (hf:matG sc pvs σ= .ok c σ') (hl:pvs.length=vs.length) (R:Rel G fi h₀ L σ (pvs.zip vs++held) s) (hQ:∀v h' t',Rel G fi h₀ L σ' ((c,v)::held) (Sh s h' t')→Q v (Sh s h' t')):
  wpAny (model G.prog G.w) A (Builtin.«re.Pattern.match» ⟨.ref P::vs,[]⟩) (fun fin s'=>∃r,fin= .done (.ret r)∧Q r s') E s:=by
 have hPat:RX.PatAt s.heap P C:=by
  obtain ⟨m,α,N,R'⟩:=R
  exact hP.at_ (X.keeps R'.fr.keep)
 unfold Builtin.«re.Pattern.match»
 unfold matG at hf
 split at hf
 ·replace q:=g1_ok hf;clear hf;obtain ⟨_,hf⟩:=q
  replace q:=onS_ok hf;clear hf;obtain ⟨l,hf⟩:=q
  obtain ⟨v1,rfl⟩:=one_arg hl rfl
  replace R:Rel G fi h₀ L σ ((.str l,v1)::held) s:=R
  obtain ⟨α,N,r⟩:=inv1 R
  obtain ⟨t1,e9⟩:=r.str_inv;rw [e9];clear e9
  have hb:l.length≤4000000:=by unfold goMat at hf;split at hf <;> first | (rename_i z;exact z.2.2.2) | cases hf
  rw [RX.tgt1]
  have e1:min ((2:Int)^63-1).toNat l.toArray.size=(l.length:Int).toNat:=by simp;exact Q104 (.n2 _ _) hb rfl
  refine wpAny_bind (RX.tgt_ok' (p:=(0:Int).toNat) (q:=(l.length:Int).toNat) hPat (by simp) e1 ?_)
  exact mat_answer hs hf R.tail hQ
 split at hf
 ·replace q:=g2_ok hf;clear hf;obtain ⟨_,_,hf⟩:=q
  replace q:=onS_ok hf;clear hf;obtain ⟨l,hf⟩:=q
  replace q:=onI_ok hf;clear hf;obtain ⟨i,hf⟩:=q
  obtain ⟨v1,v2,rfl⟩:=two_args hl rfl
  replace R:Rel G fi h₀ L σ ((.str l,v1)::(.int i,v2)::held) s:=R
  obtain ⟨α,N,r2,r1⟩:=inv2 R
  obtain ⟨t1,e9⟩:=r1.str_inv;rw [e9];clear e9
  obtain ⟨t2,e9⟩:=r2.int_inv;rw [e9];clear e9
  have hb:0≤i∧i≤(l.length:Int)∧l.length≤4000000:=by unfold goMat at hf;split at hf <;> first | (rename_i z;exact ⟨z.1,z.2.1,z.2.2.2⟩) | cases hf
  rw [RX.tgt2]
  have e1:min ((2:Int)^63-1).toNat l.toArray.size=(l.length:Int).toNat:=by simp;exact Q104 (.n2 _ _) hb.2.2 rfl
  have e2:min i.toNat l.toArray.size=i.toNat:=by simp;exact Q105 (.z _ (.n3 _ _ _)) hb.2.1 rfl rfl
  refine wpAny_bind (wpAny_bind (RX.ssize_ok (by exact Q106 (.z _ .o) hb.1) (by exact Q107 (.z _ (.n1 _)) hb.2.1 hb.2.2) (RX.tgt_ok' hPat e2 e1 ?_)))
  exact mat_answer hs hf R.tail.tail hQ
 ·replace q:=g3_ok hf;clear hf;obtain ⟨_,_,_,hf⟩:=q
  replace q:=onS_ok hf;clear hf;obtain ⟨l,hf⟩:=q
  replace q:=onI_ok hf;clear hf;obtain ⟨i,hf⟩:=q
  replace q:=onI_ok hf;clear hf;obtain ⟨j,hf⟩:=q
  obtain ⟨v1,v2,v3,rfl⟩:=three_args hl rfl
  replace R:Rel G fi h₀ L σ ((.str l,v1)::(.int i,v2)::(.int j,v3)::held) s:=R
  obtain ⟨m,α,N,R'⟩:=(fun z=>z) R
  obtain ⟨t1,rfl⟩:=(R'.held (_,v1) (.head _)).str_inv
  obtain ⟨t2,rfl⟩:=(R'.held (_,v2) (.tail _ (.head _))).int_inv
  obtain ⟨t3,rfl⟩:=(R'.held (_,v3) (.tail _ (.tail _ (.head _)))).int_inv
  have hb:0≤i∧i≤j∧j≤(l.length:Int)∧l.length≤4000000:=by unfold goMat at hf;split at hf <;> first | (rename_i z;exact z) | cases hf
  rw [RX.tgt3]
  have e1:min j.toNat l.toArray.size=j.toNat:=by simp;exact Q105 (.z _ (.n3 _ _ _)) hb.2.2.1 rfl rfl
  have e2:min i.toNat l.toArray.size=i.toNat:=by simp;exact lin4 (.q .v4 .v3) (.L .v0 .v2) (.L .v2 (.c .v1)) (.N 3 .v0) (.M 4 .v3 .v1) (.b (.d 3 (.d 6 (.w [0, -1,0,0,1]) (.w [0, -1,0,1,1,1,1])) (.w [0,1,1])) (.d 4 (.w [0,1,1]) (.w [1,1,1]))) rfl (.z _ (.n _ (.z _ (.n2 _ _)))) hb.2.1 hb.2.2.1 rfl rfl
  refine wpAny_bind (wpAny_bind (RX.ssize_ok (by exact Q106 (.z _ .o) hb.1) (by exact lin3 (.T .v0 (.k 9223372036854775808)) (.L .v0 .v1) (.L .v1 (.c .v2)) (.l .v2 (.k 4000000)) (.w [1,1,1,1]) rfl (.z _ (.z _ (.n1 _))) hb.2.1 hb.2.2.1 hb.2.2.2) (wpAny_bind (RX.ssize_ok (by exact lin2 (.L (.g (.k 9223372036854775808)) .v0) (.L .k0 .v1) (.L .v1 .v0) (.w [1,1,1]) rfl (.z _ (.z _ .o)) hb.1 hb.2.1) (by exact Q107 (.z _ (.n1 _)) hb.2.2.1 hb.2.2.2) (RX.tgt_ok' hPat e2 e1 ?_)))))
  exact mat_answer hs hf R.tail.tail.tail hQ
theorem b_patB {sc:List Nat→Option (Option Nat)} (hs:ScOk C sc) (hP:PatK G.K P C) (hB:G.K.lookup B=some {cls:= .type "builtin_function_or_method",data:= .fields #[.builtin "re.Pattern.match", .ref P]}):
  BltOp G (.ref B) (fun pvs=>if pvs.length=2∨pvs.length=3 then matG sc pvs else badM):=by
 intro fi A h₀ L env Cx held s σ σ' pvs vs c Q E hf hl R hQ
 dsimp only at hf
 split at hf
 ·rename_i hn
  have X:G.K.In s.heap:=by
   obtain ⟨m,α,N,R'⟩:=R
   exact Cx.X.keeps R'.fr.keep
  obtain ⟨x0,x1,x3,x4,tp,t2,t6,items,n,h1,h2,h3⟩:=hP
  have hP:PatK G.K P C:=⟨x0,x1,x3,x4,tp,t2,t6,items,n,h1,h2,h3⟩
  refine wpAny_call (RX.pat_call (X _ _ hB) (X _ _ h1) ⟨_,rfl⟩ ?_ (codeAny_builtin RX.entry_pat_match ?_))
  ·rcases hn with hn | hn
   ·obtain ⟨a,b,rfl⟩:=mk_two (hl.symm.trans hn);exact RX.ca_pat2 _ _ _
   ·obtain ⟨a,b,c,rfl⟩:=mk_three (hl.symm.trans hn);exact RX.ca_pat3 _ _ _ _
  ·refine wpAny_mono (mat_body hs hP Cx.X hf hl R hQ) (fun fin s' h'=> ?_) fun _ _ e=>e
   obtain ⟨v,rfl,hq⟩:=h'
   exact hq
 ·cases hf
theorem cw_patB (hB:G.K.lookup B=some {cls:= .type "builtin_function_or_method",data:= .fields #[.builtin "re.Pattern.match", .ref P]}):CWith G (.ref B):=by
 intro fi A h₀ L env C es fs H first pos E held s σ σ' pvs Q hf R hQ
 refine callWith_bm (H.plain pos env) (evalArgs_spl C H hf R fun vs h' t' hl R1=>⟨?_,hQ vs h' t' hl R1⟩)
 obtain ⟨m,α,N,R'⟩:=R1
 exact ⟨_,(C.X.keeps R'.fr.keep) _ _ hB⟩
noncomputable def patG (P:Addr) (sc:List Nat→Option (Option Nat)):List PV→PM PV:=g2 fun a b=>onS (fun l=>if isRef P a=true then goMat sc l 0 l.length else badM) b
theorem patG_go {sc:List Nat→Option (Option Nat)}{l:List Nat}{σ:St}:patG P sc [.glob (.ref P), .str l] σ=goMat sc l 0 l.length σ:=congrFun (if_pos (beq_self_eq_true P)) σ
theorem b_pat {sc:List Nat→Option (Option Nat)} (hs:ScOk C sc) (hP:PatK G.K P C):BltOp G (.builtin "re.Pattern.match") (patG P sc):=by
 intro fi A h₀ L env Cx held s σ σ' pvs vs c Q E hf hl R hQ
 replace q:=g2_ok hf;clear hf;obtain ⟨a,_,hf⟩:=q
 replace q:=onS_ok hf;clear hf;obtain ⟨l,hf⟩:=q
 ·split at hf
  ·rename_i ea
   refine cps fun GC hGC=> ?_
   obtain ⟨v1,v2,rfl⟩:=two_args hl rfl
   replace R:Rel G fi h₀ L σ ((a,v1)::(.str l,v2)::held) s:=R
   rw [isRef_eq ea] at R
   obtain ⟨α,N,r2,r1⟩:=inv2 R
   have:=r1.glob_inv;subst this
   have X:G.K.In s.heap:=by
    obtain ⟨m,α,N,R'⟩:=R
    exact Cx.X.keeps R'.fr.keep
   obtain ⟨x0,x1,x3,x4,tp,t2,t6,items,n,h1,h2,h3⟩:=id hP
   refine hGC ?_
   refine wpAny_call_entry RX.slot_pat_match ⟨_,X _ _ h1,rfl⟩ RX.entry_pat_match ?_ (RX.args_pat_match_1 _ _)
   exact mat_body hs hP Cx.X (pvs:=[.str l]) (vs:=[v2]) (held:=(.glob (.ref P), .ref P)::held) hf rfl (R.drop fun p hp=>by
    rcases List.mem_cons.mp hp with rfl | hp
    ·exact .tail _ (.head _)
    ·rcases List.mem_cons.mp hp with rfl | hp
     ·exact .head _
     ·exact .tail _ (.tail _ hp)) fun v h' t' R3=>hQ v h' t' (R3.drop fun p hp=>by
      rcases List.mem_cons.mp hp with rfl | hp
      ·exact .head _
      ·exact .tail _ (.tail _ hp))
  ·cases hf
noncomputable def okPat (P:Addr):PV→St→Bool
 | .glob (.ref a),_=>a==P
 | _,_=>false
set_option tactic.hygienic true in
theorem self_pat (hP:PatK G.K P C):SelfOk G "re.Pattern" (okPat P):=by
 intro fi A h₀ L env Cx held s σ pv v ok R
 unfold okPat at ok
 split at ok
 ·rename_i a
  have ea:a=P:=by simpa using ok
  subst ea
  refine cps fun GC hGC=> ?_
  obtain ⟨m,α,N,R'⟩:=R
  refine hGC ?_
  have:=(R'.held (_,v) (.head _)).glob_inv
  subst this
  refine cps fun GC hGC=> ?_
  obtain ⟨x0,x1,x3,x4,tp,t2,t6,items,n,h1,h2,h3⟩:=id hP
  refine hGC ?_
  have ho:=(Cx.X.keeps R'.fr.keep) _ _ h1
  exact ⟨⟨_,ho,rfl⟩,fun b e=>by cases e;exact ⟨_,ho,rfl⟩⟩
 ·cases ok
noncomputable def endG:List PV→PM PV:=g1 fun a=>match a with
 | .mat e=>ret1 (.int e)
 | _=>badM
noncomputable def okMat:PV→St→Bool
 | .mat _,_=>true
 | _,_=>false
inductive MatInv (N:List (Addr×Obj)) (e:Int) (v:Value):Prop
 | mk (a tp:Addr) (x p:Value) (i j k st:Int) (n:Nat) (q:v= .ref a) (h1:(a,RX.matObj x p i j k tp)∈N) (h2:(tp,(⟨.type "tuple",Option.none, .seq #[rawInt st,rawInt e] n, #[]⟩:Obj))∈N):MatInv N e v
theorem Rep.mat_inv {α:List Addr}{N:List (Addr×Obj)}{e:Int}{v:Value} (h:Rep α N (.mat e) v):MatInv N e v:=by
 cases h with | mat h1 h2 h3 h4=>exact ⟨_,_,_,_,_,_,_,_,_,rfl,h1,h3⟩
theorem self_mat:SelfOk G "re.Match" okMat:=by
 intro fi A h₀ L env Cx held s σ pv v ok R
 cases pv <;> first | (cases ok;done) | skip
 refine cps fun GC hGC=> ?_
 obtain ⟨m,α,N,R'⟩:=R
 obtain ⟨a,tp,x,p,i,j,k,st,n,rfl,h1,h2⟩:=Rep.mat_inv (R'.held (_,v) (.head _))
 refine hGC ?_
 have ho:=(R'.nw _ h1).1
 exact ⟨⟨_,ho,rfl⟩,fun b e=>by cases e;exact ⟨_,ho,rfl⟩⟩
theorem b_end:BltOp G (.builtin "re.Match.end") endG:=by
 intro fi A h₀ L env Cx held s σ σ' pvs vs c Q E hf hl R hQ
 replace q:=g1_ok hf;clear hf;obtain ⟨a,hf⟩:=q
 cases a with
 | mat e=>
  refine cps fun GC hGC=> ?_
  obtain ⟨v,rfl⟩:=one_arg hl rfl
  replace R:Rel G fi h₀ L σ ((.mat e,v)::held) s:=R
  obtain ⟨rfl,rfl⟩:=ret1_ok hf
  obtain ⟨m,α,N,R'⟩:=(fun z=>z) R
  obtain ⟨a,tp,x,p,i,j,k,st,n,rfl,h1,h2⟩:=Rep.mat_inv (R'.held (_,v) (.head _))
  refine hGC ?_
  refine wpAny_call_entry RX.slot_mat_end ⟨_,(R'.nw _ h1).1,rfl⟩ RX.entry_mat_end (RX.end_body (R'.nw _ h1).1 (R'.nw _ h2).1 ?_) (RX.args_mat_end _)
  exact hQ _ s.heap (s.toks+1) ((R.tail.toks (Nat.succ_pos _)).holdP .int)
 | _=>cases hf
end
end Mine
end
section
open PySem PySem.W PySem.Calls PyProof.Rows
set_option maxRecDepth 10000
set_option tactic.hygienic false
namespace Mine
variable {N P srcp:List (Addr×Obj)}{o o':Obj}{I:Addr}{h':Heap}
@[reducible] noncomputable def Glb.pin (G:Glb) (P:List (Addr×Obj)):Glb:={G with pins:=P++G.pins}
theorem Cx.pin {G:Glb}{fi:FI}{A:Around}{h₀:Heap}{L:Addr}{env:Env} (C:Cx G fi A h₀ L env) (P:List (Addr×Obj)):Cx (G.pin P) fi A h₀ L env:=
 ⟨⟨C.ok,C.isenv,C.sc,C.glo,C.bui,C.X,C.T,C.B,C.hd,C.bs,fun p hp=>by
  refine cps fun GC hGC=> ?_
  obtain ⟨v,o,es,ep,h1,h2,h3,h4,h5⟩:=C.bd p hp
  refine hGC ?_
  exact ⟨v,o,es,ep,List.mem_append_right _ h1,h2,h3,h4,h5.mono fun q hq=>List.mem_append_right _ hq⟩,fun p hp=>by
  refine cps fun GC hGC=> ?_
  obtain ⟨v,c,o,h1,h2,h3,h4⟩:=C.cb p hp
  refine hGC ?_
  exact ⟨v,c,o,h1,List.mem_append_right _ h2,h3,h4.mono fun q hq=>List.mem_append_right _ hq⟩⟩,C.dep,C.un⟩
section
variable {G:Glb}{fi:FI}{h₀:Heap}{L:Addr}{σ:St}{held:List (PV×Value)}{m:PySem.Str→Option Value}{α:List Addr}{N:List (Addr×Obj)}{s:Shared}
theorem RelAt.repin {G':Glb} (R:RelAt G fi h₀ L σ held m α N s) (ht:G'.tabs=G.tabs) (hp:∀p∈G'.pins,p∈N∧p.1∉α):RelAt G' fi h₀ L σ held m α N s:=
 ⟨R.fr,R.nw,R.nd,R.an,R.len,by rw [ht];exact R.cells,R.vars,R.held,R.tok,R.vlen,hp⟩
theorem RelAt.unpin (R:RelAt (G.pin P) fi h₀ L σ held m α N s):RelAt G fi h₀ L σ held m α N s:=
 R.repin rfl fun p hp=>R.pin p (List.mem_append_right _ hp)
theorem Rel.unpin (R:Rel (G.pin P) fi h₀ L σ held s):Rel G fi h₀ L σ held s:=let ⟨m,α,N,R⟩:=R;⟨m,α,N,R.unpin⟩
noncomputable def itCls (o:Obj):Prop:=(∀C dx,instObj C dx≠o)∧(∀(tup:Bool) a n,(⟨.type (if tup then "tuple" else "list"),Option.none, .seq a n, #[]⟩:Obj)≠o)∧(∀fs,(⟨.type "re.Match",Option.none, .fields fs, #[]⟩:Obj)≠o)∧
 (∀a n,(⟨.type "tuple",Option.none, .seq a n, #[]⟩:Obj)≠o)∧∀fs,(⟨.type "builtin_function_or_method",Option.none, .fields fs, #[]⟩:Obj)≠o
theorem itCls_of {T:String} (hT:o.cls= .type T) (c1:T≠ "tuple") (c2:T≠ "list") (c3:T≠ "re.Match") (c4:T≠ "builtin_function_or_method"):itCls o:=by
 refine ⟨fun C dx e=> ?_,fun tup a n e=> ?_,fun fs e=> ?_,fun a n e=> ?_,fun fs e=> ?_⟩
 ·subst e;cases hT
 ·subst e;cases tup
  ·injection hT with h;exact c2 h.symm
  ·injection hT with h;exact c1 h.symm
 ·subst e;injection hT with h;exact c3 h.symm
 ·subst e;injection hT with h;exact c1 h.symm
 ·subst e;injection hT with h;exact c4 h.symm
theorem itCls_dict {es:Array DictEntry}{ep:Nat} (hd:o.data= .dict es ep):itCls o:=by
 refine ⟨fun C dx e=> ?_,fun tup a n e=> ?_,fun fs e=> ?_,fun a n e=> ?_,fun fs e=> ?_⟩ <;> (subst e;cases hd)
theorem nodup_key (nd:(N.map (·.1)).Nodup) {a:Addr} (h1:(a,o)∈N) (h2:(a,o')∈N):o=o':=by
 obtain ⟨i,hi⟩:=List.mem_iff_getElem?.mp h1
 obtain ⟨j,hj⟩:=List.mem_iff_getElem?.mp h2
 have e1:(N.map (·.1))[i]? =some a:=by rw [List.getElem?_map,hi];rfl
 have e2:(N.map (·.1))[j]? =some a:=by rw [List.getElem?_map,hj];rfl
 have:=nodup_inj nd e1 e2
 subst this
 rw [hi] at hj
 cases hj;rfl
theorem rep_it (nd:(N.map (·.1)).Nodup) (hI:(I,o)∈N) (hc:itCls o) {pv:PV}{v:Value} (h:Rep α N pv v):Rep α (updN N I o') pv v:=by
 obtain ⟨c1,c2,c3,c4,c5⟩:=hc
 have ne:∀{a:Addr}{x:Obj},(a,x)∈N→x≠o→(a,x)∈updN N I o':=fun {a x} hx hn=>updN_other hx fun e=>by
  subst e
  exact hn (nodup_key nd hx hI)
 induction h with
 | none=>exact .none
 | bool=>exact .bool
 | int=>exact .int
 | str=>exact .str
 | cell h=>exact .cell h
 | inst h1 h2 h3=>exact .inst (ne h1 (c1 _ _)) h2 h3
 | seq h1 h2 h3 _ ih=>exact .seq (ne h1 (c2 _ _ _)) h2 h3 ih
 | mat h1 h2 h3 h4=>exact .mat (ne h1 (c3 _)) h2 (ne h3 (c4 _ _)) h4
 | bm h1 h2 h3=>exact .bm (ne h1 (c5 _)) h2 h3
 | glob=>exact .glob
 | other=>exact .other
theorem RelAt.stepIt {t':Tok} (R:RelAt (G.pin ((I,o)::srcp)) fi h₀ L σ held m α N s) (hc:itCls o) (hs:Heap.SameBut I s.heap h') (ho:h'.get? I=some o') (ht:s.toks≤t')
  (hsrc:∀p∈srcp,p.1≠I) (hpins:∀p∈G.pins,p.1≠I):RelAt (G.pin ((I,o')::srcp)) fi h₀ L σ held m α (updN N I o') (Sh s h' t'):=by
 have hI:=R.pin (I,o) (.head _)
 have up:∀{pv v},Rep α N pv v→Rep α (updN N I o') pv v:=fun h=>rep_it R.nd hI.1 hc h
 have hne:∀{a:Addr},a∈α→a≠I:=fun h e=>hI.2 (e▸h)
 refine ⟨R.fr.change hs (R.notL hI.1).1 (R.notL hI.1).2,Mine.News.upd R.nw hs ho,by rw [updN_keys];exact R.nd,R.an,R.len, ?_, ?_,fun p hp=>up (R.held p hp),Nat.lt_of_lt_of_le R.tok ht,R.vlen, ?_⟩
 ·intro k a c ha hck
  have hak:=hne (List.mem_of_getElem? ha)
  exact (R.cells k a c ha hck).mono (fun x hx=>updN_other hx hak) up
 ·intro i x pv e1 e2
  exact (R.vars i x pv e1 e2).imp (fun z=>z) fun ⟨q,v,e3,e4⟩=>⟨q,v,e3,up e4⟩
 ·intro p hp
  replace hp:p∈((I,o')::srcp)++G.pins:=hp
  rcases List.mem_append.mp hp with hp | hp
  ·rcases List.mem_cons.mp hp with rfl | hp
   ·exact ⟨updN_self hI.1,hI.2⟩
   ·have h:=R.pin p (List.mem_append_left _ (.tail _ hp))
    exact ⟨updN_other h.1 (hsrc p hp),h.2⟩
  ·have h:=R.pin p (List.mem_append_right _ hp)
   exact ⟨updN_other h.1 (hpins p hp),h.2⟩
theorem RelAt.endIt (R:RelAt (G.pin ((I,o)::srcp)) fi h₀ L σ held m α N s) (hc:itCls o) (hs:Heap.ExtBut I s.heap h') (hpins:∀p∈G.pins,p.1≠I):
  ∃N',RelAt G fi h₀ L σ held m α N' (Sh s h' s.toks):=by
 have hI:=R.pin (I,o) (.head _)
 let N':=N.filter fun p=>p.1≠I
 have mem:∀{a:Addr}{x:Obj},(a,x)∈N→a≠I→(a,x)∈N':=fun hx hn=>List.mem_filter.mpr ⟨hx,by simpa using hn⟩
 have up:∀{pv v},Rep α N pv v→Rep α N' pv v:=by
  obtain ⟨c1,c2,c3,c4,c5⟩:=hc
  have ne:∀{a:Addr}{x:Obj},(a,x)∈N→x≠o→(a,x)∈N':=fun {a x} hx hn=>mem hx fun e=>by
   subst e
   exact hn (nodup_key R.nd hx hI.1)
  intro pv v h
  induction h with
  | none=>exact .none
  | bool=>exact .bool
  | int=>exact .int
  | str=>exact .str
  | cell h=>exact .cell h
  | inst h1 h2 h3=>exact .inst (ne h1 (c1 _ _)) h2 h3
  | seq h1 h2 h3 _ ih=>exact .seq (ne h1 (c2 _ _ _)) h2 h3 ih
  | mat h1 h2 h3 h4=>exact .mat (ne h1 (c3 _)) h2 (ne h3 (c4 _ _)) h4
  | bm h1 h2 h3=>exact .bm (ne h1 (c5 _)) h2 h3
  | glob=>exact .glob
  | other=>exact .other
 have hLI:=(R.notL hI.1).1
 have h0I:=(R.notL hI.1).2
 refine ⟨N',⟨R.fr.ns.at' fun x e=>hs _ _ hLI.symm e,fun b x e=>hs _ _ (fun q=>by subst q;rw [h0I] at e;cases e) (R.fr.keep b x e),R.fr.above⟩, ?_,R.nd.sublist (List.Sublist.map _ (List.filter_sublist)),R.an,R.len, ?_, ?_,fun p hp=>up (R.held p hp),R.tok,R.vlen, ?_⟩
 ·intro p hp
  obtain ⟨hp,hne⟩:=List.mem_filter.mp hp
  have hne':p.1≠I:=by simpa using hne
  exact ⟨hs _ _ hne' (R.nw p hp).1,(R.nw p hp).2⟩
 ·intro k a c ha hck
  have hak:a≠I:=fun e=>hI.2 (e▸List.mem_of_getElem? ha)
  exact (R.cells k a c ha hck).mono (fun x hx=>mem hx hak) up
 ·intro i x pv e1 e2
  exact (R.vars i x pv e1 e2).imp (fun z=>z) fun ⟨q,v,e3,e4⟩=>⟨q,v,e3,up e4⟩
 ·intro p hp
  have h:=R.pin p (List.mem_append_right _ hp)
  exact ⟨mem h.1 (hpins p hp),h.2⟩
end
end Mine
end
section
open PySem PySem.W PySem.Calls PyProof.Rows
set_option maxRecDepth 10000
set_option tactic.hygienic false
namespace Mine
variable {pos:Pos}{f:PM PV}{o:Obj}{h₀:Heap}{L:Addr}{σ:St}{held:List (PV×Value)}{m:PySem.Str→Option Value}{α:List Addr}{N:List (Addr×Obj)}{s:Shared}{e:Expr}
structure Iter (prog:Program) (w:World) (I:Addr) (O:Nat→Obj→Prop) (n:Nat) (P:Nat→Value→Prop) (srcp:List (Addr×Obj)):Prop where
 item:∀(A:Around) (E:Value→Shared→Prop) (s:Shared) (i:Nat) (o:Obj) (Q:Option Value→Shared→Prop),i<n→s.heap.get? I=some o→O i o→(∀p∈srcp,s.heap.get? p.1=some p.2)→
  (∀v h' t' o',P i v→h'.get? I=some o'→O (i+1) o'→Heap.SameBut I s.heap h'→s.toks≤t'→Q (some v) {s with heap:=h',toks:=t'})→wpAny (model prog w) A (pyNext (.ref I)) Q E s
 done:∀(A:Around) (E:Value→Shared→Prop) (s:Shared) (o:Obj) (Q:Option Value→Shared→Prop),A.handled=none→s.heap.get? I=some o→O n o→(∀p∈srcp,s.heap.get? p.1=some p.2)→
  (∀h',Heap.ExtBut I s.heap h'→Q none {s with heap:=h'})→wpAny (model prog w) A (pyNext (.ref I)) Q E s
 cls:∀i o,O i o→itCls o
 src:∀p∈srcp,p.1≠I
 self:∀(A:Around) (E:Value→Shared→Prop) (s:Shared) (i:Nat) (o:Obj) (Q:Value→Shared→Prop),s.heap.get? I=some o→O i o→Q (.ref I) s→wpAny (model prog w) A (pyIter (.ref I)) Q E s
inductive Ready (G:Glb) (fi:FI) (h₀:Heap) (L:Addr) (σ:St) (held:List (PV×Value)) (s:Shared) (I:Addr) (xs:List PV):Prop
 | mk (hx:List (PV×Value)) (O:Nat→Obj→Prop) (P:Nat→Value→Prop) (srcp:List (Addr×Obj)) (o:Obj) (It:Iter G.prog G.w I O xs.length P srcp) (h0:O 0 o) (R:Rel (G.pin ((I,o)::srcp)) fi h₀ L σ (hx++held) s)
  (hp:∀p∈G.pins,p.1≠I) (hP:∀i v,P i v→∃x,xs[i]? =some x∧((x,v)∈hx∨Plain x v)):Ready G fi h₀ L σ held s I xs
theorem drop_at {β:Type}{xs:List β}{i:Nat}{x:β} (h:xs[i]? =some x):xs.drop i=x::xs.drop (i+1):=by
 obtain ⟨h1,h2⟩:=List.getElem?_eq_some_iff.mp h
 rw [List.drop_eq_getElem_cons h1,h2]
noncomputable def SrcR (G:Glb) (fi:FI) (e:Expr) (f:PM (List PV)):Prop:=
 ∀(A:Around) (h₀:Heap) (L:Addr) (env:Env),Cx G fi A h₀ L env→∀(held:List (PV×Value)) (s:Shared) (σ:St) (xs:List PV) (σ':St) (Q:Value→Shared→Prop) (E:Value→Shared→Prop),
  f σ= .ok xs σ'→Rel G fi h₀ L σ held s→(∀I h' t',Ready G fi h₀ L σ' held (Sh s h' t') I xs→Q (.ref I) (Sh s h' t'))→
  wpAny (model G.prog G.w) A (eval e env) (fun v s₁=>wpAny (model G.prog G.w) A (pyIter v) Q E s₁) E s
noncomputable def forL (g:PV→PM Fl) (b:PM Fl):List PV→PM Fl
 | []=>ret1 .next
 | x::r=>bnd (g x) fun _=>bnd b fun f=>match f with
  | .next=>forL g b r
  | .cont=>forL g b r
  | .brk=>ret1 .next
  | .ret v=>ret1 (.ret v)
noncomputable def forM (f:PM (List PV)) (g:PV→PM Fl) (b:PM Fl):PM Fl:=bnd f fun xs=>forL g b xs
section
variable {G:Glb}{fi:FI}
inductive ForI (G:Glb) (fi:FI) (h₀:Heap) (L:Addr) (I:Addr) (O:Nat→Obj→Prop) (srcp:List (Addr×Obj)) (H:List (PV×Value)) (xs:List PV) (F:List PV→PM Fl) (fl:Fl) (σ':St) (s:Shared):Nat→Shared→Prop
 | mk (i:Nat) (o:Obj) (σ:St) (h':Heap) (t':Tok) (hO:O i o) (hle:i≤xs.length) (R:Rel (G.pin ((I,o)::srcp)) fi h₀ L σ H (Sh s h' t')) (hf:F (xs.drop i) σ= .ok fl σ'):
  ForI G fi h₀ L I O srcp H xs F fl σ' s (xs.length-i) (Sh s h' t')
theorem ForI.el {h₀:Heap}{L I:Addr}{O:Nat→Obj→Prop}{srcp:List (Addr×Obj)}{H:List (PV×Value)}{xs:List PV}{F:List PV→PM Fl}{fl:Fl}{σ':St}{s:Shared}{P:Nat→Shared→Prop}
  (h:∀i o σ h' t',O i o→i≤xs.length→Rel (G.pin ((I,o)::srcp)) fi h₀ L σ H (Sh s h' t')→F (xs.drop i) σ= .ok fl σ'→P (xs.length-i) (Sh s h' t')):∀n s₁,ForI G fi h₀ L I O srcp H xs F fl σ' s n s₁→P n s₁:=
 fun _ _ q=>match q with | .mk a b c d e f g i j=>h a b c d e f g i j
theorem X_for {target iter:Expr}{body:List Stmt}{f:PM (List PV)}{g:PV→PM Fl}{b:PM Fl} (hi:SrcR G fi iter f) (ha:∀P,AsgR (G.pin P) fi target g)
  (hb:∀P,ExsR (G.pin P) fi body b) (hs:∀env x,foldedSetIterable iter env x=pure x) (ht:∀it v,letOwnedTupleGo target it v=pure ()):ExR G fi (.For target iter body [] pos) (forM f g b):=by
 intro A h₀ L env C held s σ fl σ' Q E hf R hQ
 refine cps fun GC hGC=> ?_
 obtain ⟨xs,σ₁,h1,hf1⟩:=bnd_ok hf
 refine hGC (wpAny_For (hi A h₀ L env C held s σ xs σ₁ _ _ h1 R fun I h2 t2 hr=> ?_) (hs env))
 refine cps fun GC hGC=> ?_
 obtain ⟨hx',O,P,srcp,o,It,h0,R2,hpins,hP⟩:=hr
 refine hGC (codeAny_forLoop (ForI G fi h₀ L I O srcp (hx'++held) xs (forL g b) fl σ' s) (ForI.el fun i oi σ₂ h3 t3 hO hle R3 hfl=> ?_) xs.length (.mk 0 o σ₁ _ _ h0 (Nat.zero_le _) R2 hf1) (fun v=>ht _ v))
 refine cps fun GC hGC=> ?_
 obtain ⟨m,α,N,R3'⟩:=R3
 refine hGC ?_
 have hI:(I,oi)∈N∧I∉α:=R3'.pin (I,oi) (.head _)
 have hget:=(R3'.nw _ hI.1).1
 have hsrc:∀p∈srcp,(Sh s h3 t3).heap.get? p.1=some p.2:=fun p hp=>(R3'.nw _ (R3'.pin p (List.mem_append_left _ (.tail _ hp))).1).1
 by_cases hlt:i<xs.length
 ·refine It.item A _ _ i oi _ hlt hget hO hsrc fun v h4 t4 o' hPv ho' hO' hsb htk=> ?_
  have R4:=R3'.stepIt (It.cls i oi hO) hsb ho' htk It.src hpins
  refine cps fun GC hGC=> ?_
  obtain ⟨x,hxi,hxv⟩:=hP i v hPv
  rw [drop_at hxi] at hfl
  obtain ⟨f1,σ₃,k1,k2⟩:=bnd_ok hfl
  obtain ⟨f2,σ₄,k3,k4⟩:=bnd_ok k2
  refine hGC (ha ((I,o')::srcp) A h₀ L env (C.pin _) _ _ σ₂ x v f1 σ₃ _ _ k1 ⟨m,α,_,R4.hold (hxv.elim (fun hm=>R4.held _ (List.mem_append_left _ hm)) Plain.rep)⟩ fun h5 t5 e5 R6=> ?_)
  refine hb ((I,o')::srcp) A h₀ L env (C.pin _) _ _ σ₃ f2 σ₄ _ _ k3 R6.tail fun flow h6 t6 R7=> ?_
  have lt:=Nat.sub_lt_sub_left hlt (Nat.lt_succ_self i)
  cases f2 <;> cases flow <;> first | exact R7.elim | skip
  ·exact ⟨_,lt, .mk (i+1) o' σ₄ _ _ hO' hlt R7 k4⟩
  ·obtain ⟨rfl,rfl⟩:=ret1_ok k4
   exact hQ .next _ _ (R7.unpin.drop fun p hp=>List.mem_append_right _ hp)
  ·exact ⟨_,lt, .mk (i+1) o' σ₄ _ _ hO' hlt R7 k4⟩
  ·obtain ⟨rfl,rfl⟩:=ret1_ok k4
   exact hQ (.ret _) _ _ (R7.unpin.drop (fc (.head _) fun p hp=> .tail _ (List.mem_append_right _ hp)))
 ·have hin:i=xs.length:=Nat.le_antisymm hle (Nat.le_of_not_lt hlt)
  subst hin
  rw [List.drop_length] at hfl
  obtain ⟨rfl,rfl⟩:=ret1_ok hfl
  refine It.done A _ _ oi _ C.hd hget hO hsrc fun h4 hext=> ?_
  obtain ⟨N',R4⟩:=R3'.endIt (It.cls _ oi hO) hext hpins
  exact wpAny_execs_nil (hQ .next h4 t3 ⟨m,α,N',R4.drop fun p hp=>List.mem_append_right _ hp⟩)
theorem itCls_range (h:o.cls= .type "range_iterator"):itCls o:=itCls_of h (by decide) (by decide) (by decide) (by decide)
theorem itCls_list (h:o.cls= .type "list_iterator"):itCls o:=itCls_of h (by decide) (by decide) (by decide) (by decide)
theorem itCls_str (h:o.cls= .type "str_ascii_iterator"):itCls o:=itCls_of h (by decide) (by decide) (by decide) (by decide)
theorem RelAt.pushIt (R:RelAt G fi h₀ L σ held m α N s) (o:Obj) (ho:o.isFreed=false) {srcp:List (Addr×Obj)}
  (hs:∀p∈srcp,p∈N∧p.1∉α):RelAt (G.pin ((s.heap.objs.size,o)::srcp)) fi h₀ L σ held m α ((s.heap.objs.size,o)::N) {s with heap:=s.heap.push o}:=by
 exact (R.push o ho).repin rfl (fc ⟨.head _,R.fresh⟩ (fp (fun p hp=>⟨.tail _ (hs p hp).1,(hs p hp).2⟩) fun p hp=>⟨.tail _ (R.pin p hp).1,(R.pin p hp).2⟩))
theorem RelAt.pinsNe (R:RelAt G fi h₀ L σ held m α N s):∀p∈G.pins,p.1≠s.heap.objs.size:=
 fun p hp=>Nat.ne_of_lt (R.lt (R.pin p hp).1)
noncomputable def rngL (a b:Int):List PV:=(List.range (b-a).toNat).map fun i:Nat=> .int (a+i)
noncomputable def rngM (fa fb:PM PV):PM (List PV):=bnd (evL [fa,fb]) fun as=>match as with
 | [.int a, .int b]=>if -1000000000≤a∧a≤1000000000∧ -1000000000≤b∧b≤1000000000 then ret1 (rngL a b) else badM
 | _=>badM
set_option tactic.hygienic true in
theorem S_range {x:PySem.Str}{np:Pos}{ea eb:Expr}{fa fb:PM PV} (hx:EvR G fi (.Name x np) (pure1 (.glob (.type "range")))) (H:EvsR G fi [ea,eb] [fa,fb]):
  SrcR G fi (.Call (.Name x np) [ea,eb] [] pos) (rngM fa fb):=by
 intro A h₀ L env C held s σ xs σ' Q E hf R hQ
 obtain ⟨pvs,σ₁,h1,h2⟩:=bnd_ok hf
 split at h2
 ·rename_i a b
  split at h2
  ·rename_i hab
   obtain ⟨rfl,rfl⟩:=ret1_ok h2
   skip
   refine wpAny_bind (hx A h₀ L env C held s σ _ σ _ _ rfl R fun fv h' t' R1=> ?_)
   obtain ⟨α,N,r⟩:=inv1 R1
   have:=r.glob_inv
   subst this
   refine cw_type fi A h₀ L env C _ _ H [] pos E held _ σ _ _ _ h1 R1.tail fun vs h'' t'' hl R2=> ?_
   obtain ⟨v1,v2,rfl⟩:=two_args hl rfl
   replace R2:Rel G fi h₀ L _ ((.int a,v1)::(.int b,v2)::held) (Sh s h'' t''):=R2
   obtain ⟨m,α,N,R3⟩:=R2
   obtain ⟨u1,rfl⟩:=(R3.held (_,v1) (.head _)).int_inv
   obtain ⟨u2,rfl⟩:=(R3.held (_,v2) (.tail _ (.head _))).int_inv
   refine call_range_2 ?_
   have R4:=(R3.drop (held':=held) fun p hp=> .tail _ (.tail _ hp)).push {cls:= .type "range",data:= .fields #[.int a u1, .int b u2, .int 1 t'']} rfl
   refine wpAny_pyIter_range (IsRange.new ..) (small_one (by exact Q108 (.z _ .o) hab.1) (by exact Q109 (.z _ .o) hab.2.1) (by exact Q108 (.z _ .o) hab.2.2.1) (by exact Q109 (.z _ .o) hab.2.2.2)) ?_
   have hsz:Builtin.Range.rangeSize a b 1=((b-a).toNat:Int):=rangeSize_nat a b
   have R5:=(R4.toks (t:=t''+1) (Nat.succ_pos _)).pushIt {cls:= .type "range_iterator",data:= .fields #[rawInt a,rawInt (Builtin.Range.rangeSize a b 1),rawInt 1]} rfl (srcp:=[]) (fun p hp=>nomatch hp)
   refine hQ _ _ (t''+1) ⟨[],fun i o=>o={cls:= .type "range_iterator",data:= .fields #[rawInt (a+i),rawInt ((b-a).toNat-i),rawInt 1]},fun i v=>i<(b-a).toNat∧∃t,v= .int (a+i) t,[],_,⟨?_, ?_, ?_,(fun p hp=>nomatch hp), ?_⟩, ?_,⟨m,α,_,R5⟩,R4.pinsNe, ?_⟩
   ·intro A E s i o Q hi ho hO _ hq
    subst hO
    have hlen:(rngL a b).length=(b-a).toNat:=by simp [rngL]
    rw [hlen] at hi
    refine wpAny_pyNext_range_item ho (by exact lin1 (.T .k0 (.s (.c .v0) (.c .v1))) (.t .v1 .v0) (.w [1,1]) rfl (.n2 _ _) hi) fun h' hit hsb=> ?_
    refine hq _ h' (s.toks+1) _ ⟨hi,s.toks,rfl⟩ hit ?_ hsb (Nat.le_succ _)
    have e1:a+(i:Int)+1=a+((i+1:Nat):Int):=by exact lin0 (.Q (.a (.a .v0 (.c .v1)) .k1) (.a .v0 (.c (.a .v1 .k1)))) (.b (.w [1]) (.w [1])) rfl (.z _ (.n1 _))
    have e2:((b-a).toNat:Int)-(i:Int)-1=((b-a).toNat:Int)-((i+1:Nat):Int):=by exact lin0 (.Q (.s (.s (.c .v0) (.c .v1)) .k1) (.s (.c .v0) (.c (.a .v1 .k1)))) (.b (.w [1]) (.w [1])) rfl (.n2 _ _)
    rw [e1,e2]
   ·intro A E s o Q hh ho hO _ hq
    subst hO
    have hlen:(rngL a b).length=(b-a).toNat:=by simp [rngL]
    exact wpAny_pyNext_range_end hh ho (by rw [hlen];exact lin0 (.L (.s (.c .v0) (.c .v0)) .k0) (.w [1]) rfl (.n1 _)) hq
   ·rintro i o rfl;exact itCls_range rfl
   ·intro A E s i o Q ho hO hq
    subst hO
    exact wpAny_pyIter_rangeiter (show IsRangeIter _ _ _ _ _ from ho) hq
   ·rw [hsz];simp
   ·rintro i v ⟨hi,t,rfl⟩
    exact ⟨.int (a+i),by simp [rngL,hi], .inr .int⟩
  ·cases h2
 ·cases h2
noncomputable def lstM (f:PM PV):PM (List PV):=bnd f fun pv=>match pv with
 | .seq false xs=>ret1 xs
 | _=>badM
set_option tactic.hygienic true in
theorem S_seq (h:EvR G fi e f):SrcR G fi e (lstM f):=by
 intro A h₀ L env C held s σ xs σ' Q E hf R hQ
 obtain ⟨pv,σ₁,h1,h2⟩:=bnd_ok hf
 split at h2
 ·rename_i ys
  obtain ⟨rfl,rfl⟩:=ret1_ok h2
  refine h A h₀ L env C held s σ _ _ _ _ h1 R fun v h' t' R1=> ?_
  obtain ⟨m,α,N,R1⟩:=R1
  obtain ⟨l,vs,n,rfl,g1,g2,g3,g4⟩:=(R1.held (_,v) (.head _)).seq_inv
  have hl:(Sh s h' t').heap.IsList l vs.toArray:=⟨_,(R1.nw _ g1).1,rfl,n,rfl⟩
  refine wpAny_pyIter_list hl ?_
  have R2:RelAt G fi h₀ L σ' (xs.zip vs++held) m α N (Sh s h' t'):=
   {(R1.drop (held':=held) fun p hp=> .tail _ hp) with held:=fun p hp=>(List.mem_append.mp hp).elim (g4 p) fun hp=>R1.held p (.tail _ hp)}
  have R5:=R2.pushIt {cls:= .type "list_iterator",data:= .fields #[.ref l, .int 0 0]} rfl (srcp:=[(l,⟨.type "list",Option.none, .seq vs.toArray n, #[]⟩)]) (fun p hp=>by rw [List.mem_singleton.mp hp];exact ⟨g1,g2⟩)
  have hlI:l≠h'.objs.size:=Nat.ne_of_lt (R1.lt g1)
  refine hQ _ _ t' ⟨xs.zip vs,fun i o=>o.cls= .type "list_iterator" ∧o.data= .fields #[.ref l, .int i 0],fun i v=>vs[i]? =some v,_,_,⟨?_, ?_, ?_, ?_, ?_⟩,⟨rfl,rfl⟩,⟨m,α,_,R5⟩,R2.pinsNe, ?_⟩
  ·intro A E s i o Q hi ho hO hsrc hq
   have hls:s.heap.IsList l vs.toArray:=⟨_,hsrc _ (.head _),rfl,n,rfl⟩
   have hlt:i<vs.length:=g3▸hi
   refine wpAny_pyNext_list_item (l:=l) (i:=i) (x:=vs[i]) ⟨o,ho,hO.1,hO.2⟩ hls (by simp [hlt]) fun h' hit hsb=> ?_
   obtain ⟨o',ho',hc',hd'⟩:=hit
   exact hq _ h' s.toks o' (List.getElem?_eq_getElem hlt) ho' ⟨hc',hd'⟩ hsb (Nat.le_refl _)
  ·intro A E s o Q hh ho hO hsrc hq
   have hls:s.heap.IsList l vs.toArray:=⟨_,hsrc _ (.head _),rfl,n,rfl⟩
   exact wpAny_pyNext_list_end hh ⟨o,ho,hO.1,hO.2⟩ hls (by simp [g3]) hq
  ·rintro i o ⟨hc,_⟩;exact itCls_list hc
  ·intro p hp;rw [List.mem_singleton.mp hp];exact hlI
  ·intro A E s i o Q ho hO hq
   exact wpAny_pyIter_listiter (l:=l) (i:=i) ⟨o,ho,hO.1,hO.2⟩ hq
  ·intro i v hv
   have hlt:i<xs.length:=g3▸lt_of_some hv
   exact ⟨xs[i],List.getElem?_eq_getElem hlt, .inl (zip_get (List.getElem?_eq_getElem hlt) hv)⟩
 ·cases h2
noncomputable def txtM (f:PM PV):PM (List PV):=bnd f fun pv=>match pv with
 | .str l=>if l.all (· < 128) then ret1 (l.map fun c=> .str [c]) else badM
 | _=>badM
set_option tactic.hygienic true in
theorem S_txt (h:EvR G fi e f):SrcR G fi e (txtM f):=by
 intro A h₀ L env C held s σ xs σ' Q E hf R hQ
 obtain ⟨pv,σ₁,h1,h2⟩:=bnd_ok hf
 split at h2
 ·rename_i l
  split at h2
  ·rename_i hasc
   obtain ⟨rfl,rfl⟩:=ret1_ok h2
   refine h A h₀ L env C held s σ _ _ _ _ h1 R fun v h' t' R1=> ?_
   obtain ⟨m,α,N,R1⟩:=R1
   obtain ⟨t,rfl⟩:=(R1.held (_,v) (.head _)).str_inv
   refine wpAny_pyIter_ascii (by simpa using hasc) ?_
   have R5:=(R1.drop (held':=held) fun p hp=> .tail _ hp).pushIt {cls:= .type "str_ascii_iterator",data:= .fields #[.str ⟨l.toArray⟩ t, .int 0 0]} rfl (srcp:=[]) (fun p hp=>nomatch hp)
   refine hQ _ _ t' ⟨[],fun i o=>o.cls= .type "str_ascii_iterator" ∧o.data= .fields #[.str ⟨l.toArray⟩ t, .int i 0],fun i v=>∃c u,l[i]? =some c∧v= .str ⟨#[c]⟩ u,[],_,⟨?_, ?_, ?_,(fun p hp=>nomatch hp), ?_⟩,⟨rfl,rfl⟩,⟨m,α,_,R5⟩,R1.pinsNe, ?_⟩
   ·intro A E s i o Q hi ho hO hsrc hq
    have hlt:i<l.length:=by simpa using hi
    refine wpAny_pyNext_ascii_item (x:=⟨l.toArray⟩) (t:=t) (i:=i) (c:=l[i]) ⟨o,ho,hO.1,hO.2⟩ (by simp [hlt]) fun h' hit hsb=> ?_
    obtain ⟨o',ho',hc',hd'⟩:=hit
    exact hq _ h' (s.toks+1) o' ⟨l[i],s.toks,List.getElem?_eq_getElem hlt,rfl⟩ ho' ⟨hc',hd'⟩ hsb (Nat.le_succ _)
   ·intro A E s o Q hh ho hO hsrc hq
    exact wpAny_pyNext_ascii_end hh ⟨o,ho,hO.1,hO.2⟩ (by simp) hq
   ·rintro i o ⟨hc,_⟩;exact itCls_str hc
   ·intro A E s i o Q ho hO hq
    exact wpAny_pyIter_striter_ascii (x:=⟨l.toArray⟩) (t:=t) (i:=i) ⟨o,ho,hO.1,hO.2⟩ hq
   ·rintro i v ⟨c,u,hc,rfl⟩
    exact ⟨.str [c],by simp [hc], .inr .str⟩
  ·cases h2
 ·cases h2
end
end Mine
end
section
open PySem PySem.W PySem.Calls PyProof.Rows
set_option maxRecDepth 10000
set_option tactic.hygienic false
namespace Mine
theorem noBool_mat:typeLookup (.type "re.Match") "__bool__" =pure none:=by rw [typeLookup_type,builtinLookup_eq_fast];kernel_rfl
theorem noLen_mat:typeLookup (.type "re.Match") "__len__" =pure none:=by rw [typeLookup_type,builtinLookup_eq_fast];kernel_rfl
noncomputable def truG:PV→PM Bool
 | .int a=>ret1 (a != 0)
 | .bool b=>ret1 b
 | .none=>ret1 false
 | .mat _=>ret1 true
 | .cell k=>fun σ=>match cellL k σ with
  | some xs=> .ok (!xs.isEmpty) σ
  | none=> .bad
 | _=>badM
theorem repl_flat (a:Array Nat):∀(n:Nat) (acc:Array Nat),((List.replicate n a).foldl (· ++ ·) acc).toList=acc.toList++(List.replicate n a.toList).flatten
 | 0,acc=>by simp
 | n+1,acc=>by
  rw [List.replicate_succ,List.foldl_cons,repl_flat a n,List.replicate_succ,List.flatten_cons]
  simp
theorem mul_eq (l:List Nat) (n:Int):Txt.mul ⟨l.toArray⟩ n=⟨(List.replicate n.toNat l).flatten.toArray⟩:=by
 unfold Txt.mul
 by_cases h1:n<1
 ·rw [if_pos h1,show n.toNat=0 by exact lin2 (.q .v1 .k0) (.T .v0 .k1) (.N 1 .v0) (.b (.w [1]) (.d 2 (.w [0,1,1,1]) (.w [0,1,1]))) rfl (.z _ (.n1 _)) h1 rfl];rfl
 ·rw [if_neg h1]
  by_cases h2:(n==1||(⟨l.toArray⟩:PySem.Str).length==0)=true
  ·rw [if_pos h2]
   simp only [Bool.or_eq_true,beq_iff_eq] at h2
   rcases h2 with h2 | h2
   ·subst h2;simp
   ·rw [mk_len] at h2
    have:l=[]:=List.length_eq_zero_iff.mp h2
    subst this;simp
  ·rw [if_neg h2]
   have:=repl_flat l.toArray n.toNat #[]
   simp only [List.nil_append] at this
   rw [←this]
noncomputable def mulS:PV→PV→Option PV
 | .str l, .int n=>if l.length≤1000∧n≤1000∧ -1000≤n then some (.str (List.replicate n.toNat l).flatten) else none
 | _,_=>none
section
variable {G:Glb}{fi:FI}
set_option tactic.hygienic true in
theorem op_mulS:Op2 G (binaryOp .Mult) mulS:=by
 intro fi A h₀ L env C held s σ a b va vb c Q E hg R hQ
 obtain ⟨α,N,ra,rb⟩:=inv2 R
 have R':Rel G fi h₀ L σ held s:=R.tail.tail
 unfold mulS at hg
 split at hg
 ·rename_i l n
  obtain ⟨t,rfl⟩:=ra.str_inv;obtain ⟨u,rfl⟩:=rb.int_inv
  split at hg
  ·rename_i hc
   cases hg
   refine wpAny_toks (SB.mul ⟨?_, ?_, ?_⟩ fun t' k hk=> ?_)
   ·simp;exact ⟨lin1 (.L (.g (.k 9223372036854775808)) .v0) (.L (.g (.k 1000)) .v0) (.w [1,1]) rfl (.z _ .o) hc.2.2,lin1 (.T .v0 (.k 9223372036854775808)) (.L .v0 (.k 1000)) (.w [1,1]) rfl (.z _ .o) hc.2.1⟩
   ·intro h1 _
    rw [mk_len]
    have:(2^63-1:Int)/n≥1000:=by
     rw [ge_iff_le,Int.le_ediv_iff_mul_le (by exact lin1 (.T .k0 .v0) (.n (.T .v0 .k1)) (.w [1,1]) rfl (.z _ .o) h1)]
     exact lin1 (.L (.m 1000 .v0) (.s (.k 9223372036854775808) .k1)) (.L .v0 (.k 1000)) (.w [1,1000]) rfl (.z _ .o) hc.2.1
    exact lin2 (.n (.T .v0 (.c .v1))) (.l .v1 (.k 1000)) (.L (.k 1000) .v0) (.w [1,1,1]) rfl (.z _ (.n1 _)) hc.1 this
   ·intro h1 _
    rw [mk_len]
    have:l.length*n.toNat≤1000*1000:=Nat.mul_le_mul hc.1 (by exact lin2 (.l .v1 (.k 1000)) (.L .v0 (.k 1000)) (.N 1 .v0) (.d 2 (.w [0,1,1,1]) (.w [0,1,1])) rfl (.z _ (.n1 _)) hc.2.1 rfl)
    unfold PySem.Builtin.Str.tooLong
    simp
    try rw [sizeLine_eq]
    exact lin1 (.l .v0 (.k 16777216)) (.l .v0 (.m 1000 (.k 1000))) (.w [1,1]) rfl (.n1 _) this
   ·rw [mul_eq]
    exact hQ _ s.heap k ((R'.toks (Nat.lt_of_lt_of_le R.tok hk)).holdP .str)
  ·cases hg
 ·cases hg
set_option tactic.hygienic true in
theorem T_truth {e:Expr}{f:PM PV} (he:EvR G fi e f) (hp:∀env whole,isTrue e env whole=(do let v ←whole;standAt e.pos;holding [v] (truthy v))):TrR G fi e (bnd f truG):=by
 intro A h₀ L env C held s σ c σ' Q E hf R hQ
 obtain ⟨a,σ₁,h1,h2⟩:=bnd_ok hf
 refine isTrue_plain (he A h₀ L env C held s σ a σ₁ _ _ h1 R fun v h' t' R'=> ?_) (hp env _)
 obtain ⟨α,N,r⟩:=inv1 R'
 unfold truG at h2
 split at h2
 ·obtain ⟨rfl,rfl⟩:=ret1_ok h2
  obtain ⟨t,rfl⟩:=r.int_inv
  exact PyProof.Rows.truthy_int (hQ h' t' R'.tail)
 ·obtain ⟨rfl,rfl⟩:=ret1_ok h2
  have:=r.bool_inv;subst this
  exact wpAny_truthy_bool (hQ h' t' R'.tail)
 ·obtain ⟨rfl,rfl⟩:=ret1_ok h2
  have:=r.none_inv;subst this
  exact PyProof.Rows.truthy_none (hQ h' t' R'.tail)
 ·obtain ⟨rfl,rfl⟩:=ret1_ok h2
  obtain ⟨m,α,N,R2⟩:=(fun z=>z) R'
  obtain ⟨a,tp,x,p,i,j,k,st,n,rfl,h1,h2⟩:=Rep.mat_inv (R2.held (_,v) (.head _))
  have hT:(Sh s h' t').TypeIs (.ref a) "re.Match" :=⟨_,(R2.nw _ h1).1,rfl⟩
  unfold truthy
  refine wpAny_bind (wpAny_callSpecial?_none hT noBool_mat ?_)
  refine wpAny_bind (wpAny_specialOf hT noLen_mat ?_)
  exact wpAny_pure (hQ h' t' R'.tail)
 ·rename_i k
  split at h2
  ·rename_i xs hx
   cases h2
   obtain ⟨m,α,N,R2⟩:=(fun z=>z) R'
   obtain ⟨a,ha,rfl⟩:=(R2.held (_,v) (.head _)).cell_inv
   obtain ⟨vs,n,g1,g2,g3,g4,g5⟩:=R2.listAt hx ha
   refine wpAny_truthy_list g5 (by rw [List.size_toArray, ←g2];exact Q12 (.n1 _) g4) ?_
   have e:vs.toArray.isEmpty=xs.isEmpty:=by
    cases xs with
    | nil=>cases vs with
     | nil=>rfl
     | cons _ _=>cases g2
    | cons _ _=>cases vs with
     | nil=>cases g2
     | cons _ _=>simp
   rw [e]
   exact hQ h' _ (R'.tail.toks (Nat.succ_pos _))
  ·cases h2
 ·cases h2
noncomputable def isNG:PV→PV→Option Bool
 | .none, .none=>some true
 | .mat _, .none=>some false
 | _,_=>none
theorem cm_isN:Cmp2 G (compareOp .Is) isNG:=by
 intro fi A h₀ L env C held s σ a b va vb c Q E hg R hQ
 obtain ⟨m,α,N,R2⟩:=(fun z=>z) R
 have ra:=R2.held (a,va) (.tail _ (.head _))
 have rb:=R2.held (b,vb) (.head _)
 have hq:=hQ s.heap s.toks R.tail.tail
 unfold isNG at hg
 split at hg <;> cases hg
 ·have:=ra.none_inv;subst this;have:=rb.none_inv;subst this
  exact wpAny_is_self rfl hq
 ·have:=rb.none_inv;subst this
  obtain ⟨a,tp,x,p,i,j,k,st,n,rfl,h1,h2⟩:=Rep.mat_inv ra
  exact wpAny_is_other rfl (fun e=>nomatch e) hq
noncomputable def delM (fx fj:PM PV):PM Fl:=bnd fx fun o=>bnd fj fun i=>fun σ=>match o,i with
 | .cell k, .int i=>(match cellL k σ with
  | some xs=>(match seqIndex? i xs.length with
   | some j=>if -1000000≤i∧i≤1000000 then .ok .next {σ with cells:=σ.cells.set k (.list (xs.eraseIdx j))} else .bad
   | none=> .bad)
  | none=> .bad)
 | _,_=> .bad
theorem mem_zip_erase {xs:List PV}{vs:List Value}:∀{j:Nat}{p:PV×Value},p∈(xs.eraseIdx j).zip (vs.eraseIdx j)→xs.length=vs.length→p∈xs.zip vs:=by
 induction xs generalizing vs with
 | nil=>intro j p h _;simp at h
 | cons x xs ih=>
  intro j p h hl
  cases vs with
  | nil=>cases hl
  | cons v vs=>
   cases j with
   | zero=>exact .tail _ h
   | succ j=>
    rw [List.eraseIdx_cons_succ,List.eraseIdx_cons_succ,List.zip_cons_cons] at h
    rcases List.mem_cons.mp h with rfl | h
    ·exact .head _
    ·exact .tail _ (ih h (by simpa using hl))
set_option tactic.hygienic true in
theorem X_del {o i:Expr}{dpos pos:Pos}{fx fj:PM PV} (ho:EvR G fi o fx) (hi:EvR G fi i fj):ExR G fi (.Delete [.Subscript o i dpos] pos) (delM fx fj):=by
 intro A h₀ L env C held s σ fl σ' Q E hf R hQ
 refine cps fun GC hGC=> ?_
 obtain ⟨qo,σ₁,h1,hf1⟩:=bnd_ok hf
 obtain ⟨qi,σ₂,h2,hf2⟩:=bnd_ok hf1
 refine hGC ?_
 refine wpAny_Delete (wpAny_deleteEach_cons ?_)
 rw [arm_delete_Subscript]
 refine wpAny_bind (ho A h₀ L env C held s σ qo σ₁ _ _ h1 R fun vo h' t' R1=> ?_)
 refine wpAny_bind (wpAny_holding (hi A h₀ L env C _ _ σ₁ qi σ₂ _ _ h2 R1 fun vi h'' t'' R2=> ?_))
 refine wpAny_bind (wpAny_standAt (wpAny_bind (wpAny_holding ?_)))
 split at hf2
 ·rename_i k i
  split at hf2
  ·rename_i xs hx
   split at hf2
   ·rename_i j hj
    split at hf2
    ·rename_i hb
     cases hf2
     refine cps fun GC hGC=> ?_
     obtain ⟨m,α,N,R3⟩:=R2
     obtain ⟨a,ha,rfl⟩:=(R3.held (_,vo) (.tail _ (.head _))).cell_inv
     obtain ⟨u,rfl⟩:=(R3.held (_,vi) (.head _)).int_inv
     obtain ⟨vs,n,g1,g2,g3,g4,g5⟩:=R3.listAt hx ha
     refine hGC ?_
     have hd:a∈α:=List.mem_of_getElem? ha
     refine delItem_at (k:=j) (R3.nw _ g1).1 (by unfold Builtin.List.listFitsIndex;simp;exact ⟨lin1 (.L (.g (.k 9223372036854775808)) .v0) (.L (.g (.k 1000000)) .v0) (.w [1,1]) rfl (.z _ .o) hb.1,lin1 (.T .v0 (.k 9223372036854775808)) (.L .v0 (.k 1000000)) (.w [1,1]) rfl (.z _ .o) hb.2⟩) (by rw [List.size_toArray, ←g2];exact hj) (fun h3 hs ho3=> ?_) (by rw [List.size_toArray, ←g2];exact sizeMax_le g4)
     refine wpAny_release (wpAny_deleteEach_nil ?_)
     have R4:=R3.setCell (o':=⟨.type "list",none, .seq (vs.eraseIdx j).toArray (n+1), #[]⟩) (c':= .list (xs.eraseIdx j)) (t':=t'') ha g1 ?_ (R3.fr.change hs (R3.notL g1).1 (R3.notL g1).2) (Mine.News.upd R3.nw hs ho3) R3.tok
     ·exact hQ .next h3 t'' ⟨m,α,_,R4.drop fun p hp=> .tail _ (.tail _ hp)⟩
     ·have hjl:j<xs.length:=lt_of_seqIndex hj
      refine ⟨vs.eraseIdx j,n+1,updN_self g1, ?_,fun p hp=>rep_upd hd (g3 p (mem_zip_erase hp g2)), ?_⟩
      ·rw [List.length_eraseIdx_of_lt hjl,List.length_eraseIdx_of_lt (g2▸hjl),g2]
      ·rw [List.length_eraseIdx_of_lt hjl];exact lin2 (.l .v1 (.k 1048576)) (.l .v0 (.k 1048576)) (.b 1 .v0 .k1) (.d 2 (.w [0,1,1,1]) (.w [0,1,1])) rfl (.n2 _ _) g4 rfl
    ·cases hf2
   ·cases hf2
  ·cases hf2
 ·cases hf2
noncomputable def tupG:List PV→PM PV:=g1 fun a=>match a with
 | .cell k=>fun σ=>match cellL k σ with
  | some _=> .ok .other σ
  | none=> .bad
 | _=>badM
theorem tupG_go {k:Nat}{l:List PV}{σ:St} (h:cellL k σ=some l):tupG [.cell k] σ= .ok .other σ:=by
 unfold tupG g1
 dsimp only
 rw [h]
set_option tactic.hygienic true in
theorem b_tuple:BltOp G (.type "tuple") tupG:=by
 intro fi A h₀ L env C held s σ σ' pvs vs c Q E hf hl R hQ
 replace q:=g1_ok hf;clear hf;obtain ⟨a,hf⟩:=q
 cases a with
 | cell k=>
  obtain ⟨v,rfl⟩:=one_arg hl rfl
  replace R:Rel G fi h₀ L σ ((.cell k,v)::held) s:=R
  replace hf:(match cellL k σ with
   | some _=> .ok .other σ
   | none=> .bad)=Res.ok c σ':=hf
  split at hf
  ·rename_i xs hx
   cases hf
   obtain ⟨m,α,N,R2⟩:=R
   obtain ⟨a,ha,rfl⟩:=(R2.held (_,v) (.head _)).cell_inv
   obtain ⟨ws,n,g1,g2,g3,g4,g5⟩:=R2.listAt hx ha
   refine call_tuple_list g5 (fun h' hk=> ?_) (by rw [List.size_toArray, ←g2];exact sizeMax_le g4)
   have R3:=(R2.drop (held':=held) fun p hp=> .tail _ hp).reheap (R2.fr.keeps hk) (fun p hp=>⟨hk _ _ (R2.nw p hp).1,(R2.nw p hp).2⟩) R2.tok
   have R4:=R3.push {cls:= .type "tuple",data:= .seq ws.toArray} rfl
   exact hQ _ _ s.toks ⟨m,α,_,R4.hold .other⟩
  ·cases hf
 | _=>cases hf
end
end Mine
end
section
open PySem PySem.W PySem.Calls PyProof.Rows
set_option maxRecDepth 10000
set_option tactic.hygienic false
namespace Mine
structure Ads where
 C:Addr
 junk:Addr
 chew:Addr
 str:Addr
 sp:Addr
 tab:Addr
noncomputable def fuel:Nat:=1000000
noncomputable def lit (s:String):List Nat:=s.toList.map (·.toNat)
noncomputable abbrev cI (i:Int):PM PV:=pure1 (.int i)
noncomputable abbrev cS (s:String):PM PV:=pure1 (.str (lit s))
noncomputable abbrev incV (i:Nat) (n:Int):PM Fl:=setV i (lift2 addP (vr i) (cI n))
noncomputable abbrev eqM (x y:PM PV):PM Bool:=lift2 eqP x y
noncomputable abbrev blk:List (PM Fl)→PM Fl
 | []=>ret1 .next
 | [x]=>x
 | x::y::r=>seqM x (blk (y::r))
noncomputable def chewS (l:List Nat):Option (Option Nat):=if (l.takeWhile RX.ordin).length=0 then some none else some (some (l.takeWhile RX.ordin).length)
noncomputable def slashS (l:List Nat):Option (Option Nat):=if (l.dropWhile RX.whiteU).head? =some 92 then some (some ((l.takeWhile RX.whiteU).length+1)) else some none
noncomputable def junkS (l:List Nat):Option (Option Nat):=match (l.dropWhile RX.white2).head? with
 | none=>some none
 | some d=>if d=35∨d=10 then none else some none
noncomputable def strS (l:List Nat):Option (Option Nat):=match l.head? with
 | some q=>if q=34∨q=39 then some (some (RX.strN q l)) else none
 | none=>none
theorem ok_chew:ScOk RX.C6 chewS:=by
 intro T lim p l r hl hR h
 have hlen:l.length≤4294967295:=by have:=hR.1;have e:(⟨RX.C6,T,lim,p⟩:RX.En).lim=lim:=rfl;exact lin2 (.l .v0 (.k 4294967295)) (.l .v1 (.k 4000000)) (.q (.a .v2 .v0) .v1) (.w [1,1,1]) rfl (.n3 _ _ _) hl this
 refine ⟨5,by decide, ?_⟩
 have:=RX.chew hR hlen
 unfold chewS at h
 split at h <;> cases h <;> rename_i hz
 ·rw [if_pos hz] at this;exact this
 ·rw [if_neg hz] at this;exact this
theorem ok_slash:ScOk RX.C7 slashS:=by
 intro T lim p l r hl hR h
 have hlen:l.length≤4000000:=by have:=hR.1;have e:(⟨RX.C7,T,lim,p⟩:RX.En).lim=lim:=rfl;exact Q38 (.n3 _ _ _) hl this
 refine ⟨2*l.length+9,by exact lin1 (.l (.a (.m 2 .v0) (.k 9)) (.k 1152921504606846976)) (.l .v0 (.k 4000000)) (.w [1,2]) rfl (.n1 _) hlen, ?_⟩
 have:=RX.slash hR (by exact Q110 (.n1 _) hlen)
 unfold slashS at h
 split at h <;> cases h <;> rename_i hz
 ·rw [if_pos hz] at this;exact this
 ·rw [if_neg hz] at this;exact this
set_option tactic.hygienic true in
theorem ok_junk:ScOk RX.C2 junkS:=by
 intro T lim p l r hl hR h
 have hlen:l.length≤4000000:=by have:=hR.1;have e:(⟨RX.C2,T,lim,p⟩:RX.En).lim=lim:=rfl;exact Q38 (.n3 _ _ _) hl this
 refine ⟨8*l.length+14,by exact lin1 (.l (.a (.m 8 .v0) (.k 14)) (.k 1152921504606846976)) (.l .v0 (.k 4000000)) (.w [1,8]) rfl (.n1 _) hlen, ?_⟩
 have key:(∀d,(l.dropWhile RX.white2).head? =some d→d≠35∧d≠10)∧r=none:=by
  unfold junkS at h
  split at h
  ·rename_i hn
   cases h
   exact ⟨fun d hd=>(by rw [hn] at hd;cases hd),rfl⟩
  ·rename_i d hd
   split at h
   ·cases h
   ·rename_i hz
    cases h
    refine ⟨fun d' hd'=> ?_,rfl⟩
    rw [hd] at hd'
    cases hd'
    lia
 obtain ⟨k1,rfl⟩:=key
 exact RX.junk hR (by exact Q110 (.n1 _) hlen) k1
theorem ok_str:ScOk RX.C3 strS:=by
 intro T lim p l r hl hR h
 have hlen:l.length≤4000000:=by have:=hR.1;have e:(⟨RX.C3,T,lim,p⟩:RX.En).lim=lim:=rfl;exact Q38 (.n3 _ _ _) hl this
 unfold strS at h
 cases l with
 | nil=>cases h
 | cons q l=>
  simp only [List.head?_cons] at h
  split at h
  ·rename_i hq
   cases h
   exact ⟨16*l.length+100,by simp only [List.length_cons] at hlen;exact lin1 (.l (.a (.m 16 .v0) (.k 100)) (.k 1152921504606846976)) (.l (.a .v0 .k1) (.k 4000000)) (.w [1,16]) rfl (.n1 _) hlen,RX.strM hq (by exact lin1 (.l .v0 (.k 4000000)) (.l .v0 (.k 4000000)) (.w [1,1]) rfl (.n1 _) hl) hR⟩
  ·cases h
noncomputable abbrev itm (x i:PM PV):PM PV:=app2 itemP x i
noncomputable abbrev neg1:PM PV:=lift1 negP (cI 1)
noncomputable abbrev lenM (x:PM PV):PM PV:=bnd (evL [x]) lenG
noncomputable abbrev nop:PM Fl:=ret1 .next
noncomputable abbrev mat3 (sc:List Nat→Option (Option Nat)) (fs:List (PM PV)):PM PV:=bnd (evL fs) (fun pvs=>if pvs.length=2∨pvs.length=3 then matG sc pvs else badM)
noncomputable def transF (c:Nat):Nat:=if c=40∨c=123∨c=91 then 40 else if c=41∨c=125∨c=93 then 41 else if c=34∨c=39∨c=92∨c=10∨c=35 then c else 120
noncomputable abbrev s1Str:PM Fl:=blk [
 setV 9 (itm (vr 1) (vr 7)),
 incV 7 1,
 iteM (eqM (vr 9) (cS "x")) (ret1 .cont) nop,
 iteM (eqM (sliceM (vr 1) (lift2 subP (vr 7) (cI 1)) (lift2 addP (vr 7) (vr 12))) (vr 10)) (blk [setV 7 (lift2 addP (vr 7) (vr 12)),ret1 .brk]) nop,
 iteM (eqM (vr 9) (cS "\n")) (blk [incV 4 1,iteM (eqM (vr 12) (cI 0)) (blk [iteM (eqM (vr 3) (cI 0)) (exprM (pushM (vr 6) (vr 4))) nop,ret1 .brk]) nop,ret1 .cont]) nop,
 iteM (eqM (vr 9) (cS "\\")) (blk [assertM (lift2 ltP (vr 7) (vr 8)),iteM (eqM (itm (vr 1) (vr 7)) (cS "\n")) (incV 4 1) nop,incV 7 1,ret1 .cont]) nop]
noncomputable abbrev s1One:PM Fl:=blk [
 setV 9 (itm (vr 1) (vr 7)),
 incV 7 1,
 iteM (eqM (vr 9) (cS "x")) (ret1 .cont) nop,
 iteM (eqM (vr 9) (cS "\n")) (blk [incV 4 1,iteM (eqM (vr 3) (cI 0)) (exprM (pushM (vr 6) (vr 4))) nop,ret1 .cont]) nop,
 iteM (eqM (vr 9) (cS "(")) (blk [incV 3 1,ret1 .cont]) nop,
 iteM (eqM (vr 9) (cS ")")) (blk [iteM (bnd (vr 3) truG) (setV 3 (lift2 subP (vr 3) (cI 1))) nop,ret1 .cont]) nop,
 iteM (orM (eqM (vr 9) (cS "\"")) (eqM (vr 9) (cS "'"))) (blk [
  setV 10 (vr 9),
  iteM (eqM (sliceM (vr 1) (lift2 subP (vr 7) (cI 1)) (lift2 addP (vr 7) (cI 2))) (lift2 mulS (vr 10) (cI 3))) (setV 10 (lift2 mulS (vr 10) (cI 3))) nop,
  setV 11 (vr 4),
  setV 12 (lift2 subP (lenM (vr 10)) (cI 1)),
  setV 7 (lift2 addP (vr 7) (vr 12)),
  whileM fuel (lift2 ltP (vr 7) (vr 8)) s1Str (iteM (eqM (lift2 subP (vr 4) (cI 1)) (vr 11)) (setV 2 (cI 2)) (setV 2 (cI 3))),
  ret1 .cont]) nop,
 iteM (eqM (vr 9) (cS "#")) (blk [setV 7 (bmethM okStr (vr 1) [cS "\n",vr 7] findG),assertM (lift2 geP (vr 7) (cI 0)),ret1 .cont]) nop,
 assertM (eqM (vr 9) (cS "\\")),
 assertM (lift2 ltP (vr 7) (vr 8)),
 iteM (eqM (itm (vr 1) (vr 7)) (cS "\n")) (blk [incV 4 1,iteM (eqM (lift2 addP (vr 7) (cI 1)) (vr 8)) (setV 2 (cI 1)) nop]) nop,
 incV 7 1]
noncomputable abbrev study1F (B:Ads):PM Fl:=blk [
 iteM (lift2 geP (attrM B.C 0 3 (vr 0)) (cI 1)) (ret1 (.ret .none)) nop,
 setAttrM B.C 0 3 (cI 1) (vr 0),
 setV 1 (attrM B.C 0 2 (vr 0)),
 setV 1 (bmethM okStr (vr 1) [pure1 (.glob (.ref B.tab))] (trG B.tab transF)),
 setV 1 (lift1 (repG (lit "xxxxxxxx") (lit "x")) (vr 1)),
 setV 1 (lift1 (repG (lit "xxxx") (lit "x")) (vr 1)),
 setV 1 (lift1 (repG (lit "xx") (lit "x")) (vr 1)),
 setV 1 (lift1 (repG (lit "xx") (lit "x")) (vr 1)),
 setV 1 (lift1 (repG (lit "\nx") (lit "\n")) (vr 1)),
 setV 2 (cI 0),
 set2M (setG 3) (setG 4) (cI 0),
 set2M (attrSG B.C 0 4 (vr 0)) (setG 5) (cellM [cI 0]),
 setV 6 (bnd (vr 5) bmG),
 swap2M 7 8 (cI 0) (lenM (vr 1)),
 whileM fuel (lift2 ltP (vr 7) (vr 8)) s1One nop,
 iteM (andM (lift2 neP (vr 2) (cI 2)) (andM (lift2 neP (vr 2) (cI 3)) (lift2 gtP (vr 3) (cI 0)))) (setV 2 (cI 4)) nop,
 setAttrM B.C 0 5 (vr 2) (vr 0),
 assertM (eqM (ofB (eqM (vr 2) (cI 0))) (ofB (eqM (itm (vr 5) neg1) (vr 4)))),
 iteM (lift2 neP (itm (vr 5) neg1) (vr 4)) (exprM (pushM (vr 6) (vr 4))) nop]
noncomputable abbrev s2Back:PM Fl:=blk [
 assertM (bnd (vr 4) truG),
 setV 5 (vr 4),
 forM (rngM (itm (vr 2) (lift2 subP (vr 3) (cI 1))) (itm (vr 2) (vr 3))) (setG 6) (setV 4 (lift2 addP (bmethM okStr (vr 1) [cS "\n",cI 0,lift2 subP (vr 4) (cI 1)] rfindG) (cI 1))),
 iteM (bnd (mat3 junkS [vr 1,vr 4]) truG) (setV 3 (lift2 subP (vr 3) (cI 1))) (ret1 .brk)]
noncomputable abbrev brk2 (x:PM PV):PM Fl:=exprM (bmethM okList (vr 10) [x] appendG)
noncomputable abbrev pairM (x y:PM PV):PM PV:=tupM true [x,y]
noncomputable abbrev s2One:PM Fl:=blk [
 setV 11 (mat3 chewS [vr 1,vr 4,vr 5]),
 iteM (bnd (vr 11) truG) (blk [
  setV 12 (bmethM okMat (vr 11) [] endG),
  setV 3 (lift2 subP (vr 12) (cI 1)),
  whileM fuel (andM (lift2 geP (vr 3) (vr 4)) (lift2 inP (itm (vr 1) (vr 3)) (cS " \t\n"))) (setV 3 (lift2 subP (vr 3) (cI 1))) nop,
  iteM (lift2 geP (vr 3) (vr 4)) (setV 7 (itm (vr 1) (vr 3))) nop,
  setV 4 (vr 12),
  iteM (lift2 geP (vr 4) (vr 5)) (ret1 .brk) nop]) nop,
 setV 13 (itm (vr 1) (vr 4)),
 iteM (lift2 inP (vr 13) (cS "([{")) (blk [exprM (pushM (vr 9) (vr 4)),brk2 (pairM (vr 4) (lenM (vr 8))),setV 7 (vr 13),incV 4 1,ret1 .cont]) nop,
 iteM (lift2 inP (vr 13) (cS ")]}")) (blk [iteM (bnd (vr 8) truG) (delM (vr 8) neg1) nop,setV 7 (vr 13),incV 4 1,brk2 (pairM (vr 4) (lenM (vr 8))),ret1 .cont]) nop,
 iteM (orM (eqM (vr 13) (cS "\"")) (eqM (vr 13) (cS "'"))) (blk [brk2 (pairM (vr 4) (lift2 addP (lenM (vr 8)) (cI 1))),setV 7 (vr 13),setV 4 (bmethM okMat (mat3 strS [vr 1,vr 4,vr 5]) [] endG),brk2 (pairM (vr 4) (lenM (vr 8))),ret1 .cont]) nop,
 iteM (eqM (vr 13) (cS "#")) (blk [brk2 (pairM (vr 4) (lift2 addP (lenM (vr 8)) (cI 1))),setV 4 (lift2 addP (bmethM okStr (vr 1) [cS "\n",vr 4,vr 5] findG) (cI 1)),assertM (lift2 gtP (vr 4) (cI 0)),brk2 (pairM (vr 4) (lenM (vr 8))),ret1 .cont]) nop,
 assertM (eqM (vr 13) (cS "\\")),
 incV 4 1,
 assertM (lift2 ltP (vr 4) (vr 5)),
 iteM (lift2 neP (itm (vr 1) (vr 4)) (cS "\n")) (setV 7 (lift2 addP (vr 13) (itm (vr 1) (vr 4)))) nop,
 incV 4 1]
noncomputable abbrev study2F (B:Ads):PM Fl:=blk [
 iteM (lift2 geP (attrM B.C 0 3 (vr 0)) (cI 2)) (ret1 (.ret .none)) nop,
 exprM (methM B.C 0 (vr 0) [] (callF 13 (study1F B))),
 setAttrM B.C 0 3 (cI 2) (vr 0),
 swap2M 1 2 (attrM B.C 0 2 (vr 0)) (attrM B.C 0 4 (vr 0)),
 setV 3 (lift2 subP (lenM (vr 2)) (cI 1)),
 setV 4 (lenM (vr 1)),
 whileM fuel (bnd (vr 3) truG) s2Back nop,
 iteM (eqM (vr 3) (cI 0)) (blk [assertM (eqM (vr 4) (cI 0)),setV 5 (vr 4)]) nop,
 unp2M (attrSG B.C 0 6 (vr 0)) (attrSG B.C 0 7 (vr 0)) (vr 4) (vr 5),
 setV 7 (cS ""),
 setV 8 (cellM []),
 setV 9 (bnd (vr 8) bmG),
 setV 10 (cellM [pairM (vr 4) (cI 0)]),
 whileM fuel (lift2 ltP (vr 4) (vr 5)) s2One nop,
 setAttrM B.C 0 8 (vr 7) (vr 0),
 setAttrM B.C 0 9 (iteM (bnd (vr 8) truG) (itm (vr 8) neg1) (pure1 .none)) (vr 0),
 setAttrM B.C 0 10 (bnd (evL [vr 10]) tupG) (vr 0)]
noncomputable abbrev compW (B:Ads):PM Fl:=whileM fuel (lift2 ltP (vr 2) (vr 4)) (blk [
  setV 7 (app2 itemP (vr 1) (vr 2)),
  iteM (lift2 inP (vr 7) (cS "([{")) (blk [incV 6 1,incV 2 1])
  (iteM (lift2 inP (vr 7) (cS ")]}")) (blk [iteM (bnd (vr 6) truG) (setV 6 (lift2 subP (vr 6) (cI 1))) (ret1 .next),incV 2 1])
  (iteM (orM (eqM (vr 7) (cS "\"")) (eqM (vr 7) (cS "'"))) (setV 2 (bmethM okMat (mat3 strS [vr 1,vr 2,vr 4]) [] endG))
  (iteM (eqM (vr 7) (cS "#")) (ret1 .brk)
  (iteM (andM (eqM (vr 6) (cI 0)) (andM (eqM (vr 7) (cS "=")) (andM (orM (eqM (vr 2) (cI 0)) (lift2 ninP (app2 itemP (vr 1) (lift2 subP (vr 2) (cI 1))) (cS "=<>!"))) (lift2 neP (app2 itemP (vr 1) (lift2 addP (vr 2) (cI 1))) (cS "=")))))
   (blk [setV 5 (cI 1),ret1 .brk])
   (incV 2 1)))))]) (ret1 .next)
noncomputable abbrev computeF (B:Ads):PM Fl:=blk [
 exprM (methM B.C 0 (vr 0) [] (callF 14 (study2F B))),
 assertM (eqM (attrM B.C 0 5 (vr 0)) (cI 1)),
 setV 1 (attrM B.C 0 2 (vr 0)),
 setV 2 (attrM B.C 0 6 (vr 0)),
 whileM fuel (lift2 inP (app2 itemP (vr 1) (vr 2)) (cS " \t")) (incV 2 1) (ret1 .next),
 setV 3 (vr 2),
 setV 4 (lift2 addP (bmethM okStr (vr 1) [cS "\n",vr 3] findG) (cI 1)),
 set2M (setG 5) (setG 6) (cI 0),
 compW B,
 iteM (bnd (vr 5) truG) (blk [incV 2 1,setV 5 (ofB (lift2 isNG (bmethM (okPat B.sp) (pure1 (.glob (.ref B.sp))) [sliceM (vr 1) (vr 2) (vr 4)] (patG B.sp slashS)) (pure1 .none)))]) (ret1 .next),
 iteM (notM (bnd (vr 5) truG)) (blk [setV 2 (vr 3),whileM fuel (lift2 ninP (app2 itemP (vr 1) (vr 2)) (cS " \t\n")) (incV 2 1) (ret1 .next)]) (ret1 .next),
 retM (lift2 addP (bnd (evL [bmethM okStr (sliceM (vr 1) (attrM B.C 0 6 (vr 0)) (vr 2)) [attrM B.C 0 1 (vr 0)] expG]) lenG) (cI 1))]
end Mine
end
section
open PySem PySem.W PySem.Calls PyProof.Rows
set_option maxRecDepth 100000
set_option tactic.hygienic false
namespace Mine
variable {C f:Addr}{id j nv:Nat}{name:PySem.Str}{apos pos:Pos}{o:Expr}{fo:PM PV}{fj:FI}{body:List Stmt}{F:PM Fl}{args:List Expr}{fs:List (PM PV)}
noncomputable def bodyAt (K:Frag) (a:Addr):List Stmt:=match K.lookup a with
 | some ⟨_,_, .func fd,_⟩=>(match fd.body with | .stmts b=>b | _=>[])
 | _=>[]
noncomputable def scopeAt (K:Frag) (a:Addr):Option Scope:=match K.lookup a with
 | some ⟨_,_, .func fd,_⟩=>some fd.scope
 | _=>none
structure AttrOk (G:Glb) (C:Addr) (id j:Nat) (name:PySem.Str):Prop where
 hj:(G.tabs.t id)[j]? =some name
 hg:plainGet G.K C name=true
 hh:hasDictIn G.K C=true
 ha:findIn G.K (.ref C) name=some none
 hs:findIn G.K (.ref C) "__setattr__" =some (some (.builtin "object.__setattr__"))
 hp:plainOver G.K C=true
 ht:takerIn G.K C name=some none
section
variable {G:Glb}{fi:FI}
theorem R_attrO {x:PySem.Str}{xp:Pos}{fx:PM PV} (hx:EvR G fi (.Name x xp) fx) (h:AttrOk G C id j name)
  (hbase:∀env,eval (.Attribute (.Name x xp) name pos) env=(do let o ←eval (.Name x xp) env;standAt pos.atName;let r ←holding [o] (getAttr o name true);letTemporaryGo (.Name x xp) o r;pure r)):
  EvR G fi (.Attribute (.Name x xp) name pos) (attrM C id j fx):=R_attr hx h.hj h.hg h.hh h.ha rfl hbase
theorem X_setAttrO {e:Expr}{pos':Pos}{fe:PM PV} (ho:EvR G fi o fo) (he:EvR G fi e fe) (h:AttrOk G C id j name)
  (hsw:∀env,swapsWith e (some (.Attribute o name pos')) pos.line env=pure false):ExR G fi (.Assign [.Attribute o name pos'] e pos) (setAttrM C id j fe fo):=X_setAttr ho he h.hj h.hs h.hp h.ht h.hh hsw
theorem A_attrO (ho:EvR G fi o fo) (h:AttrOk G C id j name):AsgR G fi (.Attribute o name pos) (attrSG C id j fo):=A_attr ho h.hj h.hs h.hp h.ht h.hh
end
section
variable {G:Glb}{fi:FI}
theorem R_methF {params:List PySem.Str}
  (hg:plainGet G.K C name=true) (hf:findIn G.K (.ref C) name=some (some (.ref f))) (hfn:isFn G.K (.ref f)=true) (hk:keepIn G.K (.ref f)=true) (hnot:name∉G.tabs.t id)
  (HF:FnAt G fj f params body) (HB:ExsR G fj body F) (ho:EvR G fi o fo) (hbase:∀env,attributeBase o name env (eval o env)=eval o env) (hline:(apos.endLine==pos.line)=true) (hlen:fs.length<29)
  (H:EvsR G fi args fs) (hlv:fj.lv<fi.lv) (hn:fs.length+1=params.length) (hnv:fj.vnames.length=nv):
  EvR G fi (.Call (.Attribute o name apos) args [] pos) (methM C id fo fs (callF nv F)):=by
 subst hnv
 exact R_meth (T:=false) ho hbase hline hlen hg hf hfn hk hnot H HF HB hlv hn
theorem R_methT {params:List PySem.Str}
  (hg:plainGet G.K C name=true) (hf:findIn G.K (.ref C) name=some (some (.ref f))) (hfn:isFn G.K (.ref f)=true) (hk:keepIn G.K (.ref f)=true) (hnot:name∉G.tabs.t id)
  (HF:FnAt G fj f params body) (HB:ExsR G fj body F) (ho:EvR G fi o fo) (hbase:∀env,attributeBase o name env (eval o env)=eval o env) (hline:(apos.endLine==pos.line)=true) (hlen:fs.length<29)
  (H:EvsR G fi args fs) (hlv:fj.lv<fi.lv) (hn:fs.length+1=params.length) (hnv:fj.vnames.length=nv):
  EvR G fi (.Call (.Attribute o name apos) args [] pos) (methM C id fo fs (callT nv F)):=by
 subst hnv
 exact R_meth (T:=true) ho hbase hline hlen hg hf hfn hk hnot H HF HB hlv hn
end
structure PF (G:Glb) (B:Ads):Prop where
 indentwidth:AttrOk G B.C 0 0 "indentwidth"
 tabwidth:AttrOk G B.C 0 1 "tabwidth"
 code:AttrOk G B.C 0 2 "code"
 study_level:AttrOk G B.C 0 3 "study_level"
 goodlines:AttrOk G B.C 0 4 "goodlines"
 continuation:AttrOk G B.C 0 5 "continuation"
 stmt_start:AttrOk G B.C 0 6 "stmt_start"
 stmt_end:AttrOk G B.C 0 7 "stmt_end"
 lastch:AttrOk G B.C 0 8 "lastch"
 lastopen:AttrOk G B.C 0 9 "lastopenbracketpos"
 bracketing:AttrOk G B.C 0 10 "stmt_bracketing"
 cNone:∃t,nsIn G.K mainGlobals "C_NONE" =some (some (.int 0 t))
 cBack:∃t,nsIn G.K mainGlobals "C_BACKSLASH" =some (some (.int 1 t))
 cFirst:∃t,nsIn G.K mainGlobals "C_STRING_FIRST_LINE" =some (some (.int 2 t))
 cNext:∃t,nsIn G.K mainGlobals "C_STRING_NEXT_LINES" =some (some (.int 3 t))
 cBra:∃t,nsIn G.K mainGlobals "C_BRACKET" =some (some (.int 4 t))
 trans:nsIn G.K mainGlobals "trans" =some (some (.ref B.tab))
 junk:nsIn G.K mainGlobals "_junkre" =some (some (.ref B.junk))
 chew:nsIn G.K mainGlobals "_chew_ordinaryre" =some (some (.ref B.chew))
 str:nsIn G.K mainGlobals "_match_stringre" =some (some (.ref B.str))
 len:nsIn G.K mainGlobals "len" =some Option.none
 range:nsIn G.K mainGlobals "range" =some Option.none
 tuple:nsIn G.K mainGlobals "tuple" =some Option.none
 junkK:∃P,PatK G.K P RX.C2∧G.K.lookup B.junk=some {cls:= .type "builtin_function_or_method",data:= .fields #[.builtin "re.Pattern.match", .ref P]}
 chewK:∃P,PatK G.K P RX.C6∧G.K.lookup B.chew=some {cls:= .type "builtin_function_or_method",data:= .fields #[.builtin "re.Pattern.match", .ref P]}
 strK:∃P,PatK G.K P RX.C3∧G.K.lookup B.str=some {cls:= .type "builtin_function_or_method",data:= .fields #[.builtin "re.Pattern.match", .ref P]}
 spK:PatK G.K B.sp RX.C7
 trK:∃C',TransAt G.K B.tab C' transF
noncomputable abbrev matF (sc:List Nat→Option (Option Nat)):List PV→PM PV:=fun pvs=>if pvs.length=2∨pvs.length=3 then matG sc pvs else badM
theorem bmK {G:Glb}{B:Addr}{C:Array Nat}{sc:List Nat→Option (Option Nat)} (hs:ScOk C sc) (h:∃P,PatK G.K P C∧G.K.lookup B=some {cls:= .type "builtin_function_or_method",data:= .fields #[.builtin "re.Pattern.match", .ref P]}):
  CWith G (.ref B)∧BltOp G (.ref B) (matF sc):=let ⟨_,h1,h2⟩:=h;⟨cw_patB h2,b_patB hs h1 h2⟩
end Mine
end
section
open PySem PySem.W PySem.Calls PyProof.Rows
set_option maxRecDepth 10000
set_option tactic.hygienic false
namespace Mine
variable {σ:St}{α:List Addr}{N:List (Addr×Obj)}{v:Value}{l r:Expr}{pos:Pos}{fl fr:PM PV}{a:Addr}
noncomputable def listV (σ:St):PV→Option (List PV)
 | .cell k=>cellL k σ
 | .seq false xs=>if xs.length≤sizeMax then some xs else none
 | _=>none
section
variable {G:Glb}{fi:FI}
inductive LstAt (s:Shared) (α:List Addr) (N:List (Addr×Obj)) (xs:List PV) (v:Value):Prop
 | mk (a:Addr) (vs:List Value) (n:Nat) (e:v= .ref a) (h1:(a,(⟨.type "list",Option.none, .seq vs.toArray n, #[]⟩:Obj))∈N) (h2:xs.length=vs.length) (h3:∀p∈xs.zip vs,Rep α N p.1 p.2) (h4:xs.length≤sizeMax) (h5:s.heap.IsList a vs.toArray):LstAt s α N xs v
set_option tactic.hygienic true in
theorem RelAt.lst {h₀:Heap}{L:Addr}{held:List (PV×Value)}{m:PySem.Str→Option Value}{s:Shared} (R:RelAt G fi h₀ L σ held m α N s) {pv:PV}{xs:List PV}
  (h:listV σ pv=some xs) (hr:Rep α N pv v):LstAt s α N xs v:=by
 unfold listV at h
 split at h
 ·rename_i k
  refine cps fun GC hGC=> ?_
  obtain ⟨a,ha,rfl⟩:=hr.cell_inv
  obtain ⟨vs,n,h1,h2,h3,h4,h5⟩:=R.listAt h ha
  refine hGC ?_
  exact ⟨a,vs,n,rfl,h1,h2,h3,h4,h5⟩
 ·rename_i ys
  split at h
  ·rename_i hz
   cases h
   refine cps fun GC hGC=> ?_
   obtain ⟨a,vs,n,rfl,h1,_,h2,h3⟩:=hr.seq_inv
   refine hGC ?_
   exact ⟨a,vs,n,rfl,h1,h2,h3,hz,⟨_,(R.nw _ h1).1,rfl,n,rfl⟩⟩
  ·cases h
 ·cases h
theorem R_binM {op:Operator}{g:PV→PV→PM PV} (hop:Op2M G (binaryOp op) g) (hl:EvR G fi l fl) (hr:EvR G fi r fr):EvR G fi (.BinOp l op r pos) (app2 g fl fr):=by
 intro A h₀ L env C held s σ pv σ' Q E hf R hQ
 refine cps fun GC hGC=> ?_
 obtain ⟨a,σ₁,h1,hf1⟩:=bnd_ok hf
 obtain ⟨b,σ₂,h2,h3⟩:=bnd_ok hf1
 refine hGC ?_
 refine wpAny_BinOp (hl A h₀ L env C held s σ a σ₁ _ _ h1 R fun va h' t' R1=> ?_)
 refine hr A h₀ L env C _ _ σ₁ b σ₂ _ _ h2 R1 fun vb h'' t'' R2=> ?_
 exact hop fi A h₀ L env C held _ σ₂ a b va vb pv σ' _ _ h3 R2 fun v h3 t3 R3=>hQ v h3 t3 R3
noncomputable def Cmp2M (G:Glb) (t:Value→Value→Sem Value) (g:PV→PV→St→Option Bool):Prop:=
 ∀(fi:FI) (A:Around) (h₀:Heap) (L:Addr) (env:Env),Cx G fi A h₀ L env→∀(held:List (PV×Value)) (s:Shared) (σ:St) (a b:PV) (va vb:Value) (c:Bool) (Q:Value→Shared→Prop) (E:Value→Shared→Prop),
  g a b σ=some c→Rel G fi h₀ L σ ((b,vb)::(a,va)::held) s→(∀h' t',Rel G fi h₀ L σ held (Sh s h' t')→Q (.bool c) (Sh s h' t'))→wpAny (model G.prog G.w) A (t va vb) Q E s
noncomputable def cmpM (g:PV→PV→St→Option Bool) (x y:PM PV):PM Bool:=bnd x fun a=>bnd y fun b=>fun σ=>match g a b σ with
 | some c=> .ok c σ
 | none=> .bad
set_option tactic.hygienic true in
theorem T_cmpM {op:CmpOp}{g:PV→PV→St→Option Bool} (hop:Cmp2M G (compareOp op) g) (hl:EvR G fi l fl) (hr:EvR G fi r fr) (hm:behindInMarks op r=false):
  TrR G fi (.Compare l [op] [r] pos) (cmpM g fl fr):=by
 intro A h₀ L env C held s σ c σ' Q E hf R hQ
 refine cps fun GC hGC=> ?_
 obtain ⟨a,σ₁,h1,hf1⟩:=bnd_ok hf
 obtain ⟨b,σ₂,h2,h3⟩:=bnd_ok hf1
 refine hGC ?_
 refine wpAny_isTrue_Compare1 (hl A h₀ L env C held s σ a σ₁ _ _ h1 R fun va h' t' R1=> ?_) hm
 refine hr A h₀ L env C _ _ σ₁ b σ₂ _ _ h2 R1 fun vb h'' t'' R2=> ?_
 split at h3
 ·rename_i c' e
  cases h3
  exact hop fi A h₀ L env C held _ _ a b va vb c _ _ e R2 fun h3 t3 R3=>wpAny_truthy_bool (hQ h3 t3 R3)
 ·cases h3
noncomputable def catG (a b:PV):PM PV:=fun σ=>match listV σ a,listV σ b with
 | some xs,some ys=>if xs.length+ys.length≤sizeMax then .ok (.seq false (xs++ys)) σ else .bad
 | _,_=> .bad
set_option tactic.hygienic true in
theorem op_cat:Op2M G (binaryOp .Add) catG:=by
 intro fi A h₀ L env C held s σ a b va vb c σ' Q E hg R hQ
 unfold catG at hg
 split at hg
 ·rename_i xs ys e1 e2
  split at hg
  ·rename_i hz
   cases hg
   refine cps fun GC hGC=> ?_
   obtain ⟨m,α,N,R'⟩:=R
   obtain ⟨x,vs,n,rfl,h1,h2,h3,h4,h5⟩:=R'.lst e1 (R'.held (a,va) (.tail _ (.head _)))
   obtain ⟨y,ws,k,rfl,q1,q2,q3,q4,q5⟩:=R'.lst e2 (R'.held (b,vb) (.head _))
   refine hGC ?_
   have hlen:(xs++ys).length=(vs++ws).length:=by rw [List.length_append,List.length_append,h2,q2]
   have hrep:∀p∈(xs++ys).zip (vs++ws),Rep α N p.1 p.2:=by
    intro p hp
    rw [List.zip_append h2] at hp
    rcases List.mem_append.mp hp with hp | hp
    ·exact h3 p hp
    ·exact q3 p hp
   have key:=(R'.drop (held':=held) fun p hp=> .tail _ (.tail _ hp)).pushSeq (tup:=false) hlen hrep
   refine add_arrays (its:=vs.toArray) (its2:=ws.toArray) R'.fr R'.nw h5 q5 (fun h' F' N'=> ?_) (by rw [List.size_toArray,List.size_toArray, ←h2, ←q2];exact sizeMax_le hz)
   have hR:RelAt G fi h₀ L σ ((.seq false (xs++ys), .ref s.heap.objs.size)::held) m α ((s.heap.objs.size,(⟨.type "list",Option.none, .seq (vs++ws).toArray 0, #[]⟩:Obj))::N) {s with heap:=h'}:=
    ⟨F',N',key.nd,key.an,key.len,key.cells,key.vars,key.held,key.tok,key.vlen,key.pin⟩
   exact hQ _ h' s.toks ⟨_,_,_,hR⟩
  ·cases hg
 ·cases hg
noncomputable def strL:List PV→Option (List (List Nat))
 | []=>some []
 | .str l::r=>(strL r).map (l :: ·)
 | _::_=>none
theorem strs_are:∀{xs:List PV}{vs:List Value}{ls:List (List Nat)},strL xs=some ls→xs.length=vs.length→(∀p∈xs.zip vs,Rep α N p.1 p.2)→StrsAre vs (ls.map fun l=>(⟨l.toArray⟩:PySem.Str))
 | [],[],ls,h,_,_=>by cases h;exact .nil
 | [],_::_,_,_,h,_=>by cases h
 | .str l::r,[],_,_,h,_=>by cases h
 | .str l::r,v::vs,ls,h,hl,hr=>by
  unfold strL at h
  cases e:strL r with
  | none=>rw [e] at h;cases h
  | some ms=>
   rw [e] at h
   cases h
   obtain ⟨t,rfl⟩:=(hr (.str l,v) (.head _)).str_inv
   exact .cons _ _ (strs_are e (by simpa using hl) fun p hp=>hr p (.tail _ hp))
 | .none::_,_,_,h,_,_=>by cases h
 | .bool _::_,_,_,h,_,_=>by cases h
 | .int _::_,_,_,h,_,_=>by cases h
 | .cell _::_,_,_,h,_,_=>by cases h
 | .inst _ _::_,_,_,h,_,_=>by cases h
 | .seq _ _::_,_,_,h,_,_=>by cases h
 | .mat _::_,_,_,h,_,_=>by cases h
 | .bm _::_,_,_,h,_,_=>by cases h
 | .glob _::_,_,_,h,_,_=>by cases h
 | .other::_,_,_,h,_,_=>by cases h
 | .unb::_,_,_,h,_,_=>by cases h
noncomputable def inLG (a b:PV) (σ:St):Option Bool:=match a,listV σ b with
 | .str x,some ys=>(strL ys).map fun ls=>ls.contains x
 | _,_=>none
theorem any_mk (x:List Nat):∀ls:List (List Nat),((ls.map fun l=>(⟨l.toArray⟩:PySem.Str)).any (· == ⟨x.toArray⟩))=ls.contains x
 | []=>rfl
 | l::r=>by
  rw [List.map_cons,List.any_cons,any_mk x r,mk_beq,List.contains_cons]
  congr 1
  rw [Bool.eq_iff_iff,beq_iff_eq,beq_iff_eq]
  exact eq_comm
set_option tactic.hygienic true in
theorem cm_inL:Cmp2M G (compareOp .In) inLG:=by
 intro fi A h₀ L env C held s σ a b va vb c Q E hg R hQ
 unfold inLG at hg
 split at hg
 ·rename_i x ys e
  cases e2:strL ys with
  | none=>rw [e2] at hg;cases hg
  | some ls=>
   rw [e2] at hg
   simp only [Option.map_some,Option.some.injEq] at hg
   subst hg
   refine cps fun GC hGC=> ?_
   obtain ⟨m,α,N,R'⟩:=R
   obtain ⟨t,rfl⟩:=(R'.held (_,va) (.tail _ (.head _))).str_inv
   obtain ⟨y,ws,k,rfl,q1,q2,q3,q4,q5⟩:=R'.lst e (R'.held (b,vb) (.head _))
   refine hGC ?_
   refine in_list_strs q5 (strs_are e2 q2 q3) ?_
   rw [any_mk]
   exact hQ s.heap s.toks ⟨m,α,N,R'.drop fun p hp=> .tail _ (.tail _ hp)⟩
 ·cases hg
noncomputable def neLG (a b:PV) (σ:St):Option Bool:=match listV σ a,listV σ b with
 | some xs,some ys=>if xs.length≠ys.length then some true else if xs.length=0 then some false else none
 | _,_=>none
set_option tactic.hygienic true in
theorem cm_neL:Cmp2M G (compareOp .NotEq) neLG:=by
 intro fi A h₀ L env C held s σ a b va vb c Q E hg R hQ
 unfold neLG at hg
 have hu:A.units<cLine:=Nat.lt_of_lt_of_le (Nat.lt_of_le_of_lt (Nat.le_add_right _ _) C.un) (by decide)
 split at hg
 ·rename_i xs ys e1 e2
  refine cps fun GC hGC=> ?_
  obtain ⟨m,α,N,R'⟩:=R
  obtain ⟨x,vs,n,rfl,h1,h2,h3,h4,h5⟩:=R'.lst e1 (R'.held (a,va) (.tail _ (.head _)))
  obtain ⟨y,ws,k,rfl,q1,q2,q3,q4,q5⟩:=R'.lst e2 (R'.held (b,vb) (.head _))
  refine hGC ?_
  have hq:=hQ s.heap s.toks ⟨m,α,N,R'.drop fun p hp=> .tail _ (.tail _ hp)⟩
  split at hg
  ·rename_i hne
   cases hg
   exact cmp_ofNotEq (SeqAt.RcNeAt.lists_lengths h5 q5 (by rw [bne_iff_ne,List.size_toArray,List.size_toArray, ←h2, ←q2];exact hne) hu G.prog G.w E Q hq)
  ·rename_i heq
   split at hg
   ·rename_i hz
    cases hg
    have z1:vs=[]:=List.length_eq_zero_iff.mp (by exact lin2 (.q .v0 .k0) (.q .v1 .v0) (.q .v1 .k0) (.b (.w [1,1, -1]) (.w [1, -1,1])) rfl (.n2 _ _) h2 hz)
    have z2:ws=[]:=List.length_eq_zero_iff.mp (by exact lin3 (.q .v0 .k0) (.q .v1 .v0) (.n (.n (.q .v2 .v1))) (.q .v2 .k0) (.b (.w [1,1,1, -1]) (.w [1, -1, -1,1])) rfl (.n3 _ _ _) q2 heq hz)
    subst z1;subst z2
    exact cmp_ofNotEq (SeqAt.RcNeAt.lists (e:=fun _=>true) h5 q5 rfl hu (fun j h1 _=>absurd h1 (by simp)) G.prog G.w E Q hq)
   ·cases hg
 ·cases hg
noncomputable def joinT (z:List Nat):List (List Nat)→List Nat
 | []=>[]
 | [x]=>x
 | x::y::r=>x++(z++joinT z (y::r))
noncomputable def joinG:List PV→PM PV:=g2 fun a b=>onS (fun x=>fun σ=>match listV σ b with
  | some ys=>(match strL ys with
   | some ls=>if x.length≤10∧(ls.map (·.length)).sum+ls.length*x.length≤65536 then .ok (.str (joinT x ls)) σ else .bad
   | none=> .bad)
  | none=> .bad) a
theorem joinG_go {x:List Nat}{b:PV}{ys:List PV}{ls:List (List Nat)} (h1:listV σ b=some ys) (h2:strL ys=some ls) (h3:x.length≤10∧(ls.map List.length).sum+ls.length*x.length≤65536):joinG [.str x,b] σ= .ok (.str (joinT x ls)) σ:=by
 unfold joinG g2 g1 onS
 dsimp only
 rw [h1]
 dsimp only
 rw [h2]
 exact if_pos h3
theorem joinT_of (z:PySem.Str):∀ps:List PySem.Str,(PySem.Str.join z ps).cps.toList=joinT z.cps.toList (ps.map fun p=>p.cps.toList)
 | []=>rfl
 | [x]=>rfl
 | x::y::r=>by
  have ih:=joinT_of z (y::r)
  show (x++z++PySem.Str.join z (y::r)).cps.toList=x.cps.toList++(z.cps.toList++joinT z.cps.toList ((y::r).map fun p=>p.cps.toList))
  rw [←ih,PySem.Str.cps_append,PySem.Str.cps_append]
  simp
theorem join_eq (x:List Nat) (ls:List (List Nat)):Txt.join ⟨x.toArray⟩ (ls.map fun l=>(⟨l.toArray⟩:PySem.Str))=⟨(joinT x ls).toArray⟩:=by
 unfold Txt.join
 rw [StrLaws.glued_eq_join]
 have h:=joinT_of ⟨x.toArray⟩ (ls.map fun l=>(⟨l.toArray⟩:PySem.Str))
 rw [List.map_map] at h
 have e:ls.map ((fun p:PySem.Str=>p.cps.toList)∘fun l=>(⟨l.toArray⟩:PySem.Str))=ls:=by
  rw [show ((fun p:PySem.Str=>p.cps.toList)∘fun l:List Nat=>(⟨l.toArray⟩:PySem.Str))=id from funext fun l=>by simp]
  simp
 rw [e] at h
 cases hj:PySem.Str.join ⟨x.toArray⟩ (ls.map fun l=>(⟨l.toArray⟩:PySem.Str)) with
 | mk c=>
  rw [hj] at h
  have h':c.toList=joinT x ls:=h
  rw [←h']
set_option tactic.hygienic true in
theorem b_join:BltOp G (.builtin "str.join") joinG:=by
 intro fi A h₀ L env C held s σ σ' pvs vs c Q E hf hl R hQ
 replace q:=g2_ok hf;clear hf;obtain ⟨_,b,hf⟩:=q
 replace q:=onS_ok hf;clear hf;obtain ⟨x,hf⟩:=q
 ·obtain ⟨v1,v2,rfl⟩:=two_args hl rfl
  replace R:Rel G fi h₀ L σ ((.str x,v1)::(b,v2)::held) s:=R
  split at hf
  ·rename_i ys e
   split at hf
   ·rename_i ls e2
    split at hf
    ·rename_i hc
     cases hf
     obtain ⟨m,α,N,R'⟩:=id R
     obtain ⟨t,rfl⟩:=(R'.held (_,v1) (.head _)).str_inv
     obtain ⟨y,ws,k,rfl,q1,q2,q3,q4,q5⟩:=R'.lst e (R'.held (b,v2) (.tail _ (.head _)))
     have hlen:((ls.map fun l=>(⟨l.toArray⟩:PySem.Str)).map (·.length)).sum=(ls.map (·.length)).sum:=by
      rw [List.map_map];congr 1
     refine wpAny_toks (join_list q5 (strs_are e2 q2 q3) (by rw [hlen,mk_len,List.length_map];exact lin1 (.l (.a .v0 .v1) (.k 16777216)) (.l (.a .v0 .v1) (.k 65536)) (.w [1,1]) rfl (.n2 _ _) hc.2) fun t' k' hk=> ?_)
     rw [join_eq]
     exact hQ _ s.heap k' ((R.tail.tail.toks (Nat.lt_of_lt_of_le R.tok hk)).holdP .str)
    ·cases hf
   ·cases hf
  ·cases hf
theorem ints_zip {vs:List Value}{ns:List Int} (h:IntsAre vs ns):(ns.map PV.int).length=vs.length∧∀(α:List Addr) (N:List (Addr×Obj)),∀p∈(ns.map PV.int).zip vs,Rep α N p.1 p.2:=by
 induction h with
 | nil=>exact ⟨rfl,fun _ _ p hp=>by cases hp⟩
 | cons n t _ ih=>
  refine ⟨by simp [←ih.1],fun α N p hp=> ?_⟩
  rw [List.map_cons,List.zip_cons_cons] at hp
  rcases List.mem_cons.mp hp with rfl | hp
  ·exact .int
  ·exact ih.2 α N p hp
noncomputable abbrev scr (a:Addr):PM PV:=pure1 (.glob (.ref a))
noncomputable def lenB (a:Addr) (ns:List Int):List PV→PM PV
 | [.glob (.ref b)]=>if b=a then ret1 (.int ns.length) else badM
 | _=>badM
noncomputable def sumB (a:Addr) (ns:List Int):List PV→PM PV
 | [.glob (.ref b)]=>if b=a then ret1 (.int ns.sum) else badM
 | _=>badM
noncomputable def BltOpF (G:Glb) (fi:FI) (v:Value) (g:List PV→PM PV):Prop:=
 ∀(A:Around) (h₀:Heap) (L:Addr) (env:Env),Cx G fi A h₀ L env→∀(held:List (PV×Value)) (s:Shared) (σ σ':St) (pvs:List PV) (vs:List Value) (c:PV) (Q:Value→Shared→Prop) (E:Value→Shared→Prop),
  g pvs σ= .ok c σ'→pvs.length=vs.length→Rel G fi h₀ L σ (pvs.zip vs++held) s→(∀v h' t',Rel G fi h₀ L σ' ((c,v)::held) (Sh s h' t')→Q v (Sh s h' t'))→wpAny (model G.prog G.w) A (call v vs) Q E s
theorem R_bcallF {x:PySem.Str}{np:Pos}{args:List Expr}{fs:List (PM PV)}{g:List PV→PM PV} (hx:EvR G fi (.Name x np) (pure1 (.glob v))) (H:EvsR G fi args fs) (cw:CWith G v) (hb:BltOpF G fi v g):
  EvR G fi (.Call (.Name x np) args [] pos) (bnd (evL fs) g):=by
 intro A h₀ L env C held s σ pv σ' Q E hf R hQ
 obtain ⟨pvs,σ₁,h1,h2⟩:=bnd_ok hf
 skip
 refine wpAny_bind (hx A h₀ L env C held s σ _ σ _ _ rfl R fun fv h' t' R1=> ?_)
 obtain ⟨α,N,r⟩:=inv1 R1
 have:=r.glob_inv
 subst this
 exact cw fi A h₀ L env C args fs H [] pos E held _ σ σ₁ pvs Q h1 R1.tail fun vs h'' t'' hl R2=>hb A h₀ L env C held _ σ₁ σ' pvs vs pv Q E h2 hl R2 hQ
set_option tactic.hygienic true in
theorem b_lenB {ns:List Int} (hb:(a,ns)∈fi.base):BltOpF G fi (.builtin "len") (lenB a ns):=by
 intro A h₀ L env C held s σ σ' pvs vs c Q E hf hl R hQ
 unfold lenB at hf
 split at hf
 ·rename_i b
  split at hf
  ·rename_i e
   subst e
   refine cps fun GC hGC=> ?_
   obtain ⟨rfl,rfl⟩:=ret1_ok hf
   obtain ⟨v,rfl⟩:=one_arg hl rfl
   replace R:Rel G fi h₀ L _ ((.glob (.ref b),v)::held) s:=R
   obtain ⟨α,N,r⟩:=inv1 R
   have:=r.glob_inv;subst this
   obtain ⟨ws,h1,h2,h3⟩:=C.bs _ hb
   obtain ⟨m,α,N,R'⟩:=id R
   refine hGC ?_
   have h4:s.heap.IsList b ws.toArray:=let ⟨o,ho,r⟩:=h1;⟨o,R'.fr.keep _ _ ho,r⟩
   refine len_list h4 (by rw [List.size_toArray,h2.length];have:ns.length≤1000:=h3;show ((ns.length:Nat):Int)<2^63;exact lin1 (.T (.c .v0) (.k 9223372036854775808)) (.l .v0 (.k 1000)) (.w [1,1]) rfl (.n1 _) h3) ?_
   rw [List.size_toArray,h2.length]
   exact hQ _ s.heap (s.toks+2) ((R.tail.toks (Nat.succ_pos _)).holdP .int)
  ·cases hf
 ·cases hf
set_option tactic.hygienic true in
theorem b_sumB {ns:List Int} (hb:(a,ns)∈fi.base):BltOpF G fi (.builtin "sum") (sumB a ns):=by
 intro A h₀ L env C held s σ σ' pvs vs c Q E hf hl R hQ
 unfold sumB at hf
 split at hf
 ·rename_i b
  split at hf
  ·rename_i e
   subst e
   refine cps fun GC hGC=> ?_
   obtain ⟨rfl,rfl⟩:=ret1_ok hf
   obtain ⟨v,rfl⟩:=one_arg hl rfl
   replace R:Rel G fi h₀ L _ ((.glob (.ref b),v)::held) s:=R
   obtain ⟨α,N,r⟩:=inv1 R
   have:=r.glob_inv;subst this
   obtain ⟨ws,h1,h2,h3⟩:=C.bs _ hb
   obtain ⟨m,α,N,R'⟩:=id R
   obtain ⟨xs,hxs⟩:=h2.allInts.items
   refine hGC ?_
   have h4:s.heap.IsList b (intItems xs):=by rw [←hxs];exact let ⟨o,ho,r⟩:=h1;⟨o,R'.fr.keep _ _ ho,r⟩
   refine wpAny_toks (sum_intListG C.hd h4 fun h' tk t' hk ht=> ?_)
   have e2:preSum (numAt xs) xs.size=ns.sum:=by
    rw [preSum_eq,List.take_of_length_le (by simp), ←nums_intItems, ←hxs,show ws.toArray.toList=ws from rfl,h2.numsOf]
   rw [e2]
   have R2:=(R'.drop (held':=held) fun p hp=> .tail _ hp).reheap (t':=tk) (R'.fr.keeps hk) (fun p hp=>⟨hk _ _ (R'.nw p hp).1,(R'.nw p hp).2⟩) (Nat.lt_of_lt_of_le R'.tok ht)
   exact hQ _ h' tk ⟨m,α,N,R2.hold .int⟩
  ·cases hf
 ·cases hf
end
end Mine
end
section
open PySem PySem.W PySem.Calls PyProof.Rows
set_option maxRecDepth 10000
set_option tactic.hygienic false
namespace Mine
variable {a:Addr}
section
variable {G:Glb}{fi:FI}
theorem RelAt.pushAt {h₀:Heap}{L:Addr}{σ:St}{held:List (PV×Value)}{m:PySem.Str→Option Value}{α:List Addr}{N:List (Addr×Obj)}{s:Shared} (R:RelAt G fi h₀ L σ held m α N s) {o:Obj}{h':Heap}{t':Tok}
  (ha:s.heap.objs.size≤a) (F:Fr h₀ L h' m) (N':News h₀ L h' ((a,o)::N)) (ht:0<t'):RelAt G fi h₀ L σ held m α ((a,o)::N) (Sh s h' t')∧a∉α:=by
 have mono:∀{pv v},Rep α N pv v→Rep α ((a,o)::N) pv v:=fun h=>h.mono (fun p hp q=>⟨.tail _ hp,q⟩) (fun _ _ e=>e)
 have hfr:a∉α:=fun h=>by
  obtain ⟨o',ho⟩:=R.alpha h
  exact absurd (R.lt ho) (Nat.not_lt.mpr ha)
 refine ⟨⟨F,N', ?_,R.an,R.len, ?_, ?_,fun p hp=>mono (R.held p hp),ht,R.vlen,fun p hp=>⟨.tail _ (R.pin p hp).1,(R.pin p hp).2⟩⟩,hfr⟩
 ·rw [List.map_cons,List.nodup_cons]
  refine ⟨fun hm=> ?_,R.nd⟩
  obtain ⟨p,hp,e⟩:=List.mem_map.mp hm
  have:=R.lt hp
  have e':p.1=a:=e
  rw [e'] at this
  exact absurd this (Nat.not_lt.mpr ha)
 ·intro k b c hb hc
  have h:=R.cells k b c hb hc
  cases c with
  | list xs=>obtain ⟨vs,n,h1,h2,h3,h4⟩:=h;exact ⟨vs,n, .tail _ h1,h2,fun p hp=>mono (h3 p hp),h4⟩
  | bk ns vs=>obtain ⟨o',kvs,h1,h2⟩:=h;exact ⟨o',kvs, .tail _ h1,h2⟩
  | dct ns vs=>
   obtain ⟨es,n,h1,h2,h3,h4,h5⟩:=h
   exact ⟨es,n, .tail _ h1,h2,h3,fun i x pv e1 e2=>(h4 i x pv e1 e2).imp id fun ⟨q,v,e3,e4⟩=>⟨q,v,e3,mono e4⟩,h5⟩
 ·intro i x pv e1 e2
  exact (R.vars i x pv e1 e2).imp id fun ⟨q,v,e3,e4⟩=>⟨q,v,e3,mono e4⟩
noncomputable def sliceX {β:Type} (l:List β) (a b:Option Int):List β:=(l.drop (a.elim 0 (clipAt l.length))).take (b.elim l.length (clipAt l.length)-a.elim 0 (clipAt l.length))
theorem sliceX_map {β γ:Type} (f:β→γ) (l:List β) (a b:Option Int):sliceX (l.map f) a b=(sliceX l a b).map f:=by
 unfold sliceX
 rw [List.length_map, ←List.map_drop, ←List.map_take]
noncomputable def slcB (a:Addr) (ns:List Int) (x fa fb:PM PV):PM PV:=bnd x fun o=>bnd fa fun p=>bnd fb fun q=>fun σ=>match o,optI p,optI q with
 | .glob (.ref b),some lo,some hi=>if b=a then .ok (.seq false ((sliceX ns lo hi).map .int)) σ else .bad
 | _,_,_=> .bad
theorem part_of {p:PV}{i:Option Int}{v:Value} (h:(i=none∧v= .none)∨∃k t,i=some k∧v= .int k t):IsPart v i:=by
 rcases h with ⟨rfl,rfl⟩ | ⟨k,t,rfl,rfl⟩
 ·exact .none
 ·exact .int k t
theorem ints_slice {vs:List Value}{ns:List Int} (h:IntsAre vs ns) (lo hi:Option Int):IntsAre (sliceX vs lo hi) (sliceX ns lo hi):=by
 unfold sliceX
 rw [h.length]
 exact (h.drop _).take _
set_option tactic.hygienic true in
theorem R_sliceB {ns:List Int} (hb:(a,ns)∈fi.base) {v:Expr}{lo up:Option Expr}{p pos:Pos}{fv fa fb:PM PV} (hv:EvR G fi v fv) (ha:PartR G fi lo fa) (hu:PartR G fi up fb)
  (hs:∀(l:Addr) (i:Addr),subscripted (.Slice lo up none p) false (.ref l) (.ref i)=operate [.ref i, .ref l] (getItem (.ref l) (.ref i))) (ht:∀(l:Addr) r,letTemporaryGo v (.ref l) r=pure ()):
  EvR G fi (.Subscript v (.Slice lo up none p) pos) (slcB a ns fv fa fb):=by
 intro A h₀ L env C held s σ pv σ' Q E hf R hQ
 refine cps fun GC hGC=> ?_
 obtain ⟨o,σ₁,h1,hf1⟩:=bnd_ok hf
 obtain ⟨x,σ₂,h2,hf2⟩:=bnd_ok hf1
 obtain ⟨y,σ₃,h3,hf3⟩:=bnd_ok hf2
 refine hGC ?_
 refine Subscript_ (hv A h₀ L env C held s σ o σ₁ _ _ h1 R fun vo h' t' R1=> ?_)
 refine wpAny_Slice (ha A h₀ L env C _ _ σ₁ x σ₂ _ _ h2 R1 fun va h'' t'' R2=> ?_)
 refine hu A h₀ L env C _ _ σ₂ y _ _ _ h3 R2 fun vb h3' t3 R3=> ?_
 rw [evalPart_none]
 refine wpAny_pure ?_
 refine cps fun GC hGC=> ?_
 obtain ⟨m,α,N,R3⟩:=R3
 refine hGC ?_
 split at hf3
 ·rename_i l a' b' ea eb
  split at hf3
  ·rename_i e
   subst e
   cases hf3
   have:=(R3.held (_,vo) (.tail _ (.tail _ (.head _)))).glob_inv
   subst this
   have ia:=optI_inv ea (R3.held (_,va) (.tail _ (.head _)))
   have ib:=optI_inv eb (R3.held (_,vb) (.head _))
   refine cps fun GC hGC=> ?_
   obtain ⟨ws,g1,g2,g3⟩:=C.bs _ hb
   refine hGC ?_
   have g4:(Sh s h3' t3).heap.IsList l ws.toArray:=let ⟨o,ho,r⟩:=g1;⟨o,R3.fr.keep _ _ ho,r⟩
   refine slice_list (s:=Sh s h3' t3) R3.fr R3.nw g4 (part_of (p:=x) ia) (part_of (p:=y) ib) (fun h4 F4 N4=> ?_) (hs l _) (ht l) (by
    rw [List.size_toArray,g2.length];have:ns.length≤1000:=g3;rw [sizeLine_eq];exact lin1 (.l .v0 (.k 16777216)) (.l .v0 (.k 1000)) (.w [1,1]) rfl (.n1 _) g3)
   rw [slicePick_plain] at N4
   have ew:(List.take (b'.elim ws.toArray.size (clipAt ws.toArray.size)-a'.elim 0 (clipAt ws.toArray.size)) (List.drop (a'.elim 0 (clipAt ws.toArray.size)) ws.toArray.toList))=sliceX ws a' b':=by
    simp [sliceX]
   rw [ew] at N4
   have hz:=ints_zip (ints_slice g2 a' b')
   obtain ⟨R4,hna⟩:=(R3.drop (held':=held) fun p hp=> .tail _ (.tail _ (.tail _ hp))).pushAt (a:=(Sh s h3' t3).heap.objs.size+1) (Nat.le_succ _) F4 N4 R3.tok
   refine hQ _ h4 t3 ⟨m,α,_,R4.hold (.seq (tup:=false) (vs:=sliceX ws a' b') (.head _) hna hz.1 fun q hq=>hz.2 _ _ q hq)⟩
  ·cases hf3
 ·cases hf3
end
end Mine
end
section
open PySem PySem.W PySem.Calls PyProof.Rows
set_option maxRecDepth 10000
set_option tactic.hygienic false
namespace Mine
variable {α:List Addr}{N:List (Addr×Obj)}{pv:PV}{h₀:Heap}{L:Addr}{σ:St}{held:List (PV×Value)}{s:Shared}{A:Around}{env:Env}{scope:Scope}{elt iter:Expr}{x:PySem.Str}{pos px:Pos}{ifs:List Expr}
noncomputable def relF (fi:FI) (scope:Scope):Scope:={scope with names:=scope.names.map fun (n,k)=>if (k == .free&&fi.scope.names.lookup n==some .cell) then (n, .cell) else (n,k)}
@[reducible] noncomputable def FI.comp (fi:FI) (scope:Scope) (x:PySem.Str) (pv:PV) (cb:List (PySem.Str×PV)):FI:=
 {qual:=fi.qual,scope:=relF fi scope,vnames:=fi.vnames,lv:=fi.lv,cmp:=true,base:=fi.base,bind:=[(x,pv)],cbind:=cb}
noncomputable def TestR (G:Glb) (fi:FI) (ifs:List Expr) (f:PM Bool):Prop:=
 ∀(A:Around) (h₀:Heap) (L:Addr) (env:Env),Cx G fi A h₀ L env→∀(held:List (PV×Value)) (s:Shared) (σ:St) (b:Bool) (σ':St) (Q:Bool→Shared→Prop) (E:Value→Shared→Prop),
  f σ= .ok b σ'→Rel G fi h₀ L σ held s→(∀h' t',Rel G fi h₀ L σ' held (Sh s h' t')→Q b (Sh s h' t'))→
  wpAny (model G.prog G.w) A (forIn ifs true fun c r=>if r=true then do let ok ←isTrue c env (eval c env);pure (ForInStep.yield ok) else pure (ForInStep.yield r)) Q E s
noncomputable def compL (k:Nat) (t:PV→PM Bool) (e:PV→PM PV):List PV→PM PV
 | []=>ret1 (.cell k)
 | x::r=>if scal x then bnd (t x) fun b=>if b then bnd (e x) fun v=>bnd (appendG [.cell k,v]) fun _=>compL k t e r else compL k t e r else badM
noncomputable def compM (f:PM (List PV)) (t:PV→PM Bool) (e:PV→PM PV):PM PV:=bnd f fun xs=>fun σ=>compL σ.cells.length t e xs {σ with cells:=σ.cells++[.list []]}
section
variable {G:Glb}{fi:FI}
theorem TestR_nil:TestR G fi [] (ret1 true):=by
 intro A h₀ L env C held s σ b σ' Q E hf R hQ
 obtain ⟨rfl,rfl⟩:=ret1_ok hf
 exact wpAny_tests_nil (hQ s.heap s.toks R)
theorem TestR_one {c:Expr}{f:PM Bool} (h:TrR G fi c f):TestR G fi [c] f:=by
 intro A h₀ L env C held s σ b σ' Q E hf R hQ
 exact wpAny_tests_one (h A h₀ L env C held s σ b σ' _ _ hf R hQ)
theorem rep_plain {v:Value} (hs:scal pv=true) (h:Rep α N pv v):Plain pv v:=by
 cases h <;> first | constructor | (cases hs;done)
theorem RelAt.refi {fi':FI} (hv:fi'.vnames=fi.vnames) {m:PySem.Str→Option Value} (R:RelAt G fi h₀ L σ held m α N s):
  RelAt G fi' h₀ L σ held m α N s:=⟨R.fr,R.nw,R.nd,R.an,R.len,R.cells,by refine hv.symm▸ ?_;exact R.vars,R.held,R.tok,by refine hv.symm▸ ?_;exact R.vlen,R.pin⟩
theorem relabel_eq (C:Cx G fi A h₀ L env) (scope:Scope):relabel scope env=relF fi scope:=by
 unfold relabel relF
 have h1:(env.scope.kind==ScopeKind.function)=true:=by rw [C.sc,C.ok.kind];rfl
 have h2:∀n,env.kindOf n=fi.scope.names.lookup n:=fun n=>by unfold Env.kindOf;rw [C.sc]
 simp only [h1,h2,Bool.and_true]
noncomputable def ClosOk (scope:Scope) (cb:List (PySem.Str×PV)):Prop:=
 ∀env:Env,(∀p∈cb,∃c,env.cells.lookup p.1=some c)→∃cl,closureFor scope env=pure cl∧∀p∈cb,cl.lookup p.1=env.cells.lookup p.1
theorem clos_none (h:∀x∈scope.names,x.2≠ .free):ClosOk scope []:=fun env _=>⟨[],closureFor_none h,fun p hp=>by cases hp⟩
theorem comp_core {fpos:Pos}{f:PM (List PV)}{t:PV→PM Bool}{e:PV→PM PV} (cb:List (PySem.Str×PV)) (hcb:∀p∈cb,p∈fi.cbind)
  (hi:SrcR G fi iter f) (ht:∀P pv,scal pv=true→TestR (G.pin P) (fi.comp scope x pv cb) ifs (t pv)) (he:∀P pv,scal pv=true→EvR (G.pin P) (fi.comp scope x pv cb) elt (e pv))
  (hclos:ClosOk scope cb) (hkind:scope.kind= .function) (hcell:∀y∈scope.names,y.2≠ .cell) (hnames:∀y∈scope.names,y.2= .local→scope.names.lookup y.1=some .local) (hx:scope.names.lookup x=some .local)
  (hs:∀env v,foldedSetIterable iter env v=pure v)
  (C:Cx G fi A h₀ L env) {σ':St}{use:Option (Value→Sem Unit)}{Q:Value→Shared→Prop}{E:Value→Shared→Prop}
  (hf:compM f t e σ= .ok pv σ') (R:Rel G fi h₀ L σ held s)
  (hfin:∀k D Cc oc es ep h' t',pv= .cell k→Rel (G.pin [(Cc,oc)]) fi h₀ L σ' ((.cell k, .ref D)::held) (Sh s h' t')→oc.data= .dict es ep→StrKeys es→(∀p∈G.pins,p.1≠Cc)→
   compPost (model G.prog G.w) A E use Q (.ref D) Cc (.ok .next) (Sh s h' t')):
  wpAny (model G.prog G.w) A (comprehension (.ListComp elt [⟨.Name x px,iter,ifs,0⟩] scope pos) scope env fpos (newList []) false (eval iter env) use) Q E s:=by
 refine cps fun GC hGC=> ?_
 obtain ⟨xs,σ₁,h1,h2⟩:=bnd_ok hf
 have hcells:∀p∈cb,∃c,env.cells.lookup p.1=some c:=fun p hp=>by
  obtain ⟨v,c,o,q1,_⟩:=C.cb p (hcb p hp)
  exact ⟨c,q1⟩
 obtain ⟨cl,hcl,hclb⟩:=hclos env hcells
 refine hGC ?_
 refine wpAny_comprehension_free (use:=use) rfl (hs env) hcl hkind hnames ?_
 refine hi A h₀ L env C held s σ xs σ₁ _ _ h1 R fun I hI tI hr=> ?_
 refine cps fun GC hGC=> ?_
 obtain ⟨hx',O,P,srcp,o,It,h0,R2,hpins,hP⟩:=hr
 obtain ⟨m,α,N,R2⟩:=R2
 refine hGC ?_
 have hIm:=R2.pin (I,o) (.head _)
 have hfr:∀p∈N,p.1≠hI.objs.size:=fun p hp=>Nat.ne_of_lt (R2.lt hp)
 have R3:=R2.pushCell (o:=⟨.type "list",Option.none, .seq ([]:List Value).toArray 0, #[]⟩) (c:= .list []) rfl ⟨[],0, .head _,rfl,(fun p hp=>by cases hp),Nat.zero_le _⟩
 refine wpAny_newObj_type (wpAny_newFunctionEnv hcell (by intro y hy;simp at hy) (fun h₁ hns₁ hsb₁=> ?_) hkind)
 dsimp only at hns₁ hsb₁ ⊢
 generalize hH2:hI.push {cls:= .type "list",dict:=Option.none,data:= .seq ([]:List Value).toArray}=H2 at hns₁ hsb₁ R3 ⊢
 refine cps fun GC hGC=> ?_
 obtain ⟨oc0,es0,ep0,g1,g2,g3,g4⟩:=hns₁
 have hC:H2.objs.size=hI.objs.size+1:=by rw [←hH2,Heap.size_push]
 have keep1:∀b ob,H2.get? b=some ob→h₁.get? b=some ob:=fun b ob e=>hsb₁.extBut b ob (Nat.ne_of_lt (Heap.lt_size e)) (Heap.get?_push_of_some _ e)
 have F1:Fr h₀ L h₁ m:=R3.fr.keeps keep1
 have hCL:H2.objs.size≠L:=Nat.ne_of_gt R3.fr.ns.lt
 have hC0:h₀.get? H2.objs.size=none:=Heap.get?_none_of_le (Nat.le_trans R3.fr.above (Nat.le_of_lt R3.fr.ns.lt))
 have N1:News h₀ L h₁ ((H2.objs.size,oc0)::(hI.objs.size,⟨.type "list",Option.none, .seq ([]:List Value).toArray 0, #[]⟩)::N):=by
  exact fc ⟨g1,hCL,hC0⟩ fun p hp=>⟨keep1 _ _ (R3.nw p hp).1,(R3.nw p hp).2⟩
 obtain ⟨R4,hCα⟩:=R3.pushAt (a:=H2.objs.size) (o:=oc0) (t':=tI) (Nat.le_refl _) F1 N1 R3.tok
 have hCN:∀p∈(hI.objs.size,(⟨.type "list",Option.none, .seq ([]:List Value).toArray 0, #[]⟩:Obj))::N,p.1≠H2.objs.size:=fun p hp=>Nat.ne_of_lt (R3.lt hp)
 have hCI:H2.objs.size≠I:=fun q=>hCN _ (.tail _ hIm.1) q.symm
 have hCsrc:∀p∈srcp,p.1≠H2.objs.size:=fun p hp=>hCN _ (.tail _ (R2.pin p (List.mem_append_left _ (.tail _ hp))).1)
 have hCp:∀p∈G.pins,p.1≠H2.objs.size:=fun p hp=>hCN _ (.tail _ (R2.pin p (List.mem_append_right _ hp)).1)
 obtain ⟨Cc,hCc⟩:∃Cc,Cc=H2.objs.size:=⟨_,rfl⟩
 obtain ⟨D,hD⟩:∃D,D=hI.objs.size:=⟨_,rfl⟩
 refine hGC ?_
 rw [←hCc] at R4 hCI hCsrc hCp hCα ⊢
 rw [←hD] at R4 ⊢
 have hCα':Cc∉α++[D]:=by rw [hD];exact hCα
 let k:=σ₁.cells.length
 have hk:(α++[D])[k]? =some D:=by
  have:k=α.length:=by rw [R2.len]
  rw [this];simp
 let H:List (PV×Value):=(.cell k, .ref D)::(hx'++held)
 have R5:RelAt ((G.pin [(Cc,oc0)]).pin ((I,o)::srcp)) fi h₀ L {σ₁ with cells:=σ₁.cells++[.list []]} H m (α++[D]) _ (Sh s h₁ tI):=
  (R4.hold (.cell hk)).repin rfl (fp (fun p hp=>R4.pin p (List.mem_append_left _ hp)) (fc ⟨.head _,hCα'⟩ fun p hp=>R4.pin p (List.mem_append_right _ hp)))
 have cx:∀(P':List (Addr×Obj)) (pv:PV) (v:Value) (oc:Obj) (es:Array DictEntry) (ep:Nat),(Cc,oc)∈P'→oc.data= .dict es ep→StrKeys es→nsFind es x=some v→Plain pv v→
   Cx (G.pin P') (fi.comp scope x pv cb) A h₀ L (compEnvC scope cl Cc env):=by
  intro P' pv v oc es ep q1 q2 q3 q4 q5
  refine ⟨⟨⟨?_,C.ok.nd,(fun e=>by cases e),C.ok.nodbg⟩,(fun e=>by cases e), ?_,C.glo,C.bui,C.X,C.T,C.B,C.hd,C.bs, ?_, ?_⟩,C.dep,C.un⟩
  ·exact hkind
  ·exact relabel_eq C scope
  ·exact fc ⟨v,oc,es,ep,List.mem_append_left _ q1,q2,q3,q4, .plain q5⟩ fn
  ·intro p hp
   refine cps fun GC hGC=> ?_
   obtain ⟨v,c,o,w1,w2,w3,w4⟩:=C.cb p (hcb p hp)
   refine hGC ?_
   refine ⟨v,c,o, ?_,List.mem_append_right _ w2,w3,w4.mono fun q hq=>List.mem_append_right _ hq⟩
   show cl.lookup p.1=some c
   rw [hclb p hp];exact w1
 have loop:codeAny (model G.prog G.w) A (.compLoop (.ListComp elt [⟨.Name x px,iter,ifs,0⟩] scope pos) 0 (.ref I) (.ref D) (compEnvC scope cl Cc env)) (compPost (model G.prog G.w) A E use Q (.ref D) Cc) (Sh s h₁ tI):=by
  refine codeAny_compLoop_tests (fun n s₁=>∃i oi oc es ep σ₂ h' t',s₁=Sh s h' t'∧O i oi∧i≤xs.length∧n=xs.length-i∧Rel ((G.pin [(Cc,oc)]).pin ((I,oi)::srcp)) fi h₀ L σ₂ H s₁∧
   oc.data= .dict es ep∧StrKeys es∧compL k t e (xs.drop i) σ₂= .ok pv σ') ?_ xs.length ⟨0,o,oc0,es0,ep0,_,h₁,tI,rfl,h0,Nat.zero_le _,(Nat.sub_zero _).symm,⟨m,_,_,R5⟩,g2,g3,h2⟩ (fun _=>rfl)
  rintro n s₁ ⟨i,oi,oc,es,ep,σ₂,h3,t3,rfl,hO,hle,rfl,R6,hoc,hkeys,hfl⟩
  refine cps fun GC hGC=> ?_
  obtain ⟨m,α,N,R6⟩:=R6
  refine hGC ?_
  have hIi:=R6.pin (I,oi) (.head _)
  have hCi:=R6.pin (Cc,oc) (List.mem_append_right _ (.head _))
  have hget:=(R6.nw _ hIi.1).1
  have hsrc:∀p∈srcp,(Sh s h3 t3).heap.get? p.1=some p.2:=fun p hp=>(R6.nw _ (R6.pin p (List.mem_append_left _ (.tail _ hp))).1).1
  have hpc:∀p∈(G.pin [(Cc,oc)]).pins,p.1≠I:=fc hCI hpins
  by_cases hlt:i<xs.length
  ·refine It.item A _ _ i oi _ hlt hget hO hsrc fun v h4 t4 o' hPv ho' hO' hsb htk=> ?_
   have R7:=R6.stepIt (It.cls i oi hO) hsb ho' htk It.src hpc
   refine cps fun GC hGC=> ?_
   obtain ⟨z,hzi,hzv⟩:=hP i v hPv
   refine hGC ?_
   have hd:xs.drop i=z::xs.drop (i+1):=by
    rw [List.drop_eq_getElem_cons hlt]
    have:xs[i]=z:=by
     have:=List.getElem?_eq_getElem hlt
     rw [hzi] at this
     exact (Option.some.inj this).symm
    rw [this]
   rw [hd] at hfl
   unfold compL at hfl
   split at hfl
   ·rename_i hsc
    have hpl:Plain z v:=by
     rcases hzv with hm | hm
     ·exact rep_plain hsc (R7.held _ (.tail _ (List.mem_append_left _ hm)))
     ·exact hm
    have hC7:=R7.pin (Cc,oc) (List.mem_append_right _ (.head _))
    have hnsC:(Sh s h4 t4).heap.Ns (compEnvC scope cl Cc env).locals (nsFind es):=⟨oc,es,ep,(R7.nw _ hC7.1).1,hoc,hkeys,fun _=>rfl⟩
    refine wpAny_assign_Name (wpAny_storeName_local (lookup_relabel_local hx) hnsC (fun h5 hns5 hsb5=> ?_) (by simp [compEnvC,relabel,hkind]))
    refine cps fun GC hGC=> ?_
    obtain ⟨oc',es',ep',w1,w2,w3,w4⟩:=hns5
    have R8:RelAt ((G.pin ((I,o')::srcp)).pin [(Cc,oc)]) fi h₀ L σ₂ H m α _ (Sh s h4 t4):=R7.repin rfl (fp (fc hC7 fn) (fp (fun p hp=>R7.pin p (List.mem_append_left _ hp)) fun p hp=>R7.pin p (List.mem_append_right _ (List.mem_append_right _ hp))))
    have R9:=R8.stepIt (t':=t4+1) (itCls_dict hoc) hsb5 w1 (Nat.le_succ _) fn (fc (Ne.symm hCI) (fp hCsrc hCp))
    let P':List (Addr×Obj):=(Cc,oc')::(I,o')::srcp
    have R10:=RelAt.refi (fi:=fi) (fi':=fi.comp scope x z cb) rfl (R9.repin (G':=G.pin P') rfl fun p hp=>R9.pin p hp)
    have Cc':=cx P' z v oc' es' ep' (.head _) w2 w3 (by rw [w4 x];exact if_pos rfl) hpl
    obtain ⟨b,σ₃,k1,k2⟩:=bnd_ok hfl
    refine hGC ?_
    refine ht P' z hsc A h₀ L _ Cc' H _ σ₂ b σ₃ _ _ k1 ⟨m,α,_,R10⟩ fun h6 t6 R11=> ?_
    have back:∀{σ₅:St}{h7:Heap}{t7:Tok},Rel (G.pin P') (fi.comp scope x z cb) h₀ L σ₅ H (Sh s h7 t7)→compL k t e (xs.drop (i+1)) σ₅= .ok pv σ'→
      ∃n',n'<xs.length-i∧∃i oi oc es ep σ₂ h' t',Sh s h7 t7=Sh s h' t'∧O i oi∧i≤xs.length∧n'=xs.length-i∧Rel ((G.pin [(Cc,oc)]).pin ((I,oi)::srcp)) fi h₀ L σ₂ H (Sh s h7 t7)∧
       oc.data= .dict es ep∧StrKeys es∧compL k t e (xs.drop i) σ₂= .ok pv σ':=by
     intro σ₅ h7 t7 R12 hr
     refine cps fun GC hGC=> ?_
     obtain ⟨m,α,N,R12⟩:=R12
     refine hGC ?_
     refine ⟨xs.length-(i+1),by exact lin3 (.t .v2 .v3) (.t .v1 .v0) (.b 2 .v0 (.a .v1 .k1)) (.b 3 .v0 .v1) (.d 2 (.d 5 (.w [0, -1,0,1,1]) (.w [1,0,1])) (.d 5 (.w [0, -1,0,1,1,1]) (.w [1,0,0,0,0,1]))) rfl (.n4 _ _ _ _) hlt rfl rfl,i+1,o',oc',es',ep',σ₅,h7,t7,rfl,hO',hlt,rfl,⟨m,α,N, ?_⟩,w2,w3,hr⟩
     refine (RelAt.refi (fi:=fi.comp scope x z cb) (fi':=fi) rfl R12).repin rfl (fp (fun p hp=>R12.pin p (List.mem_append_left _ (.tail _ hp))) (fc (R12.pin _ (.head _)) fun p hp=>R12.pin p (List.mem_append_right _ hp)))
    cases b with
    | false=>
     simp only [Bool.false_eq_true,if_false] at k2 ⊢
     exact back R11 k2
    | true=>
     simp only [if_true] at k2 ⊢
     refine cps fun GC hGC=> ?_
     obtain ⟨y,σ₄,k3,k4⟩:=bnd_ok k2
     obtain ⟨z2,σ₅,k5,k6⟩:=bnd_ok k4
     refine hGC ?_
     refine he P' z hsc A h₀ L _ Cc' H _ σ₃ y σ₄ _ _ k3 R11 fun vy h7 t7 R12=> ?_
     refine b_append _ A h₀ L _ Cc' H _ σ₄ σ₅ [.cell k,y] [.ref D,vy] z2 _ _ k5 rfl (R12.drop (fc (.tail _ (.head _)) (fc (.head _) fun _ hp=> .tail _ hp))) fun vz h8 t8 R13=>back R13.tail k6
   ·cases hfl
  ·have hin:i=xs.length:=by exact lin2 (.q .v0 .v1) (.l .v0 .v1) (.n (.t .v0 .v1)) (.b (.w [1,0,1]) (.w [1,1])) rfl (.n2 _ _) hle hlt
   subst hin
   rw [List.drop_length] at hfl
   obtain ⟨rfl,rfl⟩:=ret1_ok hfl
   refine It.done A _ _ oi _ C.hd hget hO hsrc fun h4 hext=> ?_
   obtain ⟨N',R7⟩:=R6.endIt (It.cls _ oi hO) hext hpc
   exact hfin k D Cc oc es ep h4 t3 rfl ⟨m,α,N',R7.drop (fc (.head _) fun _ hp=> .tail _ (List.mem_append_right _ hp))⟩ hoc hkeys hCp
 exact codeAny_compStart_list loop (It.self A _ _ 0 o _ (R5.nw _ (R5.pin (I,o) (.head _)).1).1 h0 loop)
theorem comp_end {Cc:Addr}{oc:Obj}{es:Array DictEntry}{ep:Nat} (R:Rel (G.pin [(Cc,oc)]) fi h₀ L σ held s) (hoc:oc.data= .dict es ep) (hk:StrKeys es) (hp:∀p∈G.pins,p.1≠Cc):
  s.heap.Ns Cc (nsFind es)∧∀h',Heap.SameBut Cc s.heap h'→Rel G fi h₀ L σ held (Sh s h' s.toks):=by
 refine cps fun GC hGC=> ?_
 obtain ⟨m,α,N,R⟩:=R
 refine hGC ?_
 have hC:=R.pin (Cc,oc) (.head _)
 refine ⟨⟨oc,es,ep,(R.nw _ hC.1).1,hoc,hk,fun _=>rfl⟩,fun h' hsb=> ?_⟩
 have R8:RelAt (G.pin ((Cc,oc)::[])) fi h₀ L σ held m α N s:=R
 obtain ⟨N'',R9⟩:=R8.endIt (itCls_dict hoc) (h':=h') hsb.extBut hp
 exact ⟨m,α,N'',R9⟩
theorem R_comp {f:PM (List PV)}{t:PV→PM Bool}{e:PV→PM PV} (cb:List (PySem.Str×PV)) (hcb:∀p∈cb,p∈fi.cbind)
  (hi:SrcR G fi iter f) (ht:∀P pv,scal pv=true→TestR (G.pin P) (fi.comp scope x pv cb) ifs (t pv)) (he:∀P pv,scal pv=true→EvR (G.pin P) (fi.comp scope x pv cb) elt (e pv))
  (hclos:ClosOk scope cb) (hkind:scope.kind= .function) (hcell:∀y∈scope.names,y.2≠ .cell) (hnames:∀y∈scope.names,y.2= .local→scope.names.lookup y.1=some .local) (hx:scope.names.lookup x=some .local)
  (hs:∀env v,foldedSetIterable iter env v=pure v):EvR G fi (.ListComp elt [⟨.Name x px,iter,ifs,0⟩] scope pos) (compM f t e):=by
 intro A h₀ L env C held s σ pv σ' Q E hf R hQ
 rw [eval_ListComp]
 refine comp_core cb hcb hi ht he hclos hkind hcell hnames hx hs C (use:=none) hf R fun k D Cc oc es ep h' t' hpv R1 hoc hk hp=> ?_
 subst hpv
 obtain ⟨g1,g2⟩:=comp_end R1 hoc hk hp
 exact ⟨_,g1,fun h'' hsb=>hQ (.ref D) h'' t' (g2 h'' hsb)⟩
theorem X_setComp {i:Nat}{y:PySem.Str}{py spos:Pos}{f:PM (List PV)}{t:PV→PM Bool}{e:PV→PM PV} (hy:nm fi i=some y)
  (hsw:∀L f cd,swapsWith (.ListComp elt [⟨.Name x px,iter,ifs,0⟩] scope pos) (some (.Name y py)) spos.line (envOfC fi.qual fi.scope L f cd)=pure true) (cb:List (PySem.Str×PV)) (hcb:∀p∈cb,p∈fi.cbind)
  (hi:SrcR G fi iter f) (ht:∀P pv,scal pv=true→TestR (G.pin P) (fi.comp scope x pv cb) ifs (t pv)) (he:∀P pv,scal pv=true→EvR (G.pin P) (fi.comp scope x pv cb) elt (e pv))
  (hclos:ClosOk scope cb) (hkind:scope.kind= .function) (hcell:∀y∈scope.names,y.2≠ .cell) (hnames:∀y∈scope.names,y.2= .local→scope.names.lookup y.1=some .local) (hx:scope.names.lookup x=some .local)
  (hs:∀env v,foldedSetIterable iter env v=pure v):ExR G fi (.Assign [.Name y py] (.ListComp elt [⟨.Name x px,iter,ifs,0⟩] scope pos) spos) (setV i (compM f t e)):=by
 intro A h₀ L env C held s σ fl σ' Q E hf R hQ
 obtain ⟨pv,σ₁,h1,h2⟩:=bnd_ok hf
 split at h2
 ·cases h2
 ·rename_i hu
  cases h2
  obtain ⟨f0,cd,henv⟩:=C.isenv (nm_some hy).1
  rw [exec_Assign_Name_used _ _ _ _ (by rw [henv];exact hsw L f0 cd)]
  refine wpAny_bind (wpAny_standAt (wpAny_bind ?_))
  skip
  refine wpAny_bind (wpAny_mono (comp_core cb hcb hi ht he hclos hkind hcell hnames hx hs C (use:=some (assign (.Name y py) env)) (Q:=fun _ s'=>Q .next s') h1 R fun k D Cc oc es ep h' t' hpv R1 hoc hk hp=> ?_)
   (fun _ s' hq=>wpAny_pure (wpAny_pure hq)) fun _ _ e=>e)
  subst hpv
  skip
  refine wpAny_assign_Name (store_ok (C.pin [(Cc,oc)]) hy (by simpa using hu) R1 fun h3 t3 R2=> ?_)
  obtain ⟨g1,g2⟩:=comp_end R2.tail hoc hk hp
  exact ⟨_,g1,fun h'' hsb=>hQ .next h'' t3 (g2 h'' hsb)⟩
end
end Mine
end
section
open PySem PySem.W PySem.Calls PyProof.Rows
set_option maxRecDepth 10000
set_option tactic.hygienic false
namespace Mine
variable {A:Around}{s:Shared}{L f:Addr}{h₀:Heap}{m:PySem.Str→Option Value}{env:Env}{body:List Stmt}{held:List (PV×Value)}{σ:St}{pvs:List PV}{α:List Addr}{N:List (Addr×Obj)}{fj:FI}{x:PySem.Str}
theorem code_cells {prog:Program}{w:World}{A₀:Around}{K:Frag}{base:Heap}{mg mb:PySem.Str→Option Value}{news:List (Addr×Obj)}{p:Program}{loose:List PySem.Str}{mean:ExcName→Option Value}
  {outer:List Env}{R:Result→Shared→Prop}{name qual:PySem.Str}{params:Arguments}{scope:Scope}{dV kV doc pm cdv ct oc:Value}{an od:Option Addr}{osl:Array (Option Value)}{args:Args}
  {binds:List (PySem.Str×Value)} (B:Below A₀ base outer h₀) (F:Fr h₀ L s.heap m) (X₀:K.In h₀) (N:News h₀ L s.heap news) (T:Top p loose mean mg mb h₀) (hA:A.frames=some (env::outer)) (hf:env.frame=some L) (hke:env.scope.kind= .function)
  (ho:K.lookup f=some ⟨oc,od, .func (fnOf name qual params body scope dV kV doc pm an cdv ct),osl⟩) (hcd:codeIn K cdv qual=true) (hroom:A.depth<recursionLimit)
  (hbind:BindsTo s (fnOf name qual params body scope dV kV doc pm an cdv ct) args binds) (hkind:(binds.all fun y=>scope.names.lookup y.1==some .local||scope.names.lookup y.1==some .cell)=true)
  (hnd:((cellsFrom 0 scope.names []).map (·.1)).Nodup)
  (h:∀g L' h₁ tk cells,s.toks≤tk→Fr h₀ L g m→Fr g L' h₁ (bindL (envOfC qual scope L' f cdv).kindOf binds fun _=>none)→News g L' h₁ (cells++news)→
   CellsAre (bindC (envOfC qual scope L' f cdv).kindOf binds fun _=>none) (cellsFrom (L'+1) scope.names []) cells→Below A base (env::outer) g→K.In g→Top p loose mean mg mb g→(∀p∈news,p.1<L')→
   wpAny (model prog w) (A.deeper (envOfC qual scope L' f cdv)) (execs body (envOfC qual scope L' f cdv))
    (fun fl s'=>LeaveK h₀ L m g R (match fl with | .ret v=>v | _=> .none) s')
    (fun e s'=>wpAny (model prog w) (A.deeper (envOfC qual scope L' f cdv)) (leaving (envOfC qual scope L' f cdv) e) (fun _ s''=>R (.error e) s'') (fun e' s''=>R (.error e') s'') s')
    {s with heap:=h₁,toks:=tk})
  (hco:scope.isCoroutine=false) (hgen:scope.isGenerator=false) (hk:scope.kind= .function):codeAny (model prog w) A (.call (.ref f) args) R s:=by
 obtain ⟨FG,BG,st,lv⟩:=groundX (R:=R) B F N hA hf hke
 refine codeAny_call_function hroom ((X₀.keeps F.keep) _ _ ho) rfl hco hgen rfl (codeRec_of (X₀.keeps F.keep) hcd) (hbind _ _ _ _ ?_)
 refine wpAny_toks (wpAny_newFunctionEnv_cells hk (kindsX hkind _) fun env' he s' x htk=> ?_)
 subst he
 refine ⟨(T.nolimit.keeps F.keep).keeps x.toInCall.keep,codeAny_func ?_⟩
 obtain ⟨h₁,tk,rfl,_⟩:=x.done
 have hk₁:=x.toInCall.keep
 obtain ⟨cells,NC,Y⟩:=Cl.news (h₀:=s.heap) (Nat.le_refl _) fun n c hm=>⟨x.cell n c (lookup_of_mem_nodup (cellsFrom_names scope.names 0 (s.heap.objs.size+1) [] [] rfl▸hnd) hm),x.above n c hm⟩
 have NN:News (hideAll s.heap (news.map (·.1))) s.heap.objs.size h₁ (cells++news):=fun p hp=>by
  rcases List.mem_append.mp hp with hp | hp
  ·refine ⟨(NC p hp).1,(NC p hp).2.1, ?_⟩
   cases q:(hideAll s.heap (news.map (·.1))).get? p.1 with
   | none=>rfl
   | some o=>have:=of_hideAll _ q;rw [(NC p hp).2.2] at this;cases this
  ·exact ⟨hk₁ _ _ (N p hp).1,Nat.ne_of_lt (Heap.lt_size (N p hp).1),hideAll_none _ (List.mem_map_of_mem hp)⟩
 exact wpAny_mono (h _ s.heap.objs.size h₁ tk cells htk FG ⟨x.toInCall.ns,fun b o e=>hk₁ b o (of_hideAll _ e),Nat.le_of_eq (hideAll_size _ _)⟩ NN Y BG (X₀.keeps st) (T.keeps st) (fun p hp=>Heap.lt_size (N p hp).1)) (fun fl s' hl=>lv _ _ hl) fun _ _ y=>y
structure FnAtC (G:Glb) (fi:FI) (f:Addr) (x:PySem.Str) (params:List PySem.Str) (body:List Stmt):Prop where
 ok:FIok fi
 gen:fi.scope.isGenerator=false
 co:fi.scope.isCoroutine=false
 cell:∀n,cellsFrom n fi.scope.names []=[(x,n)]
 xc:fi.scope.names.lookup x=some .cell
 bare:fi.cmp=false∧fi.base=[]∧fi.bind=[]
 pre:fi.vnames.take params.length=params
 at_:∃oc od name ps dV kV doc pm an cdv ct osl,G.K.lookup f=some ⟨oc,od, .func (fnOf name fi.qual ps body fi.scope dV kV doc pm an cdv ct),osl⟩∧codeIn G.K cdv fi.qual=true∧
  ∀vs:List Value,vs.length=params.length+1→bindArgs (fnOf name fi.qual ps body fi.scope dV kV doc pm an cdv ct) ⟨vs,[]⟩=pure ((x::params).zip vs)
@[reducible] noncomputable def FI.cb (fi:FI) (x:PySem.Str) (pv:PV):FI:={qual:=fi.qual,scope:=fi.scope,vnames:=fi.vnames,lv:=fi.lv,cmp:=fi.cmp,base:=fi.base,bind:=fi.bind,cbind:=[(x,pv)]}
noncomputable def plainL:PV→Bool
 | .seq false xs=>xs.all scal
 | _=>false
noncomputable def callTC (nv:Nat) (F:PV→PM Fl):List PV→PM PV
 | p::r=>if plainL p then callT nv (F p) r else badM
 | []=>badM
theorem bindL_local {kindOf:PySem.Str→Option NameKind}:∀(bs:List (PySem.Str×Value)) (m:PySem.Str→Option Value),(∀y∈bs,kindOf y.1=some .local)→(bs.map (·.1)).Nodup→
  ∀y v,(y,v)∈bs→bindL kindOf bs m y=some v:=by
 intro bs
 have keep:∀(bs:List (PySem.Str×Value)) (m:PySem.Str→Option Value) (y:PySem.Str) (v:Value),y∉bs.map (·.1)→m y=some v→bindL kindOf bs m y=some v:=by
  intro bs
  induction bs with
  | nil=>intro m y v _ h;exact h
  | cons b r ih=>
   intro m y v hn h
   obtain ⟨n,u⟩:=b
   simp only [List.map_cons,List.mem_cons,not_or] at hn
   unfold bindL
   refine ih _ y v hn.2 ?_
   split
   ·show (if y=n then some u else m y)=some v
    rw [if_neg hn.1];exact h
   ·exact h
 induction bs with
 | nil=>intro m _ _ y v h;cases h
 | cons b r ih=>
  intro m hl hnd y v hm
  obtain ⟨n,u⟩:=b
  rw [List.map_cons,List.nodup_cons] at hnd
  unfold bindL
  rcases List.mem_cons.mp hm with e | hm
  ·cases e
   refine keep r _ _ _ hnd.1 ?_
   rw [if_pos (hl (y,v) (.head _))]
   exact if_pos rfl
  ·exact ih _ (fun z hz=>hl z (.tail _ hz)) hnd.2 y v hm
theorem bindC_none {kindOf:PySem.Str→Option NameKind}:∀(bs:List (PySem.Str×Value)) (m:PySem.Str→Option Value),(∀y∈bs,kindOf y.1=some .local)→bindC kindOf bs m=m
 | [],_,_=>rfl
 | (n,v)::r,m,h=>by
  unfold bindC
  rw [if_pos (h (n,v) (.head _))]
  exact bindC_none r m fun y hy=>h y (.tail _ hy)
section
variable {G:Glb}{fi:FI}
set_option tactic.hygienic true in
theorem callT_fin {nv:Nat}{F:PM Fl}{σ₁:St}{rv qv:PV}{α':List Addr}{N':List (Addr×Obj)}{v:Value}{h':Heap}{t':Tok}
  (e1:callF nv F pvs σ= .ok rv σ₁) (hb:handBack σ.cells.length σ₁.cells rv=some qv) (R0:RelAt G fi h₀ L σ held m α N s) (R1:RelAt G fi h₀ L σ₁ ((rv,v)::held) m α' N' (Sh s h' t'))
  (hα:∀(j:Nat) (a:Addr),α[j]? =some a→α'[j]? =some a):Rel G fi h₀ L ⟨σ.vars,(σ₁.cells.take σ.cells.length).map (forgetC σ.cells.length)⟩ ((qv,v)::held) (Sh s h' t'):=by
 have e1v:σ₁.vars=σ.vars:=by
  unfold callF at e1
  split at e1 <;> cases e1 <;> rfl
 obtain ⟨vars1,cells1⟩:=σ₁
 simp only at e1v
 subst e1v
 have hln:α.length=σ.cells.length:=R0.len
 have hle:σ.cells.length≤α'.length:=by
  rw [←hln]
  by_cases h0:α.length=0
  ·exact Q68 (.n2 _ _) h0
  ·have hlt:α.length-1<α.length:=by exact Q69 (.n2 _ _) h0 rfl
   have:=hα (α.length-1) _ (List.getElem?_eq_getElem hlt)
   have:=lt_of_some this
   exact Q33 (.n3 _ _ _) this rfl
 have hvb:∀pv∈σ.vars,isUnb pv=false→Bel σ.cells.length pv:=by
  intro qv hq hqu
  obtain ⟨i,hi⟩:=List.mem_iff_getElem?.mp hq
  have hil:i<fi.vnames.length:=by have:=lt_of_some hi;have:=R0.vlen;exact Q70 (.n3 _ _ _) (by assumption) this
  rcases R0.vars i _ qv (List.getElem?_eq_getElem hil) hi with h | ⟨_,w,_,hr'⟩
  ·rw [h] at hqu;cases hqu
  ·rw [←hln];exact hr'.bel
 have hhb:∀p∈held,Bel σ.cells.length p.1:=fun p hp=>by rw [←hln];exact (R0.held p hp).bel
 have T:=(R1.drop (held':=held) fun p hp=> .tail _ hp).trunc hle hvb hhb
 refine ⟨m,α'.take σ.cells.length,N',T.hold ?_⟩
 have hrep:=R1.held (rv,v) (.head _)
 unfold handBack at hb
 split at hb
 ·rename_i hs
  cases hb
  exact hrep.cut (safe_bel hs (rep_unb hrep))
 ·rename_i hs
  split at hb
  ·rename_i k
   split at hb
   ·rename_i xs hk
    split at hb
    ·rename_i hsc
     cases hb
     refine cps fun GC hGC=> ?_
     obtain ⟨a,ha,rfl⟩:=hrep.cell_inv
     obtain ⟨ws,n,c1,c2,c3,c4⟩:=R1.cells k a _ ha hk
     refine hGC ?_
     have hkn:¬k<σ.cells.length:=fun h=>hs (decide_eq_true h)
     refine .seq (tup:=false) (n:=n) c1 (fun hm=> ?_) c2 fun p hp=>(c3 p hp).cut (scal_bel (List.all_eq_true.mp hsc _ (List.of_mem_zip hp).1))
     obtain ⟨i,hi⟩:=List.mem_iff_getElem?.mp hm
     have hin:i<σ.cells.length:=by have:=lt_of_some hi;simp at this;exact Q30 (.n4 _ _ _ _) this rfl
     rw [List.getElem?_take_of_lt hin] at hi
     have:=nodup_inj R1.an hi ha
     exact Q71 (.n3 _ _ _) hkn hin this
    ·cases hb
   ·cases hb
  ·cases hb
set_option tactic.hygienic true in
theorem callTC_ok {params:List PySem.Str}{F:PV→PM Fl} (HF:FnAtC G fj f x params body) (HB:∀P pv,plainL pv=true→ExsR (G.pin P) (fj.cb x pv) body (F pv))
  (C:Cx G fi A h₀ L env) (hlv:fj.lv<fi.lv)
  {σ':St}{pv:PV}{vs:List Value}{R:Result→Shared→Prop}
  (hf:callTC fj.vnames.length F pvs σ= .ok pv σ') (hn:pvs.length=params.length+1) (hv:pvs.length=vs.length) (hu:∀p∈pvs,isUnb p=false) (hr:∀p∈pvs.zip vs,Rep α N p.1 p.2) (R0:RelAt G fi h₀ L σ held m α N s)
  (hQ:∀v h' t',Rel G fi h₀ L σ' ((pv,v)::held) (Sh s h' t')→R (.ok (.ret v)) (Sh s h' t')):
  codeAny (model G.prog G.w) A (.call (.ref f) ⟨vs,[]⟩) R s:=by
 unfold callTC at hf
 split at hf
 rotate_left
 ·cases hf
 rename_i p0 rest
 split at hf
 rotate_left
 ·cases hf
 rename_i hpl
 cases vs with
 | nil=>simp at hv
 | cons v0 ws=>
 have hv':rest.length=ws.length:=by simpa using hv
 have hn':rest.length=params.length:=by simpa using hn
 refine cps fun GC hGC=> ?_
 obtain ⟨xs,rfl⟩:∃xs,p0= .seq false xs:=by
  unfold plainL at hpl
  split at hpl
  ·exact ⟨_,rfl⟩
  ·cases hpl
 have hxs:xs.all scal=true:=hpl
 obtain ⟨la,lvs,ln,rfl,l1,l2,l3,l4⟩:=(hr (.seq false xs,v0) (.head _)).seq_inv
 obtain ⟨oc,od,name,ps,dV,kV,doc,pm,an,cdv,ct,osl,hl,hcd,hb⟩:=HF.at_
 obtain ⟨A₀,base,outer,env0,B,hA,hfr,hek⟩:=C.B
 refine hGC ?_
 have hparams:∀p∈params,p∈fj.vnames:=fun p hp=>by rw [←HF.pre] at hp;exact List.mem_of_mem_take hp
 have hpn:params.Nodup:=by rw [←HF.pre];exact HF.ok.nd.sublist (List.take_sublist _ _)
 have hdep:=C.dep
 have hun:=C.un
 refine code_cells B R0.fr C.X R0.nw C.T hA hfr hek hl hcd (by unfold recursionLimit;exact lin2 (.t .v0 (.k 1000)) (.t .v1 .v2) (.t (.a .v0 (.m 2 .v2)) (.k 900)) (.w [1,2,1]) rfl (.n3 _ _ _) hlv hdep) (BindsTo.of_eq (hb (.ref la::ws) (by simp;exact lin2 (.q .v0 .v1) (.q .v2 .v0) (.q .v2 .v1) (.b (.w [1,1, -1]) (.w [1, -1,1])) rfl (.n3 _ _ _) hv' hn'))) ?_ (by rw [HF.cell 0];simp) (fun g L' h₁ tk cells htk FG F' N' Y B' X' T' hlt=> ?_) HF.co HF.gen HF.ok.kind
 ·rw [List.zip_cons_cons,List.all_cons]
  rw [Bool.and_eq_true]
  refine ⟨by rw [HF.xc];rfl,List.all_eq_true.mpr fun y hy=> ?_⟩
  rw [HF.ok.loc HF.bare.1 y.1 (hparams y.1 (List.of_mem_zip hy).1)];rfl
 rw [HF.cell] at Y
 refine cps fun GC hGC=> ?_
 obtain ⟨oce,rfl,hoce⟩:=Y.one
 refine hGC ?_
 let e2:=envOfC fj.qual fj.scope L' f cdv
 have hko:∀y,e2.kindOf y=fj.scope.names.lookup y:=fun _=>rfl
 have hloc:∀y∈params.zip ws,e2.kindOf y.1=some .local:=fun y hy=>HF.ok.loc HF.bare.1 y.1 (hparams y.1 (List.of_mem_zip hy).1)
 have hoce':oce.data= .cell (some (.ref la)):=by
  rw [hoce,List.zip_cons_cons]
  unfold bindC
  rw [if_neg (by show ¬fj.scope.names.lookup x=some .local;rw [HF.xc];decide),bindC_none _ _ hloc,if_pos rfl]
 let P:List (Addr×Obj):=[(L'+1,oce),(la,⟨.type "list",Option.none, .seq lvs.toArray ln, #[]⟩)]
 have hzip:∀q∈xs.zip lvs,Plain q.1 q.2:=fun q hq=>rep_plain (List.all_eq_true.mp hxs _ (List.of_mem_zip hq).1) (l4 q hq)
 have Cj:Cx (G.pin P) (fj.cb x (.seq false xs)) (A.deeper e2) g L' e2:=by
  refine ⟨⟨⟨HF.ok.kind,HF.ok.nd,HF.ok.loc,HF.ok.nodbg⟩,fun _=>⟨f,cdv,rfl⟩,rfl,rfl,rfl,X',T',⟨A,base,env0::outer,e2,B', ?_,rfl,HF.ok.kind⟩,C.hd, ?_, ?_, ?_⟩, ?_, ?_⟩
  ·exact Around.frames_deeper hA
  ·skip
   rw [HF.bare.2.1];intro p hp;cases hp
  ·skip
   rw [HF.bare.2.2];intro p hp;cases hp
  ·intro p hp
   replace hp:p∈[(x,PV.seq false xs)]:=hp
   rw [List.mem_singleton.mp hp]
   refine ⟨.ref la,L'+1,oce, ?_, .head _,hoce', .list (.tail _ (.head _)) l3 hzip⟩
   show (cellsFrom (L'+1) fj.scope.names []).lookup x=some (L'+1)
   rw [HF.cell];simp [List.lookup]
  ·exact Q31 (.n3 _ _ _) hlv hdep
  ·exact Q32 (.n3 _ _ _) hlv hun
 have hcN:∀p∈N,p.1≠L'+1:=fun p hp=>Nat.ne_of_lt (Nat.lt_succ_of_lt (hlt p hp))
 have hcα:L'+1∉α:=fun hm=>by
  obtain ⟨o,ho⟩:=R0.alpha hm
  exact hcN _ ho rfl
 have up:∀{pv v},Rep α N pv v→Rep α ((L'+1,oce)::N) pv v:=fun h=>h.mono (fun p hp q=>⟨.tail _ hp,q⟩) (fun _ _ e=>e)
 let mk:List (PV×Value):=(List.range α.length).filterMap fun j=>(α[j]?).map fun a=>(.cell j, .ref a)
 have hmk:∀p∈mk,Rep α N p.1 p.2:=by
  intro p hp
  refine cps fun GC hGC=> ?_
  obtain ⟨j,_,e⟩:=List.mem_filterMap.mp hp
  refine hGC ?_
  cases q:α[j]? with
  | none=>rw [q] at e;cases e
  | some a=>rw [q] at e;simp at e;subst e;exact .cell q
 let hc:List (PV×Value):=mk++(cvars fi σ m++held)
 have hhc:∀p∈hc,Rep α N p.1 p.2:=by
  intro p hp
  rcases List.mem_append.mp hp with hp | hp
  ·exact hmk p hp
  ·rcases List.mem_append.mp hp with hp | hp
   ·exact cvars_rep R0 p hp
   ·exact R0.held p hp
 have Rj:RelAt (G.pin P) (fj.cb x (.seq false xs)) g L' ⟨vars0 fj.vnames.length rest,σ.cells⟩ hc (bindL e2.kindOf ((x::params).zip (.ref la::ws)) fun _=>none) α ((L'+1,oce)::N) {s with heap:=h₁,toks:=tk}:=by
  refine ⟨F',N', ?_,R0.an,R0.len, ?_, ?_,fun p hp=>up (hhc p hp),Nat.lt_of_lt_of_le R0.tok htk, ?_, ?_⟩
  ·rw [List.map_cons,List.nodup_cons]
   refine ⟨fun hm=> ?_,R0.nd⟩
   refine cps fun GC hGC=> ?_
   obtain ⟨p,hp,e⟩:=List.mem_map.mp hm
   refine hGC ?_
   exact hcN p hp e
  ·intro j a c ha hc
   exact (R0.cells j a c ha hc).mono (fun _ h=> .tail _ h) up
  ·intro i y qv e1 e2'
   have e2'':(vars0 fj.vnames.length rest)[i]? =some qv:=e2'
   unfold vars0 at e2''
   by_cases hi:i<rest.length
   ·rw [List.getElem?_append_left hi] at e2''
    right
    refine cps fun GC hGC=> ?_
    obtain ⟨v,hv1,hv2⟩:=pair_mem_zip hv' e2''
    refine hGC ?_
    have e3:params[i]? =some y:=by rw [←HF.pre,List.getElem?_take_of_lt (by exact Q67 (.n3 _ _ _) hn' hi)];exact e1
    refine ⟨hu qv (.tail _ (List.mem_of_getElem? e2'')),v, ?_,up (hr _ (.tail _ hv2))⟩
    rw [List.zip_cons_cons]
    unfold bindL
    have hnd':((params.zip ws).map (·.1)).Nodup:=by
     rw [List.map_fst_zip (by exact lin2 (.l .v0 .v1) (.q .v2 .v1) (.q .v2 .v0) (.w [1,1, -1]) rfl (.n3 _ _ _) hv' hn')];exact hpn
    exact bindL_local (kindOf:=e2.kindOf) _ _ hloc hnd' y v (zip_get e3 hv1)
   ·rw [List.getElem?_append_right (Nat.le_of_not_lt hi)] at e2''
    left
    exact (List.mem_replicate.mp (List.mem_of_getElem? e2'')).2
  ·skip
   have:params.length≤fj.vnames.length:=by rw [←HF.pre];simp;exact Q65 (.n3 _ _ _) rfl
   simp [vars0];exact Q66 (.n4 _ _ _ _) hn' this rfl
  ·intro p hp
   replace hp:p∈P++G.pins:=hp
   rcases List.mem_append.mp hp with hp | hp
   ·rcases List.mem_cons.mp hp with rfl | hp
    ·exact ⟨.head _,hcα⟩
    ·rw [List.mem_singleton.mp hp];exact ⟨.tail _ l1,l2⟩
   ·exact ⟨.tail _ (R0.pin p hp).1,(R0.pin p hp).2⟩
 unfold callT at hf
 split at hf
 rotate_left
 ·cases hf
 ·cases hf
 rename_i rv σ₁ e1
 split at hf
 rotate_left
 ·cases hf
 rename_i qv hbk
 cases hf
 have key:∀(fl:Fl) (σ₂:St),F (.seq false xs) ⟨vars0 fj.vnames.length rest,σ.cells⟩= .ok fl σ₂→(fl= .ret rv∨(fl= .next∧rv= .none))→σ₁=⟨σ.vars,σ₂.cells⟩→
   wpAny (model G.prog G.w) (A.deeper e2) (execs body e2)
    (fun fl s'=>LeaveK h₀ L m g R (match fl with | .ret v=>v | _=> .none) s')
    (fun e s'=>wpAny (model G.prog G.w) (A.deeper e2) (leaving e2 e) (fun _ s''=>R (.error e) s'') (fun e' s''=>R (.error e') s'') s')
    {s with heap:=h₁,toks:=tk}:=by
  intro fl σ₂ hF hfl hσ
  subst hσ
  refine HB P _ hpl _ g L' _ Cj hc _ _ fl σ₂ _ _ hF ⟨_,α,_,Rj⟩ fun flow h' t' FR=> ?_
  have fin:∀v,Rel (G.pin P) (fj.cb x (.seq false xs)) g L' σ₂ ((rv,v)::hc) (Sh s h' t')→LeaveK h₀ L m g R v (Sh s h' t'):=by
   intro v R2
   refine cps fun GC hGC=> ?_
   obtain ⟨m2,α2,N2,R2⟩:=R2
   refine hGC ?_
   refine ⟨L',m2,N2,R2.fr,R2.nw,fun F3 N3=>hQ v h' t' ?_⟩
   have R3:RelAt G fi h₀ L ⟨σ.vars,σ₂.cells⟩ ((rv,v)::held) m α2 N2 (Sh s h' t'):=by
    refine ⟨F3,N3,R2.nd,R2.an,R2.len,R2.cells, ?_, ?_,R2.tok,R0.vlen,fun p hp=>R2.pin p (List.mem_append_right _ hp)⟩
    ·intro i y qv e1 e2
     rcases R0.vars i y qv e1 e2 with h | ⟨hu',w,hw,_⟩
     ·exact .inl h
     ·exact .inr ⟨hu',w,hw,R2.held (qv,w) (.tail _ (List.mem_append_right _ (List.mem_append_left _ (cvars_mem e1 e2 hu' hw))))⟩
    ·intro p hp
     rcases List.mem_cons.mp hp with rfl | hp
     ·exact R2.held _ (.head _)
     ·exact R2.held p (.tail _ (List.mem_append_right _ (List.mem_append_right _ hp)))
   refine callT_fin e1 hbk R0 R3 fun j a hj=> ?_
   have hm:((.cell j, .ref a):PV×Value)∈mk:=List.mem_filterMap.mpr ⟨j,List.mem_range.mpr (List.getElem?_eq_some_iff.mp hj).1,by rw [hj];rfl⟩
   have:=R2.held (.cell j, .ref a) (.tail _ (List.mem_append_left _ hm))
   refine cps fun GC hGC=> ?_
   obtain ⟨b,hb1,hb2⟩:=this.cell_inv
   refine hGC ?_
   cases hb2;exact hb1
  rcases hfl with rfl | ⟨rfl,rfl⟩
  ·cases flow with
   | ret v=>exact fin v FR
   | _=>exact FR.elim
  ·cases flow with
   | next=>exact fin .none (let ⟨m2,α2,N2,R2⟩:=FR;⟨m2,α2,N2,R2.hold .none⟩)
   | _=>exact FR.elim
 have e1':=e1
 unfold callF at e1'
 split at e1'
 ·rename_i rv' σ₂ e;cases e1';exact key _ _ e (.inl rfl) rfl
 ·rename_i σ₂ e;cases e1';exact key _ _ e (.inr ⟨rfl,rfl⟩) rfl
 ·cases e1'
 ·cases e1'
 ·cases e1'
theorem R_callGC {cx:PySem.Str}{params:List PySem.Str}{F:PV→PM Fl}{np pos:Pos}{args:List Expr}{fs:List (PM PV)} (hx:EvR G fi (.Name x np) (pure1 (.glob (.ref f))))
  (H:EvsR G fi args fs) (hk:keepIn G.K (.ref f)=true) (HF:FnAtC G fj f cx params body) (HB:∀P pv,plainL pv=true→ExsR (G.pin P) (fj.cb cx pv) body (F pv)) (hlv:fj.lv<fi.lv) (hn:fs.length=params.length+1):
  EvR G fi (.Call (.Name x np) args [] pos) (bnd (evL fs) (callTC fj.vnames.length F)):=by
 intro A h₀ L env C held s σ pv σ' Q E hf R hQ
 obtain ⟨pvs,σ₁,h1,h2⟩:=bnd_ok hf
 skip
 refine wpAny_bind (hx A h₀ L env C held s σ _ σ _ _ rfl R fun fv h' t' R1=> ?_)
 obtain ⟨α,N,r⟩:=inv1 R1
 have:=r.glob_inv
 subst this
 refine callWith_fn H C hk h1 R1.tail fun vs h'' t'' hl R2=> ?_
 obtain ⟨m,α,N,R2⟩:=R2
 obtain ⟨z1,z2⟩:=zip_rep hl R2
 refine wpAny_call (callTC_ok HF HB C hlv h2 (by rw [evL_len h1,hn]) hl z2 z1 (R2.drop (held':=held) fun p hp=>List.mem_append_right _ hp) fun v h3 t3 R3=>hQ v h3 t3 R3)
end
end Mine
end
section
open PySem PySem.W PySem.Calls PyProof.Rows
set_option maxRecDepth 10000
set_option tactic.hygienic false
namespace Mine
variable {a:Addr}{xs:List PV}{x:PySem.Str}
noncomputable def addI:PV→PV→Option PV
 | .int a, .int b=>some (.int (a+b))
 | _,_=>none
noncomputable def kval:Value→PV
 | .str x _=> .str x.cps.toList
 | .int i _=> .int i
 | .bool b=> .bool b
 | .none=> .none
 | v=> .glob v
set_option tactic.hygienic true in
theorem kval_plain (v:Value):Plain (kval v) v:=by
 cases v <;> first | exact .none | exact .bool | exact .int | exact .glob | skip
 rename_i x t
 have:x=⟨x.cps.toList.toArray⟩:=by cases x;simp
 show Plain (.str x.cps.toList) (.str x t)
 conv=>rhs;rw [this]
 exact .str
noncomputable def kseq (K:Frag) (tup:Bool) (a:Addr):Option (List PV):=match K.lookup a with
 | some ⟨.type T,_, .seq vs _,_⟩=>if T=(if tup then "tuple" else "list") then some (vs.toList.map kval) else none
 | _=>none
set_option tactic.hygienic true in
theorem kseq_some {K:Frag}{tup:Bool} (h:kseq K tup a=some xs):∃d vs n sl,K.lookup a=some ⟨.type (if tup then "tuple" else "list"),d, .seq vs n,sl⟩∧xs=vs.toList.map kval:=by
 unfold kseq at h
 split at h
 ·rename_i T d vs n sl e
  by_cases hT:T=(if tup then "tuple" else "list")
  ·rw [if_pos hT] at h
   cases h
   subst hT
   exact ⟨d,vs,n,sl,e,rfl⟩
  ·rw [if_neg hT] at h
   cases h
 ·cases h
section
variable {G:Glb}{fi:FI}
theorem op_iadd:Op2 G (inplaceOp .Add) addI:=by
 intro fi A h₀ L env C held s σ a b va vb c Q E hg R hQ
 obtain ⟨α,N,ra,rb⟩:=inv2 R
 have R':Rel G fi h₀ L σ held s:=R.tail.tail
 unfold addI at hg
 split at hg
 ·cases hg
  obtain ⟨t,rfl⟩:=ra.int_inv;obtain ⟨u,rfl⟩:=rb.int_inv
  exact AutoIntOps.iadd_0 (hQ _ s.heap (s.toks+1) ((R'.toks (Nat.succ_pos _)).holdP .int))
 ·cases hg
set_option tactic.hygienic true in
theorem R_itemKG {np:Pos}{sl:Expr}{pos:Pos}{fs:PM PV} (hk:fi.scope.names.lookup x=some .globalImplicit) (hd:(x==("__debug__" :PySem.Str))=false) (e:nsIn G.K mainGlobals x=some (some (.ref a)))
  (hq:kseq G.K false a=some xs) (hs:EvR G fi sl fs) (hn:notSlice sl=true):EvR G fi (.Subscript (.Name x np) sl pos) (app2 itemP (pure1 (.seq false xs)) fs):=by
 intro A h₀ L env C held s σ pv σ' Q E hf R hQ
 obtain ⟨p0,σ₁,h1,hf⟩:=bnd_ok hf
 cases h1
 obtain ⟨b,σ₂,h2,h3⟩:=bnd_ok hf
 refine Subscript_ (R_glob hk hd e A h₀ L env C held s σ _ σ _ _ rfl R fun va h' t' R1=> ?_)
 obtain ⟨α,N,r⟩:=inv1 R1
 have:=r.glob_inv
 subst this
 refine hs A h₀ L env C _ _ σ b σ₂ _ _ h2 R1 fun vb h'' t'' R2=> ?_
 obtain ⟨d,vs,n,sl',g1,g2⟩:=kseq_some hq
 obtain ⟨m,α,N,R3⟩:=R2
 unfold itemP at h3
 split at h3
 ·rename_i e1;cases e1
 ·rename_i e1;cases e1
 ·rename_i tup ys i e1
  cases e1
  split at h3
  ·rename_i hz
   split at h3
   ·rename_i j hj
    cases h3
    obtain ⟨u,rfl⟩:=(R3.held (_,vb) (.head _)).int_inv
    have hl:(Sh s h'' t'').heap.IsList a vs.toList.toArray:=⟨_,(C.X.keeps R3.fr.keep) _ _ g1,rfl,n,by simp⟩
    have hjl:=(seqIndex_some hj).1
    have hlen:xs.length=vs.toList.length:=by rw [g2,List.length_map]
    have hjl2:j<vs.toList.length:=hlen▸hjl
    have e2:vs.toList[j]? =some vs.toList[j]:=List.getElem?_eq_getElem hjl2
    refine tail_any hl.typeIs slot_list_getitem.lookup (getItem_list_any hl (hlen▸hz) (hlen▸hj) e2 ?_) (subscripted_plain hn)
    have hx:xs.getD j .other=kval vs.toList[j]:=by
     rw [List.getD_eq_getElem?_getD,g2,List.getElem?_map,e2];rfl
    rw [hx] at hQ
    exact hQ _ h'' t'' ⟨m,α,N,(R3.drop fun p hp=> .tail _ (.tail _ hp)).hold (kval_plain _).rep⟩
   ·cases h3
  ·cases h3
 ·cases h3
theorem FnAt.pin {fj:FI}{f:Addr}{params:List PySem.Str}{body:List Stmt} (H:FnAt G fj f params body) (P:List (Addr×Obj)):FnAt (G.pin P) fj f params body:=⟨H.ok,H.gen,H.co,H.nocell,H.bare,H.pre,H.at_⟩
theorem clos_one {scope:Scope}{pv:PV} (h:∀(env:Env) (c:Addr),env.cells.lookup x=some c→closureFor scope env=pure [(x,c)]):ClosOk scope [(x,pv)]:=fun env hc=>by
 obtain ⟨c,e⟩:=hc (x,pv) (.head _)
 refine ⟨[(x,c)],h env c e,fun p hp=> ?_⟩
 rw [List.mem_singleton.mp hp]
 show List.lookup x [(x,c)]=env.cells.lookup x
 rw [e];simp [List.lookup]
end
end Mine
end
section
open PySem PySem.W PySem.Calls PyProof.Rows
set_option maxRecDepth 100000
namespace Mine
variable {G:Glb}{C f:Addr}{fj:FI}{cx name x:PySem.Str}{body:List Stmt}{nv:Nat}{F:PM Fl}{o:Expr}{apos np pos:Pos}{args:List Expr}{fo:PM PV}{fs:List (PM PV)}
structure MethAt (G:Glb) (C:Addr) (fj:FI) (name:PySem.Str) (f:Addr) (params:List PySem.Str) (body:List Stmt):Prop where
 find:findIn G.K (.ref C) name=some (some (.ref f))
 plain:plainGet G.K C name=true
 fn:isFn G.K (.ref f)=true
 keep:keepIn G.K (.ref f)=true
 nott:name∉G.tabs.t 0
 at_:FnAt G fj f params body
theorem MethAt.pin {params:List PySem.Str} (H:MethAt G C fj name f params body) (P:List (Addr×Obj)):MethAt (G.pin P) C fj name f params body:=
 ⟨H.find,H.plain,H.fn,H.keep,H.nott,H.at_.pin P⟩
structure DefAt (G:Glb) (fj:FI) (name:PySem.Str) (f:Addr) (params:List PySem.Str) (body:List Stmt):Prop where
 ns:nsIn G.K mainGlobals name=some (some (.ref f))
 keep:keepIn G.K (.ref f)=true
 at_:FnAt G fj f params body
theorem DefAt.pin {params:List PySem.Str} (H:DefAt G fj name f params body) (P:List (Addr×Obj)):DefAt (G.pin P) fj name f params body:=
 ⟨H.ns,H.keep,H.at_.pin P⟩
structure DefAtC (G:Glb) (fj:FI) (name:PySem.Str) (f:Addr) (cx:PySem.Str) (params:List PySem.Str) (body:List Stmt):Prop where
 ns:nsIn G.K mainGlobals name=some (some (.ref f))
 keep:keepIn G.K (.ref f)=true
 at_:FnAtC G fj f cx params body
theorem DefAtC.pin {params:List PySem.Str} (H:DefAtC G fj name f cx params body) (P:List (Addr×Obj)):DefAtC (G.pin P) fj name f cx params body:=
 ⟨H.ns,H.keep,⟨H.at_.ok,H.at_.gen,H.at_.co,H.at_.cell,H.at_.xc,H.at_.bare,H.at_.pre,H.at_.at_⟩⟩
theorem AttrOk.pin {id j:Nat} (H:AttrOk G C id j name) (P:List (Addr×Obj)):AttrOk (G.pin P) C id j name:=⟨H.hj,H.hg,H.hh,H.ha,H.hs,H.hp,H.ht⟩
theorem PF.pin {B:Ads} (F:PF G B) (P:List (Addr×Obj)):PF (G.pin P) B:=
 ⟨F.indentwidth.pin P,F.tabwidth.pin P,F.code.pin P,F.study_level.pin P,F.goodlines.pin P,F.continuation.pin P,F.stmt_start.pin P,F.stmt_end.pin P,F.lastch.pin P,F.lastopen.pin P,F.bracketing.pin P,
  F.cNone,F.cBack,F.cFirst,F.cNext,F.cBra,F.trans,F.junk,F.chew,F.str,F.len,F.range,F.tuple,F.junkK,F.chewK,F.strK,F.spK,F.trK⟩
structure NewAt (G:Glb) (C:Addr) (fj:FI) (name:PySem.Str) (f:Addr) (params:List PySem.Str) (body:List Stmt):Prop where
 ns:nsIn G.K mainGlobals name=some (some (.ref C))
 keep:keepIn G.K (.ref C)=true
 makes:makesIn G.K C=true
 init:findIn G.K (.ref C) "__init__" =some (some (.ref f))
 fn:isFn G.K (.ref f)=true
 at_:FnAt G fj f params body
theorem NewAt.pin {params:List PySem.Str} (H:NewAt G C fj name f params body) (P:List (Addr×Obj)):NewAt (G.pin P) C fj name f params body:=
 ⟨H.ns,H.keep,H.makes,H.init,H.fn,H.at_.pin P⟩
section
variable {G:Glb}{fi:FI}
theorem R_methFO {params:List PySem.Str}
  (M:MethAt G C fj name f params body) (HB:ExsR G fj body F) (ho:EvR G fi o fo) (hbase:∀env,attributeBase o name env (eval o env)=eval o env) (hline:(apos.endLine==pos.line)=true) (hlen:fs.length<29)
  (H:EvsR G fi args fs) (hlv:fj.lv<fi.lv) (hn:fs.length+1=params.length) (hnv:fj.vnames.length=nv):
  EvR G fi (.Call (.Attribute o name apos) args [] pos) (methM C 0 fo fs (callF nv F)):=R_methF M.plain M.find M.fn M.keep M.nott M.at_ HB ho hbase hline hlen H hlv hn hnv
theorem R_methTO {params:List PySem.Str}
  (M:MethAt G C fj name f params body) (HB:ExsR G fj body F) (ho:EvR G fi o fo) (hbase:∀env,attributeBase o name env (eval o env)=eval o env) (hline:(apos.endLine==pos.line)=true) (hlen:fs.length<29)
  (H:EvsR G fi args fs) (hlv:fj.lv<fi.lv) (hn:fs.length+1=params.length) (hnv:fj.vnames.length=nv):
  EvR G fi (.Call (.Attribute o name apos) args [] pos) (methM C 0 fo fs (callT nv F)):=R_methT M.plain M.find M.fn M.keep M.nott M.at_ HB ho hbase hline hlen H hlv hn hnv
theorem R_defO {params:List PySem.Str} (D:DefAt G fj x f params body) (HB:ExsR G fj body F)
  (hk:fi.scope.names.lookup x=some .globalImplicit) (hd:(x==("__debug__" :PySem.Str))=false) (H:EvsR G fi args fs) (hlv:fj.lv<fi.lv) (hn:fs.length=params.length) (hnv:fj.vnames.length=nv):
  EvR G fi (.Call (.Name x np) args [] pos) (bnd (evL fs) (callT nv F)):=by
 subst hnv
 exact R_callG (R_glob hk hd D.ns) H D.keep D.at_ HB hlv hn
theorem R_defCO {params:List PySem.Str}{F:PV→PM Fl} (D:DefAtC G fj x f cx params body)
  (HB:∀P pv,plainL pv=true→ExsR (G.pin P) (fj.cb cx pv) body (F pv))
  (hk:fi.scope.names.lookup x=some .globalImplicit) (hd:(x==("__debug__" :PySem.Str))=false) (H:EvsR G fi args fs) (hlv:fj.lv<fi.lv) (hn:fs.length=params.length+1) (hnv:fj.vnames.length=nv):
  EvR G fi (.Call (.Name x np) args [] pos) (bnd (evL fs) (callTC nv F)):=by
 subst hnv
 exact R_callGC (R_glob hk hd D.ns) H D.keep D.at_ HB hlv hn
theorem R_newO {na:Nat}{params:List PySem.Str} (D:NewAt G C fj x f params body) (HB:ExsR G fj body F)
  (ht:(G.tabs.t 0).length=na) (hnd:(G.tabs.t 0).Nodup) (hna:na≤100)
  (hk:fi.scope.names.lookup x=some .globalImplicit) (hd:(x==("__debug__" :PySem.Str))=false) (H:EvsR G fi args fs) (hlv:fj.lv+1<fi.lv) (hn:fs.length+1=params.length) (hnv:fj.vnames.length=nv):
  EvR G fi (.Call (.Name x np) args [] pos) (newM C 0 na nv F fs):=by
 subst hnv
 exact R_new (R_glob hk hd D.ns) H D.keep D.makes D.init D.fn D.at_ HB hlv hn ht hnd hna
end
noncomputable abbrev initF (B:Ads):PM Fl:=blk [setAttrM B.C 0 0 (vr 1) (vr 0),setAttrM B.C 0 1 (vr 2) (vr 0)]
noncomputable abbrev setcodeF (B:Ads):PM Fl:=blk [
 assertM (orM (eqM (lenM (vr 1)) (cI 0)) (eqM (itm (vr 1) neg1) (cS "\n"))),
 setAttrM B.C 0 2 (vr 1) (vr 0),
 setAttrM B.C 0 3 (cI 0) (vr 0)]
end Mine
end
section
open PySem PySem.W PySem.Calls PyProof.Rows
set_option maxRecDepth 100000
namespace Mine
noncomputable def words2:List PV:=["=","b","(a=b)","'='","==","+=","\"\\\"=\"","<=","f[a==b]",")","!=","{'(':'='}","**=","'''\"='''",">=","'\\\\'"].map fun s=> .str (lit s)
noncomputable abbrev signsF:PM Fl:=retM (tupM false [cS "=",cS "+=",cS "**="])
noncomputable abbrev signsC (words:PV):PM PV:=compM (rngM (vr 3) (lift2 subP (lenM (pure1 words)) (cI 1))) (fun k=>cmpM inLG (itm (pure1 words) (pure1 k)) (bnd (evL []) (callT 0 signsF))) (fun k=>pure1 k)
noncomputable abbrev columnsF (words:PV):PM Fl:=blk [
 setV 1 (cellM [vr 0]),
 forM (lstM (app2 catG (pure1 words) (tupM false [cS "\\"]))) (setG 2) (exprM (bmethM okList (vr 1) [lift2 addP (lift2 addP (itm (vr 1) neg1) (lenM (vr 2))) (cI 1)] appendG)),
 swap2M 3 4 (cI 0) (cellM []),
 whileM fuel (lift2 leP (vr 3) (lenM (pure1 words))) (blk [
  setV 5 (signsC words),
  setV 3 (iteM (cmpM neLG (vr 5) (tupM false [])) (lift2 addP (itm (vr 5) (cI 0)) (cI 1)) (lift2 addP (vr 3) (cI 1))),
  exprM (bmethM okList (vr 4) [itm (vr 1) (vr 3)] appendG)]) nop,
 retM (vr 4)]
noncomputable abbrev wordsC (a:Addr) (ns:List Int):PM PV:=compM (lstM (slcB a ns (vr 0) (pure1 .none) (cI 6))) (fun _=>ret1 true) (fun x=>itm (pure1 (.seq false words2)) (lift2 modP (pure1 x) (cI 16)))
noncomputable abbrev law2L (B:Ads):PM Fl:=blk [
 exprM (methM B.C 0 (vr 8) [vr 9] (callF 2 (setcodeF B))),
 setV 11 (methM B.C 0 (vr 8) [] (callT 8 (computeF B))),
 iteM (orM (lift2 neP (vr 11) (vr 10)) (notM (bnd (bnd (evL [vr 11,pure1 (.glob (.type "int"))]) isiG) truG))) (retM (pure1 (.bool false))) nop,
 setV 9 (lift2 addP (lift2 mulS (cS " ") (vr 10)) (sliceM (vr 7) (vr 10) (pure1 .none)))]
noncomputable abbrev law2F (B:Ads) (a:Addr) (ns:List Int):PM Fl:=blk [
 setV 1 (itm (tupM false [cS "",cS " ",cS "\t",cS "  \t",cS "\t ",cS " \t\t"]) (lift2 modP (bnd (evL [vr 0]) (sumB a ns)) (cI 6))),
 setV 2 (lift2 subP (cI 8) (lift2 modP (bnd (evL [vr 0]) (lenB a ns)) (cI 8))),
 setV 3 (app2 catG (tupM false [cS "a"]) (wordsC a ns)),
 setV 4 (cI 0),
 forM (txtM (vr 1)) (setG 5) (augM addI 4 (iteM (eqM (vr 5) (cS "\t")) (lift2 subP (vr 2) (lift2 modP (vr 4) (vr 2))) (cI 1))),
 setV 6 (lift2 addP (bmethM okStr (cS " ") [vr 3] joinG) (cS " \\\n")),
 setV 7 (lift2 addP (lift2 mulS (cS " ") (vr 4)) (vr 6)),
 setV 8 (newM B.C 0 11 3 (initF B) [cI 4,vr 2]),
 setV 9 (lift2 addP (vr 1) (vr 6)),
 forM (lstM (bnd (evL [vr 3,vr 4]) (callTC 6 columnsF))) (setG 10) (law2L B),
 retM (pure1 (.bool true))]
end Mine
end
section
open PySem PySem.W PySem.Calls PyProof.Rows
set_option maxRecDepth 100000
set_option maxHeartbeats 8000000
namespace Mine
noncomputable abbrev bo (p:Params) (a:Addr):List Stmt:=bodyAt (H.heap39 p) a
noncomputable abbrev fo (p:Params) (q:PySem.Str) (a:Addr) (vs:List PySem.Str) (lv:Nat):FI:={qual:=q,scope:=(scopeAt (H.heap39 p) a).getD default,vnames:=vs,lv:=lv}
noncomputable def fi0 (p:Params):FI:=fo p "Parser.__init__" 154 ["self","indentwidth","tabwidth"] 1
noncomputable def fi1 (p:Params):FI:=fo p "Parser._study1" 182 ["self","code","continuation","level","lno","goodlines","push_good","i","n","ch","quote","firstlno","w"] 1
noncomputable def fi2 (p:Params):FI:=fo p "Parser._study2" 196 ["self","code","goodlines","i","p","q","nothing","lastch","stack","push_stack","bracketing","m","newp","ch"] 2
noncomputable def fi3 (p:Params):FI:=fo p "Parser.compute_backslash_indent" 217 ["self","code","i","startpos","endpos","found","level","ch"] 3
noncomputable def fi4 (p:Params):FI:=fo p "Parser.set_code" 161 ["self","s"] 1
noncomputable def fi5 (p:Params):FI:=fo p "_law_signs" 260 [] 1
noncomputable def fi6 (p:Params):FI:=fo p "_law_columns" 265 ["width","starts","word","first","columns","signs"] 2
noncomputable def fi7 (p:Params) (a:Addr) (ns:List Int):FI:={fo p "law" 270 ["script","lead","tab","words","width","sign","body","flat","parser","text","column","told"] 5 with base:=[(a,ns)]}
structure F2 (G:Glb) (B:Ads) (p:Params):Prop where
 pf:PF G B
 sp:nsIn G.K mainGlobals "_twin_re_7" =some (some (.ref B.sp))
 m0:NewAt G B.C (fi0 p) "Parser" 154 ["self","indentwidth","tabwidth"] (bo p 154)
 m1:MethAt G B.C (fi1 p) "_study1" 182 ["self"] (bo p 182)
 m2:MethAt G B.C (fi2 p) "_study2" 196 ["self"] (bo p 196)
 m3:MethAt G B.C (fi3 p) "compute_backslash_indent" 217 ["self"] (bo p 217)
 m4:MethAt G B.C (fi4 p) "set_code" 161 ["self","s"] (bo p 161)
 m5:DefAt G (fi5 p) "_law_signs" 260 [] (bo p 260)
 m6:DefAtC G (fi6 p) "_law_columns" 265 "words" ["width"] (bo p 265)
 words:nsIn G.K mainGlobals "_law_words" =some (some (.ref 253))
 wordsq:kseq G.K false 253=some words2
 sum:nsIn G.K mainGlobals "sum" =some Option.none
 isi:nsIn G.K mainGlobals "isinstance" =some Option.none
 int:nsIn G.K mainGlobals "int" =some Option.none
 tab1:(G.tabs.t 0).length=11
 tab2:(G.tabs.t 0).Nodup
theorem F2.pin {G:Glb}{B:Ads}{p:Params} (F:F2 G B p) (P:List (Addr×Obj)):F2 (G.pin P) B p:=
 ⟨F.pf.pin P,F.sp,F.m0.pin P,F.m1.pin P,F.m2.pin P,F.m3.pin P,F.m4.pin P,F.m5.pin P,F.m6.pin P,F.words,F.wordsq,F.sum,F.isi,F.int,F.tab1,F.tab2⟩
theorem andF {A B:Prop} (a:A) (b:A→B):A∧B:=⟨a,b a⟩
theorem R_globE {G:Glb}{fi:FI}{x:PySem.Str}{pos:Pos}{i:Int} (hk:fi.scope.names.lookup x=some .globalImplicit) (hd:(x==("__debug__" :PySem.Str))=false) (e:∃t,nsIn G.K mainGlobals x=some (some (.int i t))):
  EvR G fi (.Name x pos) (pure1 (.int i)):=let ⟨_,e⟩:=e;R_globI hk hd e
theorem b_trE {G:Glb}{B:Ads} (h:∃C',TransAt G.K B.tab C' transF):BltOp G (.builtin "str.translate") (trG B.tab transF):=let ⟨_,h⟩:=h;b_tr h
noncomputable abbrev DR (f:Params→FI) (a:Addr) (g:Ads→PM Fl):Prop:=∀(G:Glb) (B:Ads) (p:Params),F2 G B p→ExsR G (f p) (bo p a) (g B)
theorem dall:DR fi1 182 study1F∧DR fi2 196 study2F∧DR fi3 217 computeF∧DR fi0 154 initF∧DR fi4 161 setcodeF∧DR fi5 260 (fun _=>signsF)∧
  (∀(pv:PV) (G:Glb) (B:Ads) (p:Params),F2 G B p→ExsR G ((fi6 p).cb "words" pv) (bo p 265) (columnsF pv))∧(∀(a:Addr) (ns:List Int) (G:Glb) (B:Ads) (p:Params),F2 G B p→ExsR G (fi7 p a ns) (bo p 270) (law2F B a ns)):=by
 refine andF ?_ fun h1=>andF ?_ fun h2=>andF ?_ fun h3=>andF ?_ fun h0=>andF ?_ fun h4=>andF ?_ fun h5=>andF (fun pv=> ?_) fun h6 a ns=> ?_
 all_goals
  intro G B p F
  show ExsR _ _ (_::_) _
 repeat' first
  | with_reducible first
   | assumption
   | (refine (?_:ExsR _ _ _ _);first
   | exact X_nil
   | refine X_one ?_
   | refine X_cons ?_ ?_)
   | (refine (?_:ExR _ _ _ _);first
   | exact X_cont
   | exact X_brk
   | exact X_ret0
   | refine X_if ?_ ?_ ?_
   | refine X_assert ?_
   | refine X_while ?_ ?_ ?_
   | refine X_for (S_range ?_ ?_) (fun _=>A_name ?_) ?_ ?_ ?_
   | refine X_for (S_seq ?_) (fun _=>A_name ?_) ?_ ?_ ?_
   | refine X_for (S_txt ?_) (fun _=>A_name ?_) ?_ ?_ ?_
   | refine X_ret ?_
   | refine X_setComp rfl (fun L f cd=> ?_) [("words",pv)] (fun p hp=>hp) (S_range ?_ ?_) (fun P z hz=>TestR_one (have F:=F.pin P; ?_)) (fun P z hz=> ?_) (clos_one fun env c h=> ?_) rfl ?_ ?_ rfl (fun _ _=>rfl)
   | refine X_set ?_ ?_ ?_
   | refine X_set2 ?_ ?_ ?_ ?_ ?_
   | refine X_setAttrO ?_ ?_ ?_ ?_
   | refine X_swap2 ?_ ?_ ?_ ?_ ?_ ?_ ?_
   | refine X_unp2 ?_ ?_ ?_ ?_ ?_ ?_ ?_ ?_ ?_
   | refine X_expr ?_ ?_
   | refine X_del ?_ ?_
   | refine X_aug op_iadd ?_ ?_)
   | (refine (?_:EvR _ _ (.Name _ _) _);first
   | refine R_bind (by with_unfolding_all exact List.Mem.head _) ?_ ?_
   | refine R_cbind (by with_unfolding_all exact List.Mem.head _) ?_ ?_
   | refine R_name ?_
   | refine R_globE ?_ ?_ F.pf.cNone
   | refine R_globE ?_ ?_ F.pf.cBack
   | refine R_globE ?_ ?_ F.pf.cFirst
   | refine R_globE ?_ ?_ F.pf.cNext
   | refine R_globE ?_ ?_ F.pf.cBra
   | refine R_glob ?_ ?_ F.pf.trans
   | refine R_glob ?_ ?_ F.pf.junk
   | refine R_glob ?_ ?_ F.pf.chew
   | refine R_glob ?_ ?_ F.pf.str
   | refine R_blt ?_ ?_ F.pf.len ?_ ?_
   | refine R_blt ?_ ?_ F.pf.range ?_ ?_
   | refine R_blt ?_ ?_ F.pf.tuple ?_ ?_
   | refine R_glob ?_ ?_ F.sp
   | refine R_blt ?_ ?_ F.sum ?_ ?_
   | refine R_blt ?_ ?_ F.isi ?_ ?_
   | refine R_blt ?_ ?_ F.int ?_ ?_)
   | (refine (?_:EvR _ _ (.Call _ _ _ _) _);first
   | refine R_push ?_ ?_ ?_
   | refine R_bcall ?_ ?_ cw_builtin b_len
   | refine R_bcall ?_ ?_ cw_type b_tuple
   | refine R_bcall ?_ ?_ (bmK ok_str F.pf.strK).1 (bmK ok_str F.pf.strK).2
   | refine R_bcall ?_ ?_ (bmK ok_junk F.pf.junkK).1 (bmK ok_junk F.pf.junkK).2
   | refine R_bcall ?_ ?_ (bmK ok_chew F.pf.chewK).1 (bmK ok_chew F.pf.chewK).2
   | refine R_replace ?_ ?_ ?_ ?_ ?_ ?_ ?_
   | refine R_bmeth self_str PySem.F.plainAttrs_str PySem.F.slot_str_find PySem.F.type_str_find ?_ ?_ ?_ ?_ ?_ b_find
   | refine R_bmeth self_str PySem.F.plainAttrs_str PySem.F.slot_str_rfind PySem.F.type_str_rfind ?_ ?_ ?_ ?_ ?_ b_rfind
   | refine R_bmeth self_str PySem.F.plainAttrs_str PySem.F.slot_str_expandtabs PySem.F.type_str_expandtabs ?_ ?_ ?_ ?_ ?_ b_exp
   | refine R_bmeth self_str PySem.F.plainAttrs_str PySem.F.slot_str_translate PySem.F.type_str_translate ?_ ?_ ?_ ?_ ?_ (b_trE F.pf.trK)
   | refine R_bmeth self_list PySem.F.plainAttrs_list PySem.F.slot_list_append PySem.F.type_list_append ?_ ?_ ?_ ?_ ?_ b_append
   | refine R_bmeth self_mat RX.plainAttrs_mat RX.slot_mat_end RX.type_mat_end ?_ ?_ ?_ ?_ ?_ b_end
   | refine R_bmeth (self_pat F.pf.spK) RX.plainAttrs_pat RX.slot_pat_match RX.type_pat_match ?_ ?_ ?_ ?_ ?_ (b_pat ok_slash F.pf.spK)
   | refine R_methFO F.m1 (h1 _ _ _ F) ?_ ?_ ?_ ?_ ?_ ?_ ?_ ?_
   | refine R_methFO F.m2 (h2 _ _ _ F) ?_ ?_ ?_ ?_ ?_ ?_ ?_ ?_
   | refine R_methFO F.m4 (h4 _ _ _ F) ?_ ?_ ?_ ?_ ?_ ?_ ?_ ?_
   | refine R_methTO F.m3 (h3 _ _ _ F) ?_ ?_ ?_ ?_ ?_ ?_ ?_ ?_
   | refine R_defO F.m5 (h5 _ _ _ F) ?_ ?_ ?_ ?_ ?_ ?_
   | refine R_defCO F.m6 (fun P pv _=>h6 pv _ _ _ (F.pin P)) ?_ ?_ ?_ ?_ ?_ ?_
   | refine R_newO F.m0 (h0 _ _ _ F) F.tab1 F.tab2 ?_ ?_ ?_ ?_ ?_ ?_ ?_
   | refine R_bcall ?_ ?_ cw_builtin b_isi
   | refine R_bcallF ?_ ?_ cw_builtin (b_lenB (by with_unfolding_all exact List.Mem.head _))
   | refine R_bcallF ?_ ?_ cw_builtin (b_sumB (by with_unfolding_all exact List.Mem.head _))
   | refine R_bmeth self_str PySem.F.plainAttrs_str PySem.F.slot_str_join PySem.F.type_str_join ?_ ?_ ?_ ?_ ?_ b_join)
   | (refine (?_:EvR _ _ _ _);first
   | exact R_int
   | exact R_bool
   | exact R_none
   | refine R_str ?_
   | refine R_itemKG ?_ ?_ F.words F.wordsq ?_ ?_
   | refine R_binM op_cat ?_ ?_
   | refine R_sliceB (by with_unfolding_all exact List.Mem.head _) ?_ ?_ ?_ ?_ ?_
   | refine R_cmp cm_isN ?_ ?_ ?_
   | refine R_cmp cm_eq ?_ ?_ ?_
   | refine R_ite ?_ ?_ ?_
   | refine R_attrO ?_ ?_ ?_
   | refine R_bm ?_ ?_
   | refine R_bin op_add ?_ ?_
   | refine R_bin op_sub ?_ ?_
   | refine R_bin op_mulS ?_ ?_
   | refine R_bin op_mod ?_ ?_
   | refine R_una op_neg ?_
   | refine R_slice ?_ ?_ ?_
   | refine R_item ?_ ?_ ?_
   | refine R_tup ?_
   | refine R_lst ?_
   | refine R_cell ?_)
   | (refine (?_:TrR _ _ _ _);first
   | refine T_not ?_
   | refine T_bool ?_
   | refine T_cmp cm_eq ?_ ?_ ?_
   | refine T_cmp cm_ne ?_ ?_ ?_
   | refine T_cmp cm_lt ?_ ?_ ?_
   | refine T_cmp cm_gt ?_ ?_ ?_
   | refine T_cmp cm_ge ?_ ?_ ?_
   | refine T_cmp cm_le ?_ ?_ ?_
   | refine T_cmp cm_in ?_ ?_ ?_
   | refine T_cmp cm_nin ?_ ?_ ?_
   | refine T_cmpM cm_inL ?_ ?_ ?_
   | refine T_cmpM cm_neL ?_ ?_ ?_
   | refine T_truth ?_ ?_)
   | (refine (?_:TrsR _ _ _ _ _);first
   | refine Ts_and ?_ ?_
   | refine Ts_or ?_ ?_
   | refine Ts_and1 ?_
   | refine Ts_or1 ?_)
   | exact EvsR.nil
   | refine EvsR.cons ?_ ?_ ?_
   | exact P_none
   | refine P_some ?_
   | refine A_name ?_
   | refine A_attrO ?_ ?_
   | (refine (?_:AttrOk _ _ _ _ _);first
   | exact F.pf.tabwidth
   | exact F.pf.indentwidth
   | exact F.pf.code
   | exact F.pf.continuation
   | exact F.pf.stmt_start
   | exact F.pf.stmt_end
   | exact F.pf.study_level
   | exact F.pf.goodlines
   | exact F.pf.lastch
   | exact F.pf.lastopen
   | exact F.pf.bracketing)
  | (intro P;have F:=F.pin P;with_reducible first | refine X_one ?_ | refine X_cons ?_ ?_)
  | ((with_reducible refine (?_:EvR _ _ (.ListComp _ _ _ _) _));refine R_comp [] (fun p hp=>by cases hp) (S_seq ?_) (fun P z hz=>TestR_nil) (fun P z hz=>have F:=F.pin P; ?_) (clos_none ?_) rfl ?_ ?_ rfl (fun _ _=>rfl))
  | (show closureFor ⟨_,_,_,_,_⟩ _=_;simp [closureFor,cellOf, *];done)
  | rfl
  | decide
  | (intro _;rfl)
  | (intro _ _;rfl)
  | (intro _ _ _;rfl)
  | (show _<_;simp;done)
  | exact Nat.lt_succ_self _
  | (intro _;with_unfolding_all rfl)
  | exact Nat.le_of_ble_eq_true rfl
  | (intro _ _ _ _;rfl)
theorem law2_R {G:Glb}{B:Ads}{p:Params} (F:F2 G B p) (a:Addr) (ns:List Int):ExsR G (fi7 p a ns) (bo p 270) (law2F B a ns):=dall.2.2.2.2.2.2.2 a ns _ _ _ F
end Mine
end
section
open PySem PySem.W PySem.Calls PyProof.Rows
set_option maxRecDepth 100000
set_option tactic.hygienic false
namespace Mine
noncomputable def tabsP:Nat→List PySem.Str:=fun i=>match i with
 | 0=>["indentwidth","tabwidth","code","study_level","goodlines","continuation","stmt_start","stmt_end","lastch","lastopenbracketpos","stmt_bracketing"]
 | 1=>["text","state","depth","start","sign"]
 | _=>[]
@[reducible] noncomputable def gOf (prog:Program) (w:World) (K:Frag) (p:Program) (loose:List PySem.Str) (mean:ExcName→Option Value) (mg mb:PySem.Str→Option Value):Glb:={prog:=prog,w:=w,K:=K,p:=p,loose:=loose,mean:=mean,mg:=mg,mb:=mb,tabs:={t:=tabsP,isD:=fun o kvs=>o.IsDictOf (strKind prog w) kvs}}
set_option tactic.hygienic true in
theorem law_go {G:Glb}{fi:FI}{body:List Stmt}{F:PM Fl} (HB:ExsR G fi body F) {A:Around}{h₀:Heap}{L:Addr}{env:Env} (C:Cx G fi A h₀ L env) {s:Shared}{σ:St} (hF:∃σ',F σ= .ok (.ret (.bool true)) σ') (R:Rel G fi h₀ L σ [] s)
  {Q:Flow→Shared→Prop}{E:Value→Shared→Prop} (hQ:∀h' t' m',Fr h₀ L h' m'→Q (.ret (.bool true)) (Sh s h' t')):wpAny (model G.prog G.w) A (execs body env) Q E s:=by
 obtain ⟨σ',hF⟩:=hF
 refine HB A h₀ L env C [] s σ _ σ' Q E hF R fun flow h' t' FR=> ?_
 cases flow <;> first | exact FR.elim | skip
 rename_i v
 replace FR:Rel G fi h₀ L σ' ((.bool true,v)::[]) (Sh s h' t'):=FR
 obtain ⟨m',α,N,R'⟩:=FR
 have r:=R'.held (_,v) (.head _)
 cases r
 exact hQ h' t' m' R'.fr
noncomputable def chkTab (es:Array DictEntry) (f:Nat→Nat):Bool:=
 es.toList.all (fun e=>match e.key with | .int k _=>e.hash==hashInt k | _=>false) &&
 (List.range 128).all fun c=>match es.findIdx? (fun e=>Value.isInt (c:Int) e.key) with
  | some i=>(match es[i]? with
   | some e=>(match e.val with | .int v _=>v==(f c:Int)&&decide (f c<128) | _=>false)
   | none=>false)
  | none=>false
set_option tactic.hygienic true in
theorem chkTab_ok {es:Array DictEntry}{f:Nat→Nat} (h:chkTab es f=true):IntKeys es∧∀c:Nat,c<128→∃i t e,es.findIdx? (fun e=>Value.isInt (c:Int) e.key)=some i∧es[i]? =some e∧e.val= .int (f c) t∧f c<128:=by
 unfold chkTab at h
 rw [Bool.and_eq_true] at h
 obtain ⟨h1,h2⟩:=h
 refine ⟨fun e he=> ?_,fun c hc=> ?_⟩
 ·have:=List.all_eq_true.mp h1 e (by simpa using he)
  split at this
  ·rename_i k t hk
   exact ⟨k,t,hk,by simpa using this⟩
  ·cases this
 ·have:=List.all_eq_true.mp h2 c (List.mem_range.mpr hc)
  split at this
  ·rename_i i hi
   split at this
   ·rename_i e he
    split at this
    ·rename_i v t hv
     rw [Bool.and_eq_true,beq_iff_eq,decide_eq_true_eq] at this
     obtain ⟨q1,q2⟩:=this
     subst q1
     exact ⟨i,t,e,hi,he,hv,q2⟩
    ·cases this
   ·cases this
  ·cases this
noncomputable def esAt (K:Frag) (a:Addr):Array DictEntry:=match K.lookup a with
 | some ⟨_,_, .dict es _,_⟩=>es
 | _=> #[]
set_option tactic.hygienic true in
theorem tab_at {K:Frag}{tab C:Addr}{f:Nat→Nat} (h1:typeIn K (.ref tab)=some (.ref C)) (h2:noSeq K C=true) (h3:specialIn K (.ref tab) "__getitem__" =some (some (.builtin "dict.__getitem__"))) (h4:instIn K (.ref tab) (.type "dict")=some true)
  (h5:(K.lookup tab).isSome=true) (h6:chkTab (esAt K tab) f=true) (h7:(match K.lookup tab with | some ⟨_,_, .dict _ _,_⟩=>true | _=>false)=true):TransAt K tab C f:=by
 refine ⟨h1,h2,h3,h4, ?_⟩
 split at h7
 ·rename_i oc od es n sl e
  have:esAt K tab=es:=by unfold esAt;rw [e]
  rw [this] at h6
  exact ⟨oc,od,es,n,sl,e,chkTab_ok h6⟩
 ·cases h7
end Mine
end
section
open PySem
set_option tactic.hygienic false
namespace Mine
namespace PT
variable {l s:List Nat}{c q:Nat}{m:Md}{z:Z}
inductive Md where
 | pl
 | cm
 | esc
 | st (q w first:Nat)
 | se (q w first:Nat)
 | skS (n q w first:Nat)
 | skP (n:Nat)
structure Z where
 level:Nat
 lno:Nat
 good:List Nat
 cont:Nat
noncomputable def nl (z:Z):Z:={z with lno:=z.lno+1,good:=if z.level=0 then z.good++[z.lno+1] else z.good}
noncomputable def step (m:Md) (z:Z) (c:Nat) (r:List Nat):Option (Md×Z):=match m with
 | .pl=>
  if c=120 then some (.pl,z)
  else if c=10 then some (.pl,nl z)
  else if c=40 then some (.pl,{z with level:=z.level+1})
  else if c=41 then some (.pl,{z with level:=z.level-1})
  else if c=34∨c=39 then (if r.take 2=[c,c] then some (.skS 2 c 2 z.lno,z) else some (.st c 0 z.lno,z))
  else if c=35 then some (.cm,z)
  else if c=92 then some (.esc,z)
  else none
 | .cm=>if c=10 then some (.pl,nl z) else some (.cm,z)
 | .esc=>if c=10 then some (.pl,{z with lno:=z.lno+1,cont:=if r=[] then 1 else z.cont}) else some (.pl,z)
 | .st q w first=>
  if c=120 then some (.st q w first,z)
  else if (c::r).take (w+1)=List.replicate (w+1) q then (if w=0 then some (.pl,z) else some (.skP w,z))
  else if c=10 then (if w=0 then some (.pl,nl z) else some (.st q w first,{z with lno:=z.lno+1}))
  else if c=92 then some (.se q w first,z)
  else some (.st q w first,z)
 | .se q w first=>if c=10 then some (.st q w first,{z with lno:=z.lno+1}) else some (.st q w first,z)
 | .skS n q w first=>if n≤1 then some (.st q w first,z) else some (.skS (n-1) q w first,z)
 | .skP n=>if n≤1 then some (.pl,z) else some (.skP (n-1),z)
noncomputable def run:Md→Z→List Nat→Option (Md×Z)
 | m,z,[]=>some (m,z)
 | m,z,c::r=>match step m z c r with
  | some (m',z')=>run m' z' r
  | none=>none
inductive Sk:List Nat→List Nat→Prop where
 | nil:Sk [] []
 | cons {c:Nat}{l s:List Nat}:Sk l s→Sk (c::l) (c::s)
 | dx {l s:List Nat}:Sk (120::l) s→Sk (120::120::l) s
 | dn {l s:List Nat}:Sk (10::l) s→Sk (10::120::l) s
theorem Sk.refl:∀l:List Nat,Sk l l
 | []=> .nil
 | _::l=> .cons (Sk.refl l)
theorem Sk.nil_iff (h:Sk l s):l=[]↔s=[]:=by
 induction h with
 | nil=>simp
 | cons=>simp
 | dx _ ih=>simp at ih ⊢;exact ih
 | dn _ ih=>simp at ih ⊢;exact ih
theorem Sk.head (h:Sk l s):l.head? =s.head? :=by
 induction h with
 | nil=>rfl
 | cons=>rfl
 | dx _ ih=>simpa using ih
 | dn _ ih=>simpa using ih
theorem Sk.reps (hq:q≠120) (hq2:q≠10):∀(n:Nat) {l s:List Nat},Sk l s→(l.take n=List.replicate n q↔s.take n=List.replicate n q):=by
 intro n
 induction n with
 | zero=>intro l s _;simp
 | succ n ih=>
  intro l s h
  cases h with
  | nil=>exact Iff.rfl
  | cons h=>
   rw [List.take_succ_cons,List.take_succ_cons,List.replicate_succ,List.cons.injEq,List.cons.injEq,ih h]
  | dx h=>
   have hh:=h.head
   cases s with
   | nil=>simp at hh
   | cons a s=>
    simp at hh
    subst hh
    rw [List.take_succ_cons,List.take_succ_cons,List.replicate_succ,List.cons.injEq,List.cons.injEq]
    constructor <;> rintro ⟨e,_⟩ <;> exact absurd e.symm hq
  | dn h=>
   have hh:=h.head
   cases s with
   | nil=>simp at hh
   | cons a s=>
    simp at hh
    subst hh
    rw [List.take_succ_cons,List.take_succ_cons,List.replicate_succ,List.cons.injEq,List.cons.injEq]
    constructor <;> rintro ⟨e,_⟩ <;> exact absurd e.symm hq2
noncomputable def okM:Md→Prop
 | .st q _ _=>q≠120∧q≠10
 | .se q _ _=>q≠120∧q≠10
 | .skS _ q _ _=>q≠120∧q≠10
 | _=>True
theorem step_sk (hm:okM m) (h:Sk (c::l) (c::s)) (hls:Sk l s):step m z c l=step m z c s:=by
 unfold step
 cases m with
 | pl=>
  skip
  by_cases hq:c=34∨c=39
  ·have h2:(l.take 2=[c,c])↔(s.take 2=[c,c]):=by
    have:=Sk.reps (q:=c) (by lia) (by lia) 2 hls
    simpa using this
   simp only [h2]
  ·simp only [if_neg hq]
 | cm=>rfl
 | esc=>
  have:=hls.nil_iff
  skip
  simp only [this]
 | st q w first=>
  skip
  have:=Sk.reps (q:=q) hm.1 hm.2 (w+1) h
  simp only [this]
 | se q w first=>rfl
 | skS n q w first=>rfl
 | skP n=>rfl
noncomputable def val (m:Md) (l:List Nat):Prop:=okM m∧match m with
 | .skS n q _ _=>0<n∧l.take n=List.replicate n q
 | .skP n=>0<n∧∃q,q≠120∧q≠10∧l.take n=List.replicate n q
 | _=>True
noncomputable def onM (P:Md→Prop):Option (Md×Z)→Prop
 | some p=>P p.1
 | none=>True
theorem onM_ite {P:Md→Prop}{c:Prop} [Decidable c] {a b:Option (Md×Z)} (ha:c→onM P a) (hb:¬c→onM P b):onM P (if c then a else b):=by
 by_cases h:c
 ·rw [if_pos h];exact ha h
 ·rw [if_neg h];exact hb h
theorem q_ok (h:c=34∨c=39):c≠120∧c≠10:=by rcases h with rfl | rfl <;> exact ⟨by decide,by decide⟩
theorem take_rep {n:Nat} (h:(c::l).take (n+1)=List.replicate (n+1) q):l.take n=List.replicate n q:=by
 rw [List.take_succ_cons,List.replicate_succ,List.cons.injEq] at h;exact h.2
theorem step_onM (hv:val m (c::l)):onM (fun m'=>val m' l) (step m z c l):=by
 cases m with
 | pl=>
  exact onM_ite (fun _=>⟨trivial,trivial⟩) fun _=>onM_ite (fun _=>⟨trivial,trivial⟩) fun _=>onM_ite (fun _=>⟨trivial,trivial⟩) fun _=>onM_ite (fun _=>⟨trivial,trivial⟩) fun _=>
   onM_ite (fun h=>onM_ite (fun h2=>⟨q_ok h,Nat.succ_pos 1,h2⟩) fun _=>⟨q_ok h,trivial⟩) fun _=>onM_ite (fun _=>⟨trivial,trivial⟩) fun _=>onM_ite (fun _=>⟨trivial,trivial⟩) fun _=>trivial
 | cm=>exact onM_ite (fun _=>⟨trivial,trivial⟩) fun _=>⟨trivial,trivial⟩
 | esc=>exact onM_ite (fun _=>⟨trivial,trivial⟩) fun _=>⟨trivial,trivial⟩
 | st q w first=>
  exact onM_ite (fun _=>⟨hv.1,trivial⟩) fun _=>onM_ite (fun hr=>onM_ite (fun _=>⟨trivial,trivial⟩) fun h0=>⟨trivial,Nat.pos_of_ne_zero h0,q,hv.1.1,hv.1.2,take_rep hr⟩) fun _=>
   onM_ite (fun _=>onM_ite (fun _=>⟨trivial,trivial⟩) fun _=>⟨hv.1,trivial⟩) fun _=>onM_ite (fun _=>⟨hv.1,trivial⟩) fun _=>⟨hv.1,trivial⟩
 | se q w first=>exact onM_ite (fun _=>⟨hv.1,trivial⟩) fun _=>⟨hv.1,trivial⟩
 | skS n q w first=>
  cases n with
  | zero=>exact absurd hv.2.1 (Nat.lt_irrefl 0)
  | succ k=>exact onM_ite (fun _=>⟨hv.1,trivial⟩) fun h=>⟨hv.1,Nat.pos_of_ne_zero fun e=>h (Nat.succ_le_succ (Nat.le_of_eq e)),take_rep hv.2.2⟩
 | skP n=>
  cases n with
  | zero=>exact absurd hv.2.1 (Nat.lt_irrefl 0)
  | succ k=>
   obtain ⟨q,h1,h2,ht⟩:=hv.2.2
   exact onM_ite (fun _=>⟨trivial,trivial⟩) fun h=>⟨trivial,Nat.pos_of_ne_zero fun e=>h (Nat.succ_le_succ (Nat.le_of_eq e)),q,h1,h2,take_rep ht⟩
theorem step_val {m':Md}{z':Z} (hv:val m (c::l)) (h:step m z c l=some (m',z')):val m' l:=by
 have:=step_onM (z:=z) hv
 rw [h] at this
 exact this
theorem val_head (hv:val m (c::l)) (hc:c=120∨c=10):(∀n q w f,m≠ .skS n q w f)∧∀n,m≠ .skP n:=by
 constructor
 ·rintro n q w f rfl
  obtain ⟨h0,ht⟩:=hv.2
  obtain ⟨k,rfl⟩:∃k,n=k+1:=⟨n-1,by exact Q111 (.n2 _ _) h0 rfl⟩
  rw [List.take_succ_cons,List.replicate_succ,List.cons.injEq] at ht
  have:=hv.1
  simp [okM] at this
  lia
 ·rintro n rfl
  obtain ⟨h0,q,h1,h2,ht⟩:=hv.2
  obtain ⟨k,rfl⟩:∃k,n=k+1:=⟨n-1,by exact Q111 (.n2 _ _) h0 rfl⟩
  rw [List.take_succ_cons,List.replicate_succ,List.cons.injEq] at ht
  lia
theorem rep_head {w:Nat} (hq:c≠q):¬(c::l).take (w+1)=List.replicate (w+1) q:=by
 rw [List.take_succ_cons,List.replicate_succ,List.cons.injEq]
 exact fun h=>hq h.1
theorem run_xx (hv:val m (120::120::l)):run m z (120::120::l)=run m z (120::l):=by
 have hh:=val_head hv (.inl rfl)
 cases m with
 | pl=>rfl
 | cm=>rfl
 | esc=>rfl
 | st q w first=>rfl
 | se q w first=>rfl
 | skS n q w f=>exact absurd rfl (hh.1 n q w f)
 | skP n=>exact absurd rfl (hh.2 n)
theorem run_nx (hv:val m (10::120::l)) (hl:l≠[]):run m z (10::120::l)=run m z (10::l):=by
 have hh:=val_head hv (.inr rfl)
 cases m with
 | pl=>rfl
 | cm=>rfl
 | esc=>simp [run,step,hl]
 | st q w first=>
  have hq:(10:Nat)≠q:=fun e=>hv.1.2 e.symm
  simp only [run,step,rep_head hq,if_false,show ¬((10:Nat)=120) by decide]
  by_cases hw:w=0
  ·simp [hw,run,step]
  ·simp [hw,run,step]
 | se q w first=>rfl
 | skS n q w f=>exact absurd rfl (hh.1 n q w f)
 | skP n=>exact absurd rfl (hh.2 n)
noncomputable def ends (l:List Nat):Prop:=l=[]∨l.getLast? =some 10
theorem ends_tail (h:ends (c::l)):ends l:=by
 cases l with
 | nil=>exact .inl rfl
 | cons d l=>
  rcases h with h | h
  ·cases h
  ·rw [List.getLast?_cons_cons] at h
   exact .inr h
set_option tactic.hygienic true in
theorem run_sk (h:Sk l s):∀(m:Md) (z:Z),val m l→ends l→run m z l=run m z s:=by
 induction h with
 | nil=>intro m z _ _;rfl
 | cons h ih=>
  intro m z hv he
  rename_i c l s
  unfold run
  rw [←step_sk hv.1 (.cons h) h]
  cases hst:step m z c l with
  | none=>rfl
  | some p=>exact ih p.1 p.2 (step_val hv hst) (ends_tail he)
 | dx h ih=>
  intro m z hv he
  rename_i l s
  rw [run_xx hv]
  have hh:=val_head hv (.inl rfl)
  refine ih m z ⟨hv.1, ?_⟩ (ends_tail he)
  cases m <;> first | trivial | exact absurd rfl (hh.1 _ _ _ _) | exact absurd rfl (hh.2 _)
 | dn h ih=>
  intro m z hv he
  rename_i l s
  have hh:=val_head hv (.inr rfl)
  have hl:l≠[]:=by
   rintro rfl
   rcases he with he | he
   ·cases he
   ·simp at he
  rw [run_nx hv hl]
  refine ih m z ⟨hv.1, ?_⟩ ?_
  ·cases m <;> first | trivial | exact absurd rfl (hh.1 _ _ _ _) | exact absurd rfl (hh.2 _)
  ·rcases he with he | he
   ·cases he
   ·right
    rw [List.getLast?_cons_cons] at he
    cases l with
    | nil=>exact absurd rfl hl
    | cons d l=>rw [List.getLast?_cons_cons] at he ⊢;exact he
theorem ends_cons (h:l≠[]) (he:ends l):ends (c::l):=by
 cases l with
 | nil=>exact absurd rfl h
 | cons d l=>
  rcases he with he | he
  ·cases he
  ·right;rw [List.getLast?_cons_cons];exact he
set_option tactic.hygienic true in
theorem Sk.ends (h:Sk l s):PT.ends l→PT.ends s:=by
 induction h with
 | nil=>exact fun h=>h
 | cons h ih=>
  intro he
  rename_i c l s
  by_cases hl:l=[]
  ·have hs:=h.nil_iff.mp hl
   subst hl;subst hs
   exact he
  ·exact ends_cons (fun e=>hl (h.nil_iff.mpr e)) (ih (ends_tail he))
 | dx h ih=>exact fun he=>ih (ends_tail he)
 | dn h ih=>
  intro he
  rename_i l s
  refine ih ?_
  have hl:l≠[]:=by
   rintro rfl
   rcases he with he | he
   ·cases he
   ·simp at he
  exact ends_cons hl (ends_tail (ends_tail he))
theorem Sk.app {l' s':List Nat} (h:Sk l s) (h':Sk l' s') (hb:s'=[]∨True):Sk (l++l') (s++s')∨True:= .inr trivial
theorem Sk.many:∀(n:Nat),Sk (120::l) s→Sk (List.replicate n 120++120::l) s
 | 0,h=>h
 | n+1,h=>by
  have ih:=Sk.many n h
  cases n with
  | zero=>exact .dx h
  | succ n=>
   rw [List.replicate_succ,List.cons_append]
   rw [List.replicate_succ,List.cons_append] at ih ⊢
   exact .dx ih
end PT
end Mine
end
section
open PySem Builtin Builtin.Str
set_option tactic.hygienic false
namespace Mine
namespace PT
variable {l y z:List Nat}
noncomputable def occG (y:List Nat):Nat→Nat→List Nat→List Nat
 | _,_,[]=>[]
 | 0,p,c::r=>if (c::r).take y.length=y then p::occG y (y.length-1) (p+1) r else occG y 0 (p+1) r
 | s+1,p,_::r=>occG y s (p+1) r
noncomputable def rplG (y z:List Nat):Nat→List Nat→List Nat
 | _,[]=>[]
 | 0,c::r=>if (c::r).take y.length=y then z++rplG y z (y.length-1) r else c::rplG y z 0 r
 | s+1,_::r=>rplG y z s r
theorem occ_run {l y:List Nat} (hy:0<y.length):∀(m p free:Nat) (found:Array Nat),p+m=l.length+1→found.size≤p→
  (forIn (List.range' p m) (found,free) (StrLaws.occBody ⟨l.toArray⟩ ⟨y.toArray⟩ l.length (l.length+1))).run.fst.toList=found.toList++occG y (free-p) p (l.drop p)
 | 0,p,free,found,hp,_=>by
  have:l.drop p=[]:=List.drop_eq_nil_of_le (by exact lin1 (.l .v0 .v1) (.q (.a .v1 .k0) (.a .v0 .k1)) (.w [1, -1]) rfl (.n2 _ _) hp)
  rw [this]
  cases free-p <;> simp [occG]
 | m+1,p,free,found,hp,hf=>by
  rw [List.range'_succ,List.forIn_cons]
  have hyl:(⟨y.toArray⟩:PySem.Str).length=y.length:=mk_len y
  unfold StrLaws.occBody
  rw [hyl]
  have hsub:(StrLaws.occBody ⟨l.toArray⟩ ⟨y.toArray⟩ l.length (l.length+1))=(StrLaws.occBody ⟨l.toArray⟩ ⟨y.toArray⟩ l.length (l.length+1)):=rfl
  have hs:subAt ⟨l.toArray⟩ ⟨y.toArray⟩ p=((l.drop p).take y.length==y):=by
   rw [StrLaws.subAt_eq,hyl]
  rw [hs]
  have cond:((((found,free).fst.size<l.length+1∧(found,free).snd≤p)∧p+y.length≤l.length)∧((l.drop p).take y.length==y)=true)↔(free≤p∧(l.drop p).take y.length=y):=by
   simp only [beq_iff_eq]
   constructor
   ·rintro ⟨⟨⟨_,h2⟩,_⟩,h4⟩;exact ⟨h2,h4⟩
   ·rintro ⟨h2,h4⟩
    have:((l.drop p).take y.length).length=y.length:=by rw [h4]
    rw [List.length_take,List.length_drop] at this
    exact ⟨⟨⟨by show found.size<_;exact lin2 (.t .v0 (.a .v1 .k1)) (.q (.a .v2 (.a .v3 .k1)) (.a .v1 .k1)) (.l .v0 .v2) (.w [1,1,1]) rfl (.n4 _ _ _ _) hp hf,h2⟩,by exact lin4 (.l (.a .v0 .v1) .v2) (.q (.a .v0 (.a .v3 .k1)) (.a .v2 .k1)) (.q .v5 .v1) (.M 5 .v1 .v4) (.b 4 .v2 .v0) (.d 3 (.d 6 (.w [0,1,1,0,1]) (.w [0,1,1,0,1,1])) (.d 6 (.w [0,1,0,1,1,0, -1]) (.w [0,1,0,1,1,1, -1]))) rfl (.n6 _ _ _ _ _ _) hp this rfl rfl⟩,h4⟩
  by_cases hc:free≤p∧(l.drop p).take y.length=y
  ·rw [if_pos (cond.mpr hc)]
   obtain ⟨h1,h2⟩:=hc
   have hlt:p<l.length:=by
    have:((l.drop p).take y.length).length=y.length:=by rw [h2]
    rw [List.length_take,List.length_drop] at this
    lia
   have ih:=occ_run (l:=l) (y:=y) hy m (p+1) (p+y.length) (found.push p) (by exact Q112 (.n3 _ _ _) hp) (by simp;exact Q62 (.n2 _ _) hf)
   refine Eq.trans ih ?_
   rw [Array.toList_push,List.append_assoc]
   congr 1
   rw [List.drop_eq_getElem_cons hlt] at h2 ⊢
   rw [show free-p=0 by exact Q113 (.n3 _ _ _) h1 rfl,show p+y.length-(p+1)=y.length-1 by exact lin2 (.q .v2 .v3) (.b 3 .v1 .k1) (.b 2 (.a .v0 .v1) (.a .v0 .k1)) (.b (.d 1 (.d 4 (.w [0, -1,0,1,1]) (.w [1, -1,0,1,1])) (.w [0,1,1])) (.d 2 (.d 3 (.w [0, -1,0,1,1]) (.w [1, -1,0,1,1])) (.w [0,1,1]))) rfl (.n4 _ _ _ _) rfl rfl]
   conv=>rhs;unfold occG
   rw [if_pos h2]
   rfl
  ·rw [if_neg (fun h=>hc (cond.mp h))]
   have ih:=occ_run (l:=l) (y:=y) hy m (p+1) free found (by exact Q112 (.n3 _ _ _) hp) (by exact Q21 (.n2 _ _) hf)
   refine Eq.trans ih ?_
   congr 1
   by_cases hlt:p<l.length
   ·rw [List.drop_eq_getElem_cons hlt]
    rw [List.drop_eq_getElem_cons hlt] at hc
    by_cases hfp:free≤p
    ·rw [show free-(p+1)=0 by exact lin2 (.q .v2 .k0) (.l .v0 .v1) (.b 2 .v0 (.a .v1 .k1)) (.b (.w [1]) (.d 2 (.w [1,0,0,1]) (.w [0,1,1]))) rfl (.n3 _ _ _) hfp rfl,show free-p=0 by exact Q113 (.n3 _ _ _) hfp rfl]
     conv=>rhs;unfold occG
     rw [if_neg (fun h=>hc ⟨hfp,h⟩)]
    ·obtain ⟨s,hs⟩:∃s,free-p=s+1:=⟨free-p-1,by exact lin3 (.q .v2 (.a .v3 .k1)) (.n (.l .v0 .v1)) (.b 3 .v2 .k1) (.b 2 .v0 .v1) (.b (.d 2 (.w [0,1,1]) (.d 5 (.w [0, -1,0,1,1,1]) (.w [1,0,0,0,0,1]))) (.d 3 (.d 4 (.w [0, -1,0,0,1]) (.w [1, -1,0,0,1])) (.w [1,0,0,1]))) rfl (.n4 _ _ _ _) hfp rfl rfl⟩
     rw [show free-(p+1)=s by exact lin4 (.q .v3 .v2) (.n (.l .v0 .v1)) (.q .v4 (.a .v2 .k1)) (.b 3 .v0 (.a .v1 .k1)) (.b 4 .v0 .v1) (.b (.d 3 (.d 6 (.w [0,1,0, -1,1,0, -1]) (.w [1,0,1])) (.d 6 (.w [0,1,1, -1,1,0, -1]) (.w [1,0,0,0,0,1]))) (.d 3 (.d 6 (.w [0, -1,0,1,1,0,1]) (.w [1,0,1])) (.w [0,1,1]))) rfl (.n5 _ _ _ _ _) hfp hs rfl rfl,hs]
     conv=>rhs;unfold occG
   ·rw [List.drop_eq_nil_of_le (show l.length≤p+1 by exact lin1 (.l .v0 (.a .v1 .k1)) (.n (.t .v1 .v0)) (.w [1,1]) rfl (.n2 _ _) hlt),List.drop_eq_nil_of_le (show l.length≤p by exact Q7 (.n2 _ _) hlt)]
    cases free-(p+1) <;> cases free-p <;> simp [occG]
noncomputable def joinL (z:List Nat):List (List Nat)→List Nat
 | []=>[]
 | [x]=>x
 | x::y::r=>x++z++joinL z (y::r)
noncomputable def pcs (l:List Nat) (k:Nat) (a:Nat):List Nat→List (List Nat)
 | []=>[(l.drop a).take (l.length-a)]
 | c::cs=>(l.drop a).take (c-a)::pcs l k (c+k) cs
theorem pcs_glue {l y z:List Nat} (hy:0<y.length):∀(r:List Nat) (p a s:Nat),l.drop p=r→p+r.length=l.length∨r=[]→(s=0∧a≤p)∨(0<s∧a=p+s)→
  joinL z (pcs l y.length a (occG y s p r))=(l.drop a).take (p-a)++rplG y z s r
 | [],p,a,s,hr,_,ha=>by
  have hp:l.length≤p:=by
   have:=congrArg List.length hr
   rw [List.length_drop] at this
   simp at this;exact lin2 (.l .v0 .v1) (.q .v2 .k0) (.b 2 .v0 .v1) (.d 2 (.w [0, -1,1,1]) (.w [1,0,1])) rfl (.n3 _ _ _) this rfl
  have e1:occG y s p []=[]:=by cases s <;> rfl
  have e2:rplG y z s []=[]:=by cases s <;> rfl
  rw [e1,e2,List.append_nil]
  show (l.drop a).take (l.length-a)=_
  rcases ha with ⟨_,ha⟩ | ⟨_,rfl⟩
  ·rw [List.take_of_length_le (by rw [List.length_drop];exact Q22 (.n1 _)),List.take_of_length_le (by rw [List.length_drop];exact Q114 (.n5 _ _ _ _ _) hp rfl rfl)]
  ·rw [List.drop_eq_nil_of_le (by exact lin2 (.l .v0 (.a .v1 .v2)) (.l .v0 .v1) (.t .k0 .v2) (.w [1,1,1]) rfl (.n3 _ _ _) hp (by assumption))];simp
 | c::r,p,a,s,hr,hlen,ha=>by
  have hlen':p+(r.length+1)=l.length:=by
   rcases hlen with h | h
   ·rwa [List.length_cons] at h
   ·cases h
  have hr1:l.drop (p+1)=r:=by
   have:=congrArg List.tail hr
   rw [List.tail_drop] at this
   exact this
  have hne:∀(b:Nat) (cs:List Nat),∃x xs,pcs l y.length b cs=x::xs:=fun b cs=>by
   cases cs with
   | nil=>exact ⟨_,_,rfl⟩
   | cons c cs=>exact ⟨_,_,rfl⟩
  cases s with
  | succ s=>
   have ha':a=p+(s+1):=by rcases ha with ⟨h,_⟩ | ⟨_,h⟩ <;> first | (cases h;done) | exact h
   unfold occG rplG
   rw [pcs_glue hy r (p+1) a s hr1 (.inl (by exact Q15 (.n3 _ _ _) hlen')) (by
    cases s with
    | zero=>exact .inl ⟨rfl,by lia⟩
    | succ s=>exact .inr ⟨by exact Q115 (.n1 _),by lia⟩)]
   rw [show p+1-a=0 by lia,show p-a=0 by lia]
  | zero=>
   have ha':a≤p:=by rcases ha with ⟨_,h⟩ | ⟨h,_⟩ <;> lia
   unfold occG rplG
   by_cases hm:(c::r).take y.length=y
   ·rw [if_pos hm,if_pos hm]
    show joinL z ((l.drop a).take (p-a)::pcs l y.length (p+y.length) (occG y (y.length-1) (p+1) r))=_
    obtain ⟨x,xs,hx⟩:=hne (p+y.length) (occG y (y.length-1) (p+1) r)
    have ih:=pcs_glue (z:=z) hy r (p+1) (p+y.length) (y.length-1) hr1 (.inl (by exact Q15 (.n3 _ _ _) hlen')) (by
     by_cases h1:y.length=1
     ·exact .inl ⟨by exact lin2 (.q .v1 .k0) (.q .v0 .k1) (.b 1 .v0 .k1) (.b (.w [1]) (.d 2 (.w [0,1,1,1]) (.w [0,1,1]))) rfl (.n2 _ _) h1 rfl,by exact lin1 (.l (.a .v0 .v1) (.a .v0 .k1)) (.q .v1 .k1) (.w [1,1]) rfl (.n2 _ _) h1⟩
     ·exact .inr ⟨by exact lin3 (.t .k0 .v1) (.t .k0 .v0) (.n (.q .v0 .k1)) (.b 1 .v0 .k1) (.d 3 (.d 4 (.w [1,1]) (.w [1,0, -1,1])) (.d 4 (.w [1,0,0,0,1]) (.w [1,1]))) rfl (.n2 _ _) hy h1 rfl,by exact lin2 (.q (.a .v0 .v1) (.a (.a .v0 .k1) .v2)) (.t .k0 .v1) (.b 2 .v1 .k1) (.b (.d 2 (.w [0,1,1]) (.w [0,1,1,1])) (.d 2 (.w [0, -1,1]) (.w [1, -1,1]))) rfl (.n3 _ _ _) hy rfl⟩)
    rw [hx] at ih ⊢
    show _++z++joinL z (x::xs)=_
    rw [ih,show p+1-(p+y.length)=0 by exact lin2 (.q .v2 .k0) (.t .k0 .v1) (.b 2 (.a .v0 .k1) (.a .v0 .v1)) (.b (.w [1]) (.d 2 (.w [0,1,1,1]) (.w [0,1,1]))) rfl (.n3 _ _ _) hy rfl]
    simp
   ·rw [if_neg hm,if_neg hm]
    rw [pcs_glue hy r (p+1) a 0 hr1 (.inl (by exact Q15 (.n3 _ _ _) hlen')) (.inl ⟨rfl,by lia⟩)]
    have e:(l.drop a).take (p+1-a)=(l.drop a).take (p-a)++[c]:=by
     rw [show p+1-a=(p-a)+1 by lia,List.take_succ]
     congr 1
     rw [List.getElem?_drop,show a+(p-a)=p by lia]
     have:l[p]? =some c:=by
      have:=congrArg List.head? hr
      rw [List.head?_drop] at this
      simpa using this
     rw [this];rfl
    rw [e,List.append_assoc];rfl
theorem pcs_of (l:List Nat) (k:Nat):∀(cuts:List Nat) (a:Nat),(((a::cuts.map (· + k)).zip (cuts++[l.length])).map fun (i,j)=>(strSub ⟨l.toArray⟩ i j).cps.toList)=pcs l k a cuts
 | [],a=>by
  show [(strSub ⟨l.toArray⟩ a l.length).cps.toList]=_
  rw [StrLaws.strSub_toList];rfl
 | c::cs,a=>by
  have ih:=pcs_of l k cs (c+k)
  show (strSub ⟨l.toArray⟩ a c).cps.toList::_=_
  rw [StrLaws.strSub_toList]
  exact congrArg _ ih
theorem joinL_of (z:PySem.Str):∀ps:List PySem.Str,(PySem.Str.join z ps).cps.toList=joinL z.cps.toList (ps.map fun p=>p.cps.toList)
 | []=>rfl
 | [x]=>rfl
 | x::y::r=>by
  have ih:=joinL_of z (y::r)
  show (x++z++PySem.Str.join z (y::r)).cps.toList=x.cps.toList++z.cps.toList++joinL z.cps.toList ((y::r).map fun p=>p.cps.toList)
  rw [←ih,PySem.Str.cps_append,PySem.Str.cps_append]
  simp
theorem occ_all (hy:0<y.length):occurrences ⟨l.toArray⟩ ⟨y.toArray⟩ 0 l.length (l.length+1)=occG y 0 0 l:=by
 rw [StrLaws.occ_eq]
 have:=occ_run (l:=l) hy (l.length+1) 0 0 #[] (by exact lin0 (.q (.a .k0 (.a .v0 .k1)) (.a .v0 .k1)) (.b (.w [1]) (.w [1])) rfl (.n1 _)) (by simp)
 simpa using this
theorem rplG_none:∀(l:List Nat) (p:Nat),occG y 0 p l=[]→rplG y z 0 l=l
 | [],_,_=>rfl
 | c::r,p,h=>by
  unfold occG at h
  split at h
  ·cases h
  ·rename_i hn
   unfold rplG
   rw [if_neg hn,rplG_none r (p+1) h]
theorem replace_eq (hy:0<y.length) (hz:0<z.length):(PySem.Txt.replace ⟨l.toArray⟩ ⟨y.toArray⟩ ⟨z.toArray⟩).cps.toList=rplG y z 0 l:=by
 unfold PySem.Txt.replace
 have e1:(⟨l.toArray⟩:PySem.Str).length=l.length:=mk_len l
 have e2:(⟨y.toArray⟩:PySem.Str).length=y.length:=mk_len y
 rw [e1,e2,occ_all hy]
 by_cases h0:(occG y 0 0 l).isEmpty=true
 ·rw [if_pos (by rw [h0];rfl)]
  rw [rplG_none l 0 (by simpa using h0)]
 ·rw [if_neg (by
   have:(y.length==0)=false:=by rw [beq_eq_false_iff_ne];exact lin1 (.n (.q .v0 .k0)) (.t .k0 .v0) (.w [1,1]) rfl (.n1 _) hy
   rw [this];simpa using h0)]
  rw [StrLaws.glued_eq_join,joinL_of]
  unfold partsBetween
  rw [List.map_map]
  have:=pcs_of l y.length (occG y 0 0 l) 0
  rw [e1]
  have h3:((0::(occG y 0 0 l).map (· + y.length)).zip (occG y 0 0 l++[l.length])).map ((fun p:PySem.Str=>p.cps.toList)∘fun (i,j)=>strSub ⟨l.toArray⟩ i j)=pcs l y.length 0 (occG y 0 0 l):=this
  rw [h3]
  have:=pcs_glue (l:=l) (y:=y) (z:=z) hy l 0 0 0 rfl (.inl (Nat.zero_add _)) (.inl ⟨rfl,Nat.le_refl 0⟩)
  rw [this];simp
theorem rplG_skip:∀(s:Nat) (l:List Nat),rplG y z s l=rplG y z 0 (l.drop s)
 | 0,l=>rfl
 | s+1,[]=>rfl
 | s+1,c::l=>by
  show rplG y z s l=_
  rw [rplG_skip s l];rfl
theorem sk_x (k:Nat):∀(n:Nat) (l:List Nat),l.length≤n→Sk l (rplG (List.replicate (k+1) 120) [120] 0 l)
 | 0,l,h=>by
  have:l=[]:=List.length_eq_zero_iff.mp (by exact Q116 (.n1 _) h)
  subst this;exact .nil
 | n+1,[],_=> .nil
 | n+1,c::r,h=>by
  unfold rplG
  by_cases hm:(c::r).take (List.replicate (k+1) 120).length=List.replicate (k+1) 120
  ·rw [if_pos hm,rplG_skip]
   rw [List.length_replicate,List.take_succ_cons,List.replicate_succ,List.cons.injEq] at hm
   obtain ⟨rfl,hm⟩:=hm
   have hr:r=List.replicate k 120++r.drop k:=by
    conv=>lhs;rw [←List.take_append_drop k r,hm]
   have ih:=sk_x k n (r.drop k) (by rw [List.length_drop];simp at h;exact lin2 (.l .v3 .v2) (.l .v0 .v2) (.b 3 .v0 .v1) (.d 2 (.w [0,1,1,1]) (.w [0,1,1,1])) rfl (.n4 _ _ _ _) h rfl)
   have:=Sk.many k (Sk.cons (c:=120) ih)
   rw [List.length_replicate,Nat.add_sub_cancel]
   conv=>lhs;rw [hr]
   have e:120::(List.replicate k 120++r.drop k)=List.replicate k 120++120::r.drop k:=by
    have:∀(j:Nat),120::(List.replicate j 120++r.drop k)=List.replicate j 120++120::r.drop k:=by
     intro j
     induction j with
     | zero=>rfl
     | succ j ih=>rw [List.replicate_succ,List.cons_append,List.cons_append,ih]
    exact this k
   rw [e]
   exact this
  ·rw [if_neg hm]
   exact .cons (sk_x k n r (by simpa using h))
theorem sk_n:∀(n:Nat) (l:List Nat),l.length≤n→Sk l (rplG [10,120] [10] 0 l)
 | 0,l,h=>by
  have:l=[]:=List.length_eq_zero_iff.mp (by exact Q116 (.n1 _) h)
  subst this;exact .nil
 | n+1,[],_=> .nil
 | n+1,c::r,h=>by
  unfold rplG
  by_cases hm:(c::r).take ([10,120]:List Nat).length=[10,120]
  ·rw [if_pos hm,rplG_skip]
   obtain ⟨r',rfl,rfl⟩:∃r',c=10∧r=120::r':=by
    cases r with
    | nil=>simp at hm
    | cons d r=>simp at hm;exact ⟨r,hm.1,by rw [hm.2]⟩
   exact .dn (.cons (sk_n n r' (by simp at h;exact Q3 (.n2 _ _) h)))
  ·rw [if_neg hm]
   exact .cons (sk_n n r (by simpa using h))
end PT
end Mine
end
section
open PySem
set_option maxRecDepth 10000
set_option tactic.hygienic false
namespace Mine
namespace PT
variable {x y:PM Fl}{f:Fl}{σ σ' σ'':St}{d i n:Nat}{S:List Nat}{b:Bool}
structure S1 where
 C:Addr
 k:Nat
 g:Nat
 S:List Nat
 cells:List PCell
noncomputable def vars1 (e:S1) (z:Z) (i:Int) (ch qu fl w:PV):List PV:=
 [.inst e.C e.k, .str e.S, .int z.cont, .int z.level, .int z.lno, .cell e.g, .bm e.g, .int i, .int e.S.length,ch,qu,fl,w]
noncomputable def goodC (z:Z):PCell:= .list (z.good.map fun n:Nat=> .int n)
noncomputable def st1 (e:S1) (z:Z) (i:Int) (ch qu fl w:PV):St:=⟨vars1 e z i ch qu fl w,e.cells.set e.g (goodC z)⟩
theorem ok_bnd {α β:Type}{x:PM α}{f:α→PM β}{a:α} (h:x σ= .ok a σ'):bnd x f σ=f a σ':=by unfold bnd;rw [h]
theorem idx_nat (h:i<n):seqIndex? (i:Int) n=some i:=by
 have h0:¬((i:Int)<0):=by exact Q73 (.n1 _)
 have h1:(i:Int)<n:=by exact Q39 (.n2 _ _) h
 simp [seqIndex?,h0,h]
theorem itm_nat {x j:PM PV}{c:Nat} (hx:x σ= .ok (.str S) σ) (hj:j σ= .ok (.int i) σ) (hc:S[i]? =some c) (hs:S.length≤sizeMax):itm x j σ= .ok (.str [c]) σ:=by
 have hi:=lt_of_some hc
 show bnd x (fun a=>bnd j fun b=>itemP a b) σ=_
 rw [ok_bnd hx,ok_bnd hj]
 unfold itemP
 dsimp only
 rw [if_pos hs,idx_nat hi]
 simp [List.getD,hc]
theorem ok_seq (h:x σ= .ok .next σ'):seqM x y σ=y σ':=by unfold seqM;rw [ok_bnd h]
theorem ok_seqF (h:x σ= .ok f σ') (hf:f≠ .next):seqM x y σ= .ok f σ':=by
 unfold seqM;rw [ok_bnd h]
 cases f <;> first | rfl | exact absurd rfl hf
theorem ok_ite {β:Type}{c:PM Bool}{x y:PM β} (h:c σ= .ok b σ'):iteM c x y σ=if b then x σ' else y σ':=by
 unfold iteM;rw [ok_bnd h];cases b <;> rfl
theorem ok_iteT {β:Type}{c:PM Bool}{x y:PM β} (h:c σ= .ok true σ'):iteM c x y σ=x σ':=by rw [ok_ite h];rfl
theorem ok_iteF {β:Type}{c:PM Bool}{x y:PM β} (h:c σ= .ok false σ'):iteM c x y σ=y σ':=by rw [ok_ite h];rfl
theorem seqF {c:PM Bool} (h:c σ= .ok false σ'):seqM (iteM c x nop) y σ=y σ':=ok_seq ((ok_iteF h).trans rfl)
theorem seqT {c:PM Bool} (h:c σ= .ok true σ') (hx:x σ'= .ok .next σ''):seqM (iteM c x nop) y σ=y σ'':=ok_seq ((ok_iteT h).trans hx)
theorem seqS {c:PM Bool} (h:c σ= .ok true σ') (hx:x σ'= .ok f σ'') (hf:f≠ .next):seqM (iteM c x nop) y σ= .ok f σ'':=ok_seqF ((ok_iteT h).trans hx) hf
theorem ok_setV {x:PM PV}{a:PV} (h:x σ= .ok a σ') (hu:isUnb a=false):setV i x σ= .ok .next {σ' with vars:=σ'.vars.set i a}:=by
 unfold setV;rw [ok_bnd h];rw [if_neg (by rw [hu];decide)]
theorem clip_nat (n a:Nat):clipN n (a:Int)=min a n:=by
 unfold clipN
 rw [if_neg (Int.not_lt.mpr (Int.natCast_nonneg a)),show min (a:Int) (n:Int)=((min a n:Nat):Int) from (Lean.Omega.Int.ofNat_min a n).symm,Int.max_eq_right (Int.natCast_nonneg _),Int.toNat_natCast]
theorem sl_nat {x ja jb:PM PV}{a b:Nat} (hx:x σ= .ok (.str S) σ) (ha:ja σ= .ok (.int a) σ) (hb:jb σ= .ok (.int b) σ) (hs:S.length≤sizeMax) (hal:a≤S.length):sliceM x ja jb σ= .ok (.str ((S.drop a).take (b-a))) σ:=by
 unfold sliceM
 rw [ok_bnd hx,ok_bnd ha,ok_bnd hb]
 unfold optM sliceP optI
 dsimp only
 rw [if_pos hs]
 dsimp only
 congr 2
 unfold sliceS
 dsimp only
 rw [clip_nat,clip_nat,Nat.min_eq_left hal]
 rcases Nat.le_total b S.length with h | h
 ·rw [Nat.min_eq_left h]
 ·rw [Nat.min_eq_right h,List.take_of_length_le (by rw [List.length_drop];exact Q22 (.n1 _)),List.take_of_length_le (by rw [List.length_drop];exact Q114 (.n5 _ _ _ _ _) h rfl rfl)]
variable {e:S1}{z:Z}{i:Nat}{ch qu fl w:PV}
theorem rd {c:Nat} (hc:e.S[i]? =some c) (hs:e.S.length≤sizeMax):setV 9 (itm (vr 1) (vr 7)) (st1 e z i ch qu fl w)= .ok .next (st1 e z i (.str [c]) qu fl w):=by
 rw [ok_setV (itm_nat (x:=vr 1) (j:=vr 7) (S:=e.S) (i:=i) rfl rfl hc hs) rfl];rfl
theorem inc1:incV 7 1 (st1 e z n ch qu fl w)= .ok .next (st1 e z (n+1:Nat) ch qu fl w):=rfl
theorem eqc {c:Nat}{s:String} (hb:([c]==lit s)=b):eqM (vr 9) (cS s) (st1 e z i (.str [c]) qu fl w)= .ok b (st1 e z i (.str [c]) qu fl w):=by subst hb;rfl
structure Ok1 (e:S1) (z:Z):Prop where
 hg:e.g<e.cells.length
 small:z.good.length<100000
theorem cell_g {i:Int} (h:e.g<e.cells.length):cellL e.g (st1 e z i ch qu fl w)=some (z.good.map fun n:Nat=> .int n):=by
 unfold cellL st1
 dsimp only
 rw [List.getElem?_set_self h]
 rfl
theorem push_lno {i:Int} (h:Ok1 e z):exprM (pushM (vr 6) (vr 4)) (st1 e z i ch qu fl w)= .ok .next (st1 e {z with good:=z.good++[z.lno]} i ch qu fl w):=by
 have h1:pushM (vr 6) (vr 4) (st1 e z i ch qu fl w)= .ok .none (st1 e {z with good:=z.good++[z.lno]} i ch qu fl w):=by
  show appG e.g (.int z.lno) (st1 e z i ch qu fl w)=_
  unfold appG
  rw [cell_g h.hg]
  dsimp only
  rw [if_pos (by rw [List.length_map];unfold sizeMax;have:=h.small;exact lin1 (.t .v0 (.k 1048576)) (.t .v0 (.k 100000)) (.w [1,1]) rfl (.n1 _) this)]
  show Res.ok PV.none _=_
  congr 1
  unfold st1
  congr 1
  dsimp only
  rw [List.set_set]
  congr 1
  unfold goodC
  simp
 unfold exprM
 rw [ok_bnd h1]
theorem nl_ok (h:Ok1 e z):iteM (eqM (vr 3) (cI 0)) (exprM (pushM (vr 6) (vr 4))) nop (st1 e {z with lno:=z.lno+1} i ch qu fl w)= .ok .next (st1 e (nl z) i ch qu fl w):=by
 have hc:eqM (vr 3) (cI 0) (st1 e {z with lno:=z.lno+1} i ch qu fl w)= .ok ((z.level:Int)==0) (st1 e {z with lno:=z.lno+1} i ch qu fl w):=rfl
 rw [ok_ite hc]
 by_cases hl:z.level=0
 ·have:((z.level:Int)==0)=true:=by rw [hl];rfl
  rw [this,if_pos rfl,push_lno (z:={z with lno:=z.lno+1}) ⟨h.hg,h.small⟩]
  unfold nl
  rw [if_pos hl]
 ·have:((z.level:Int)==0)=false:=by rw [beq_eq_false_iff_ne];exact Q40 (.n1 _) hl
  rw [this,if_neg (by decide)]
  unfold nl
  rw [if_neg hl]
  rfl
theorem inc_lno:incV 4 1 (st1 e z i ch qu fl w)= .ok .next (st1 e {z with lno:=z.lno+1} i ch qu fl w):=rfl
theorem one_x (hc:e.S[i]? =some 120) (hs:e.S.length≤sizeMax):s1One (st1 e z i ch qu fl w)= .ok .cont (st1 e z (i+1:Nat) (.str [120]) qu fl w):=by
 unfold s1One
 dsimp only [blk]
 rw [ok_seq (rd hc hs),ok_seq inc1]
 exact seqS (eqc (by decide)) rfl (fun h=>nomatch h)
theorem one_nl (h:Ok1 e z) (hc:e.S[i]? =some 10) (hs:e.S.length≤sizeMax):s1One (st1 e z i ch qu fl w)= .ok .cont (st1 e (nl z) (i+1:Nat) (.str [10]) qu fl w):=by
 unfold s1One
 dsimp only [blk]
 rw [ok_seq (rd hc hs),ok_seq inc1,seqF (eqc (by decide))]
 refine seqS (eqc (by decide)) ?_ (fun h=>nomatch h)
 rw [ok_seq inc_lno,ok_seq (nl_ok h)]
 rfl
theorem one_open (hc:e.S[i]? =some 40) (hs:e.S.length≤sizeMax):s1One (st1 e z i ch qu fl w)= .ok .cont (st1 e {z with level:=z.level+1} (i+1:Nat) (.str [40]) qu fl w):=by
 unfold s1One
 dsimp only [blk]
 rw [ok_seq (rd hc hs),ok_seq inc1,seqF (eqc (by decide)),seqF (eqc (by decide))]
 exact seqS (eqc (by decide)) rfl (fun h=>nomatch h)
theorem one_close (hc:e.S[i]? =some 41) (hs:e.S.length≤sizeMax):s1One (st1 e z i ch qu fl w)= .ok .cont (st1 e {z with level:=z.level-1} (i+1:Nat) (.str [41]) qu fl w):=by
 unfold s1One
 dsimp only [blk]
 rw [ok_seq (rd hc hs),ok_seq inc1,seqF (eqc (by decide)),seqF (eqc (by decide)),seqF (eqc (by decide))]
 refine seqS (eqc (by decide)) ?_ (fun h=>nomatch h)
 by_cases hl:z.level=0
 ·have hb:bnd (vr 3) truG (st1 e z (i+1:Nat) (.str [41]) qu fl w)= .ok false (st1 e z (i+1:Nat) (.str [41]) qu fl w):=by
   show Res.ok ((z.level:Int) != 0) _=_
   rw [hl];rfl
  rw [seqF hb]
  have:({z with level:=z.level-1}:Z)=z:=by cases z;simp at hl;subst hl;rfl
  rw [this];rfl
 ·have hb:bnd (vr 3) truG (st1 e z (i+1:Nat) (.str [41]) qu fl w)= .ok true (st1 e z (i+1:Nat) (.str [41]) qu fl w):=by
   show Res.ok ((z.level:Int) != 0) _=_
   have:((z.level:Int) != 0)=true:=by rw [bne_iff_ne];exact Q40 (.n1 _) hl
   rw [this]
  have hx:setV 3 (lift2 subP (vr 3) (cI 1)) (st1 e z (i+1:Nat) (.str [41]) qu fl w)= .ok .next (st1 e {z with level:=z.level-1} (i+1:Nat) (.str [41]) qu fl w):=by
   have:((z.level:Int)-1)=((z.level-1:Nat):Int):=by exact Q117 (.n2 _ _) hl rfl
   skip
   congr 1
   unfold st1 vars1
   rw [←this]
   rfl
  rw [seqT hb hx]
  rfl
theorem orF {c:Nat} (h1:([c]==lit "\"")=false) (h2:([c]==lit "'")=false):orM (eqM (vr 9) (cS "\"")) (eqM (vr 9) (cS "'")) (st1 e z i (.str [c]) qu fl w)= .ok false (st1 e z i (.str [c]) qu fl w):=by
 unfold orM
 rw [ok_bnd (eqc h1)]
 exact eqc h2
theorem orT {c:Nat} (h:c=34∨c=39):orM (eqM (vr 9) (cS "\"")) (eqM (vr 9) (cS "'")) (st1 e z i (.str [c]) qu fl w)= .ok true (st1 e z i (.str [c]) qu fl w):=by
 unfold orM
 rcases h with rfl | rfl
 ·rw [ok_bnd (eqc (b:=true) (by decide))];rfl
 ·rw [ok_bnd (eqc (b:=false) (by decide))]
  exact eqc (by decide)
theorem asT {c:PM Bool} (h:c σ= .ok true σ'):assertM c σ= .ok .next σ':=by unfold assertM;rw [ok_bnd h];rfl
theorem lt_n (h:n<e.S.length):lift2 ltP (vr 7) (vr 8) (st1 e z n ch qu fl w)= .ok true (st1 e z n ch qu fl w):=by
 show Res.ok (decide ((n:Int)<e.S.length)) _=_
 rw [decide_eq_true (by exact Q39 (.n2 _ _) h)]
theorem lt_nF (h:¬n<e.S.length):lift2 ltP (vr 7) (vr 8) (st1 e z n ch qu fl w)= .ok false (st1 e z n ch qu fl w):=by
 show Res.ok (decide ((n:Int)<e.S.length)) _=_
 rw [decide_eq_false (by exact Q118 (.n2 _ _) h)]
theorem eqItm (hd:e.S[i]? =some d) (hs:e.S.length≤sizeMax):eqM (itm (vr 1) (vr 7)) (cS "\n") (st1 e z i ch qu fl w)= .ok ([d]==lit "\n") (st1 e z i ch qu fl w):=by
 unfold eqM lift2
 rw [ok_bnd (itm_nat (x:=vr 1) (j:=vr 7) (S:=e.S) (i:=i) rfl rfl hd hs)]
 rfl
theorem one_bs (hc:e.S[i]? =some 92) (hd:e.S[i+1]? =some d) (hs:e.S.length≤sizeMax):
  s1One (st1 e z i ch qu fl w)= .ok .next (st1 e (if d=10 then {z with lno:=z.lno+1,cont:=if i+2=e.S.length then 1 else z.cont} else z) (i+2:Nat) (.str [92]) qu fl w):=by
 have hlt:=lt_of_some hd
 unfold s1One
 dsimp only [blk]
 rw [ok_seq (rd hc hs),ok_seq inc1,seqF (eqc (by decide)),seqF (eqc (by decide)),seqF (eqc (by decide)),seqF (eqc (by decide)),seqF (orF (by decide) (by decide)),seqF (eqc (by decide)),ok_seq (asT (eqc (by decide))),ok_seq (asT (lt_n hlt))]
 by_cases h10:d=10
 ·subst h10
  rw [if_pos rfl]
  have hb:eqM (itm (vr 1) (vr 7)) (cS "\n") (st1 e z (i+1:Nat) (.str [92]) qu fl w)= .ok true (st1 e z (i+1:Nat) (.str [92]) qu fl w):=(eqItm hd hs).trans rfl
  have hc2:eqM (lift2 addP (vr 7) (cI 1)) (vr 8) (st1 e {z with lno:=z.lno+1} (i+1:Nat) (.str [92]) qu fl w)= .ok (decide (i+2=e.S.length)) (st1 e {z with lno:=z.lno+1} (i+1:Nat) (.str [92]) qu fl w):=by
   show Res.ok (((i+1:Nat):Int)+1==(e.S.length:Int)) _=_
   congr 1
   rw [Bool.eq_iff_iff,beq_iff_eq,decide_eq_true_eq]
   lia
  have hx:blk [incV 4 1,iteM (eqM (lift2 addP (vr 7) (cI 1)) (vr 8)) (setV 2 (cI 1)) nop] (st1 e z (i+1:Nat) (.str [92]) qu fl w)= .ok .next (st1 e {z with lno:=z.lno+1,cont:=if i+2=e.S.length then 1 else z.cont} (i+1:Nat) (.str [92]) qu fl w):=by
   dsimp only [blk]
   rw [ok_seq inc_lno,ok_ite hc2]
   by_cases he:i+2=e.S.length
   ·rw [decide_eq_true he,if_pos rfl,if_pos he];rfl
   ·rw [decide_eq_false he,if_neg (by decide),if_neg he];rfl
  rw [seqT hb hx]
  rfl
 ·rw [if_neg h10]
  have hb:eqM (itm (vr 1) (vr 7)) (cS "\n") (st1 e z (i+1:Nat) (.str [92]) qu fl w)= .ok false (st1 e z (i+1:Nat) (.str [92]) qu fl w):=(eqItm hd hs).trans (by
   have:([d]==lit "\n")=false:=by
    rw [beq_eq_false_iff_ne];intro h;cases h;exact h10 rfl
   rw [this])
  rw [seqF hb]
  rfl
theorem clip0_nat (n i:Nat):clip0 n (i:Int)=i:=by unfold clip0;rw [if_neg (Int.not_lt.mpr (Int.natCast_nonneg i)),Int.max_eq_right (Int.natCast_nonneg _),Int.toNat_natCast]
theorem one_hash {j:Nat} (hc:e.S[i]? =some 35) (hs:e.S.length≤sizeMax) (hj:findN e.S 10 (i+1) (e.S.length-(i+1))=some j):
  s1One (st1 e z i ch qu fl w)= .ok .cont (st1 e z j (.str [35]) qu fl w):=by
 unfold s1One
 dsimp only [blk]
 rw [ok_seq (rd hc hs),ok_seq inc1,seqF (eqc (by decide)),seqF (eqc (by decide)),seqF (eqc (by decide)),seqF (eqc (by decide)),seqF (orF (by decide) (by decide))]
 refine seqS (eqc (by decide)) ?_ (fun h=>nomatch h)
 have hf:setV 7 (bmethM okStr (vr 1) [cS "\n",vr 7] findG) (st1 e z (i+1:Nat) (.str [35]) qu fl w)= .ok .next (st1 e z j (.str [35]) qu fl w):=by
  have h1:bmethM okStr (vr 1) [cS "\n",vr 7] findG (st1 e z (i+1:Nat) (.str [35]) qu fl w)= .ok (.int (toI (findN e.S 10 (clip0 e.S.length (i+1:Nat)) (e.S.length-clip0 e.S.length (i+1:Nat))))) (st1 e z (i+1:Nat) (.str [35]) qu fl w):=rfl
  rw [clip0_nat,hj] at h1
  rw [ok_setV h1 rfl];rfl
 have ha:lift2 geP (vr 7) (cI 0) (st1 e z j (.str [35]) qu fl w)= .ok true (st1 e z j (.str [35]) qu fl w):=by
  show Res.ok (decide ((0:Int)≤(j:Int))) _=_
  rw [decide_eq_true (by exact Q8 (.n1 _))]
 rw [ok_seq hf,ok_seq (asT ha)]
 rfl
noncomputable abbrev wStr:PM Fl:=whileM fuel (lift2 ltP (vr 7) (vr 8)) s1Str (iteM (eqM (lift2 subP (vr 4) (cI 1)) (vr 11)) (setV 2 (cI 2)) (setV 2 (cI 3)))
theorem rep3 (q:Nat):(List.replicate (3:Int).toNat [q]).flatten=[q,q,q]:=rfl
theorem one_quote {q k:Nat} (hq:q=34∨q=39) (hc:e.S[i]? =some q) (hs:e.S.length≤sizeMax) (hk:k=if (e.S.drop i).take 3=[q,q,q] then 2 else 0)
  (hw:wStr (st1 e z (i+1+k:Nat) (.str [q]) (.str (List.replicate (k+1) q)) (.int z.lno) (.int k))= .ok .next σ'):s1One (st1 e z i ch qu fl w)= .ok .cont σ':=by
 have hlt:=lt_of_some hc
 unfold s1One
 dsimp only [blk]
 rw [ok_seq (rd hc hs),ok_seq inc1,seqF (eqc (by rcases hq with rfl | rfl <;> decide)),seqF (eqc (by rcases hq with rfl | rfl <;> decide)),seqF (eqc (by rcases hq with rfl | rfl <;> decide)),seqF (eqc (by rcases hq with rfl | rfl <;> decide))]
 refine seqS (orT hq) ?_ (fun h=>nomatch h)
 have h1:setV 10 (vr 9) (st1 e z (i+1:Nat) (.str [q]) qu fl w)= .ok .next (st1 e z (i+1:Nat) (.str [q]) (.str [q]) fl w):=rfl
 have hsl:sliceM (vr 1) (lift2 subP (vr 7) (cI 1)) (lift2 addP (vr 7) (cI 2)) (st1 e z (i+1:Nat) (.str [q]) (.str [q]) fl w)= .ok (.str ((e.S.drop i).take 3)) (st1 e z (i+1:Nat) (.str [q]) (.str [q]) fl w):=by
  have a1:lift2 subP (vr 7) (cI 1) (st1 e z (i+1:Nat) (.str [q]) (.str [q]) fl w)= .ok (.int i) (st1 e z (i+1:Nat) (.str [q]) (.str [q]) fl w):=by
   show Res.ok (PV.int (((i+1:Nat):Int)-1)) _=_
   congr 2;exact Q23 (.n1 _)
  have a2:lift2 addP (vr 7) (cI 2) (st1 e z (i+1:Nat) (.str [q]) (.str [q]) fl w)= .ok (.int (i+3:Nat)) (st1 e z (i+1:Nat) (.str [q]) (.str [q]) fl w):=by
   skip
   congr 2
  have:=sl_nat (x:=vr 1) (S:=e.S) rfl a1 a2 hs (by exact Q41 (.n2 _ _) hlt)
  rw [show i+3-i=3 by exact lin1 (.q .v1 (.k 3)) (.b 1 (.a .v0 (.k 3)) .v0) (.b (.d 1 (.w [0, -1,1]) (.w [1])) (.d 1 (.w [0,1,1]) (.w [1]))) rfl (.n2 _ _) rfl] at this
  exact this
 have hmul:lift2 mulS (vr 10) (cI 3) (st1 e z (i+1:Nat) (.str [q]) (.str [q]) fl w)= .ok (.str [q,q,q]) (st1 e z (i+1:Nat) (.str [q]) (.str [q]) fl w):=rfl
 have hb:eqM (sliceM (vr 1) (lift2 subP (vr 7) (cI 1)) (lift2 addP (vr 7) (cI 2))) (lift2 mulS (vr 10) (cI 3)) (st1 e z (i+1:Nat) (.str [q]) (.str [q]) fl w)= .ok ((e.S.drop i).take 3==[q,q,q]) (st1 e z (i+1:Nat) (.str [q]) (.str [q]) fl w):=by
  show bnd _ _ _=_
  rw [ok_bnd hsl,ok_bnd hmul]
  rfl
 have h2:iteM (eqM (sliceM (vr 1) (lift2 subP (vr 7) (cI 1)) (lift2 addP (vr 7) (cI 2))) (lift2 mulS (vr 10) (cI 3))) (setV 10 (lift2 mulS (vr 10) (cI 3))) nop (st1 e z (i+1:Nat) (.str [q]) (.str [q]) fl w)=
   .ok .next (st1 e z (i+1:Nat) (.str [q]) (.str (List.replicate (k+1) q)) fl w):=by
  rw [ok_ite hb]
  by_cases h3:(e.S.drop i).take 3=[q,q,q]
  ·rw [if_pos h3] at hk
   subst hk
   rw [h3]
   have:([q,q,q]==[q,q,q])=true:=by simp
   rw [this];rfl
  ·rw [if_neg h3] at hk
   subst hk
   have:((e.S.drop i).take 3==[q,q,q])=false:=by rw [beq_eq_false_iff_ne];exact h3
   rw [this];rfl
 have h4:setV 11 (vr 4) (st1 e z (i+1:Nat) (.str [q]) (.str (List.replicate (k+1) q)) fl w)= .ok .next (st1 e z (i+1:Nat) (.str [q]) (.str (List.replicate (k+1) q)) (.int z.lno) w):=rfl
 have h5:setV 12 (lift2 subP (lenM (vr 10)) (cI 1)) (st1 e z (i+1:Nat) (.str [q]) (.str (List.replicate (k+1) q)) (.int z.lno) w)= .ok .next (st1 e z (i+1:Nat) (.str [q]) (.str (List.replicate (k+1) q)) (.int z.lno) (.int k)):=by
  have hk':k=0∨k=2:=by rw [hk];split <;> simp
  rcases hk' with rfl | rfl <;> rfl
 have h6:setV 7 (lift2 addP (vr 7) (vr 12)) (st1 e z (i+1:Nat) (.str [q]) (.str (List.replicate (k+1) q)) (.int z.lno) (.int k))= .ok .next (st1 e z (i+1+k:Nat) (.str [q]) (.str (List.replicate (k+1) q)) (.int z.lno) (.int k)):=rfl
 rw [ok_seq h1,ok_seq h2,ok_seq h4,ok_seq h5,ok_seq h6,ok_seq hw]
 rfl
end PT
end Mine
end
section
open PySem
set_option maxRecDepth 10000
set_option tactic.hygienic false
namespace Mine
namespace PT
variable {c:Nat}{m:Md}{z z':Z}{l:List Nat}
variable {e:S1}{z:Z}{i q k:Nat}{ch fl:PV}
noncomputable abbrev stq (e:S1) (z:Z) (i:Nat) (ch:PV) (q k:Nat) (fl:PV):St:=st1 e z i ch (.str (List.replicate (k+1) q)) fl (.int k)
theorem sq_cond {n:Nat} (hn:n=i+1) (hs:e.S.length≤sizeMax) (hi:i<e.S.length):eqM (sliceM (vr 1) (lift2 subP (vr 7) (cI 1)) (lift2 addP (vr 7) (vr 12))) (vr 10) (stq e z n ch q k fl)=
  .ok ((e.S.drop i).take (k+1)==List.replicate (k+1) q) (stq e z n ch q k fl):=by
 subst hn
 have a1:lift2 subP (vr 7) (cI 1) (stq e z (i+1) ch q k fl)= .ok (.int i) (stq e z (i+1) ch q k fl):=by
  show Res.ok (PV.int (((i+1:Nat):Int)-1)) _=_
  congr 2;exact Q23 (.n1 _)
 have a2:lift2 addP (vr 7) (vr 12) (stq e z (i+1) ch q k fl)= .ok (.int (i+1+k:Nat)) (stq e z (i+1) ch q k fl):=by
  skip
  congr 2
 have hsl:=sl_nat (x:=vr 1) (S:=e.S) rfl a1 a2 hs (by exact Q41 (.n2 _ _) hi)
 rw [show i+1+k-i=k+1 by exact lin1 (.q .v2 (.a .v1 .k1)) (.b 2 (.a (.a .v0 .k1) .v1) .v0) (.b (.d 1 (.w [0, -1,1]) (.w [1, -1,1])) (.d 1 (.w [0,1,1]) (.w [0,1,1]))) rfl (.n3 _ _ _) rfl] at hsl
 show bnd _ _ _=_
 rw [ok_bnd hsl]
 rfl
theorem str_x (hc:e.S[i]? =some 120) (hs:e.S.length≤sizeMax):s1Str (stq e z i ch q k fl)= .ok .cont (stq e z (i+1) (.str [120]) q k fl):=by
 unfold s1Str
 dsimp only [blk]
 rw [ok_seq (rd hc hs),ok_seq inc1]
 exact seqS (eqc (by decide)) rfl (fun h=>nomatch h)
theorem str_end (hc:e.S[i]? =some c) (hs:e.S.length≤sizeMax) (hx:c≠120) (hq:(e.S.drop i).take (k+1)=List.replicate (k+1) q):
  s1Str (stq e z i ch q k fl)= .ok .brk (stq e z (i+1+k) (.str [c]) q k fl):=by
 have hi:=lt_of_some hc
 unfold s1Str
 dsimp only [blk]
 rw [ok_seq (rd hc hs),ok_seq inc1,seqF (eqc (by rw [beq_eq_false_iff_ne];intro h;cases h;exact hx rfl))]
 refine seqS ((sq_cond rfl hs hi).trans (by rw [hq,beq_self_eq_true])) ?_ (fun h=>nomatch h)
 rfl
theorem str_pre {rest:PM Fl} (hc:e.S[i]? =some c) (hs:e.S.length≤sizeMax) (hx:c≠120) (hq:¬(e.S.drop i).take (k+1)=List.replicate (k+1) q) {X Y:PM Fl}:
  seqM (setV 9 (itm (vr 1) (vr 7))) (seqM (incV 7 1) (seqM (iteM (eqM (vr 9) (cS "x")) X nop)
   (seqM (iteM (eqM (sliceM (vr 1) (lift2 subP (vr 7) (cI 1)) (lift2 addP (vr 7) (vr 12))) (vr 10)) Y nop) rest))) (stq e z i ch q k fl)=rest (stq e z (i+1) (.str [c]) q k fl):=by
 have hi:=lt_of_some hc
 rw [ok_seq (rd hc hs),ok_seq inc1,seqF (eqc (by rw [beq_eq_false_iff_ne];intro h;cases h;exact hx rfl))]
 exact seqF ((sq_cond rfl hs hi).trans (by rw [beq_eq_false_iff_ne.mpr hq]))
theorem str_nl (h:Ok1 e z) (hc:e.S[i]? =some 10) (hs:e.S.length≤sizeMax) (hq:¬(e.S.drop i).take (k+1)=List.replicate (k+1) q):
  s1Str (stq e z i ch q k fl)=if k=0 then .ok .brk (stq e (nl z) (i+1) (.str [10]) q k fl) else .ok .cont (stq e {z with lno:=z.lno+1} (i+1) (.str [10]) q k fl):=by
 unfold s1Str
 dsimp only [blk]
 rw [str_pre hc hs (by decide) hq]
 have hb:eqM (vr 9) (cS "\n") (stq e z (i+1) (.str [10]) q k fl)= .ok true (stq e z (i+1) (.str [10]) q k fl):=rfl
 have hw:eqM (vr 12) (cI 0) (stq e {z with lno:=z.lno+1} (i+1) (.str [10]) q k fl)= .ok ((k:Int)==0) (stq e {z with lno:=z.lno+1} (i+1) (.str [10]) q k fl):=rfl
 by_cases hk:k=0
 ·subst hk
  rw [if_pos rfl]
  refine seqS hb ?_ (fun h=>nomatch h)
  rw [ok_seq inc_lno]
  refine seqS (hw.trans rfl) ?_ (fun h=>nomatch h)
  rw [ok_seq (nl_ok h)]
  rfl
 ·rw [if_neg hk]
  refine seqS hb ?_ (fun h=>nomatch h)
  rw [ok_seq inc_lno,seqF (hw.trans (by rw [show ((k:Int)==0)=false by rw [beq_eq_false_iff_ne];exact Q40 (.n1 _) hk]))]
  rfl
theorem str_bs {d:Nat} (hc:e.S[i]? =some 92) (hd:e.S[i+1]? =some d) (hs:e.S.length≤sizeMax) (hq:¬(e.S.drop i).take (k+1)=List.replicate (k+1) q):
  s1Str (stq e z i ch q k fl)= .ok .cont (stq e (if d=10 then {z with lno:=z.lno+1} else z) (i+2) (.str [92]) q k fl):=by
 have hlt:=lt_of_some hd
 unfold s1Str
 dsimp only [blk]
 rw [str_pre hc hs (by decide) hq,seqF (eqc (by decide))]
 have hx:blk [assertM (lift2 ltP (vr 7) (vr 8)),iteM (eqM (itm (vr 1) (vr 7)) (cS "\n")) (incV 4 1) nop,incV 7 1,ret1 .cont] (stq e z (i+1) (.str [92]) q k fl)=
   .ok .cont (stq e (if d=10 then {z with lno:=z.lno+1} else z) (i+2) (.str [92]) q k fl):=by
  dsimp only [blk]
  rw [ok_seq (asT (lt_n hlt))]
  by_cases h10:d=10
  ·subst h10
   rw [if_pos rfl,seqT ((eqItm hd hs).trans rfl) inc_lno]
   rfl
  ·rw [if_neg h10,seqF ((eqItm hd hs).trans (by
    have:([d]==lit "\n")=false:=by
     rw [beq_eq_false_iff_ne];intro h;cases h;exact h10 rfl
    rw [this]))]
   rfl
 exact (ok_iteT (eqc (by decide))).trans hx
theorem str_any (hc:e.S[i]? =some c) (hs:e.S.length≤sizeMax) (hx:c≠120) (h10:c≠10) (h92:c≠92) (hq:¬(e.S.drop i).take (k+1)=List.replicate (k+1) q):
  s1Str (stq e z i ch q k fl)= .ok .next (stq e z (i+1) (.str [c]) q k fl):=by
 unfold s1Str
 dsimp only [blk]
 rw [str_pre hc hs hx hq,seqF (eqc (by rw [beq_eq_false_iff_ne];intro h;cases h;exact h10 rfl))]
 exact (ok_iteF (eqc (by rw [beq_eq_false_iff_ne];intro h;cases h;exact h92 rfl))).trans rfl
noncomputable def fin:Md×Z→Option Z
 | (.pl,z)=>some z
 | (.st _ _ first,z)=>some {z with cont:=if z.lno=first+1 then 2 else 3}
 | _=>none
noncomputable def Run (m:Md) (z:Z) (l:List Nat) (z':Z):Prop:=∃p,run m z l=some p∧fin p=some z'
theorem Run.cons {m':Md}{z1:Z} (h:Run m z (c::l) z') (hs:step m z c l=some (m',z1)):Run m' z1 l z':=by
 obtain ⟨p,h1,h2⟩:=h
 unfold run at h1
 rw [hs] at h1
 exact ⟨p,h1,h2⟩
theorem Run.some (h:Run m z (c::l) z'):∃m' z1,step m z c l=some (m',z1)∧Run m' z1 l z':=by
 obtain ⟨p,h1,h2⟩:=h
 cases hs:step m z c l with
 | none=>unfold run at h1;rw [hs] at h1;cases h1
 | some x=>exact ⟨x.1,x.2,rfl,Run.cons ⟨p,h1,h2⟩ hs⟩
end PT
end Mine
end
section
open PySem
set_option maxRecDepth 10000
set_option tactic.hygienic false
namespace Mine
namespace PT
variable {N first i q:Nat}{b x:PM Fl}{σ σ1 σ2:St}{l:List Nat}{z z':Z}{e:S1}
theorem wh_T {t:PM Bool} (ht:t σ= .ok true σ1) (hb:b σ1= .ok .cont σ2∨b σ1= .ok .next σ2):whileM (N+1) t b x σ=whileM N t b x σ2:=by
 conv=>lhs;unfold whileM
 rw [ok_bnd ht]
 simp only [if_true]
 rcases hb with hb | hb <;> rw [ok_bnd hb]
theorem wh_B {t:PM Bool} (ht:t σ= .ok true σ1) (hb:b σ1= .ok .brk σ2):whileM (N+1) t b x σ= .ok .next σ2:=by
 conv=>lhs;unfold whileM
 rw [ok_bnd ht]
 simp only [if_true]
 rw [ok_bnd hb];rfl
theorem wh_F {t:PM Bool} (ht:t σ= .ok false σ1):whileM (N+1) t b x σ=x σ1:=by
 conv=>lhs;unfold whileM
 rw [ok_bnd ht]
 simp only [Bool.false_eq_true,if_false]
theorem drop_cons (h:i<l.length):∃c,l[i]? =some c∧l.drop i=c::l.drop (i+1):=
 ⟨l[i],List.getElem?_eq_getElem h,List.drop_eq_getElem_cons h⟩
theorem run_skP:∀{k:Nat}{l:List Nat},0<k→k≤l.length→Run (.skP k) z l z'→Run .pl z (l.drop k) z'
 | 0,_,h,_,_=>absurd h (by exact Q119 .o)
 | k+1,[],_,h,_=>by simp at h
 | k+1,c::l,_,hl,h=>by
  by_cases hk:k=0
  ·subst hk
   exact h.cons rfl
  ·have:step (.skP (k+1)) z c l=some (.skP k,z):=by
    unfold step
    dsimp only
    rw [if_neg (by exact Q120 (.n1 _) hk)];rfl
   exact run_skP (k:=k) (l:=l) (by exact Q42 (.n1 _) hk) (by simpa using hl) (h.cons this)
theorem run_skS {w:Nat}:∀{k:Nat}{l:List Nat},0<k→k≤l.length→Run (.skS k q w first) z l z'→Run (.st q w first) z (l.drop k) z'
 | 0,_,h,_,_=>absurd h (by exact Q119 .o)
 | k+1,[],_,h,_=>by simp at h
 | k+1,c::l,_,hl,h=>by
  by_cases hk:k=0
  ·subst hk
   exact h.cons rfl
  ·have:step (.skS (k+1) q w first) z c l=some (.skS k q w first,z):=by
    unfold step
    dsimp only
    rw [if_neg (by exact Q120 (.n1 _) hk)];rfl
   exact run_skS (k:=k) (l:=l) (by exact Q42 (.n1 _) hk) (by simpa using hl) (h.cons this)
structure Okl (e:S1) (z:Z) (i:Nat):Prop where
 hg:e.g<e.cells.length
 small:z.good.length+(e.S.length-i)<90000
 hs:e.S.length≤sizeMax
 hi:i≤e.S.length
theorem Okl.ok (h:Okl e z i):Ok1 e z:=⟨h.hg,by have:=h.small;exact lin1 (.t .v0 (.k 100000)) (.t (.a .v0 .v1) (.k 90000)) (.w [1,1]) rfl (.n2 _ _) this⟩
theorem nl_len (z:Z):(nl z).good.length≤z.good.length+1:=by
 unfold nl
 dsimp only
 split <;> simp
theorem str_loop {k:Nat} (hq:q=34∨q=39):∀(N:Nat) (z:Z) (i:Nat) (ch:PV),Okl e z i→e.S.length-i<N→Run (.st q k first) z (e.S.drop i) z'→
  ∃(z1:Z) (j:Nat) (ch1 qu fl w:PV),whileM N (lift2 ltP (vr 7) (vr 8)) s1Str (iteM (eqM (lift2 subP (vr 4) (cI 1)) (vr 11)) (setV 2 (cI 2)) (setV 2 (cI 3))) (stq e z i ch q k (.int first))= .ok .next (st1 e z1 j ch1 qu fl w)∧
   i≤j∧Okl e z1 j∧Run .pl z1 (e.S.drop j) z'
 | 0,_,_,_,_,h,_=>absurd h (by exact Q6 (.n1 _))
 | N+1,z,i,ch,hok,hN,hR=>by
  by_cases hlt:i<e.S.length
  ·refine cps fun GC hGC=> ?_
   obtain ⟨c,hc,hd⟩:=drop_cons hlt
   refine hGC ?_
   have ht:=lt_n (e:=e) (z:=z) (ch:=ch) (qu:= .str (List.replicate (k+1) q)) (fl:= .int first) (w:= .int k) hlt
   have hR0:=hR
   rw [hd] at hR
   refine cps fun GC hGC=> ?_
   obtain ⟨m',z1,hst,hR1⟩:=hR.some
   refine hGC ?_
   by_cases hx:c=120
   ·subst hx
    have e1:step (.st q k first) z 120 (e.S.drop (i+1))=some (.st q k first,z):=rfl
    rw [e1] at hst;cases hst
    rw [wh_T ht (.inl (str_x hc hok.hs))]
    refine cps fun GC hGC=> ?_
    obtain ⟨z2,j,c1,a,b,d,h1,h2,h3,h4⟩:=str_loop hq N z (i+1) _ ⟨hok.hg,by have:=hok.small;exact Q5 (.n5 _ _ _ _ _) this rfl rfl,hok.hs,hlt⟩ (by exact Q43 (.n5 _ _ _ _ _) hN hlt rfl rfl) hR1
    refine hGC ?_
    exact ⟨z2,j,c1,a,b,d,h1,by exact Q3 (.n2 _ _) h2,h3,h4⟩
   by_cases hm:(e.S.drop i).take (k+1)=List.replicate (k+1) q
   ·rw [wh_B ht (str_end hc hok.hs hx hm)]
    have hlen:k+1≤e.S.length-i:=by
     have:=congrArg List.length hm
     rw [List.length_take,List.length_drop,List.length_replicate] at this
     exact lin3 (.l (.a .v0 .k1) .v3) (.q .v4 (.a .v0 .k1)) (.b 3 .v1 .v2) (.M 4 (.a .v0 .k1) .v3) (.d 2 (.d 5 (.w [1,0,0,0,1]) (.w [0,1,0,0,1, -1])) (.d 5 (.w [1,0,0,0,1]) (.w [0,1,0,0,1, -1]))) rfl (.n5 _ _ _ _ _) this rfl rfl
    refine ⟨z,i+1+k,_,_,_,_,rfl,by exact lin0 (.l .v0 (.a (.a .v0 .k1) .v1)) (.w [1]) rfl (.n2 _ _),⟨hok.hg,by have:=hok.small;exact lin5 (.t (.a .v0 .v4) (.k 90000)) (.t .v2 .v1) (.l (.a .v3 .k1) .v5) (.t (.a .v0 .v5) (.k 90000)) (.b 4 .v1 (.a (.a .v2 .k1) .v3)) (.b 5 .v1 .v2) (.d 4 (.d 7 (.w [0, -1,0,1,1,0,0,1]) (.w [1,0,0,0,0,1])) (.w [1,1,1,1,1,1])) rfl (.n6 _ _ _ _ _ _) hlt hlen this rfl rfl,hok.hs,by exact lin3 (.l (.a (.a .v0 .k1) .v1) .v2) (.t .v0 .v2) (.l (.a .v1 .k1) .v3) (.b 3 .v2 .v0) (.d 3 (.w [0,1,1,0,1]) (.w [1,0,0,1])) rfl (.n4 _ _ _ _) hlt hlen rfl⟩, ?_⟩
    unfold step at hst
    dsimp only at hst
    rw [if_neg hx, ←hd,if_pos hm] at hst
    by_cases hk:k=0
    ·subst hk
     rw [if_pos rfl] at hst;cases hst
     exact hR1
    ·rw [if_neg hk] at hst;cases hst
     have:=run_skP (by exact Q42 (.n1 _) hk) (by rw [List.length_drop];exact lin4 (.l .v0 .v3) (.t .v2 .v1) (.l (.a .v0 .k1) .v4) (.b 3 .v1 (.a .v2 .k1)) (.b 4 .v1 .v2) (.d 3 (.d 6 (.w [0,1,0, -1,1,0,1]) (.w [1,0,1])) (.d 6 (.w [0,1,1, -1,1,0,1]) (.w [1,0,0,0,0,1]))) rfl (.n5 _ _ _ _ _) hlt hlen rfl rfl) hR1
     rw [List.drop_drop] at this
     exact this
   unfold step at hst
   dsimp only at hst
   rw [if_neg hx, ←hd,if_neg hm] at hst
   by_cases h10:c=10
   ·subst h10
    rw [if_pos rfl] at hst
    have hb:=str_nl (ch:=ch) (fl:= .int first) hok.ok hc hok.hs hm
    by_cases hk:k=0
    ·rw [if_pos hk] at hst hb;cases hst
     rw [wh_B ht hb]
     exact ⟨nl z,i+1,_,_,_,_,rfl,by exact Q9 (.n1 _),⟨hok.hg,by have:=hok.small;have:=nl_len z;lia,hok.hs,hlt⟩,hR1⟩
    ·rw [if_neg hk] at hst hb;cases hst
     rw [wh_T ht (.inl hb)]
     refine cps fun GC hGC=> ?_
     obtain ⟨z2,j,c1,a,b,d,h1,h2,h3,h4⟩:=str_loop hq N {z with lno:=z.lno+1} (i+1) _ ⟨hok.hg,by have:=hok.small;show z.good.length+_<_;exact Q5 (.n5 _ _ _ _ _) this rfl rfl,hok.hs,hlt⟩ (by exact Q43 (.n5 _ _ _ _ _) hN hlt rfl rfl) hR1
     refine hGC ?_
     exact ⟨z2,j,c1,a,b,d,h1,by exact Q3 (.n2 _ _) h2,h3,h4⟩
   rw [if_neg h10] at hst
   by_cases h92:c=92
   ·subst h92
    rw [if_pos rfl] at hst;cases hst
    by_cases hl2:i+1<e.S.length
    ·refine cps fun GC hGC=> ?_
     obtain ⟨d,hc2,hd2⟩:=drop_cons hl2
     refine hGC ?_
     rw [hd2] at hR1
     refine cps fun GC hGC=> ?_
     obtain ⟨m2,z2,hst2,hR2⟩:=hR1.some
     have e2:m2= .st q k first∧z2=if d=10 then {z with lno:=z.lno+1} else z:=by
      unfold step at hst2
      dsimp only at hst2
      split at hst2 <;> cases hst2
      ·rename_i hh;exact ⟨rfl,(if_pos hh).symm⟩
      ·rename_i hh;exact ⟨rfl,(if_neg hh).symm⟩
     obtain ⟨rfl,rfl⟩:=e2
     refine hGC ?_
     rw [wh_T ht (.inl (str_bs hc hc2 hok.hs hm))]
     have hgl:(if d=10 then {z with lno:=z.lno+1} else z:Z).good=z.good:=by split <;> rfl
     refine cps fun GC hGC=> ?_
     obtain ⟨z2,j,c1,a,b,d,h1,h2,h3,h4⟩:=str_loop hq N _ (i+2) _ ⟨hok.hg,by rw [hgl];have:=hok.small;exact Q121 (.n5 _ _ _ _ _) this rfl rfl,hok.hs,hl2⟩ (by exact lin4 (.t .v3 .v2) (.t .v4 (.a .v2 .k1)) (.t .v1 .v0) (.b 3 .v0 (.a .v1 (.k 2))) (.b 4 .v0 .v1) (.d 3 (.d 6 (.w [0, -1,0,1,1,1]) (.w [1,0,1])) (.d 6 (.w [0, -1,0,1,1,1,1]) (.w [1,0,0,0,0,0,1]))) rfl (.n5 _ _ _ _ _) hN hlt rfl rfl) hR2
     refine hGC ?_
     exact ⟨z2,j,c1,a,b,d,h1,by exact lin1 (.l .v0 .v1) (.l (.a .v0 (.k 2)) .v1) (.w [1,1]) rfl (.n2 _ _) h2,h3,h4⟩
    ·rw [List.drop_eq_nil_of_le (by exact Q122 (.n2 _ _) hl2)] at hR1
     refine cps fun GC hGC=> ?_
     obtain ⟨p,g1,g2⟩:=hR1
     refine hGC ?_
     cases g1
     cases g2
   ·rw [if_neg h92] at hst;cases hst
    rw [wh_T ht (.inr (str_any hc hok.hs hx h10 h92 hm))]
    refine cps fun GC hGC=> ?_
    obtain ⟨z2,j,c1,a,b,d,h1,h2,h3,h4⟩:=str_loop hq N z (i+1) _ ⟨hok.hg,by have:=hok.small;exact Q5 (.n5 _ _ _ _ _) this rfl rfl,hok.hs,hlt⟩ (by exact Q43 (.n5 _ _ _ _ _) hN hlt rfl rfl) hR1
    refine hGC ?_
    exact ⟨z2,j,c1,a,b,d,h1,by exact Q3 (.n2 _ _) h2,h3,h4⟩
  ·have ht:=lt_nF (e:=e) (z:=z) (ch:=ch) (qu:= .str (List.replicate (k+1) q)) (fl:= .int first) (w:= .int k) hlt
   rw [wh_F ht]
   have hil:e.S.drop i=[]:=List.drop_eq_nil_of_le (by exact Q7 (.n2 _ _) hlt)
   rw [hil] at hR
   refine cps fun GC hGC=> ?_
   obtain ⟨p,g1,g2⟩:=hR
   refine hGC ?_
   cases g1
   have hz:z'={z with cont:=if z.lno=first+1 then 2 else 3}:=(Option.some.inj g2).symm
   have hc:eqM (lift2 subP (vr 4) (cI 1)) (vr 11) (stq e z i ch q k (.int first))= .ok (decide (z.lno=first+1)) (stq e z i ch q k (.int first)):=by
    show Res.ok ((z.lno:Int)-1==(first:Int)) _=_
    congr 1
    rw [Bool.eq_iff_iff,beq_iff_eq,decide_eq_true_eq]
    lia
   refine ⟨z',i,ch, .str (List.replicate (k+1) q), .int first, .int k, ?_,Nat.le_refl _,⟨hok.hg,by rw [hz];exact hok.small,hok.hs,hok.hi⟩,by rw [hil];exact ⟨_,rfl,rfl⟩⟩
   rw [ok_ite hc,hz]
   by_cases hf:z.lno=first+1
   ·rw [decide_eq_true hf,if_pos rfl,if_pos hf];rfl
   ·rw [decide_eq_false hf,if_neg (by decide),if_neg hf];rfl
theorem findN_of {c:Nat}:∀{n lo j:Nat},lo≤j→j<lo+n→l[j]? =some c→(∀a,lo≤a→a<j→l[a]? ≠some c)→findN l c lo n=some j
 | 0,lo,j,h1,h2,_,_=>absurd h1 (by exact lin1 (.n (.l .v0 .v1)) (.t .v1 (.a .v0 .k0)) (.w [1,1]) rfl (.n2 _ _) h2)
 | n+1,lo,j,h1,h2,h3,h4=>by
  unfold findN
  by_cases he:lo=j
  ·subst he;rw [if_pos h3]
  ·rw [if_neg (h4 lo (Nat.le_refl _) (by exact lin2 (.t .v0 .v1) (.l .v0 .v1) (.n (.q .v0 .v1)) (.d 2 (.w [1,1]) (.w [1,0,1])) rfl (.n2 _ _) h1 he))]
   exact findN_of (by exact lin2 (.l (.a .v0 .k1) .v1) (.l .v0 .v1) (.n (.q .v0 .v1)) (.d 2 (.w [1,1]) (.w [1,0,1])) rfl (.n2 _ _) h1 he) (by exact Q61 (.n3 _ _ _) h2) h3 fun a ha hb=>h4 a (by exact Q3 (.n2 _ _) ha) hb
theorem run_cm:∀(n i:Nat),l.length-i≤n→i≤l.length→Run .cm z (l.drop i) z'→∃j,i≤j∧l[j]? =some 10∧(∀a,i≤a→a<j→l[a]? ≠some 10)∧Run .pl z (l.drop j) z'
 | n,i,hn,hi,hR=>by
  by_cases hlt:i<l.length
  ·obtain ⟨c,hc,hd⟩:=drop_cons hlt
   have hR0:=hR
   rw [hd] at hR
   by_cases h10:c=10
   ·subst h10
    refine ⟨i,Nat.le_refl _,hc,fun a h1 h2=>absurd h1 (by exact lin1 (.n (.l .v0 .v1)) (.t .v1 .v0) (.w [1,1]) rfl (.n2 _ _) h2), ?_⟩
    have h1:=hR.cons (m':= .pl) (z1:=nl z) rfl
    rw [hd]
    obtain ⟨p,g1,g2⟩:=h1
    exact ⟨p,by unfold run;exact g1,g2⟩
   ·have hst:step .cm z c (l.drop (i+1))=some (.cm,z):=by
     unfold step;dsimp only;rw [if_neg h10]
    cases n with
    | zero=>exact (show False from lin3 .f (.t .v0 .v1) (.l .v2 .k0) (.b 2 .v1 .v0) (.d 3 (.w [0, -1,0,1,1]) (.w [1,0,0,1])) rfl (.n3 _ _ _) hlt hn rfl).elim
    | succ n=>
     obtain ⟨j,h1,h2,h3,h4⟩:=run_cm n (i+1) (by exact lin3 (.l .v3 .v2) (.l .v4 (.a .v2 .k1)) (.b 3 .v0 (.a .v1 .k1)) (.b 4 .v0 .v1) (.d 2 (.d 5 (.w [0, -1,0,1,1,1]) (.w [1,0,1])) (.w [0,1,1])) rfl (.n5 _ _ _ _ _) hn rfl rfl) hlt (hR.cons hst)
     refine ⟨j,by exact Q3 (.n2 _ _) h1,h2,fun a ha hb=> ?_,h4⟩
     by_cases he:a=i
     ·subst he;rw [hc];intro h;cases h;exact h10 rfl
     ·exact h3 a (by exact Q27 (.n2 _ _) ha he) hb
  ·rw [List.drop_eq_nil_of_le (by exact Q7 (.n2 _ _) hlt)] at hR
   obtain ⟨p,g1,g2⟩:=hR
   cases g1
   cases g2
theorem main_loop:∀(N:Nat) (z:Z) (i:Nat) (ch qu fl w:PV),Okl e z i→2*(e.S.length-i)<N→N≤fuel+1→Run .pl z (e.S.drop i) z'→e.S.length<90000→
  ∃(i':Int) (ch1 qu1 fl1 w1:PV),whileM N (lift2 ltP (vr 7) (vr 8)) s1One nop (st1 e z i ch qu fl w)= .ok .next (st1 e z' i' ch1 qu1 fl1 w1)
 | 0,_,_,_,_,_,_,_,h,_,_,_=>absurd h (by exact lin0 (.n (.t (.m 2 .v0) .k0)) (.w [1]) rfl (.n1 _))
 | N+1,z,i,ch,qu,fl,w,hok,hN,hF,hR,hS=>by
  by_cases hlt:i<e.S.length
  ·obtain ⟨c,hc,hd⟩:=drop_cons hlt
   have ht:=lt_n (e:=e) (z:=z) (ch:=ch) (qu:=qu) (fl:=fl) (w:=w) hlt
   have hR0:=hR
   rw [hd] at hR
   obtain ⟨m',z1,hst,hR1⟩:=hR.some
   unfold step at hst
   dsimp only at hst
   by_cases h1:c=120
   ·subst h1
    rw [if_pos rfl] at hst;cases hst
    rw [wh_T ht (.inl (one_x hc hok.hs))]
    exact main_loop N z (i+1) _ _ _ _ ⟨hok.hg,by have:=hok.small;exact Q5 (.n5 _ _ _ _ _) this rfl rfl,hok.hs,hlt⟩ (by exact Q24 (.n5 _ _ _ _ _) hN hlt rfl rfl) (by exact Q4 (.n2 _ _) hF) hR1 hS
   rw [if_neg h1] at hst
   by_cases h2:c=10
   ·subst h2
    rw [if_pos rfl] at hst;cases hst
    rw [wh_T ht (.inl (one_nl hok.ok hc hok.hs))]
    exact main_loop N (nl z) (i+1) _ _ _ _ ⟨hok.hg,by have:=hok.small;have:=nl_len z;lia,hok.hs,hlt⟩ (by exact Q24 (.n5 _ _ _ _ _) hN hlt rfl rfl) (by exact Q4 (.n2 _ _) hF) hR1 hS
   rw [if_neg h2] at hst
   by_cases h3:c=40
   ·subst h3
    rw [if_pos rfl] at hst;cases hst
    rw [wh_T ht (.inl (one_open hc hok.hs))]
    exact main_loop N {z with level:=z.level+1} (i+1) _ _ _ _ ⟨hok.hg,by have:=hok.small;show z.good.length+_<_;exact Q5 (.n5 _ _ _ _ _) this rfl rfl,hok.hs,hlt⟩ (by exact Q24 (.n5 _ _ _ _ _) hN hlt rfl rfl) (by exact Q4 (.n2 _ _) hF) hR1 hS
   rw [if_neg h3] at hst
   by_cases h4:c=41
   ·subst h4
    rw [if_pos rfl] at hst;cases hst
    rw [wh_T ht (.inl (one_close hc hok.hs))]
    exact main_loop N {z with level:=z.level-1} (i+1) _ _ _ _ ⟨hok.hg,by have:=hok.small;show z.good.length+_<_;exact Q5 (.n5 _ _ _ _ _) this rfl rfl,hok.hs,hlt⟩ (by exact Q24 (.n5 _ _ _ _ _) hN hlt rfl rfl) (by exact Q4 (.n2 _ _) hF) hR1 hS
   rw [if_neg h4] at hst
   by_cases h5:c=34∨c=39
   ·rw [if_pos h5] at hst
    have ht3:(e.S.drop i).take 3=[c,c,c]↔(e.S.drop (i+1)).take 2=[c,c]:=by
     rw [hd,List.take_succ_cons,List.cons.injEq];simp
    have fin:∀(k:Nat),(k=if (e.S.drop i).take 3=[c,c,c] then 2 else 0)→i+1+k≤e.S.length→Run (.st c k z.lno) z (e.S.drop (i+1+k)) z'→
      ∃(i':Int) (ch1 qu1 fl1 w1:PV),whileM (N+1) (lift2 ltP (vr 7) (vr 8)) s1One nop (st1 e z i ch qu fl w)= .ok .next (st1 e z' i' ch1 qu1 fl1 w1):=by
     intro k hk hle hRk
     obtain ⟨z2,j,c1,a,b,d,g1,g2,g3,g4⟩:=str_loop h5 fuel z (i+1+k) (.str [c]) ⟨hok.hg,by have:=hok.small;exact lin3 (.t (.a .v0 .v4) (.k 90000)) (.t (.a .v0 .v5) (.k 90000)) (.b 4 .v1 (.a (.a .v2 .k1) .v3)) (.b 5 .v1 .v2) (.d 2 (.d 5 (.w [0, -1,0,1,1,1]) (.w [1, -1,0,1,1,1])) (.w [0,1,1,1])) rfl (.n6 _ _ _ _ _ _) this rfl rfl,hok.hs,hle⟩ (by unfold fuel;exact lin2 (.t .v3 (.k 1000000)) (.t .v0 (.k 90000)) (.b 3 .v0 (.a (.a .v1 .k1) .v2)) (.d 2 (.w [0,1,1,1]) (.w [0,1,1])) rfl (.n4 _ _ _ _) hS rfl) hRk
     rw [wh_T ht (.inl (one_quote h5 hc hok.hs hk g1))]
     exact main_loop N z2 j _ _ _ _ g3 (by exact lin5 (.t (.m 2 .v5) .v2) (.t (.m 2 .v6) (.a .v2 .k1)) (.t .v3 .v0) (.l (.a (.a .v3 .k1) .v4) .v1) (.b 5 .v0 .v1) (.b 6 .v0 .v3) (.d 4 (.d 7 (.w [0, -2,0,2,1,1,0,2]) (.w [1,0,0,0,0,0,1])) (.d 7 (.w [0, -2,0,2,1,1,2]) (.w [1,0,0,0,0,0,1]))) rfl (.n7 _ _ _ _ _ _ _) hN hlt g2 rfl rfl) (by exact Q4 (.n2 _ _) hF) g4 hS
    by_cases h6:(e.S.drop (i+1)).take 2=[c,c]
    ·rw [if_pos h6] at hst;cases hst
     have hlen:2≤e.S.length-(i+1):=by
      have:=congrArg List.length h6
      rw [List.length_take,List.length_drop] at this
      simp at this;exact lin3 (.l (.k 2) .v2) (.q .v3 (.k 2)) (.b 2 .v0 (.a .v1 .k1)) (.M 3 (.k 2) .v2) (.d 2 (.d 5 (.w [1,0,0,0,1]) (.w [0,1,0,0,1, -1])) (.d 5 (.w [1,0,0,1]) (.w [0,1,0,1,0, -1]))) rfl (.n4 _ _ _ _) this rfl rfl
     have:=run_skS (by decide) (by rw [List.length_drop];exact lin1 (.l (.k 2) .v0) (.l (.k 2) .v0) (.w [1,1]) rfl (.n1 _) hlen) hR1
     rw [List.drop_drop] at this
     exact fin 2 (by rw [if_pos (ht3.mpr h6)]) (by exact lin2 (.l (.a (.a .v0 .k1) (.k 2)) .v1) (.l (.k 2) .v2) (.b 2 .v1 (.a .v0 .k1)) (.d 2 (.w [0,1,1,1]) (.w [0,1,0,1])) rfl (.n3 _ _ _) hlen rfl) this
    ·rw [if_neg h6] at hst;cases hst
     exact fin 0 (by rw [if_neg (fun h=>h6 (ht3.mp h))]) (by exact lin1 (.l (.a (.a .v0 .k1) .k0) .v1) (.t .v0 .v1) (.w [1,1]) rfl (.n2 _ _) hlt) hR1
   rw [if_neg h5] at hst
   by_cases h6:c=35
   ·subst h6
    rw [if_pos rfl] at hst;cases hst
    obtain ⟨j,g1,g2,g3,g4⟩:=run_cm _ (i+1) (Nat.le_refl _) hlt hR1
    have hj:=lt_of_some g2
    have hf:=findN_of (l:=e.S) (c:=10) (n:=e.S.length-(i+1)) g1 (by exact lin2 (.t .v0 (.a (.a .v1 .k1) .v3)) (.t .v0 .v2) (.b 3 .v2 (.a .v1 .k1)) (.d 2 (.w [0, -1,1,1]) (.w [1, -1,1,1])) rfl (.n4 _ _ _ _) hj rfl) g2 g3
    rw [wh_T ht (.inl (one_hash hc hok.hs hf))]
    exact main_loop N z j _ _ _ _ ⟨hok.hg,by have:=hok.small;exact lin5 (.t (.a .v0 .v4) (.k 90000)) (.l (.a .v3 .k1) .v2) (.t .v2 .v1) (.t (.a .v0 .v5) (.k 90000)) (.b 4 .v1 .v2) (.b 5 .v1 .v3) (.d 4 (.d 7 (.w [0, -1,0,1,1,1,0,1]) (.w [1,0,1,0,0,1])) (.w [1,0,0,0,1])) rfl (.n6 _ _ _ _ _ _) g1 hj this rfl rfl,hok.hs,by exact Q41 (.n2 _ _) hj⟩ (by exact lin5 (.t (.m 2 .v4) .v2) (.t (.m 2 .v5) (.a .v2 .k1)) (.l (.a .v3 .k1) .v1) (.t .v1 .v0) (.b 4 .v0 .v1) (.b 5 .v0 .v3) (.d 4 (.d 7 (.w [0, -2,0,2,1,1,2]) (.w [1,0,1,0,0,0,1])) (.w [1,0,0,0,0,1])) rfl (.n6 _ _ _ _ _ _) hN g1 hj rfl rfl) (by exact Q4 (.n2 _ _) hF) g4 hS
   rw [if_neg h6] at hst
   by_cases h7:c=92
   ·subst h7
    rw [if_pos rfl] at hst;cases hst
    by_cases hl2:i+1<e.S.length
    ·obtain ⟨d,hc2,hd2⟩:=drop_cons hl2
     rw [hd2] at hR1
     obtain ⟨m2,z2,hst2,hR2⟩:=hR1.some
     have e0:e.S.drop (i+1+1)=[]↔i+2=e.S.length:=by
      rw [List.drop_eq_nil_iff];lia
     have e2:m2= .pl∧z2=if d=10 then {z with lno:=z.lno+1,cont:=if i+2=e.S.length then 1 else z.cont} else z:=by
      unfold step at hst2
      dsimp only at hst2
      simp only [e0] at hst2
      by_cases hh:d=10
      ·rw [if_pos hh] at hst2 ⊢;cases hst2;exact ⟨rfl,rfl⟩
      ·rw [if_neg hh] at hst2 ⊢;cases hst2;exact ⟨rfl,rfl⟩
     obtain ⟨rfl,rfl⟩:=e2
     rw [wh_T ht (.inr (one_bs hc hc2 hok.hs))]
     have hgl:(if d=10 then {z with lno:=z.lno+1,cont:=if i+2=e.S.length then 1 else z.cont} else z:Z).good=z.good:=by split <;> rfl
     exact main_loop N _ (i+2) _ _ _ _ ⟨hok.hg,by rw [hgl];have:=hok.small;exact Q121 (.n5 _ _ _ _ _) this rfl rfl,hok.hs,hl2⟩ (by exact lin4 (.t (.m 2 .v3) .v2) (.t (.m 2 .v4) (.a .v2 .k1)) (.t .v1 .v0) (.b 3 .v0 (.a .v1 (.k 2))) (.b 4 .v0 .v1) (.d 3 (.d 6 (.w [0, -2,0,2,1,1]) (.w [1,0,1])) (.d 6 (.w [0, -2,0,2,1,1,2]) (.w [1,0,0,0,0,0,1]))) rfl (.n5 _ _ _ _ _) hN hlt rfl rfl) (by exact Q4 (.n2 _ _) hF) hR2 hS
    ·rw [List.drop_eq_nil_of_le (by exact Q122 (.n2 _ _) hl2)] at hR1
     obtain ⟨p,g1,g2⟩:=hR1
     cases g1
     cases g2
   ·rw [if_neg h7] at hst;cases hst
  ·have ht:=lt_nF (e:=e) (z:=z) (ch:=ch) (qu:=qu) (fl:=fl) (w:=w) hlt
   rw [List.drop_eq_nil_of_le (by exact Q7 (.n2 _ _) hlt)] at hR
   obtain ⟨p,g1,g2⟩:=hR
   cases g1
   have hz:z=z':=Option.some.inj g2
   subst hz
   exact ⟨i,ch,qu,fl,w,by rw [wh_F ht];rfl⟩
end PT
end Mine
end
section
open PySem
set_option maxRecDepth 10000
set_option tactic.hygienic false
namespace Mine
namespace PT
variable {l s:List Nat}{z z':Z}{σ:St}{B:Ads}{j k:Nat}{vals vars:List PV}{v:PV}{cells:List PCell}
theorem Sk.len (h:Sk l s):s.length≤l.length:=by
 induction h with
 | nil=>exact Nat.le_refl _
 | cons _ ih=>simpa using ih
 | dx _ ih=>simp at ih ⊢;exact Q123 (.n2 _ _) ih
 | dn _ ih=>simp at ih ⊢;exact Q123 (.n2 _ _) ih
noncomputable def z0:Z:=⟨0,0,[0],0⟩
noncomputable def cont' (z:Z):Nat:=if z.cont≠2∧z.cont≠3∧0<z.level then 4 else z.cont
noncomputable def lastG (z:Z):Nat:=z.good.getLastD 0
noncomputable def good' (z:Z):List Nat:=if lastG z≠z.lno then z.good++[z.lno] else z.good
theorem Run.sk (h:Sk l s) (he:ends l) (hR:Run .pl z l z'):Run .pl z s z':=by
 obtain ⟨p,h1,h2⟩:=hR
 exact ⟨p,by rw [←run_sk h .pl z ⟨trivial,trivial⟩ he];exact h1,h2⟩
noncomputable def shrink (l:List Nat):List Nat:=
 let l:=rplG (lit "xxxxxxxx") (lit "x") 0 l
 let l:=rplG (lit "xxxx") (lit "x") 0 l
 let l:=rplG (lit "xx") (lit "x") 0 l
 let l:=rplG (lit "xx") (lit "x") 0 l
 rplG (lit "\nx") (lit "\n") 0 l
theorem sk8 (l:List Nat):Sk l (rplG (lit "xxxxxxxx") (lit "x") 0 l):=sk_x 7 l.length l (Nat.le_refl _)
theorem sk4 (l:List Nat):Sk l (rplG (lit "xxxx") (lit "x") 0 l):=sk_x 3 l.length l (Nat.le_refl _)
theorem sk2 (l:List Nat):Sk l (rplG (lit "xx") (lit "x") 0 l):=sk_x 1 l.length l (Nat.le_refl _)
theorem skn (l:List Nat):Sk l (rplG (lit "\nx") (lit "\n") 0 l):=sk_n l.length l (Nat.le_refl _)
theorem run_shrink (he:ends l) (hR:Run .pl z l z'):Run .pl z (shrink l) z':=by
 have e1:=(sk8 l).ends he
 have e2:=(sk4 _).ends e1
 have e3:=(sk2 _).ends e2
 have e4:=(sk2 _).ends e3
 exact ((((hR.sk (sk8 l) he).sk (sk4 _) e1).sk (sk2 _) e2).sk (sk2 _) e3).sk (skn _) e4
theorem shrink_len (l:List Nat):(shrink l).length≤l.length:=
 Nat.le_trans (skn _).len (Nat.le_trans (sk2 _).len (Nat.le_trans (sk2 _).len (Nat.le_trans (sk4 _).len (sk8 l).len)))
theorem ok_rep {i:Nat}{y z:List Nat} (hv:vr i σ= .ok (.str l) σ) (hl:l.length≤65536) (hy:0<y.length) (hz:0<z.length):
  setV i (lift1 (repG y z) (vr i)) σ= .ok .next {σ with vars:=σ.vars.set i (.str (rplG y z 0 l))}:=by
 have h:lift1 (repG y z) (vr i) σ= .ok (.str (rplG y z 0 l)) σ:=by
  unfold lift1
  rw [ok_bnd hv]
  unfold repG optM
  dsimp only
  rw [if_pos hl,replace_eq hy hz]
 rw [ok_setV h rfl]
structure Obj1 (B:Ads) (k:Nat) (vals:List PV) (σ:St):Prop where
 cell:σ.cells[k]? =some (.dct 0 vals)
 len:vals.length=11
theorem dct_of (h:Obj1 B k vals σ):dctAt k 0 σ=some vals:=by
 unfold dctAt;rw [h.cell];rfl
theorem ok_attr {x:PM PV} (hx:x σ= .ok (.inst B.C k) σ) (h:Obj1 B k vals σ) (hj:vals[j]? =some v) (hh:hand v=true):attrM B.C 0 j x σ= .ok v σ:=by
 unfold attrM
 rw [ok_bnd hx]
 unfold attrG instK
 dsimp only
 rw [if_pos rfl]
 dsimp only
 rw [dct_of h]
 dsimp only
 rw [hj]
 dsimp only
 rw [if_pos hh]
theorem ok_attrS (h:Obj1 B k vals σ) (hu:isUnb v=false):attrS B.C 0 j (.inst B.C k) v σ= .ok .next {σ with cells:=σ.cells.set k (.dct 0 (vals.set j v))}:=by
 unfold attrS instK
 dsimp only
 rw [if_pos rfl]
 dsimp only
 rw [dct_of h]
 dsimp only
 rw [hu]
 rfl
theorem ok_setAttr {fe:PM PV} (hv:vr 0 σ= .ok (.inst B.C k) σ) (h:Obj1 B k vals σ) (he:fe σ= .ok v σ) (hu:isUnb v=false):
  setAttrM B.C 0 j fe (vr 0) σ= .ok .next {σ with cells:=σ.cells.set k (.dct 0 (vals.set j v))}:=by
 unfold setAttrM
 rw [ok_bnd he,ok_bnd hv,ok_attrS h hu]
theorem Obj1.set (h:Obj1 B k vals ⟨vars,cells⟩):Obj1 B k (vals.set j v) ⟨vars,cells.set k (.dct 0 (vals.set j v))⟩:=
 ⟨by show (cells.set k _)[k]? =_;rw [List.getElem?_set_self (lt_of_some h.cell)],by rw [List.length_set];exact h.len⟩
noncomputable def u12:List PV:=List.replicate 12 .unb
theorem ends_map (h:ends l):ends (l.map transF):=by
 rcases h with h | h
 ·exact .inl (by rw [h];rfl)
 ·right
  rw [List.getLast?_map,h];rfl
noncomputable def vals1 (vals:List PV) (g:Nat) (z:Z):List PV:=((vals.set 3 (.int 1)).set 4 (.cell g)).set 5 (.int (cont' z))
theorem study1_ok {T:List Nat} (h:Obj1 B k vals ⟨vars,cells⟩) (hT:vals[2]? =some (.str T)) (hlv:vals[3]? =some (.int 0))
  (hasc:T.all (· < 128)=true) (hlen:T.length≤60000) (he:ends T) (hR:Run .pl z0 (T.map transF) z) (hgood:z.good≠[]) (hsm:z.good.length<90000)
  (hass:(cont' z=0)↔(lastG z=z.lno)):
  callF 13 (study1F B) [.inst B.C k] ⟨vars,cells⟩= .ok .none ⟨vars,(cells.set k (.dct 0 (vals1 vals cells.length z)))++[.list ((good' z).map fun n:Nat=> .int n)]⟩:=by
 have hkl:k<cells.length:=lt_of_some h.cell
 let v0:List PV:= .inst B.C k::u12
 have hv0:vars0 13 [.inst B.C k]=v0:=rfl
 let S:=shrink (T.map transF)
 have hSl:S.length≤60000:=Nat.le_trans (shrink_len _) (by rw [List.length_map];exact hlen)
 have hRS:Run .pl z0 S z:=run_shrink (ends_map he) hR
 have H0:Obj1 B k vals ⟨v0,cells⟩:=⟨h.cell,h.len⟩
 let c1:=cells.set k (.dct 0 (vals.set 3 (.int 1)))
 have H1:Obj1 B k (vals.set 3 (.int 1)) ⟨v0,c1⟩:=H0.set
 have hc1:c1.length=cells.length:=by simp [c1]
 have s0:lift2 geP (attrM B.C 0 3 (vr 0)) (cI 1) ⟨v0,cells⟩= .ok false ⟨v0,cells⟩:=by
  unfold lift2
  rw [ok_bnd (ok_attr (x:=vr 0) rfl H0 hlv rfl)]
  rfl
 have s1:setAttrM B.C 0 3 (cI 1) (vr 0) ⟨v0,cells⟩= .ok .next ⟨v0,c1⟩:=ok_setAttr rfl H0 rfl rfl
 have hT1:(vals.set 3 (.int 1))[2]? =some (.str T):=by rw [List.getElem?_set_ne (by decide)];exact hT
 have s2:setV 1 (attrM B.C 0 2 (vr 0)) ⟨v0,c1⟩= .ok .next ⟨v0.set 1 (.str T),c1⟩:=ok_setV (ok_attr (x:=vr 0) rfl H1 hT1 rfl) rfl
 have s3:setV 1 (bmethM okStr (vr 1) [pure1 (.glob (.ref B.tab))] (trG B.tab transF)) ⟨v0.set 1 (.str T),c1⟩= .ok .next ⟨v0.set 1 (.str (T.map transF)),c1⟩:=by
  have:bmethM okStr (vr 1) [pure1 (.glob (.ref B.tab))] (trG B.tab transF) ⟨v0.set 1 (.str T),c1⟩= .ok (.str (T.map transF)) ⟨v0.set 1 (.str T),c1⟩:=by
   show trG B.tab transF [.str T, .glob (.ref B.tab)] _=_
   exact trG_go hasc (by exact Q124 (.n1 _) hlen)
  rw [ok_setV this rfl];rfl
 have rep:∀(l y zz:List Nat),l.length≤60000→0<y.length→0<zz.length→setV 1 (lift1 (repG y zz) (vr 1)) ⟨v0.set 1 (.str l),c1⟩= .ok .next ⟨v0.set 1 (.str (rplG y zz 0 l)),c1⟩:=by
  intro l y zz hl hy hz
  rw [ok_rep (l:=l) rfl (by exact Q124 (.n1 _) hl) hy hz];rfl
 have l0:(T.map transF).length≤60000:=by rw [List.length_map];exact hlen
 have l1:=Nat.le_trans (sk8 (T.map transF)).len l0
 have l2:=Nat.le_trans (sk4 _).len l1
 have l3:=Nat.le_trans (sk2 _).len l2
 have l4:=Nat.le_trans (sk2 _).len l3
 have s4:=rep _ (lit "xxxxxxxx") (lit "x") l0 (by decide) (by decide)
 have s5:=rep _ (lit "xxxx") (lit "x") l1 (by decide) (by decide)
 have s6:=rep _ (lit "xx") (lit "x") l2 (by decide) (by decide)
 have s7:=rep _ (lit "xx") (lit "x") l3 (by decide) (by decide)
 have s8:setV 1 (lift1 (repG (lit "\nx") (lit "\n")) (vr 1)) _= .ok .next ⟨v0.set 1 (.str S),c1⟩:=rep _ (lit "\nx") (lit "\n") l4 (by decide) (by decide)
 refine cps fun GC hGC=> ?_
 obtain ⟨g,hg⟩:∃g,g=cells.length:=⟨_,rfl⟩
 have hg1:g=c1.length:=by rw [hc1];exact hg
 let va:List PV:=[.inst B.C k, .str S, .int 0, .int 0, .int 0, .unb, .unb, .unb, .unb, .unb, .unb, .unb, .unb]
 let d2:PCell:= .dct 0 ((vals.set 3 (.int 1)).set 4 (.cell g))
 let c2:List PCell:=c1.set k d2++[PCell.list [.int 0]]
 have s9:setV 2 (cI 0) ⟨v0.set 1 (.str S),c1⟩= .ok .next ⟨[.inst B.C k, .str S, .int 0, .unb, .unb, .unb, .unb, .unb, .unb, .unb, .unb, .unb, .unb],c1⟩:=rfl
 have s10:set2M (setG 3) (setG 4) (cI 0) ⟨[.inst B.C k, .str S, .int 0, .unb, .unb, .unb, .unb, .unb, .unb, .unb, .unb, .unb, .unb],c1⟩= .ok .next ⟨va,c1⟩:=rfl
 have s11:set2M (attrSG B.C 0 4 (vr 0)) (setG 5) (cellM [cI 0]) ⟨va,c1⟩= .ok .next ⟨va.set 5 (.cell g),c2⟩:=by
  have e1:cellM [cI 0] ⟨va,c1⟩= .ok (.cell g) ⟨va,c1++[PCell.list [.int 0]]⟩:=by
   rw [hg1];rfl
  unfold set2M
  rw [ok_bnd e1]
  have H2:Obj1 B k (vals.set 3 (.int 1)) ⟨va,c1++[PCell.list [.int 0]]⟩:=⟨by
   skip
   rw [List.getElem?_append_left (by rw [hc1];exact hkl)];exact H1.cell,H1.len⟩
  have e2:attrSG B.C 0 4 (vr 0) (.cell g) ⟨va,c1++[PCell.list [.int 0]]⟩= .ok .next ⟨va,c2⟩:=by
   show attrS B.C 0 4 (.inst B.C k) (.cell g) _=_
   rw [ok_attrS H2 rfl]
   skip
   rw [List.set_append_left _ _ (by rw [hc1];exact hkl)]
  rw [ok_bnd e2]
  rfl
 have hc2:c2.length=g+1:=by simp [c2,hc1,hg]
 have hcg:c2[g]? =some (.list [.int 0]):=by
  skip
  rw [hg1,List.getElem?_append_right (by simp)]
  simp
 have s12:setV 6 (bnd (vr 5) bmG) ⟨va.set 5 (.cell g),c2⟩= .ok .next ⟨(va.set 5 (.cell g)).set 6 (.bm g),c2⟩:=by
  have:bnd (vr 5) bmG ⟨va.set 5 (.cell g),c2⟩= .ok (.bm g) ⟨va.set 5 (.cell g),c2⟩:=by
   show bmG (.cell g) _=_
   unfold bmG cellL
   dsimp only
   rw [hcg]
   rfl
  rw [ok_setV this rfl]
 let e:S1:=⟨B.C,k,g,S,c2⟩
 have hst0:(St.mk [.inst B.C k, .str S, .int 0, .int 0, .int 0, .cell g, .bm g, .int 0, .int S.length, .unb, .unb, .unb, .unb] c2)=st1 e z0 (0:Nat) .unb .unb .unb .unb:=by
  unfold st1
  have:c2.set g (goodC z0)=c2:=by
   apply List.ext_getElem?
   intro j
   by_cases hj:j=g
   ·subst hj
    rw [List.getElem?_set_self (by exact Q44 (.n2 _ _) hc2),hcg];rfl
   ·rw [List.getElem?_set_ne (Ne.symm hj)]
  skip
  rw [this];rfl
 have s13:swap2M 7 8 (cI 0) (lenM (vr 1)) ⟨(va.set 5 (.cell g)).set 6 (.bm g),c2⟩= .ok .next (st1 e z0 (0:Nat) .unb .unb .unb .unb):=by
  rw [←hst0]
  have e1:lenM (vr 1) ⟨(va.set 5 (.cell g)).set 6 (.bm g),c2⟩= .ok (.int S.length) ⟨(va.set 5 (.cell g)).set 6 (.bm g),c2⟩:=by
   show lenG [.str S] _=_
   rw [lenG_str (by unfold sizeMax;exact Q0 (.n1 _) hSl)]
  unfold swap2M
  rw [ok_bnd (x:=cI 0) (a:= .int 0) (σ:=⟨(va.set 5 (.cell g)).set 6 (.bm g),c2⟩) (σ':=⟨(va.set 5 (.cell g)).set 6 (.bm g),c2⟩) rfl,ok_bnd e1]
  rfl
 obtain ⟨i',ch1,qu1,fl1,w1,s14⟩:=main_loop (e:=e) (z':=z) fuel z0 0 .unb .unb .unb .unb ⟨by exact Q44 (.n2 _ _) hc2,by exact lin2 (.t (.a .k1 .v1) (.k 90000)) (.l .v0 (.k 60000)) (.b 1 .v0 .k0) (.d 2 (.w [0,1,1,1]) (.w [0,1,1])) rfl (.n2 _ _) hSl rfl,by unfold sizeMax;exact Q0 (.n1 _) hSl,Nat.zero_le _⟩
  (by unfold fuel;exact lin2 (.t (.m 2 .v1) (.k 1000000)) (.l .v0 (.k 60000)) (.b 1 .v0 .k0) (.d 2 (.w [0,2,1,2]) (.w [0,2,1])) rfl (.n2 _ _) hSl rfl) (by exact Q9 (.n1 _)) hRS (by exact lin1 (.t .v0 (.k 90000)) (.l .v0 (.k 60000)) (.w [1,1]) rfl (.n1 _) hSl)
 refine hGC ?_
 let zc:Z:={z with cont:=cont' z}
 have s15:iteM (andM (lift2 neP (vr 2) (cI 2)) (andM (lift2 neP (vr 2) (cI 3)) (lift2 gtP (vr 3) (cI 0)))) (setV 2 (cI 4)) nop (st1 e z i' ch1 qu1 fl1 w1)= .ok .next (st1 e zc i' ch1 qu1 fl1 w1):=by
  have b1:lift2 neP (vr 2) (cI 2) (st1 e z i' ch1 qu1 fl1 w1)= .ok (decide (z.cont≠2)) (st1 e z i' ch1 qu1 fl1 w1):=by
   show Res.ok ((z.cont:Int) != 2) _=_
   congr 1
   rw [Bool.eq_iff_iff,bne_iff_ne,decide_eq_true_eq];lia
  have b2:lift2 neP (vr 2) (cI 3) (st1 e z i' ch1 qu1 fl1 w1)= .ok (decide (z.cont≠3)) (st1 e z i' ch1 qu1 fl1 w1):=by
   show Res.ok ((z.cont:Int) != 3) _=_
   congr 1
   rw [Bool.eq_iff_iff,bne_iff_ne,decide_eq_true_eq];lia
  have b3:lift2 gtP (vr 3) (cI 0) (st1 e z i' ch1 qu1 fl1 w1)= .ok (decide (0<z.level)) (st1 e z i' ch1 qu1 fl1 w1):=by
   show Res.ok (decide ((0:Int)<(z.level:Int))) _=_
   congr 1
   rw [Bool.eq_iff_iff,decide_eq_true_eq,decide_eq_true_eq];lia
  have b:andM (lift2 neP (vr 2) (cI 2)) (andM (lift2 neP (vr 2) (cI 3)) (lift2 gtP (vr 3) (cI 0))) (st1 e z i' ch1 qu1 fl1 w1)= .ok (decide (z.cont≠2∧z.cont≠3∧0<z.level)) (st1 e z i' ch1 qu1 fl1 w1):=by
   unfold andM
   rw [ok_bnd b1]
   by_cases g1:z.cont≠2
   ·rw [decide_eq_true g1,if_pos rfl,ok_bnd b2]
    by_cases g2:z.cont≠3
    ·rw [decide_eq_true g2,if_pos rfl,b3]
     congr 1
     rw [Bool.eq_iff_iff,decide_eq_true_eq,decide_eq_true_eq]
     exact ⟨fun h=>⟨g1,g2,h⟩,fun h=>h.2.2⟩
    ·rw [decide_eq_false g2,if_neg (by decide),decide_eq_false (fun h=>g2 h.2.1)];rfl
   ·rw [decide_eq_false g1,if_neg (by decide),decide_eq_false (fun h=>g1 h.1)];rfl
  rw [ok_ite b]
  by_cases hh:z.cont≠2∧z.cont≠3∧0<z.level
  ·rw [decide_eq_true hh,if_pos rfl]
   have:zc={z with cont:=4}:=by show ({z with cont:=cont' z}:Z)=_;unfold cont';rw [if_pos hh]
   rw [this];rfl
  ·rw [decide_eq_false hh,if_neg (by decide)]
   have:zc=z:=by show ({z with cont:=cont' z}:Z)=_;unfold cont';rw [if_neg hh]
   rw [this];rfl
 have hkg:k≠g:=by exact Q125 (.n3 _ _ _) hkl hg
 have Hc:Obj1 B k ((vals.set 3 (.int 1)).set 4 (.cell g)) (st1 e zc i' ch1 qu1 fl1 w1):=⟨by
  show (c2.set g (goodC zc))[k]? =_
  rw [List.getElem?_set_ne (Ne.symm hkg)]
  skip
  rw [List.getElem?_append_left (by simp;exact Q45 (.n3 _ _ _) hkl hc1),List.getElem?_set_self (by exact Q45 (.n3 _ _ _) hkl hc1)],by simp [h.len]⟩
 let e2:S1:=⟨B.C,k,g,S,c2.set k (.dct 0 (vals1 vals g z))⟩
 have hst2:∀(zz:Z),(c2.set g (goodC zz)).set k (.dct 0 (vals1 vals g z))=(c2.set k (.dct 0 (vals1 vals g z))).set g (goodC zz):=fun zz=>List.set_comm _ _ (Ne.symm hkg)
 have s16:setAttrM B.C 0 5 (vr 2) (vr 0) (st1 e zc i' ch1 qu1 fl1 w1)= .ok .next (st1 e2 zc i' ch1 qu1 fl1 w1):=by
  rw [ok_setAttr (j:=5) (fe:=vr 2) (v:= .int (cont' z)) rfl Hc rfl rfl]
  show Res.ok Fl.next (St.mk _ ((c2.set g (goodC zc)).set k (.dct 0 (vals1 vals g z))))=_
  rw [hst2];rfl
 have hg2:e2.g<e2.cells.length:=by rw [List.length_set];exact Q44 (.n2 _ _) hc2
 have hcl:cellL g (st1 e2 zc i' ch1 qu1 fl1 w1)=some (z.good.map fun n:Nat=> .int n):=by
  show (match ((c2.set k (.dct 0 (vals1 vals g z))).set g (goodC zc))[g]? with | some (.list xs)=>some xs | _=>none)=_
  rw [List.getElem?_set_self hg2];rfl
 have hlast:itm (vr 5) neg1 (st1 e2 zc i' ch1 qu1 fl1 w1)= .ok (.int (lastG z)) (st1 e2 zc i' ch1 qu1 fl1 w1):=by
  show itemP (.cell g) (.int (-1)) _=_
  unfold itemP
  dsimp only
  rw [hcl]
  dsimp only
  have hn:0<z.good.length:=List.length_pos_iff.mpr hgood
  have e3:seqIndex? (-1) (z.good.map fun n:Nat=>PV.int n).length=some (z.good.length-1):=by
   rw [List.length_map]
   unfold seqIndex?
   simp
   exact ⟨⟨Q46 (.n1 _) hn,Q47 (.n1 _)⟩,Q48 (.n3 _ _ _) rfl rfl⟩
  rw [e3]
  dsimp only
  congr 1
  unfold lastG
  rw [List.getD_eq_getElem?_getD,List.getElem?_map,List.getLastD_eq_getLast?,List.getLast?_eq_getElem?]
  have e4:z.good[z.good.length-1]? =some z.good[z.good.length-1]:=List.getElem?_eq_getElem (by exact lin2 (.t .v1 .v0) (.t .k0 .v0) (.b 1 .v0 .k1) (.d 2 (.w [0,1,1]) (.w [0,1,1,1])) rfl (.n2 _ _) hn rfl)
  rw [e4];rfl
 have s17:assertM (eqM (ofB (eqM (vr 2) (cI 0))) (ofB (eqM (itm (vr 5) neg1) (vr 4)))) (st1 e2 zc i' ch1 qu1 fl1 w1)= .ok .next (st1 e2 zc i' ch1 qu1 fl1 w1):=by
  refine asT ?_
  have e5:eqM (itm (vr 5) neg1) (vr 4) (st1 e2 zc i' ch1 qu1 fl1 w1)= .ok ((lastG z:Int)==(z.lno:Int)) (st1 e2 zc i' ch1 qu1 fl1 w1):=by
   show bnd _ _ _=_
   rw [ok_bnd hlast];rfl
  have e6:ofB (eqM (itm (vr 5) neg1) (vr 4)) (st1 e2 zc i' ch1 qu1 fl1 w1)= .ok (.bool ((lastG z:Int)==(z.lno:Int))) (st1 e2 zc i' ch1 qu1 fl1 w1):=by
   unfold ofB;rw [ok_bnd e5];rfl
  have e7:ofB (eqM (vr 2) (cI 0)) (st1 e2 zc i' ch1 qu1 fl1 w1)= .ok (.bool ((cont' z:Int)==0)) (st1 e2 zc i' ch1 qu1 fl1 w1):=rfl
  show bnd _ _ _=_
  rw [ok_bnd e7,ok_bnd e6]
  show Res.ok (((cont' z:Int)==0)==((lastG z:Int)==(z.lno:Int))) _=_
  congr 1
  rw [beq_iff_eq,Bool.eq_iff_iff,beq_iff_eq,beq_iff_eq]
  constructor
  ·intro h';have:=hass.mp (by exact lin1 (.q .v0 .k0) (.Q (.c .v0) .k0) (.b (.w [1, -1]) (.w [1,1])) rfl (.n1 _) h');exact lin1 (.Q (.c .v0) (.c .v1)) (.q .v0 .v1) (.b (.w [1, -1]) (.w [1,1])) rfl (.n2 _ _) this
  ·intro h';have:=hass.mpr (by exact lin1 (.q .v0 .v1) (.Q (.c .v0) (.c .v1)) (.b (.w [1, -1]) (.w [1,1])) rfl (.n2 _ _) h');exact lin1 (.Q (.c .v0) .k0) (.q .v0 .k0) (.b (.w [1, -1]) (.w [1,1])) rfl (.n1 _) this
 have s18:iteM (lift2 neP (itm (vr 5) neg1) (vr 4)) (exprM (pushM (vr 6) (vr 4))) nop (st1 e2 zc i' ch1 qu1 fl1 w1)= .ok .next (st1 e2 {zc with good:=good' z} i' ch1 qu1 fl1 w1):=by
  have b:lift2 neP (itm (vr 5) neg1) (vr 4) (st1 e2 zc i' ch1 qu1 fl1 w1)= .ok (decide (lastG z≠z.lno)) (st1 e2 zc i' ch1 qu1 fl1 w1):=by
   show bnd _ _ _=_
   rw [ok_bnd hlast]
   show Res.ok ((lastG z:Int) != (z.lno:Int)) _=_
   congr 1
   rw [Bool.eq_iff_iff,bne_iff_ne,decide_eq_true_eq];lia
  rw [ok_ite b]
  by_cases hh:lastG z≠z.lno
  ·rw [decide_eq_true hh,if_pos rfl,push_lno (e:=e2) (z:=zc) ⟨hg2,by exact lin1 (.t .v0 (.k 100000)) (.t .v0 (.k 90000)) (.w [1,1]) rfl (.n1 _) hsm⟩]
   unfold good';rw [if_pos hh]
  ·rw [decide_eq_false hh,if_neg (by decide)]
   unfold good';rw [if_neg hh];rfl
 have hfin:((c2.set k (.dct 0 (vals1 vals g z))).set g (goodC {zc with good:=good' z}))=(cells.set k (.dct 0 (vals1 vals cells.length z)))++[PCell.list ((good' z).map fun n:Nat=> .int n)]:=by
  skip
  rw [List.set_append_left _ _ (by simp;exact Q45 (.n3 _ _ _) hkl hc1),List.set_set,List.set_append_right _ _ (by simp;exact lin2 (.l .v0 .v1) (.q .v0 .v2) (.q .v1 .v2) (.w [1,1, -1]) rfl (.n3 _ _ _) hc1 hg)]
  have e8:c1.set k (.dct 0 (vals1 vals g z))=cells.set k (.dct 0 (vals1 vals cells.length z)):=by
   skip
   rw [List.set_set,hg]
  rw [e8]
  congr 1
  have:g-(cells.set k (.dct 0 (vals1 vals cells.length z))).length=0:=by simp;exact lin2 (.q .v2 .k0) (.q .v0 .v1) (.b 2 .v0 .v1) (.b (.w [1]) (.d 2 (.w [0,1,1,1]) (.w [0,1,1]))) rfl (.n3 _ _ _) hg rfl
  rw [this];rfl
 have run:study1F B ⟨v0,cells⟩= .ok .next (st1 e2 {zc with good:=good' z} i' ch1 qu1 fl1 w1):=by
  unfold study1F
  dsimp only [blk]
  rw [seqF s0,ok_seq s1,ok_seq s2,ok_seq s3,ok_seq s4,ok_seq s5,ok_seq s6,ok_seq s7,ok_seq s8,ok_seq (x:=setV 2 (cI 0)) s9,ok_seq s10,ok_seq s11,ok_seq s12,ok_seq s13,ok_seq s14,ok_seq s15,ok_seq s16,ok_seq s17]
  exact s18
 unfold callF
 rw [hv0,run]
 show Res.ok PV.none (St.mk vars ((c2.set k (.dct 0 (vals1 vals g z))).set g (goodC {zc with good:=good' z})))=_
 rw [hfin]
end PT
end Mine
end
section
open PySem
set_option maxRecDepth 10000
set_option tactic.hygienic false
namespace Mine
namespace PT
variable {fx:PM PV}{x:PV}
inductive W2:List Nat→Prop where
 | nil:W2 []
 | ord {c:Nat}{r:List Nat}:RX.ordin c=true→W2 r→W2 (c::r)
 | br {c:Nat}{r:List Nat}:(c=40∨c=91∨c=123∨c=41∨c=93∨c=125)→W2 r→W2 (c::r)
 | str {q:Nat}{r:List Nat}:(q=34∨q=39)→W2 ((q::r).drop (RX.strN q (q::r)))→W2 (q::r)
 | cm {a b:List Nat}:(∀x∈a,x≠10)→W2 b→W2 (35::(a++10::b))
 | bs {d:Nat}{r:List Nat}:W2 r→W2 (92::d::r)
set_option tactic.hygienic true in
theorem W2.drop {r:List Nat} (h:W2 r):W2 (r.dropWhile RX.ordin):=by
 induction h with
 | nil=>exact .nil
 | ord hc _ ih=>rw [List.dropWhile_cons,hc];exact ih
 | br hc h ih=>
  rename_i c r
  have:RX.ordin c=false:=by rcases hc with rfl | rfl | rfl | rfl | rfl | rfl <;> rfl
  rw [List.dropWhile_cons,this];exact .br hc h
 | str hq h ih=>
  rename_i q r
  have:RX.ordin q=false:=by rcases hq with rfl | rfl <;> rfl
  rw [List.dropWhile_cons,this];exact .str hq h
 | cm ha hb _=>rw [List.dropWhile_cons,show RX.ordin 35=false from rfl];exact .cm ha hb
 | bs h _=>rw [List.dropWhile_cons,show RX.ordin 92=false from rfl];exact .bs h
structure S2 where
 C:Addr
 k:Nat
 g:Nat
 T:List Nat
 q:Nat
 a:Nat
 b:Nat
 cells:List PCell
noncomputable def vars2 (e:S2) (i:Int) (p:Nat) (no la m np ch:PV):List PV:=
 [.inst e.C e.k, .str e.T, .cell e.g, .int i, .int p, .int e.q,no,la, .cell e.a, .bm e.a, .cell e.b,m,np,ch]
noncomputable def st2 (e:S2) (i:Int) (p:Nat) (no la m np ch:PV) (sk:List PV) (bs:List PV):St:=⟨vars2 e i p no la m np ch,(e.cells.set e.a (.list sk)).set e.b (.list bs)⟩
structure OkS (e:S2):Prop where
 ha:e.a<e.cells.length
 hb:e.b<e.cells.length
 hab:e.a≠e.b
 hq:e.q≤e.T.length
 hT:e.T.length≤60000
structure Ok2 (e:S2) (p:Nat) (sk bs:List PV):Prop extends OkS e where
 hp:p≤e.q
 hs:sk.length+(e.q-p)≤100000
 hbs:bs.length+2*(e.q-p)≤200000
 hu:∀x∈sk,isUnb x=false
variable {e:S2}{i:Int}{p:Nat}{no la m np ch:PV}{sk bs:List PV}
theorem cell_a (h:OkS e):cellL e.a (st2 e i p no la m np ch sk bs)=some sk:=by
 show (match ((e.cells.set e.a (.list sk)).set e.b (.list bs))[e.a]? with | some (.list xs)=>some xs | _=>none)=_
 rw [List.getElem?_set_ne (Ne.symm h.hab),List.getElem?_set_self h.ha]
theorem cell_b (h:OkS e):cellL e.b (st2 e i p no la m np ch sk bs)=some bs:=by
 show (match ((e.cells.set e.a (.list sk)).set e.b (.list bs))[e.b]? with | some (.list xs)=>some xs | _=>none)=_
 rw [List.getElem?_set_self (by rw [List.length_set];exact h.hb)]
theorem set_a (x:List PV):((e.cells.set e.a (.list sk)).set e.b (.list bs)).set e.a (.list x)=if e.a=e.b then ((e.cells.set e.a (.list sk)).set e.b (.list bs)).set e.a (.list x) else (e.cells.set e.a (.list x)).set e.b (.list bs):=by
 split
 ·rfl
 ·rename_i h
  rw [List.set_comm _ _ (Ne.symm h),List.set_set]
theorem push_a (h:OkS e) (hlen:sk.length<300000) (hx:fx (st2 e i p no la m np ch sk bs)= .ok x (st2 e i p no la m np ch sk bs)) (hu:isUnb x=false):
  exprM (pushM (vr 9) fx) (st2 e i p no la m np ch sk bs)= .ok .next (st2 e i p no la m np ch (sk++[x]) bs):=by
 have h1:pushM (vr 9) fx (st2 e i p no la m np ch sk bs)= .ok .none (st2 e i p no la m np ch (sk++[x]) bs):=by
  unfold pushM
  rw [ok_bnd (x:=vr 9) (a:= .bm e.a) rfl,ok_bnd hx]
  dsimp only
  unfold appG
  rw [cell_a h]
  dsimp only
  rw [if_pos (by unfold sizeMax;exact Q126 (.n1 _) hlen),hu]
  show Res.ok PV.none (St.mk _ (((e.cells.set e.a (.list sk)).set e.b (.list bs)).set e.a (.list (sk++[x]))))=_
  rw [set_a,if_neg h.hab]
  rfl
 unfold exprM
 rw [ok_bnd h1]
theorem push_b (h:OkS e) (hlen:bs.length<300000) (hx:fx (st2 e i p no la m np ch sk bs)= .ok x (st2 e i p no la m np ch sk bs)) (hu:isUnb x=false):
  brk2 fx (st2 e i p no la m np ch sk bs)= .ok .next (st2 e i p no la m np ch sk (bs++[x])):=by
 have h1:bmethM okList (vr 10) [fx] appendG (st2 e i p no la m np ch sk bs)= .ok .none (st2 e i p no la m np ch sk (bs++[x])):=by
  unfold bmethM
  rw [ok_bnd (x:=vr 10) (a:= .cell e.b) rfl]
  have:okList (.cell e.b) (st2 e i p no la m np ch sk bs)=true:=by
   show (cellL e.b (st2 e i p no la m np ch sk bs)).isSome=true
   rw [cell_b h];rfl
  rw [if_pos this]
  have ev:evL [fx] (st2 e i p no la m np ch sk bs)= .ok [x] (st2 e i p no la m np ch sk bs):=by
   unfold evL;rw [ok_bnd hx];rfl
  rw [ok_bnd ev]
  show appG e.b x _=_
  unfold appG
  rw [cell_b h]
  dsimp only
  rw [if_pos (by unfold sizeMax;exact Q126 (.n1 _) hlen),hu]
  show Res.ok PV.none (St.mk _ (((e.cells.set e.a (.list sk)).set e.b (.list bs)).set e.b (.list (bs++[x]))))=_
  rw [List.set_set]
  rfl
 show exprM _ _=_
 unfold exprM
 rw [ok_bnd h1]
theorem len_a (h:OkS e):lenM (vr 8) (st2 e i p no la m np ch sk bs)= .ok (.int sk.length) (st2 e i p no la m np ch sk bs):=by
 show lenG [.cell e.a] _=_
 rw [lenG_cell (cell_a h)]
noncomputable abbrev rest (e:S2) (p:Nat):List Nat:=(e.T.drop p).take (e.q-p)
theorem rest_len (h:Ok2 e p sk bs):(rest e p).length=e.q-p:=by
 rw [List.length_take,List.length_drop];have:=h.hq;exact lin4 (.q .v5 .v3) (.l .v0 .v2) (.b 3 .v0 .v1) (.M 5 .v3 .v4) (.b 4 .v2 .v1) (.b (.d 2 (.d 5 (.w [0, -1,0,0,1]) (.d 8 (.w [0, -1,0, -1,0,1,1,1]) (.w [1, -1,0, -1,0,1,1,1]))) (.w [0,1,1])) (.d 3 (.w [0,1,1]) (.w [1,1,1]))) rfl (.n6 _ _ _ _ _ _) this rfl rfl rfl
theorem rest_get {j:Nat} (h:Ok2 e p sk bs) {c:Nat} (hj:(rest e p)[j]? =some c):e.T[p+j]? =some c∧p+j<e.q:=by
 have hl:=lt_of_some hj
 rw [rest_len h] at hl
 unfold rest at hj
 rw [List.getElem?_take_of_lt hl,List.getElem?_drop] at hj
 exact ⟨hj,by exact lin2 (.t (.a .v0 .v1) .v2) (.t .v1 .v3) (.b 3 .v2 .v0) (.d 2 (.w [0,1,1,1]) (.w [0,1,0,1])) rfl (.n4 _ _ _ _) hl rfl⟩
theorem rest_drop (n:Nat):(rest e p).drop n=rest e (p+n):=by
 unfold rest
 rw [List.drop_take,List.drop_drop,Nat.sub_sub]
noncomputable def matV (p:Nat):Option Nat→PV
 | some n=> .mat ((p:Int)+n)
 | none=> .none
theorem mat_ok {sc:List Nat→Option (Option Nat)} (h:Ok2 e p sk bs) {r:Option Nat} (hs:sc (rest e p)=some r):
  mat3 sc [vr 1,vr 4,vr 5] (st2 e i p no la m np ch sk bs)= .ok (matV p r) (st2 e i p no la m np ch sk bs):=by
 show goMat sc e.T (p:Int) (e.q:Int) _=_
 unfold goMat
 have:=h.hp;have:=h.hq;have:=h.hT
 rw [if_pos ⟨by exact Q8 (.n1 _),by exact Q10 (.n2 _ _) (by assumption),by exact Q10 (.n2 _ _) (by assumption),by exact Q25 (.n1 _) this⟩]
 rw [Int.toNat_natCast,show ((e.q:Int)-(p:Int)).toNat=e.q-p by exact Q14 (.n4 _ _ _ _) rfl rfl,hs]
 cases r <;> rfl
theorem back_white (h:Ok2 e p sk bs):∀(N j:Nat),j≤e.T.length→j<p+N→p≤j→
  ∃i':Int,whileM N (andM (lift2 geP (vr 3) (vr 4)) (lift2 inP (itm (vr 1) (vr 3)) (cS " \t\n"))) (setV 3 (lift2 subP (vr 3) (cI 1))) nop (st2 e ((j:Int)-1) p no la m np ch sk bs)= .ok .next (st2 e i' p no la m np ch sk bs)∧i'<e.T.length∧(p:Int)-1≤i'
 | 0,j,_,h1,h2=>absurd h1 (by exact lin1 (.n (.t .v0 (.a .v1 .k0))) (.l .v1 .v0) (.w [1,1]) rfl (.n2 _ _) h2)
 | N+1,j,hj,h1,h2=>by
  have hge:∀(x:Int),lift2 geP (vr 3) (vr 4) (st2 e x p no la m np ch sk bs)= .ok (decide ((p:Int)≤x)) (st2 e x p no la m np ch sk bs):=fun _=>rfl
  by_cases hlt:p<j
  ·have hc:e.T[j-1]? =some e.T[j-1]:=List.getElem?_eq_getElem (by exact lin3 (.t .v3 .v1) (.l .v0 .v1) (.t .v2 .v0) (.b 3 .v0 .k1) (.d 3 (.w [0,1,1,1]) (.w [0,1,1,1,1])) rfl (.n4 _ _ _ _) hj hlt rfl)
   have hT:=h.hT
   have hin:lift2 inP (itm (vr 1) (vr 3)) (cS " \t\n") (st2 e ((j:Int)-1) p no la m np ch sk bs)= .ok ((lit " \t\n").contains e.T[j-1]) (st2 e ((j:Int)-1) p no la m np ch sk bs):=by
    have e1:((j:Int)-1)=((j-1:Nat):Int):=by exact Q49 (.n3 _ _ _) hlt rfl
    rw [e1]
    unfold lift2
    rw [ok_bnd (itm_nat (x:=vr 1) (j:=vr 3) (S:=e.T) (i:=j-1) rfl rfl hc (by unfold sizeMax;exact Q0 (.n1 _) hT))]
    rfl
   have hcond:andM (lift2 geP (vr 3) (vr 4)) (lift2 inP (itm (vr 1) (vr 3)) (cS " \t\n")) (st2 e ((j:Int)-1) p no la m np ch sk bs)= .ok ((lit " \t\n").contains e.T[j-1]) (st2 e ((j:Int)-1) p no la m np ch sk bs):=by
    unfold andM
    rw [ok_bnd (hge _),decide_eq_true (by exact lin1 (.L (.c .v0) (.s (.c .v1) .k1)) (.t .v0 .v1) (.w [1,1]) rfl (.n2 _ _) hlt),if_pos rfl]
    exact hin
   by_cases hw:(lit " \t\n").contains e.T[j-1]=true
   ·rw [hw] at hcond
    have hb:setV 3 (lift2 subP (vr 3) (cI 1)) (st2 e ((j:Int)-1) p no la m np ch sk bs)= .ok .next (st2 e (((j-1:Nat):Int)-1) p no la m np ch sk bs):=by
     have e1:((j:Int)-1)=((j-1:Nat):Int):=by exact Q49 (.n3 _ _ _) hlt rfl
     rw [e1];rfl
    rw [wh_T hcond (.inr hb)]
    exact back_white h N (j-1) (by exact lin2 (.l .v2 .v1) (.l .v0 .v1) (.b 2 .v0 .k1) (.d 2 (.w [0,1,1,1]) (.w [0,1,1,1])) rfl (.n3 _ _ _) hj rfl) (by exact lin3 (.t .v3 (.a .v1 .v2)) (.t .v0 (.a .v1 (.a .v2 .k1))) (.t .v1 .v0) (.b 3 .v0 .k1) (.d 3 (.w [0,1,1,1]) (.w [0,1,1,1,1])) rfl (.n4 _ _ _ _) h1 hlt rfl) (by exact lin2 (.l .v0 .v2) (.t .v0 .v1) (.b 2 .v1 .k1) (.d 2 (.w [0, -1,1,1]) (.w [1, -1,1,1])) rfl (.n3 _ _ _) hlt rfl)
   ·rw [show (lit " \t\n").contains e.T[j-1]=false by simpa using hw] at hcond
    exact ⟨(j:Int)-1,by rw [wh_F hcond];rfl,by exact Q127 (.n2 _ _) hj,by exact lin1 (.L (.s (.c .v0) .k1) (.s (.c .v1) .k1)) (.t .v0 .v1) (.w [1,1]) rfl (.n2 _ _) hlt⟩
  ·have hcond:andM (lift2 geP (vr 3) (vr 4)) (lift2 inP (itm (vr 1) (vr 3)) (cS " \t\n")) (st2 e ((j:Int)-1) p no la m np ch sk bs)= .ok false (st2 e ((j:Int)-1) p no la m np ch sk bs):=by
    unfold andM
    rw [ok_bnd (hge _),decide_eq_false (by exact lin1 (.n (.L (.c .v0) (.s (.c .v1) .k1))) (.n (.t .v0 .v1)) (.w [1,1]) rfl (.n2 _ _) hlt),if_neg (by decide)]
    rfl
   exact ⟨(j:Int)-1,by rw [wh_F hcond];rfl,by exact Q127 (.n2 _ _) hj,by exact lin1 (.L (.s (.c .v0) .k1) (.s (.c .v1) .k1)) (.l .v0 .v1) (.w [1,1]) rfl (.n2 _ _) h2⟩
end PT
end Mine
end
section
open PySem
set_option maxRecDepth 10000
set_option tactic.hygienic false
namespace Mine
namespace PT
variable {c:Nat}{b:Bool}{r:List Nat}
noncomputable def s2Tail:PM Fl:=blk [
 setV 13 (itm (vr 1) (vr 4)),
 iteM (lift2 inP (vr 13) (cS "([{")) (blk [exprM (pushM (vr 9) (vr 4)),brk2 (pairM (vr 4) (lenM (vr 8))),setV 7 (vr 13),incV 4 1,ret1 .cont]) nop,
 iteM (lift2 inP (vr 13) (cS ")]}")) (blk [iteM (bnd (vr 8) truG) (delM (vr 8) neg1) nop,setV 7 (vr 13),incV 4 1,brk2 (pairM (vr 4) (lenM (vr 8))),ret1 .cont]) nop,
 iteM (orM (eqM (vr 13) (cS "\"")) (eqM (vr 13) (cS "'"))) (blk [brk2 (pairM (vr 4) (lift2 addP (lenM (vr 8)) (cI 1))),setV 7 (vr 13),setV 4 (bmethM okMat (mat3 strS [vr 1,vr 4,vr 5]) [] endG),brk2 (pairM (vr 4) (lenM (vr 8))),ret1 .cont]) nop,
 iteM (eqM (vr 13) (cS "#")) (blk [brk2 (pairM (vr 4) (lift2 addP (lenM (vr 8)) (cI 1))),setV 4 (lift2 addP (bmethM okStr (vr 1) [cS "\n",vr 4,vr 5] findG) (cI 1)),assertM (lift2 gtP (vr 4) (cI 0)),brk2 (pairM (vr 4) (lenM (vr 8))),ret1 .cont]) nop,
 assertM (eqM (vr 13) (cS "\\")),
 incV 4 1,
 assertM (lift2 ltP (vr 4) (vr 5)),
 iteM (lift2 neP (itm (vr 1) (vr 4)) (cS "\n")) (setV 7 (lift2 addP (vr 13) (itm (vr 1) (vr 4)))) nop,
 incV 4 1]
theorem s2One_eq:s2One=seqM (setV 11 (mat3 chewS [vr 1,vr 4,vr 5])) (seqM (iteM (bnd (vr 11) truG) (blk [
  setV 12 (bmethM okMat (vr 11) [] endG),
  setV 3 (lift2 subP (vr 12) (cI 1)),
  whileM fuel (andM (lift2 geP (vr 3) (vr 4)) (lift2 inP (itm (vr 1) (vr 3)) (cS " \t\n"))) (setV 3 (lift2 subP (vr 3) (cI 1))) nop,
  iteM (lift2 geP (vr 3) (vr 4)) (setV 7 (itm (vr 1) (vr 3))) nop,
  setV 4 (vr 12),
  iteM (lift2 geP (vr 4) (vr 5)) (ret1 .brk) nop]) nop) s2Tail):=rfl
variable {e:S2}{i:Int}{p:Nat}{no la m np ch:PV}{sk bs:List PV}
theorem rd2 (hc:e.T[p]? =some c) (hT:e.T.length≤60000):setV 13 (itm (vr 1) (vr 4)) (st2 e i p no la m np ch sk bs)= .ok .next (st2 e i p no la m np (.str [c]) sk bs):=by
 rw [ok_setV (itm_nat (x:=vr 1) (j:=vr 4) (S:=e.T) (i:=p) rfl rfl hc (by unfold sizeMax;exact Q0 (.n1 _) hT)) rfl];rfl
theorem in2 {s:String} (hb:(lit s).contains c=b):lift2 inP (vr 13) (cS s) (st2 e i p no la m np (.str [c]) sk bs)= .ok b (st2 e i p no la m np (.str [c]) sk bs):=by subst hb;rfl
theorem eq2 {s:String} (hb:([c]==lit s)=b):eqM (vr 13) (cS s) (st2 e i p no la m np (.str [c]) sk bs)= .ok b (st2 e i p no la m np (.str [c]) sk bs):=by subst hb;rfl
theorem pair2 {x y:PM PV}{a b:PV}{σ:St} (hx:x σ= .ok a σ) (hy:y σ= .ok b σ):pairM x y σ= .ok (.seq true [a,b]) σ:=by
 have ev:evL [x,y] σ= .ok [a,b] σ:=by
  have e1:evL [y] σ= .ok [b] σ:=by unfold evL;rw [ok_bnd hy];rfl
  have e2:evL [x,y]=bnd x fun a=>bnd (evL [y]) fun as=>ret1 (a::as):=rfl
  rw [e2,ok_bnd hx,ok_bnd e1];rfl
 show tupM true [x,y] σ=_
 unfold tupM
 rw [ok_bnd ev];rfl
noncomputable def Next2 (e:S2) (p:Nat) (r:Res Fl):Prop:=∃f i p' no la m np ch sk bs,(f=Fl.cont∨f=Fl.next)∧r= .ok f (st2 e i p' no la m np ch sk bs)∧p<p'∧Ok2 e p' sk bs∧W2 (rest e p')∧isUnb la=false
theorem tail_open (h:Ok2 e p sk bs) (hc:e.T[p]? =some c) (hp:p<e.q) (ho:c=40∨c=91∨c=123) (hw:W2 (rest e (p+1))):Next2 e p (s2Tail (st2 e i p no la m np ch sk bs)):=by
 have hb:=h.hbs
 have hs:=h.hs
 have h1:exprM (pushM (vr 9) (vr 4)) (st2 e i p no la m np (.str [c]) sk bs)= .ok .next (st2 e i p no la m np (.str [c]) (sk++[.int p]) bs):=push_a h.toOkS (by exact lin1 (.t .v0 (.k 300000)) (.l (.a .v0 .v1) (.k 100000)) (.w [1,1]) rfl (.n2 _ _) hs) rfl rfl
 have h2:brk2 (pairM (vr 4) (lenM (vr 8))) (st2 e i p no la m np (.str [c]) (sk++[.int p]) bs)= .ok .next (st2 e i p no la m np (.str [c]) (sk++[.int p]) (bs++[.seq true [.int p, .int (sk++[PV.int p]).length]])):=
  push_b h.toOkS (by exact Q26 (.n2 _ _) hb) (pair2 (x:=vr 4) rfl (len_a h.toOkS)) rfl
 refine ⟨.cont,i,p+1,no, .str [c],m,np, .str [c],sk++[.int p],bs++[.seq true [.int p, .int (sk++[PV.int p]).length]], .inl rfl, ?_,Nat.lt_succ_self p,⟨h.toOkS,hp,by simp;exact lin4 (.l (.a (.a .v0 .k1) .v3) (.k 100000)) (.t .v2 .v1) (.l (.a .v0 .v4) (.k 100000)) (.b 3 .v1 (.a .v2 .k1)) (.b 4 .v1 .v2) (.d 3 (.d 6 (.w [0, -1,0,1,1,0,1]) (.w [1,0,1])) (.d 6 (.w [0, -1,0,1,1,1,1]) (.w [1,0,0,0,0,1]))) rfl (.n5 _ _ _ _ _) hp hs rfl rfl,by simp;exact Q128 (.n5 _ _ _ _ _) hp hb rfl rfl,fun x hx=>(List.mem_append.mp hx).elim (h.hu x) (fun hx=>by rw [List.mem_singleton.mp hx];rfl)⟩,hw,rfl⟩
 unfold s2Tail
 dsimp only [blk]
 rw [ok_seq (rd2 hc h.hT)]
 refine seqS (in2 (by rcases ho with rfl | rfl | rfl <;> rfl)) ?_ (fun h=>nomatch h)
 rw [ok_seq h1,ok_seq h2]
 rfl
theorem tail_close (h:Ok2 e p sk bs) (hc:e.T[p]? =some c) (hp:p<e.q) (ho:c=41∨c=93∨c=125) (hw:W2 (rest e (p+1))):Next2 e p (s2Tail (st2 e i p no la m np ch sk bs)):=by
 have hb:=h.hbs
 have hs:=h.hs
 have ht:bnd (vr 8) truG (st2 e i p no la m np (.str [c]) sk bs)= .ok (!sk.isEmpty) (st2 e i p no la m np (.str [c]) sk bs):=by
  show truG (.cell e.a) _=_
  unfold truG
  dsimp only
  rw [cell_a h.toOkS]
 have hx:∃sk',(∀x∈sk',x∈sk)∧sk'.length≤sk.length∧iteM (bnd (vr 8) truG) (delM (vr 8) neg1) nop (st2 e i p no la m np (.str [c]) sk bs)= .ok .next (st2 e i p no la m np (.str [c]) sk' bs):=by
  rw [ok_ite ht]
  cases sk with
  | nil=>exact ⟨[],fun _ h=>h,Nat.le_refl _,rfl⟩
  | cons x r=>
   refine ⟨(x::r).eraseIdx r.length,fun _ hx=>(List.eraseIdx_sublist _ _).subset hx,by rw [List.length_eraseIdx_of_lt (by simp)];simp, ?_⟩
   show delM (vr 8) neg1 _=_
   unfold delM
   rw [ok_bnd (x:=vr 8) (a:= .cell e.a) rfl,ok_bnd (x:=neg1) (a:= .int (-1)) rfl]
   dsimp only
   rw [cell_a h.toOkS]
   have e3:seqIndex? (-1) (x::r).length=some r.length:=by
    unfold seqIndex?
    simp
    exact ⟨⟨Q129 (.n1 _),Q130 (.n1 _)⟩,Q131 (.n2 _ _) rfl⟩
   dsimp only
   rw [e3]
   dsimp only
   rw [if_pos (by exact ⟨lin0 (.L (.g (.k 1000000)) (.g .k1)) (.w [1]) rfl .o,lin0 (.L (.g .k1) (.k 1000000)) (.w [1]) rfl .o⟩)]
   show Res.ok Fl.next (St.mk _ (((e.cells.set e.a (.list (x::r))).set e.b (.list bs)).set e.a (.list ((x::r).eraseIdx r.length))))=_
   rw [set_a,if_neg h.hab]
   rfl
 obtain ⟨sk',hsub,hsk,hx⟩:=hx
 have h2:brk2 (pairM (vr 4) (lenM (vr 8))) (st2 e i (p+1) no (.str [c]) m np (.str [c]) sk' bs)= .ok .next (st2 e i (p+1) no (.str [c]) m np (.str [c]) sk' (bs++[.seq true [.int (p+1:Nat), .int sk'.length]])):=
  push_b h.toOkS (by exact Q26 (.n2 _ _) hb) (pair2 (x:=vr 4) rfl (len_a h.toOkS)) rfl
 refine ⟨.cont,i,p+1,no, .str [c],m,np, .str [c],sk',bs++[.seq true [.int (p+1:Nat), .int sk'.length]], .inl rfl, ?_,Nat.lt_succ_self p,⟨h.toOkS,hp,by exact lin4 (.l (.a .v0 .v4) (.k 100000)) (.l (.a .v3 .v5) (.k 100000)) (.l .v0 .v3) (.b 4 .v1 (.a .v2 .k1)) (.b 5 .v1 .v2) (.d 3 (.d 6 (.w [0, -1,0,1,1,1,1]) (.w [1,0,1])) (.w [0,1,1,1,1])) rfl (.n6 _ _ _ _ _ _) hs hsk rfl rfl,by simp;exact Q128 (.n5 _ _ _ _ _) hp hb rfl rfl,fun x hx=>h.hu x (hsub x hx)⟩,hw,rfl⟩
 unfold s2Tail
 dsimp only [blk]
 rw [ok_seq (rd2 hc h.hT),seqF (in2 (by rcases ho with rfl | rfl | rfl <;> rfl))]
 refine seqS (in2 (by rcases ho with rfl | rfl | rfl <;> rfl)) ?_ (fun h=>nomatch h)
 have hl:setV 7 (vr 13) (st2 e i p no la m np (.str [c]) sk' bs)= .ok .next (st2 e i p no (.str [c]) m np (.str [c]) sk' bs):=rfl
 have hi:incV 4 1 (st2 e i p no (.str [c]) m np (.str [c]) sk' bs)= .ok .next (st2 e i (p+1) no (.str [c]) m np (.str [c]) sk' bs):=rfl
 rw [ok_seq hx,ok_seq hl,ok_seq hi,ok_seq h2]
 rfl
theorem or2 (hb:(decide (c=34)||decide (c=39))=b):orM (eqM (vr 13) (cS "\"")) (eqM (vr 13) (cS "'")) (st2 e i p no la m np (.str [c]) sk bs)= .ok b (st2 e i p no la m np (.str [c]) sk bs):=by
 have e1:([c]==lit "\"")=decide (c=34):=by rw [Bool.eq_iff_iff,beq_iff_eq,decide_eq_true_eq];simp [lit]
 have e2:([c]==lit "'")=decide (c=39):=by rw [Bool.eq_iff_iff,beq_iff_eq,decide_eq_true_eq];simp [lit]
 unfold orM
 rw [ok_bnd (eq2 e1)]
 subst hb
 by_cases h:c=34
 ·rw [decide_eq_true h];rfl
 ·rw [decide_eq_false h,if_neg (by decide),eq2 e2];rfl
theorem scan1_le (q:Nat):∀(n:Nat) (l:List Nat),l.length≤n→RX.scan1 q l≤l.length
 | _,[],_=>Nat.le_refl _
 | 0,_::_,h=>by simp at h
 | n+1,c::r,h=>by
  unfold RX.scan1
  split
  ·cases r with
   | nil=>simp
   | cons d r=>simp at h;have:=scan1_le q n r (by exact Q3 (.n2 _ _) h);simp only [List.length_cons];exact Q132 (.n2 _ _) this
  split
  ·simp
  split
  ·simp
  ·have:=scan1_le q n r (by simpa using h);simp only [List.length_cons];exact Q133 (.n2 _ _) this
theorem scan3_le (q:Nat):∀(n:Nat) (l:List Nat),l.length≤n→RX.scan3 q l≤l.length
 | _,[],_=>Nat.le_refl _
 | 0,_::_,h=>by simp at h
 | n+1,c::r,h=>by
  unfold RX.scan3
  split
  ·cases r with
   | nil=>simp
   | cons d r=>simp at h;have:=scan3_le q n r (by exact Q3 (.n2 _ _) h);simp only [List.length_cons];exact Q132 (.n2 _ _) this
  split
  ·rename_i h3
   have:=congrArg List.length h3.2
   rw [List.length_take] at this
   simp at this
   simp only [List.length_cons];exact lin2 (.l (.k 3) (.a .v0 .k1)) (.q .v1 (.k 2)) (.M 1 (.k 2) .v0) (.d 2 (.w [1,0,1]) (.w [0,1,1, -1])) rfl (.n2 _ _) this rfl
  ·have:=scan3_le q n r (by simpa using h);simp only [List.length_cons];exact Q133 (.n2 _ _) this
theorem strN_le {q:Nat}{l:List Nat} (h:l≠[]):RX.strN q l≤l.length∧0<RX.strN q l:=by
 unfold RX.strN
 split
 ·rename_i h3
  have:=congrArg List.length h3
  rw [List.length_take] at this
  simp at this
  have:=scan3_le q _ (l.drop 3) (Nat.le_refl _)
  rw [List.length_drop] at this
  lia
 ·have:=scan1_le q _ (l.drop 1) (Nat.le_refl _)
  rw [List.length_drop] at this
  have:0<l.length:=List.length_pos_iff.mpr h
  exact ⟨(by lia),lin0 (.t .k0 (.a .k1 .v0)) (.w [1]) rfl (.n1 _)⟩
theorem tail_str (h:Ok2 e p sk bs) (hc:e.T[p]? =some c) (hp:p<e.q) (hq:c=34∨c=39) (hr:rest e p=c::r) (hw:W2 ((c::r).drop (RX.strN c (c::r)))):
  Next2 e p (s2Tail (st2 e i p no la m np ch sk bs)):=by
 have hb:=h.hbs
 have hs:=h.hs
 have hn:=strN_le (q:=c) (l:=c::r) (by simp)
 have hl:=rest_len h
 rw [hr] at hl
 obtain ⟨n,hnn⟩:∃n,n=RX.strN c (c::r):=⟨_,rfl⟩
 rw [←hnn] at hn hw
 have h1:brk2 (pairM (vr 4) (lift2 addP (lenM (vr 8)) (cI 1))) (st2 e i p no la m np (.str [c]) sk bs)= .ok .next (st2 e i p no la m np (.str [c]) sk (bs++[.seq true [.int p, .int ((sk.length:Int)+1)]])):=by
  refine push_b h.toOkS (by exact Q26 (.n2 _ _) hb) (pair2 (x:=vr 4) rfl ?_) rfl
  unfold lift2;rw [ok_bnd (len_a h.toOkS)];rfl
 obtain ⟨bs1,hb1⟩:∃bs1,bs1=bs++[PV.seq true [.int p, .int ((sk.length:Int)+1)]]:=⟨_,rfl⟩
 rw [←hb1] at h1
 have hbl:bs1.length=bs.length+1:=by rw [hb1];simp
 have H1:Ok2 e p sk bs1∨True:= .inr trivial
 have hm:mat3 strS [vr 1,vr 4,vr 5] (st2 e i p no (.str [c]) m np (.str [c]) sk bs1)= .ok (.mat ((p:Int)+n)) (st2 e i p no (.str [c]) m np (.str [c]) sk bs1):=by
  show goMat strS e.T (p:Int) (e.q:Int) _=_
  unfold goMat
  have:=h.hp;have:=h.hq;have:=h.hT
  rw [if_pos ⟨by exact Q8 (.n1 _),by exact Q134 (.n2 _ _) hp,by exact Q10 (.n2 _ _) (by assumption),by exact Q25 (.n1 _) this⟩]
  have hsc:strS (rest e p)=some (some n):=by
   rw [hr]
   unfold strS
   dsimp only [List.head?_cons]
   rw [if_pos hq,hnn]
  rw [Int.toNat_natCast,show ((e.q:Int)-(p:Int)).toNat=e.q-p by exact Q135 (.n4 _ _ _ _) hp rfl rfl,hsc]
  rfl
 have h3:setV 4 (bmethM okMat (mat3 strS [vr 1,vr 4,vr 5]) [] endG) (st2 e i p no (.str [c]) m np (.str [c]) sk bs1)= .ok .next (st2 e i (p+n) no (.str [c]) m np (.str [c]) sk bs1):=by
  have:bmethM okMat (mat3 strS [vr 1,vr 4,vr 5]) [] endG (st2 e i p no (.str [c]) m np (.str [c]) sk bs1)= .ok (.int ((p:Int)+n)) (st2 e i p no (.str [c]) m np (.str [c]) sk bs1):=by
   unfold bmethM
   rw [ok_bnd hm];rfl
  rw [ok_setV this rfl];rfl
 have h4:brk2 (pairM (vr 4) (lenM (vr 8))) (st2 e i (p+n) no (.str [c]) m np (.str [c]) sk bs1)= .ok .next (st2 e i (p+n) no (.str [c]) m np (.str [c]) sk (bs1++[.seq true [.int (p+n:Nat), .int sk.length]])):=
  push_b h.toOkS (by exact Q136 (.n3 _ _ _) hb hbl) (pair2 (x:=vr 4) rfl (len_a h.toOkS)) rfl
 refine ⟨.cont,i,p+n,no, .str [c],m,np, .str [c],sk,bs1++[.seq true [.int (p+n:Nat), .int sk.length]], .inl rfl, ?_,by exact lin1 (.t .v0 (.a .v0 .v1)) (.t .k0 .v1) (.w [1,1]) rfl (.n2 _ _) hn.2,⟨h.toOkS,by exact lin4 (.l (.a .v0 .v1) .v2) (.q .v3 .v4) (.l .v1 .v3) (.t .k0 .v1) (.b 4 .v2 .v0) (.d 4 (.w [0,1,1,1,1]) (.w [0,1,0,1,1,1])) rfl (.n5 _ _ _ _ _) hl hn.1 hn.2 rfl,by exact lin6 (.l (.a .v0 .v5) (.k 100000)) (.l (.a .v0 .v6) (.k 100000)) (.q .v4 .v6) (.l .v3 .v4) (.t .k0 .v3) (.b 5 .v1 (.a .v2 .v3)) (.b 6 .v1 .v2) (.d 5 (.d 8 (.w [0, -1,0,1,1,1,0,0,1]) (.w [1,0,1,0,0,0,0,0,1])) (.w [0,1,1,1,1,1,1])) rfl (.n7 _ _ _ _ _ _ _) hs hl hn.1 hn.2 rfl rfl,by simp;exact lin7 (.l (.a (.a .v0 .k1) (.m 2 .v6)) (.k 200000)) (.l (.a .v4 (.m 2 .v7)) (.k 200000)) (.q .v5 .v7) (.l .v3 .v5) (.t .k0 .v3) (.q .v0 (.a .v4 .k1)) (.b 6 .v1 (.a .v2 .v3)) (.b 7 .v1 .v2) (.d 6 (.d 9 (.w [0, -2,0,2,1,1,0,0,2,1]) (.w [1,0,1,0,0,0,0,0,1])) (.w [0,2,1,1,2,2,2,1])) rfl (.n8 _ _ _ _ _ _ _ _) hb hl hn.1 hn.2 hbl rfl rfl,h.hu⟩,by rw [←rest_drop,hr];exact hw,rfl⟩
 unfold s2Tail
 dsimp only [blk]
 rw [ok_seq (rd2 hc h.hT),seqF (in2 (by rcases hq with rfl | rfl <;> rfl)),seqF (in2 (by rcases hq with rfl | rfl <;> rfl))]
 refine seqS (or2 (by rcases hq with rfl | rfl <;> rfl)) ?_ (fun h=>nomatch h)
 have hla:setV 7 (vr 13) (st2 e i p no la m np (.str [c]) sk bs1)= .ok .next (st2 e i p no (.str [c]) m np (.str [c]) sk bs1):=rfl
 rw [ok_seq h1,ok_seq hla,ok_seq h3,ok_seq h4]
 rfl
theorem tail_cm {a b:List Nat} (hla:isUnb la=false) (h:Ok2 e p sk bs) (hp:p<e.q) (hr:rest e p=35::(a++10::b)) (ha:∀x∈a,x≠10) (hw:W2 b):
  Next2 e p (s2Tail (st2 e i p no la m np ch sk bs)):=by
 have hb:=h.hbs
 have hs:=h.hs
 have hq:=h.hq
 have hl:=rest_len h
 rw [hr] at hl
 simp only [List.length_cons,List.length_append] at hl
 have hc:e.T[p]? =some 35:=(rest_get (j:=0) h (by rw [hr];rfl)).1
 have hat:∀(j c:Nat),(35::(a++10::b))[j]? =some c→e.T[p+j]? =some c:=fun j c hj=>(rest_get (j:=j) h (by rw [hr];exact hj)).1
 have hnl:e.T[p+(a.length+1)]? =some 10:=hat (a.length+1) 10 (by simp)
 have hno:∀x,p≤x→x<p+(a.length+1)→e.T[x]? ≠some 10:=by
  intro x h1 h2 h3
  by_cases hx:x=p
  ·subst hx;rw [hc] at h3;cases h3
  ·obtain ⟨j,rfl⟩:∃j,x=p+(j+1):=⟨x-p-1,by exact lin4 (.q .v0 (.a .v1 (.a .v3 .k1))) (.l .v1 .v0) (.n (.q .v0 .v1)) (.b 3 .v2 .k1) (.b 2 .v0 .v1) (.b (.d 3 (.d 6 (.w [0,1,0,1,1]) (.w [0,1,1])) (.d 6 (.d 6 (.w [1,1]) (.w [1,0,0,0,1,1])) (.d 6 (.w [1,0,0,0,0,0,1]) (.w [1,1])))) (.d 3 (.d 6 (.w [0, -1,0, -1,1]) (.w [0,1,1])) (.d 6 (.w [0, -1,1, -1,1]) (.w [1,0,0, -1,1])))) rfl (.n4 _ _ _ _) h1 hx rfl rfl⟩
   have hj:j<a.length:=by exact lin1 (.t .v0 .v1) (.t (.a .v2 (.a .v0 .k1)) (.a .v2 (.a .v1 .k1))) (.w [1,1]) rfl (.n3 _ _ _) h2
   have:(35::(a++10::b))[j+1]? =some a[j]:=by
    rw [List.getElem?_cons_succ,List.getElem?_append_left hj,List.getElem?_eq_getElem hj]
   have h4:=hat (j+1) _ this
   rw [h4] at h3
   exact ha a[j] (List.getElem_mem hj) (Option.some.inj h3)
 have hf:findN e.T 10 p (e.q-p)=some (p+(a.length+1)):=findN_of (by exact lin0 (.l .v0 (.a .v0 (.a .v1 .k1))) (.w [1]) rfl (.n2 _ _)) (by exact lin1 (.t (.a .v0 (.a .v1 .k1)) (.a .v0 .v3)) (.q (.a (.a .v1 (.a .v2 .k1)) .k1) .v3) (.w [1,1]) rfl (.n4 _ _ _ _) hl) hnl hno
 have h1:brk2 (pairM (vr 4) (lift2 addP (lenM (vr 8)) (cI 1))) (st2 e i p no la m np (.str [35]) sk bs)= .ok .next (st2 e i p no la m np (.str [35]) sk (bs++[.seq true [.int p, .int ((sk.length:Int)+1)]])):=by
  refine push_b h.toOkS (by exact Q26 (.n2 _ _) hb) (pair2 (x:=vr 4) rfl ?_) rfl
  unfold lift2;rw [ok_bnd (len_a h.toOkS)];rfl
 obtain ⟨bs1,hb1⟩:∃bs1,bs1=bs++[PV.seq true [.int p, .int ((sk.length:Int)+1)]]:=⟨_,rfl⟩
 rw [←hb1] at h1
 have hbl:bs1.length=bs.length+1:=by rw [hb1];simp
 have h3:setV 4 (lift2 addP (bmethM okStr (vr 1) [cS "\n",vr 4,vr 5] findG) (cI 1)) (st2 e i p no la m np (.str [35]) sk bs1)= .ok .next (st2 e i (p+a.length+2) no la m np (.str [35]) sk bs1):=by
  have e1:bmethM okStr (vr 1) [cS "\n",vr 4,vr 5] findG (st2 e i p no la m np (.str [35]) sk bs1)= .ok (.int (toI (findN e.T 10 (clip0 e.T.length (p:Int)) (min (clip0 e.T.length (e.q:Int)) e.T.length-clip0 e.T.length (p:Int))))) (st2 e i p no la m np (.str [35]) sk bs1):=rfl
  rw [clip0_nat,clip0_nat,Nat.min_eq_left hq,hf] at e1
  have e2:lift2 addP (bmethM okStr (vr 1) [cS "\n",vr 4,vr 5] findG) (cI 1) (st2 e i p no la m np (.str [35]) sk bs1)= .ok (.int (p+a.length+2:Nat)) (st2 e i p no la m np (.str [35]) sk bs1):=by
   unfold lift2
   rw [ok_bnd e1]
   skip
   congr 2
  rw [ok_setV e2 rfl];rfl
 have h5:assertM (lift2 gtP (vr 4) (cI 0)) (st2 e i (p+a.length+2) no la m np (.str [35]) sk bs1)= .ok .next (st2 e i (p+a.length+2) no la m np (.str [35]) sk bs1):=by
  refine asT ?_
  show Res.ok (decide ((0:Int)<((p+a.length+2:Nat):Int))) _=_
  rw [decide_eq_true (by exact lin0 (.T .k0 (.c (.a (.a .v0 .v1) (.k 2)))) (.w [1]) rfl (.n2 _ _))]
 have h4:brk2 (pairM (vr 4) (lenM (vr 8))) (st2 e i (p+a.length+2) no la m np (.str [35]) sk bs1)= .ok .next (st2 e i (p+a.length+2) no la m np (.str [35]) sk (bs1++[.seq true [.int (p+a.length+2:Nat), .int sk.length]])):=
  push_b h.toOkS (by exact Q136 (.n3 _ _ _) hb hbl) (pair2 (x:=vr 4) rfl (len_a h.toOkS)) rfl
 have hd:rest e (p+a.length+2)=b:=by
  rw [Nat.add_assoc, ←rest_drop,hr]
  simp
 refine ⟨.cont,i,p+a.length+2,no,la,m,np, .str [35],sk,bs1++[.seq true [.int (p+a.length+2:Nat), .int sk.length]], .inl rfl, ?_,by exact lin0 (.t .v0 (.a (.a .v0 .v1) (.k 2))) (.w [1]) rfl (.n2 _ _),⟨h.toOkS,by exact lin2 (.l (.a (.a .v0 .v1) (.k 2)) .v2) (.q (.a (.a .v1 (.a .v3 .k1)) .k1) .v4) (.b 4 .v2 .v0) (.d 2 (.w [0,1,1,1]) (.w [0,1,0,1])) rfl (.n5 _ _ _ _ _) hl rfl,by exact lin3 (.l (.a .v0 .v4) (.k 100000)) (.l (.a .v0 .v5) (.k 100000)) (.b 4 .v1 (.a (.a .v2 .v3) (.k 2))) (.b 5 .v1 .v2) (.d 2 (.d 5 (.w [0, -1,0,1,1,1]) (.w [1, -1,0,1,1,1])) (.w [0,1,1,1])) rfl (.n6 _ _ _ _ _ _) hs rfl rfl,by simp;exact lin5 (.l (.a (.a .v0 .k1) (.m 2 .v6)) (.k 200000)) (.l (.a .v4 (.m 2 .v7)) (.k 200000)) (.q (.a (.a .v3 (.a .v5 .k1)) .k1) .v7) (.q .v0 (.a .v4 .k1)) (.b 6 .v1 (.a (.a .v2 .v3) (.k 2))) (.b 7 .v1 .v2) (.d 4 (.d 7 (.w [0, -2,0,2,1,1,0,1]) (.w [1,0,1])) (.w [0,2,1,1,2,1])) rfl (.n8 _ _ _ _ _ _ _ _) hb hl hbl rfl rfl,h.hu⟩,by rw [hd];exact hw,hla⟩
 unfold s2Tail
 dsimp only [blk]
 rw [ok_seq (rd2 hc h.hT),seqF (in2 (by rfl)),seqF (in2 (by rfl)),seqF (or2 (by rfl))]
 refine seqS (eq2 (by rfl)) ?_ (fun h=>nomatch h)
 rw [ok_seq h1,ok_seq h3,ok_seq h5,ok_seq h4]
 rfl
theorem tail_bs {d:Nat} (hla:isUnb la=false) (h:Ok2 e p sk bs) (hp:p<e.q) (hr:rest e p=92::d::r) (hw:W2 r):Next2 e p (s2Tail (st2 e i p no la m np ch sk bs)):=by
 have hb:=h.hbs
 have hs:=h.hs
 have hT:=h.hT
 have hl:=rest_len h
 rw [hr] at hl
 simp only [List.length_cons] at hl
 have hc:e.T[p]? =some 92:=(rest_get (j:=0) h (by rw [hr];rfl)).1
 have hd:e.T[p+1]? =some d:=(rest_get (j:=1) h (by rw [hr];rfl)).1
 have hrest:rest e (p+2)=r:=by rw [←rest_drop,hr];rfl
 have hlt:lift2 ltP (vr 4) (vr 5) (st2 e i (p+1) no la m np (.str [92]) sk bs)= .ok true (st2 e i (p+1) no la m np (.str [92]) sk bs):=by
  show Res.ok (decide (((p+1:Nat):Int)<(e.q:Int))) _=_
  rw [decide_eq_true (by exact lin3 (.T (.c (.a .v0 .k1)) (.c .v1)) (.t .v0 .v1) (.q (.a (.a .v2 .k1) .k1) .v3) (.b 3 .v1 .v0) (.d 3 (.w [0,1,1,0,1]) (.w [1,0,0,1])) rfl (.n4 _ _ _ _) hp hl rfl)]
 have hit:itm (vr 1) (vr 4) (st2 e i (p+1) no la m np (.str [92]) sk bs)= .ok (.str [d]) (st2 e i (p+1) no la m np (.str [92]) sk bs):=itm_nat (x:=vr 1) (j:=vr 4) (S:=e.T) (i:=p+1) rfl rfl hd (by unfold sizeMax;exact Q0 (.n1 _) hT)
 have hne:lift2 neP (itm (vr 1) (vr 4)) (cS "\n") (st2 e i (p+1) no la m np (.str [92]) sk bs)= .ok ([d] != lit "\n") (st2 e i (p+1) no la m np (.str [92]) sk bs):=by
  unfold lift2;rw [ok_bnd hit];rfl
 have hx:∃la',isUnb la'=false∧iteM (lift2 neP (itm (vr 1) (vr 4)) (cS "\n")) (setV 7 (lift2 addP (vr 13) (itm (vr 1) (vr 4)))) nop (st2 e i (p+1) no la m np (.str [92]) sk bs)= .ok .next (st2 e i (p+1) no la' m np (.str [92]) sk bs):=by
  rw [ok_ite hne]
  cases ([d] != lit "\n")
  ·exact ⟨la,hla,rfl⟩
  ·refine ⟨.str [92,d],rfl, ?_⟩
   have e1:lift2 addP (vr 13) (itm (vr 1) (vr 4)) (st2 e i (p+1) no la m np (.str [92]) sk bs)= .ok (.str [92,d]) (st2 e i (p+1) no la m np (.str [92]) sk bs):=by
    unfold lift2
    rw [ok_bnd (x:=vr 13) (a:= .str [92]) rfl,ok_bnd hit]
    rfl
   rw [if_pos rfl,ok_setV e1 rfl];rfl
 obtain ⟨la',hu',hx⟩:=hx
 refine ⟨.next,i,p+2,no,la',m,np, .str [92],sk,bs, .inr rfl, ?_,by exact Q137 (.n1 _),⟨h.toOkS,by exact lin3 (.l (.a .v0 (.k 2)) .v1) (.t .v0 .v1) (.q (.a (.a .v2 .k1) .k1) .v3) (.b 3 .v1 .v0) (.d 3 (.w [0,1,1,0,1]) (.w [1,0,0,1])) rfl (.n4 _ _ _ _) hp hl rfl,by exact lin3 (.l (.a .v0 .v3) (.k 100000)) (.l (.a .v0 .v4) (.k 100000)) (.b 3 .v1 (.a .v2 (.k 2))) (.b 4 .v1 .v2) (.d 2 (.d 5 (.w [0, -1,0,1,1,1]) (.w [1,0,1])) (.w [0,1,1,1])) rfl (.n5 _ _ _ _ _) hs rfl rfl,by exact lin3 (.l (.a .v0 (.m 2 .v3)) (.k 200000)) (.l (.a .v0 (.m 2 .v4)) (.k 200000)) (.b 3 .v1 (.a .v2 (.k 2))) (.b 4 .v1 .v2) (.d 2 (.d 5 (.w [0, -2,0,2,1,1]) (.w [1,0,1])) (.w [0,2,1,1])) rfl (.n5 _ _ _ _ _) hb rfl rfl,h.hu⟩,by rw [hrest];exact hw,hu'⟩
 unfold s2Tail
 dsimp only [blk]
 have hi:incV 4 1 (st2 e i p no la m np (.str [92]) sk bs)= .ok .next (st2 e i (p+1) no la m np (.str [92]) sk bs):=rfl
 rw [ok_seq (rd2 hc h.hT),seqF (in2 (by rfl)),seqF (in2 (by rfl)),seqF (or2 (by rfl)),seqF (eq2 (by rfl)),ok_seq (asT (eq2 (by rfl))),ok_seq hi,ok_seq (asT hlt),ok_seq hx]
 rfl
end PT
end Mine
end
section
open PySem
set_option maxRecDepth 10000
set_option tactic.hygienic false
namespace Mine
namespace PT
variable {e:S2}{i:Int}{p:Nat}{no la m np ch:PV}{sk bs:List PV}
theorem dw_eq {P:Nat→Bool}:∀l:List Nat,l.dropWhile P=l.drop (l.takeWhile P).length
 | []=>rfl
 | c::l=>by
  rw [List.dropWhile_cons,List.takeWhile_cons]
  cases P c
  ·rfl
  ·simp only [if_true,List.length_cons,List.drop_succ_cons];exact dw_eq l
theorem tail_any {c:Nat}{r:List Nat} (hla:isUnb la=false) (h:Ok2 e p sk bs) (hp:p<e.q) (hr:rest e p=c::r) (ho:RX.ordin c=false) (hw:W2 (rest e p)):Next2 e p (s2Tail (st2 e i p no la m np ch sk bs)):=by
 have hc:e.T[p]? =some c:=(rest_get (j:=0) h (by rw [hr];rfl)).1
 have hr1:rest e (p+1)=r:=by rw [←rest_drop,hr];rfl
 rw [hr] at hw
 cases hw with
 | ord hc' _=>rw [ho] at hc';cases hc'
 | br hb hw'=>
  by_cases h1:c=40∨c=91∨c=123
  ·exact tail_open h hc hp h1 (by rw [hr1];exact hw')
  ·exact tail_close h hc hp (by lia) (by rw [hr1];exact hw')
 | str hq hw'=>exact tail_str h hc hp hq hr hw'
 | cm ha hw'=>exact tail_cm hla h hp hr ha hw'
 | bs hw'=>exact tail_bs hla h hp hr hw'
theorem one2 (hla:isUnb la=false) (h:Ok2 e p sk bs) (hp:p<e.q) (hw:W2 (rest e p)):Next2 e p (s2One (st2 e i p no la m np ch sk bs))∨
  ∃i' no' la' m' np' ch',isUnb la'=false∧s2One (st2 e i p no la m np ch sk bs)= .ok .brk (st2 e i' e.q no' la' m' np' ch' sk bs):=by
 have hq:=h.hq
 have hT:=h.hT
 have hl:=rest_len h
 rw [s2One_eq]
 refine cps fun GC hGC=> ?_
 obtain ⟨n,hn⟩:∃n,n=((rest e p).takeWhile RX.ordin).length:=⟨_,rfl⟩
 refine hGC ?_
 have hnl:n≤e.q-p:=by rw [hn, ←hl];exact (List.takeWhile_sublist _).length_le
 have hd:=dw_eq (P:=RX.ordin) (rest e p)
 rw [←hn,rest_drop] at hd
 have hw':=hw.drop
 rw [hd] at hw'
 have hh:∀c r,rest e (p+n)=c::r→RX.ordin c=false:=fun c r hr=>by
  rw [hr] at hd
  exact RX.drop_head (by rw [hd];rfl)
 have hm:mat3 chewS [vr 1,vr 4,vr 5] (st2 e i p no la m np ch sk bs)= .ok (matV p (if n=0 then none else some n)) (st2 e i p no la m np ch sk bs):=by
  refine mat_ok h ?_
  unfold chewS
  rw [←hn]
  split <;> rfl
 by_cases h0:n=0
 ·rw [if_pos h0] at hm
  have h1:setV 11 (mat3 chewS [vr 1,vr 4,vr 5]) (st2 e i p no la m np ch sk bs)= .ok .next (st2 e i p no la .none np ch sk bs):=by rw [ok_setV hm rfl];rfl
  have h2:bnd (vr 11) truG (st2 e i p no la .none np ch sk bs)= .ok false (st2 e i p no la .none np ch sk bs):=rfl
  rw [ok_seq h1,seqF h2]
  left
  rw [h0,Nat.add_zero] at hh
  cases hr:rest e p with
  | nil=>rw [hr] at hl;simp at hl;exact (show False from lin3 .f (.t .v0 .v1) (.q .k0 .v2) (.b 2 .v1 .v0) (.d 3 (.w [0, -1,0,1, -1]) (.w [1,0,0,1])) rfl (.n3 _ _ _) hp hl rfl).elim
  | cons c r=>exact tail_any hla h hp hr (hh c r hr) hw
 ·rw [if_neg h0] at hm
  have h1:setV 11 (mat3 chewS [vr 1,vr 4,vr 5]) (st2 e i p no la m np ch sk bs)= .ok .next (st2 e i p no la (.mat ((p:Int)+n)) np ch sk bs):=by rw [ok_setV hm rfl];rfl
  have h2:bnd (vr 11) truG (st2 e i p no la (.mat ((p:Int)+n)) np ch sk bs)= .ok true (st2 e i p no la (.mat ((p:Int)+n)) np ch sk bs):=rfl
  have h3:setV 12 (bmethM okMat (vr 11) [] endG) (st2 e i p no la (.mat ((p:Int)+n)) np ch sk bs)= .ok .next (st2 e i p no la (.mat ((p:Int)+n)) (.int (p+n:Nat)) ch sk bs):=rfl
  have h4:setV 3 (lift2 subP (vr 12) (cI 1)) (st2 e i p no la (.mat ((p:Int)+n)) (.int (p+n:Nat)) ch sk bs)= .ok .next (st2 e (((p+n:Nat):Int)-1) p no la (.mat ((p:Int)+n)) (.int (p+n:Nat)) ch sk bs):=rfl
  refine cps fun GC hGC=> ?_
  obtain ⟨i',h5,hi1,hi2⟩:=back_white (no:=no) (la:=la) (m:= .mat ((p:Int)+n)) (np:= .int (p+n:Nat)) (ch:=ch) h fuel (p+n) (by exact lin4 (.l (.a .v0 .v1) .v2) (.t .v0 .v3) (.l .v3 .v2) (.l .v1 .v4) (.b 4 .v3 .v0) (.d 4 (.w [0,1,1,0,1,1]) (.w [1,0,0,1])) rfl (.n5 _ _ _ _ _) hp hq hnl rfl) (by unfold fuel;exact lin4 (.t (.a .v0 .v1) (.a .v0 (.k 1000000))) (.l .v2 .v3) (.l .v3 (.k 60000)) (.l .v1 .v4) (.b 4 .v2 .v0) (.d 4 (.w [0,1,1,1,1,1]) (.w [0,1,1,0,0,1])) rfl (.n5 _ _ _ _ _) hq hT hnl rfl) (by exact Q50 (.n2 _ _))
  have h6:∃la',isUnb la'=false∧iteM (lift2 geP (vr 3) (vr 4)) (setV 7 (itm (vr 1) (vr 3))) nop (st2 e i' p no la (.mat ((p:Int)+n)) (.int (p+n:Nat)) ch sk bs)= .ok .next (st2 e i' p no la' (.mat ((p:Int)+n)) (.int (p+n:Nat)) ch sk bs):=by
   have hb:lift2 geP (vr 3) (vr 4) (st2 e i' p no la (.mat ((p:Int)+n)) (.int (p+n:Nat)) ch sk bs)= .ok (decide ((p:Int)≤i')) (st2 e i' p no la (.mat ((p:Int)+n)) (.int (p+n:Nat)) ch sk bs):=rfl
   rw [ok_ite hb]
   by_cases hge:(p:Int)≤i'
   ·obtain ⟨j,rfl⟩:∃j:Nat,i'=j:=⟨i'.toNat,by exact lin2 (.Q .v0 (.c .v2)) (.L (.c .v1) .v0) (.N 2 .v0) (.b (.d 2 (.w [0,1,1]) (.w [0,1,1,1])) (.d 2 (.w [0, -1,1]) (.w [1, -1,1]))) rfl (.z _ (.n2 _ _)) hge rfl⟩
    have hj:j<e.T.length:=by exact lin1 (.t .v0 .v1) (.T (.c .v0) (.c .v1)) (.w [1,1]) rfl (.n2 _ _) hi1
    refine ⟨.str [e.T[j]],rfl, ?_⟩
    rw [decide_eq_true hge,if_pos rfl,ok_setV (itm_nat (x:=vr 1) (j:=vr 3) (S:=e.T) (i:=j) rfl rfl (List.getElem?_eq_getElem hj) (by unfold sizeMax;exact Q0 (.n1 _) hT)) rfl]
    rfl
   ·refine ⟨la,hla, ?_⟩
    rw [decide_eq_false hge];rfl
  obtain ⟨la',hu6,h6⟩:=h6
  refine hGC ?_
  have h7:setV 4 (vr 12) (st2 e i' p no la' (.mat ((p:Int)+n)) (.int (p+n:Nat)) ch sk bs)= .ok .next (st2 e i' (p+n) no la' (.mat ((p:Int)+n)) (.int (p+n:Nat)) ch sk bs):=rfl
  have hb8:lift2 geP (vr 4) (vr 5) (st2 e i' (p+n) no la' (.mat ((p:Int)+n)) (.int (p+n:Nat)) ch sk bs)= .ok (decide ((e.q:Int)≤((p+n:Nat):Int))) (st2 e i' (p+n) no la' (.mat ((p:Int)+n)) (.int (p+n:Nat)) ch sk bs):=rfl
  rw [ok_seq h1]
  by_cases hend:p+n=e.q
  ·right
   refine ⟨i',no,la', .mat ((p:Int)+n), .int (p+n:Nat),ch,hu6,seqS h2 ?_ (fun h=>nomatch h)⟩
   dsimp only [blk]
   rw [ok_seq h3,ok_seq h4,ok_seq h5,ok_seq h6,ok_seq h7,ok_ite hb8,decide_eq_true (by exact lin1 (.L (.c .v0) (.c (.a .v1 .v2))) (.q (.a .v1 .v2) .v0) (.w [1, -1]) rfl (.n3 _ _ _) hend),if_pos rfl,hend]
   rfl
  ·left
   have hx:blk [
     setV 12 (bmethM okMat (vr 11) [] endG),
     setV 3 (lift2 subP (vr 12) (cI 1)),
     whileM fuel (andM (lift2 geP (vr 3) (vr 4)) (lift2 inP (itm (vr 1) (vr 3)) (cS " \t\n"))) (setV 3 (lift2 subP (vr 3) (cI 1))) nop,
     iteM (lift2 geP (vr 3) (vr 4)) (setV 7 (itm (vr 1) (vr 3))) nop,
     setV 4 (vr 12),
     iteM (lift2 geP (vr 4) (vr 5)) (ret1 .brk) nop] (st2 e i p no la (.mat ((p:Int)+n)) np ch sk bs)= .ok .next (st2 e i' (p+n) no la' (.mat ((p:Int)+n)) (.int (p+n:Nat)) ch sk bs):=by
    dsimp only [blk]
    rw [ok_seq h3,ok_seq h4,ok_seq h5,ok_seq h6,ok_seq h7,ok_ite hb8,decide_eq_false (by exact lin4 (.n (.L (.c .v0) (.c (.a .v1 .v2)))) (.t .v1 .v0) (.l .v2 .v3) (.n (.q (.a .v1 .v2) .v0)) (.b 3 .v0 .v1) (.d 4 (.d 5 (.w [1,0,0,1]) (.w [1,0,1,0,0,1])) (.w [1,0,0,1])) rfl (.n4 _ _ _ _) hp hnl hend rfl),if_neg (by decide)]
    rfl
   rw [seqT h2 hx]
   have H':Ok2 e (p+n) sk bs:=⟨h.toOkS,by exact lin3 (.l (.a .v0 .v1) .v2) (.t .v0 .v2) (.l .v1 .v3) (.b 3 .v2 .v0) (.d 3 (.w [0,1,1,0,1]) (.w [1,0,0,1])) rfl (.n4 _ _ _ _) hp hnl rfl,by have:=h.hs;exact lin5 (.l (.a .v0 .v4) (.k 100000)) (.l .v3 .v5) (.n (.q .v3 .k0)) (.l (.a .v0 .v5) (.k 100000)) (.b 4 .v1 (.a .v2 .v3)) (.b 5 .v1 .v2) (.d 4 (.d 7 (.w [0, -1,0,1,1,0,1,1]) (.w [1,0,1,0,0,0,1])) (.w [0,1,1,1,1,1])) rfl (.n6 _ _ _ _ _ _) hnl h0 this rfl rfl,by have:=h.hbs;exact lin5 (.l (.a .v0 (.m 2 .v4)) (.k 200000)) (.l .v3 .v5) (.n (.q .v3 .k0)) (.l (.a .v0 (.m 2 .v5)) (.k 200000)) (.b 4 .v1 (.a .v2 .v3)) (.b 5 .v1 .v2) (.d 4 (.d 7 (.w [0, -2,0,2,1,0,2,1]) (.w [1,0,1,0,0,0,1])) (.w [0,2,1,2,2,1])) rfl (.n6 _ _ _ _ _ _) hnl h0 this rfl rfl,h.hu⟩
   have hl':=rest_len H'
   cases hr:rest e (p+n) with
   | nil=>rw [hr] at hl';simp at hl';exact (show False from lin6 .f (.l .v0 .v3) (.n (.q .v0 .k0)) (.n (.q (.a .v2 .v0) .v1)) (.q .k0 .v4) (.b 3 .v1 .v2) (.b 4 .v1 (.a .v2 .v0)) (.d 5 (.d 8 (.d 7 (.w [1,0, -1,0,0,0,0,0,0, -1]) (.w [1,1])) (.d 7 (.w [1,1]) (.w [1,0,0,0,1,0,1]))) (.w [0,1,0,1,1])) rfl (.n5 _ _ _ _ _) hnl h0 hend hl' rfl rfl).elim
   | cons c r=>
    refine cps fun GC hGC=> ?_
    obtain ⟨f,i2,p2,a2,b2,c2,d2,e2,f2,g2,k1,k2,k3,k4,k5⟩:=tail_any (hla:=hu6) (i:=i') (no:=no) (la:=la') (m:= .mat ((p:Int)+n)) (np:= .int (p+n:Nat)) (ch:=ch) H' (by exact lin4 (.t (.a .v0 .v1) .v2) (.t .v0 .v2) (.l .v1 .v3) (.n (.q (.a .v0 .v1) .v2)) (.b 3 .v2 .v0) (.d 4 (.d 5 (.w [1,0,0,1]) (.w [1,0,1,0,0,1])) (.w [1,0,0,1])) rfl (.n4 _ _ _ _) hp hnl hend rfl) hr (hh c r hr) (by rw [hr];rw [hr] at hw';exact hw')
    refine hGC ?_
    exact ⟨f,i2,p2,a2,b2,c2,d2,e2,f2,g2,k1,k2,by exact lin2 (.t .v0 .v1) (.n (.q .v2 .k0)) (.t (.a .v0 .v2) .v1) (.w [1,1,1]) rfl (.n3 _ _ _) h0 k3,k4,k5⟩
theorem walk_ok:∀(N:Nat) (i:Int) (p:Nat) (no la m np ch:PV) (sk bs:List PV),isUnb la=false→Ok2 e p sk bs→e.q-p<N→W2 (rest e p)→
  ∃i' p' no' la' m' np' ch' sk' bs',whileM N (lift2 ltP (vr 4) (vr 5)) s2One nop (st2 e i p no la m np ch sk bs)= .ok .next (st2 e i' p' no' la' m' np' ch' sk' bs')∧sk'.length≤100000∧bs'.length≤200000∧isUnb la'=false∧(∀x∈sk',isUnb x=false)
 | 0,_,_,_,_,_,_,_,_,_,_,_,h,_=>absurd h (by exact Q6 (.n1 _))
 | N+1,i,p,no,la,m,np,ch,sk,bs,hla,hok,hN,hw=>by
  by_cases hp:p<e.q
  ·have ht:lift2 ltP (vr 4) (vr 5) (st2 e i p no la m np ch sk bs)= .ok true (st2 e i p no la m np ch sk bs):=by
    show Res.ok (decide ((p:Int)<(e.q:Int))) _=_
    rw [decide_eq_true (by exact Q39 (.n2 _ _) hp)]
   rcases one2 (i:=i) (no:=no) (la:=la) (m:=m) (np:=np) (ch:=ch) hla hok hp hw with ⟨f,i2,p2,a2,b2,c2,d2,e2,f2,g2,k1,k2,k3,k4,k5,k6⟩ | ⟨i2,a2,b2,c2,d2,e2,ku,k1⟩
   ·rw [wh_T ht (by rcases k1 with rfl | rfl;exact .inl k2;exact .inr k2)]
    exact walk_ok N i2 p2 a2 b2 c2 d2 e2 f2 g2 k6 k4 (by exact lin5 (.t .v4 .v2) (.t .v5 (.a .v2 .k1)) (.t .v3 .v0) (.t .v3 .v1) (.b 4 .v0 .v1) (.b 5 .v0 .v3) (.d 4 (.d 7 (.w [0, -1,0,1,1,1,0,1]) (.w [1,0,0,0,0,0,1])) (.d 7 (.w [0, -1,0,1,1,1,1]) (.w [1,0,0,0,0,0,1]))) rfl (.n6 _ _ _ _ _ _) hN hp k3 rfl rfl) k5
   ·exact ⟨i2,e.q,a2,b2,c2,d2,e2,sk,bs,wh_B ht k1,by have:=hok.hs;exact Q138 (.n2 _ _) this,by have:=hok.hbs;exact Q139 (.n2 _ _) this,ku,hok.hu⟩
  ·have ht:lift2 ltP (vr 4) (vr 5) (st2 e i p no la m np ch sk bs)= .ok false (st2 e i p no la m np ch sk bs):=by
    show Res.ok (decide ((p:Int)<(e.q:Int))) _=_
    rw [decide_eq_false (by exact Q118 (.n2 _ _) hp)]
   exact ⟨i,p,no,la,m,np,ch,sk,bs,by rw [wh_F ht];rfl,by have:=hok.hs;exact Q138 (.n2 _ _) this,by have:=hok.hbs;exact Q139 (.n2 _ _) this,hla,hok.hu⟩
end PT
end Mine
end
section
open PySem
set_option maxRecDepth 10000
set_option tactic.hygienic false
namespace Mine
namespace PT
variable {l:List Nat}{c q r:Nat}{no:PV}
noncomputable def nls (l:List Nat):Nat:=l.count 10
theorem rfindN_of:∀{n j:Nat},j<n→l[j]? =some c→(∀a,j<a→a<n→l[a]? ≠some c)→rfindN l c n=some j
 | 0,j,h,_,_=>absurd h (by exact Q6 (.n1 _))
 | n+1,j,h1,h2,h3=>by
  unfold rfindN
  by_cases he:n=j
  ·subst he;rw [if_pos h2]
  ·rw [if_neg (h3 n (by exact Q140 (.n2 _ _) h1 he) (by exact Q28 (.n1 _)))]
   exact rfindN_of (by exact Q140 (.n2 _ _) h1 he) h2 fun a ha hb=>h3 a ha (by exact Q29 (.n2 _ _) hb)
theorem rfindN_no:∀{n:Nat},(∀a,a<n→l[a]? ≠some c)→rfindN l c n=none
 | 0,_=>rfl
 | n+1,h=>by
  unfold rfindN
  rw [if_neg (h n (by exact Q28 (.n1 _)))]
  exact rfindN_no fun a ha=>h a (by exact Q29 (.n2 _ _) ha)
inductive Lines (T:List Nat):Nat→Nat→Nat→Prop where
 | nil {p:Nat}:Lines T p p 0
 | line {p q r m:Nat}:Lines T p q m→q<r→T[r-1]? =some 10→(∀a,q≤a→a<r-1→T[a]? ≠some 10)→(q=0∨(0<q∧T[q-1]? =some 10))→r≤T.length→Lines T p r (m+1)
theorem line_back {T:List Nat} (hqr:q<r) (hr:r≤T.length) (hno:∀a,q≤a→a<r-1→T[a]? ≠some 10) (hq:q=0∨(0<q∧T[q-1]? =some 10)):
  toI (rfindN T 10 (min (clip0 T.length ((r:Int)-1)) T.length))+1=(q:Int):=by
 have e1:min (clip0 T.length ((r:Int)-1)) T.length=r-1:=by
  rw [show ((r:Int)-1)=((r-1:Nat):Int) by exact Q49 (.n3 _ _ _) hqr rfl,clip0_nat];exact lin3 (.q .v3 .v2) (.l .v0 .v1) (.b 2 .v0 .k1) (.M 3 .v2 .v1) (.b (.d 2 (.d 5 (.w [0, -1,0,0,1]) (.w [1,0,0,1,0,1])) (.w [0,1,1])) (.d 3 (.w [0,1,1]) (.w [1,1,1]))) rfl (.n4 _ _ _ _) hr rfl rfl
 rw [e1]
 rcases hq with rfl | ⟨hq0,hq⟩
 ·rw [rfindN_no (fun a ha=>hno a (Nat.zero_le _) ha)];rfl
 ·rw [rfindN_of (j:=q-1) (by exact lin4 (.t .v2 .v3) (.t .v0 .v1) (.t .k0 .v0) (.b 2 .v0 .k1) (.b 3 .v1 .k1) (.d 3 (.d 6 (.w [0, -1,0,1,1,1]) (.w [1,0,1,0,0,1])) (.d 6 (.w [0, -1,0,1,1,1,1]) (.w [1,0,0,0,0,1,1]))) rfl (.n4 _ _ _ _) hqr hq0 rfl rfl) hq (fun a ha hb=>hno a (by exact Q33 (.n3 _ _ _) ha rfl) hb)]
  show ((q-1:Nat):Int)+1=q
  exact lin2 (.Q (.a (.c .v1) .k1) (.c .v0)) (.t .k0 .v0) (.b 1 .v0 .k1) (.b (.d 2 (.w [0, -1,1]) (.w [1, -1,1])) (.d 2 (.w [0,1,1]) (.w [0,1,1,1]))) rfl (.n2 _ _) hq0 rfl
noncomputable def varsB (C:Addr) (k g:Nat) (T:List Nat) (i:Int) (p:Nat) (q no:PV):List PV:=
 [.inst C k, .str T, .cell g, .int i, .int p,q,no, .unb, .unb, .unb, .unb, .unb, .unb, .unb]
noncomputable abbrev upM:PM Fl:=setV 4 (lift2 addP (bmethM okStr (vr 1) [cS "\n",cI 0,lift2 subP (vr 4) (cI 1)] rfindG) (cI 1))
variable {C:Addr}{k g:Nat}{T:List Nat}{i:Int}{cells:List PCell}{qv:PV}
theorem up_ok (hqr:q<r) (hr:r≤T.length) (hno:∀a,q≤a→a<r-1→T[a]? ≠some 10) (hq:q=0∨(0<q∧T[q-1]? =some 10)):
  upM ⟨varsB C k g T i r qv no,cells⟩= .ok .next ⟨varsB C k g T i q qv no,cells⟩:=by
 have e1:bmethM okStr (vr 1) [cS "\n",cI 0,lift2 subP (vr 4) (cI 1)] rfindG ⟨varsB C k g T i r qv no,cells⟩= .ok (.int (toI (rfindN T 10 (min (clip0 T.length ((r:Int)-1)) T.length)))) ⟨varsB C k g T i r qv no,cells⟩:=rfl
 have e2:lift2 addP (bmethM okStr (vr 1) [cS "\n",cI 0,lift2 subP (vr 4) (cI 1)] rfindG) (cI 1) ⟨varsB C k g T i r qv no,cells⟩= .ok (.int q) ⟨varsB C k g T i r qv no,cells⟩:=by
  show bnd _ _ _=_
  rw [ok_bnd e1]
  show Res.ok (PV.int (toI (rfindN T 10 (min (clip0 T.length ((r:Int)-1)) T.length))+1)) _=_
  rw [line_back hqr hr hno hq]
 show setV 4 _ _=_
 rw [ok_setV e2 rfl];rfl
set_option tactic.hygienic true in
theorem up_loop {m:Nat} (h:Lines T q r m):∀(xs:List PV) (no:PV),xs.length=m→(∀x∈xs,isUnb x=false)→∃no',forL (setG 6) upM xs ⟨varsB C k g T i r qv no,cells⟩= .ok .next ⟨varsB C k g T i q qv no',cells⟩:=by
 induction h with
 | nil=>
  intro xs no hx _
  have:xs=[]:=List.length_eq_zero_iff.mp hx
  subst this
  exact ⟨no,rfl⟩
 | line hL hqr h10 hno hq hr ih=>
  rename_i q' r' m'
  intro xs no hx hu
  cases xs with
  | nil=>simp at hx
  | cons x xs=>
   have e1:setG 6 x ⟨varsB C k g T i r' qv no,cells⟩= .ok .next ⟨varsB C k g T i r' qv x,cells⟩:=by
    unfold setG
    rw [hu x (.head _)];rfl
   obtain ⟨no',h2⟩:=ih xs x (by simpa using hx) (fun y hy=>hu y (.tail _ hy))
   refine ⟨no', ?_⟩
   unfold forL
   rw [ok_bnd e1,ok_bnd (up_ok hqr hr hno hq)]
   exact h2
theorem rngL_len (a b:Int):(rngL a b).length=(b-a).toNat:=by simp [rngL]
theorem rngL_unb (a b:Int):∀x∈rngL a b,isUnb x=false:=by
 intro x hx
 obtain ⟨j,_,rfl⟩:=List.mem_map.mp hx
 rfl
theorem back_one {s a b:Nat}{pre:List Nat} (hg:cells[g]? =some (.list ((pre++[a,b]).map fun n:Nat=> .int n))) (hb:a≤b) (hb2:b≤100000) (hL:Lines T s T.length (b-a)) (hsT:s≤T.length) (h0:0<T.length) (hT:T.length≤60000) (hpre:pre.length≤100000)
  (hj:junkS (T.drop s)=some none) {qv:PV}:
  ∃no',s2Back ⟨varsB C k g T (pre.length+1:Nat) T.length qv no,cells⟩= .ok .brk ⟨varsB C k g T (pre.length+1:Nat) s (.int T.length) no',cells⟩:=by
 have c1:cellL g ⟨varsB C k g T (pre.length+1:Nat) T.length (.int T.length) no,cells⟩=some ((pre++[a,b]).map fun n:Nat=> .int n):=by
  unfold cellL;dsimp only;rw [hg]
 have hlen:((pre++[a,b]).map fun n:Nat=>PV.int n).length=pre.length+2:=by simp
 have i1:itm (vr 2) (lift2 subP (vr 3) (cI 1)) ⟨varsB C k g T (pre.length+1:Nat) T.length (.int T.length) no,cells⟩= .ok (.int a) ⟨varsB C k g T (pre.length+1:Nat) T.length (.int T.length) no,cells⟩:=by
  show itemP (.cell g) (.int (((pre.length+1:Nat):Int)-1)) _=_
  rw [show (((pre.length+1:Nat):Int)-1)=(pre.length:Int) by exact Q23 (.n1 _)]
  unfold itemP
  dsimp only
  rw [c1]
  dsimp only
  rw [hlen,idx_nat (by exact Q137 (.n1 _))]
  dsimp only
  congr 1
  simp [List.getD]
 have i2:itm (vr 2) (vr 3) ⟨varsB C k g T (pre.length+1:Nat) T.length (.int T.length) no,cells⟩= .ok (.int b) ⟨varsB C k g T (pre.length+1:Nat) T.length (.int T.length) no,cells⟩:=by
  show itemP (.cell g) (.int ((pre.length+1:Nat):Int)) _=_
  unfold itemP
  dsimp only
  rw [c1]
  dsimp only
  rw [hlen,idx_nat (by exact lin0 (.t (.a .v0 .k1) (.a .v0 (.k 2))) (.w [1]) rfl (.n1 _))]
  dsimp only
  congr 1
  rw [List.getD_eq_getElem?_getD,List.getElem?_map,List.getElem?_append_right (by exact Q9 (.n1 _)),show pre.length+1-pre.length=1 by exact Q51 (.n2 _ _) rfl]
  rfl
 have r1:rngM (itm (vr 2) (lift2 subP (vr 3) (cI 1))) (itm (vr 2) (vr 3)) ⟨varsB C k g T (pre.length+1:Nat) T.length (.int T.length) no,cells⟩= .ok (rngL a b) ⟨varsB C k g T (pre.length+1:Nat) T.length (.int T.length) no,cells⟩:=by
  have ev:evL [itm (vr 2) (lift2 subP (vr 3) (cI 1)),itm (vr 2) (vr 3)] ⟨varsB C k g T (pre.length+1:Nat) T.length (.int T.length) no,cells⟩= .ok [.int a, .int b] ⟨varsB C k g T (pre.length+1:Nat) T.length (.int T.length) no,cells⟩:=by
   have e1:evL [itm (vr 2) (vr 3)] ⟨varsB C k g T (pre.length+1:Nat) T.length (.int T.length) no,cells⟩= .ok [.int b] ⟨varsB C k g T (pre.length+1:Nat) T.length (.int T.length) no,cells⟩:=by unfold evL;rw [ok_bnd i2];rfl
   have e2:evL [itm (vr 2) (lift2 subP (vr 3) (cI 1)),itm (vr 2) (vr 3)]=bnd (itm (vr 2) (lift2 subP (vr 3) (cI 1))) fun a=>bnd (evL [itm (vr 2) (vr 3)]) fun as=>ret1 (a::as):=rfl
   rw [e2,ok_bnd i1,ok_bnd e1];rfl
  unfold rngM
  rw [ok_bnd ev]
  dsimp only
  rw [if_pos ⟨by exact Q52 (.n1 _),by exact lin2 (.L (.c .v0) (.k 1000000000)) (.l .v0 .v1) (.l .v1 (.k 100000)) (.w [1,1,1]) rfl (.n2 _ _) hb hb2,by exact Q52 (.n1 _),by exact lin1 (.L (.c .v0) (.k 1000000000)) (.l .v0 (.k 100000)) (.w [1,1]) rfl (.n1 _) hb2⟩]
  rfl
 obtain ⟨no',h2⟩:=up_loop (C:=C) (k:=k) (g:=g) (i:=(pre.length+1:Nat)) (cells:=cells) (qv:= .int T.length) hL (rngL a b) no (by rw [rngL_len];exact Q14 (.n4 _ _ _ _) rfl rfl) (rngL_unb a b)
 refine ⟨no', ?_⟩
 unfold s2Back
 dsimp only [blk]
 have s1:assertM (bnd (vr 4) truG) ⟨varsB C k g T (pre.length+1:Nat) T.length qv no,cells⟩= .ok .next ⟨varsB C k g T (pre.length+1:Nat) T.length qv no,cells⟩:=by
  refine asT ?_
  show Res.ok ((T.length:Int) != 0) _=_
  have:((T.length:Int) != 0)=true:=by rw [bne_iff_ne];exact Q53 (.n1 _) h0
  rw [this]
 have s2:setV 5 (vr 4) ⟨varsB C k g T (pre.length+1:Nat) T.length qv no,cells⟩= .ok .next ⟨varsB C k g T (pre.length+1:Nat) T.length (.int T.length) no,cells⟩:=rfl
 have s3:forM (rngM (itm (vr 2) (lift2 subP (vr 3) (cI 1))) (itm (vr 2) (vr 3))) (setG 6) upM ⟨varsB C k g T (pre.length+1:Nat) T.length (.int T.length) no,cells⟩= .ok .next ⟨varsB C k g T (pre.length+1:Nat) s (.int T.length) no',cells⟩:=by
  unfold forM
  rw [ok_bnd r1]
  exact h2
 have hjm:mat3 junkS [vr 1,vr 4] ⟨varsB C k g T (pre.length+1:Nat) s (.int T.length) no',cells⟩= .ok .none ⟨varsB C k g T (pre.length+1:Nat) s (.int T.length) no',cells⟩:=by
  show goMat junkS T (s:Int) (T.length:Int) _=_
  unfold goMat
  rw [if_pos ⟨by exact Q8 (.n1 _),by exact Q10 (.n2 _ _) hsT,by exact Q141 (.n1 _),by exact Q25 (.n1 _) hT⟩,Int.toNat_natCast,List.take_of_length_le (by rw [List.length_drop];exact lin2 (.l .v2 .v3) (.b 2 .v0 .v1) (.N 3 (.s (.c .v0) (.c .v1))) (.d 1 (.d 4 (.w [0, -1,0,1,1]) (.w [1, -1,0,1,1])) (.w [0,1,1])) rfl (.n4 _ _ _ _) rfl rfl),hj]
  rfl
 have hb4:bnd (mat3 junkS [vr 1,vr 4]) truG ⟨varsB C k g T (pre.length+1:Nat) s (.int T.length) no',cells⟩= .ok false ⟨varsB C k g T (pre.length+1:Nat) s (.int T.length) no',cells⟩:=by
  rw [ok_bnd hjm];rfl
 rw [ok_seq s1,ok_seq s2,ok_seq s3,ok_iteF hb4]
 rfl
end PT
end Mine
end
section
open PySem
set_option maxRecDepth 10000
set_option tactic.hygienic false
namespace Mine
namespace PT
variable {σ:St}{B:Ads}{k:Nat}{vals:List PV}
theorem ok_exprM {x:PM PV}{σ':St} (h:x σ= .ok .none σ'):exprM x σ= .ok .next σ':=by unfold exprM;rw [ok_bnd h]
theorem ok_meth {nv:Nat}{F:PM Fl}{r:Res PV} (hv:vr 0 σ= .ok (.inst B.C k) σ) (h:Obj1 B k vals σ) (hr:callF nv F [.inst B.C k] σ=r):
  methM B.C 0 (vr 0) [] (callF nv F) σ=r:=by
 unfold methM
 rw [ok_bnd hv]
 unfold instK
 dsimp only
 rw [if_pos rfl]
 dsimp only
 rw [dct_of h]
 exact hr
structure St1 (T:List Nat) (z:Z):Prop where
 asc:T.all (· < 128)=true
 len:T.length≤60000
 ends:ends T
 run:Run .pl z0 (T.map transF) z
 good:z.good≠[]
 sm:z.good.length<90000
 ass:(cont' z=0)↔(lastG z=z.lno)
theorem study2_ok {T:List Nat}{vars:List PV}{cells:List PCell}{z:Z}{s a b:Nat}{pre:List Nat} (h:Obj1 B k vals ⟨vars,cells⟩) (hT:vals[2]? =some (.str T)) (hlv:vals[3]? =some (.int 0))
  (S:St1 T z) (hgd:good' z=pre++[a,b]) (hab:a≤b) (hb2:b≤100000) (hpre:pre.length≤90000) (hL:Lines T s T.length (b-a)) (hsT:s≤T.length) (h0:0<T.length) (hj:junkS (T.drop s)=some none) (hw:W2 (T.drop s)):
  ∃vals2 ex,callF 14 (study2F B) [.inst B.C k] ⟨vars,cells⟩= .ok .none ⟨vars,(cells.set k (.dct 0 vals2))++ex⟩∧vals2.length=11∧vals2[1]? =vals[1]? ∧vals2[2]? =some (.str T)∧vals2[3]? =some (.int 2)∧vals2[5]? =some (.int (cont' z))∧vals2[6]? =some (.int s):=by
 have hkl:k<cells.length:=lt_of_some h.cell
 let v0:List PV:= .inst B.C k::List.replicate 13 .unb
 have hv0:vars0 14 [.inst B.C k]=v0:=rfl
 have H0:Obj1 B k vals ⟨v0,cells⟩:=⟨h.cell,h.len⟩
 have s0:lift2 geP (attrM B.C 0 3 (vr 0)) (cI 2) ⟨v0,cells⟩= .ok false ⟨v0,cells⟩:=by
  unfold lift2
  rw [ok_bnd (ok_attr (x:=vr 0) rfl H0 hlv rfl)]
  rfl
 refine cps fun GC hGC=> ?_
 obtain ⟨g,hg⟩:∃g,g=cells.length:=⟨_,rfl⟩
 let c1:List PCell:=(cells.set k (.dct 0 (vals1 vals g z)))++[.list ((pre++[a,b]).map fun n:Nat=> .int n)]
 have s1:exprM (methM B.C 0 (vr 0) [] (callF 13 (study1F B))) ⟨v0,cells⟩= .ok .next ⟨v0,c1⟩:=by
  refine ok_exprM (ok_meth rfl H0 ?_)
  rw [study1_ok H0 hT hlv S.asc S.len S.ends S.run S.good S.sm S.ass,hgd, ←hg]
 have hc1l:c1.length=g+1:=by simp [c1,hg]
 have H1:Obj1 B k (vals1 vals g z) ⟨v0,c1⟩:=⟨by
  skip
  rw [List.getElem?_append_left (by simp;exact Q11 (.n2 _ _) hkl),List.getElem?_set_self hkl],by simp [vals1,h.len]⟩
 have hv1l:(vals1 vals g z).length=11:=H1.len
 let va:=(vals1 vals g z).set 3 (.int 2)
 let c2:=c1.set k (.dct 0 va)
 have s2:setAttrM B.C 0 3 (cI 2) (vr 0) ⟨v0,c1⟩= .ok .next ⟨v0,c2⟩:=ok_setAttr rfl H1 rfl rfl
 have H2:Obj1 B k va ⟨v0,c2⟩:=H1.set
 have g2:va[2]? =some (.str T):=by simp [va,vals1,hT]
 have g4:va[4]? =some (.cell g):=by simp [va,vals1,h.len]
 have s3:swap2M 1 2 (attrM B.C 0 2 (vr 0)) (attrM B.C 0 4 (vr 0)) ⟨v0,c2⟩= .ok .next ⟨[.inst B.C k, .str T, .cell g, .unb, .unb, .unb, .unb, .unb, .unb, .unb, .unb, .unb, .unb, .unb],c2⟩:=by
  unfold swap2M
  rw [ok_bnd (ok_attr (x:=vr 0) rfl H2 g2 rfl),ok_bnd (ok_attr (x:=vr 0) rfl H2 g4 rfl)]
  rfl
 have hcg:c2[g]? =some (.list ((pre++[a,b]).map fun n:Nat=> .int n)):=by
  skip
  rw [List.getElem?_set_ne (by exact Q125 (.n3 _ _ _) hkl hg)]
  skip
  rw [List.getElem?_append_right (by simp;exact lin1 (.l .v0 .v1) (.q .v1 .v0) (.w [1, -1]) rfl (.n2 _ _) hg)]
  simp [hg]
 have cg2:cellL g ⟨[.inst B.C k, .str T, .cell g, .unb, .unb, .unb, .unb, .unb, .unb, .unb, .unb, .unb, .unb, .unb],c2⟩=some ((pre++[a,b]).map fun n:Nat=> .int n):=by
  unfold cellL;rw [hcg]
 have s4:setV 3 (lift2 subP (lenM (vr 2)) (cI 1)) ⟨[.inst B.C k, .str T, .cell g, .unb, .unb, .unb, .unb, .unb, .unb, .unb, .unb, .unb, .unb, .unb],c2⟩= .ok .next ⟨[.inst B.C k, .str T, .cell g, .int (pre.length+1:Nat), .unb, .unb, .unb, .unb, .unb, .unb, .unb, .unb, .unb, .unb],c2⟩:=by
  have e1:lenM (vr 2) ⟨[.inst B.C k, .str T, .cell g, .unb, .unb, .unb, .unb, .unb, .unb, .unb, .unb, .unb, .unb, .unb],c2⟩= .ok (.int ((pre.length+2:Nat):Int)) ⟨[.inst B.C k, .str T, .cell g, .unb, .unb, .unb, .unb, .unb, .unb, .unb, .unb, .unb, .unb, .unb],c2⟩:=by
   show lenG [.cell g] _=_
   rw [lenG_cell (cg2)]
   simp
  have e2:lift2 subP (lenM (vr 2)) (cI 1) ⟨[.inst B.C k, .str T, .cell g, .unb, .unb, .unb, .unb, .unb, .unb, .unb, .unb, .unb, .unb, .unb],c2⟩= .ok (.int ((pre.length+1:Nat):Int)) ⟨[.inst B.C k, .str T, .cell g, .unb, .unb, .unb, .unb, .unb, .unb, .unb, .unb, .unb, .unb, .unb],c2⟩:=by
   unfold lift2
   rw [ok_bnd e1]
   show Res.ok (PV.int (((pre.length+2:Nat):Int)-1)) _=_
   congr 2
   exact lin0 (.Q (.s (.c (.a .v0 (.k 2))) .k1) (.c (.a .v0 .k1))) (.b (.w [1]) (.w [1])) rfl (.n1 _)
  rw [ok_setV e2 rfl];rfl
 have s5:setV 4 (lenM (vr 1)) ⟨[.inst B.C k, .str T, .cell g, .int (pre.length+1:Nat), .unb, .unb, .unb, .unb, .unb, .unb, .unb, .unb, .unb, .unb],c2⟩= .ok .next ⟨varsB B.C k g T (pre.length+1:Nat) T.length .unb .unb,c2⟩:=by
  have e1:lenM (vr 1) ⟨[.inst B.C k, .str T, .cell g, .int (pre.length+1:Nat), .unb, .unb, .unb, .unb, .unb, .unb, .unb, .unb, .unb, .unb],c2⟩= .ok (.int T.length) ⟨[.inst B.C k, .str T, .cell g, .int (pre.length+1:Nat), .unb, .unb, .unb, .unb, .unb, .unb, .unb, .unb, .unb, .unb],c2⟩:=by
   show lenG [.str T] _=_
   rw [lenG_str (by unfold sizeMax;have:=S.len;exact Q0 (.n1 _) this)]
  rw [ok_setV e1 rfl];rfl
 obtain ⟨no',hback⟩:=back_one (C:=B.C) (k:=k) (cells:=c2) hcg hab hb2 hL hsT h0 S.len (by exact lin1 (.l .v0 (.k 100000)) (.l .v0 (.k 90000)) (.w [1,1]) rfl (.n1 _) hpre) hj (qv:= .unb) (no:= .unb)
 have s6:whileM fuel (bnd (vr 3) truG) s2Back nop ⟨varsB B.C k g T (pre.length+1:Nat) T.length .unb .unb,c2⟩= .ok .next ⟨varsB B.C k g T (pre.length+1:Nat) s (.int T.length) no',c2⟩:=by
  have ht:bnd (vr 3) truG ⟨varsB B.C k g T (pre.length+1:Nat) T.length .unb .unb,c2⟩= .ok true ⟨varsB B.C k g T (pre.length+1:Nat) T.length .unb .unb,c2⟩:=by
   show Res.ok (((pre.length+1:Nat):Int) != 0) _=_
   have:(((pre.length+1:Nat):Int) != 0)=true:=by rw [bne_iff_ne];exact Q54 (.n1 _)
   rw [this]
  exact wh_B (N:=999999) ht hback
 have s7:eqM (vr 3) (cI 0) ⟨varsB B.C k g T (pre.length+1:Nat) s (.int T.length) no',c2⟩= .ok false ⟨varsB B.C k g T (pre.length+1:Nat) s (.int T.length) no',c2⟩:=by
  show Res.ok (((pre.length+1:Nat):Int)==0) _=_
  have:(((pre.length+1:Nat):Int)==0)=false:=by rw [beq_eq_false_iff_ne];exact Q54 (.n1 _)
  rw [this]
 have hc2l:c2.length=g+1:=by simp [c2,hc1l]
 let vb:List PV:=varsB B.C k g T (pre.length+1:Nat) s (.int T.length) no'
 let c3:=c2.set k (.dct 0 (va.set 6 (.int s)))
 let vc:=(va.set 6 (.int s)).set 7 (.int T.length)
 let c4:=c3.set k (.dct 0 vc)
 have H2b:Obj1 B k va ⟨vb,c2⟩:=⟨H2.cell,H2.len⟩
 have H3:Obj1 B k (va.set 6 (.int s)) ⟨vb,c3⟩:=H2b.set
 have H4:Obj1 B k vc ⟨vb,c4⟩:=H3.set
 have s8:unp2M (attrSG B.C 0 6 (vr 0)) (attrSG B.C 0 7 (vr 0)) (vr 4) (vr 5) ⟨vb,c2⟩= .ok .next ⟨vb,c4⟩:=by
  unfold unp2M
  rw [ok_bnd (x:=vr 4) (a:= .int s) (σ:=⟨vb,c2⟩) (σ':=⟨vb,c2⟩) rfl,ok_bnd (x:=vr 5) (a:= .int T.length) (σ:=⟨vb,c2⟩) (σ':=⟨vb,c2⟩) rfl]
  have e1:attrSG B.C 0 6 (vr 0) (.int s) ⟨vb,c2⟩= .ok .next ⟨vb,c3⟩:=by
   show attrS B.C 0 6 (.inst B.C k) (.int s) _=_
   rw [ok_attrS H2b rfl]
  rw [ok_bnd e1]
  show attrS B.C 0 7 (.inst B.C k) (.int T.length) _=_
  rw [ok_attrS H3 rfl]
 have hc4l:c4.length=g+1:=by simp [c4,c3,hc2l]
 let pr:PV:= .seq true [.int s, .int 0]
 let c5:List PCell:=c4++[.list [], .list [pr]]
 let e:S2:=⟨B.C,k,g,T,T.length,g+1,g+2,c5⟩
 have hc5l:c5.length=g+3:=by simp [c5,hc4l]
 have hset:(c5.set (g+1) (.list [])).set (g+2) (.list [pr])=c5:=by
  apply List.ext_getElem?
  intro j
  by_cases h1:j=g+2
  ·subst h1
   rw [List.getElem?_set_self (by simp [hc5l])]
   skip
   rw [List.getElem?_append_right (by exact lin1 (.l .v0 (.a .v1 (.k 2))) (.q .v0 (.a .v1 .k1)) (.w [1,1]) rfl (.n2 _ _) hc4l),show g+2-c4.length=1 by exact lin2 (.q .v2 .k1) (.q .v1 (.a .v0 .k1)) (.b 2 (.a .v0 (.k 2)) .v1) (.b (.d 2 (.w [0, -1,1,1]) (.w [1,0,0,1])) (.d 2 (.w [0,1,1, -1]) (.w [0,1,1]))) rfl (.n3 _ _ _) hc4l rfl];rfl
  ·rw [List.getElem?_set_ne (Ne.symm h1)]
   by_cases h2:j=g+1
   ·subst h2
    rw [List.getElem?_set_self (by exact Q55 (.n2 _ _) hc5l)]
    skip
    rw [List.getElem?_append_right (by exact Q142 (.n2 _ _) hc4l),show g+1-c4.length=0 by exact Q143 (.n3 _ _ _) hc4l rfl];rfl
   ·rw [List.getElem?_set_ne (Ne.symm h2)]
 have s9:setV 7 (cS "") ⟨vb,c4⟩= .ok .next ⟨vb.set 7 (.str []),c4⟩:=rfl
 have s10:setV 8 (cellM []) ⟨vb.set 7 (.str []),c4⟩= .ok .next ⟨(vb.set 7 (.str [])).set 8 (.cell (g+1)),c4++[.list []]⟩:=by
  have:cellM [] ⟨vb.set 7 (.str []),c4⟩= .ok (.cell (g+1)) ⟨vb.set 7 (.str []),c4++[.list []]⟩:=by
   rw [←hc4l];rfl
  rw [ok_setV this rfl]
 have s11:setV 9 (bnd (vr 8) bmG) ⟨(vb.set 7 (.str [])).set 8 (.cell (g+1)),c4++[.list []]⟩= .ok .next ⟨((vb.set 7 (.str [])).set 8 (.cell (g+1))).set 9 (.bm (g+1)),c4++[.list []]⟩:=by
  have:bnd (vr 8) bmG ⟨(vb.set 7 (.str [])).set 8 (.cell (g+1)),c4++[.list []]⟩= .ok (.bm (g+1)) ⟨(vb.set 7 (.str [])).set 8 (.cell (g+1)),c4++[.list []]⟩:=by
   show bmG (.cell (g+1)) _=_
   unfold bmG cellL
   dsimp only
   rw [List.getElem?_append_right (by exact Q142 (.n2 _ _) hc4l),show g+1-c4.length=0 by exact Q143 (.n3 _ _ _) hc4l rfl]
   rfl
  rw [ok_setV this rfl]
 have s12:setV 10 (cellM [pairM (vr 4) (cI 0)]) ⟨((vb.set 7 (.str [])).set 8 (.cell (g+1))).set 9 (.bm (g+1)),c4++[.list []]⟩= .ok .next (st2 e (pre.length+1:Nat) s no' (.str []) .unb .unb .unb [] [pr]):=by
  have:cellM [pairM (vr 4) (cI 0)] ⟨((vb.set 7 (.str [])).set 8 (.cell (g+1))).set 9 (.bm (g+1)),c4++[.list []]⟩= .ok (.cell (g+2)) ⟨((vb.set 7 (.str [])).set 8 (.cell (g+1))).set 9 (.bm (g+1)),(c4++[.list []])++[.list [pr]]⟩:=by
   rw [show g+2=(c4++[PCell.list []]).length by simp [hc4l]]
   rfl
  rw [ok_setV this rfl]
  show Res.ok Fl.next (St.mk _ ((c4++[PCell.list []])++[PCell.list [pr]]))=Res.ok Fl.next (St.mk _ ((c5.set (g+1) (.list [])).set (g+2) (.list [pr])))
  rw [hset,List.append_assoc]
  rfl
 have hok:Ok2 e s [] [pr]:=⟨⟨by exact Q55 (.n2 _ _) hc5l,by exact Q144 (.n2 _ _) hc5l,by exact lin0 (.n (.q (.a .v0 .k1) (.a .v0 (.k 2)))) (.w [-1]) rfl (.n1 _),Nat.le_refl _,S.len⟩,hsT,by have:=S.len;exact lin2 (.l (.a .k0 .v2) (.k 100000)) (.l .v0 (.k 60000)) (.b 2 .v0 .v1) (.d 2 (.w [0,1,1,1]) (.w [0,1,1])) rfl (.n3 _ _ _) this rfl,by have:=S.len;exact lin2 (.l (.a .k1 (.m 2 .v2)) (.k 200000)) (.l .v0 (.k 60000)) (.b 2 .v0 .v1) (.d 2 (.w [0,2,1,2]) (.w [0,2,1])) rfl (.n3 _ _ _) this rfl,fun x hx=>by cases hx⟩
 have hrest:rest e s=T.drop s:=by
  show (T.drop s).take (T.length-s)=_
  rw [List.take_of_length_le (by rw [List.length_drop];exact Q22 (.n1 _))]
 obtain ⟨i',p',no2,la',m',np',ch',sk',bs',s13,hsk,hbs,hla,hsu⟩:=walk_ok (e:=e) fuel (pre.length+1:Nat) s no' (.str []) .unb .unb .unb [] [pr] rfl hok (by unfold fuel;have:=S.len;exact lin2 (.t .v2 (.k 1000000)) (.l .v0 (.k 60000)) (.b 2 .v0 .v1) (.d 2 (.w [0,1,1,1]) (.w [0,1,1])) rfl (.n3 _ _ _) this rfl) (by rw [hrest];exact hw)
 obtain ⟨vd,hvd⟩:∃vd,vd=vars2 e i' p' no2 la' m' np' ch':=⟨_,rfl⟩
 obtain ⟨c6,hc6⟩:∃c6,c6=(c5.set (g+1) (.list sk')).set (g+2) (.list bs'):=⟨_,rfl⟩
 refine hGC ?_
 have hst:st2 e i' p' no2 la' m' np' ch' sk' bs'=⟨vd,c6⟩:=by rw [hvd,hc6];rfl
 rw [hst] at s13
 have hv0d:∀c,vr 0 ⟨vd,c⟩= .ok (.inst B.C k) ⟨vd,c⟩:=by intro c;rw [hvd];rfl
 have hv7d:∀c,vr 7 ⟨vd,c⟩= .ok la' ⟨vd,c⟩:=by
  intro c;rw [hvd]
  show (if isUnb la' then Res.bad else Res.ok la' _)=_
  rw [hla];rfl
 have hv8d:∀c,vr 8 ⟨vd,c⟩= .ok (.cell (g+1)) ⟨vd,c⟩:=by intro c;rw [hvd];rfl
 have hv10d:∀c,vr 10 ⟨vd,c⟩= .ok (.cell (g+2)) ⟨vd,c⟩:=by intro c;rw [hvd];rfl
 have hc5k:c5[k]? =some (.dct 0 vc):=by
  skip
  rw [List.getElem?_append_left (by exact lin3 (.t .v0 .v1) (.t .v0 .v2) (.q .v3 .v2) (.q .v1 (.a .v3 .k1)) (.w [1,1, -1, -1]) rfl (.n4 _ _ _ _) hkl hg hc4l)];exact H4.cell
 have H5:Obj1 B k vc ⟨vd,c6⟩:=⟨by
  skip
  rw [hc6,List.getElem?_set_ne (by exact lin2 (.n (.q (.a .v0 (.k 2)) .v1)) (.t .v1 .v2) (.q .v0 .v2) (.w [1,1, -1]) rfl (.n3 _ _ _) hkl hg),List.getElem?_set_ne (by exact lin2 (.n (.q (.a .v0 .k1) .v1)) (.t .v1 .v2) (.q .v0 .v2) (.w [1,1, -1]) rfl (.n3 _ _ _) hkl hg)];exact hc5k,H4.len⟩
 let vd8:=vc.set 8 la'
 let c7:=c6.set k (.dct 0 vd8)
 have s14:setAttrM B.C 0 8 (vr 7) (vr 0) ⟨vd,c6⟩= .ok .next ⟨vd,c7⟩:=ok_setAttr (hv0d _) H5 (hv7d _) hla
 have H6:Obj1 B k vd8 ⟨vd,c7⟩:=H5.set
 have hc6a:c6[g+1]? =some (.list sk'):=by
  rw [hc6,List.getElem?_set_ne (by exact lin0 (.n (.q (.a .v0 (.k 2)) (.a .v0 .k1))) (.w [1]) rfl (.n1 _)),List.getElem?_set_self (by exact Q55 (.n2 _ _) hc5l)]
 have hc6b:c6[g+2]? =some (.list bs'):=by
  rw [hc6,List.getElem?_set_self (by rw [List.length_set];exact Q144 (.n2 _ _) hc5l)]
 have cla:∀v,cellL (g+1) ⟨vd,c6.set k (.dct 0 v)⟩=some sk':=by
  intro v;unfold cellL;dsimp only
  rw [List.getElem?_set_ne (by exact lin2 (.n (.q .v0 (.a .v1 .k1))) (.t .v0 .v2) (.q .v1 .v2) (.w [-1,1, -1]) rfl (.n3 _ _ _) hkl hg),hc6a]
 have clb:∀v,cellL (g+2) ⟨vd,c6.set k (.dct 0 v)⟩=some bs':=by
  intro v;unfold cellL;dsimp only
  rw [List.getElem?_set_ne (by exact lin2 (.n (.q .v0 (.a .v1 (.k 2)))) (.t .v0 .v2) (.q .v1 .v2) (.w [-1,1, -1]) rfl (.n3 _ _ _) hkl hg),hc6b]
 have e9:∃v9,isUnb v9=false∧iteM (bnd (vr 8) truG) (itm (vr 8) neg1) (pure1 .none) ⟨vd,c7⟩= .ok v9 ⟨vd,c7⟩:=by
  have ht:bnd (vr 8) truG ⟨vd,c7⟩= .ok (!sk'.isEmpty) ⟨vd,c7⟩:=by
   rw [ok_bnd (hv8d _)]
   show (match cellL (g+1) ⟨vd,c6.set k (.dct 0 vd8)⟩ with | some xs=>Res.ok (!xs.isEmpty) _ | none=> .bad)=_
   rw [cla]
  rw [ok_ite ht]
  cases hsk':sk' with
  | nil=>exact ⟨.none,rfl,rfl⟩
  | cons x r=>
   refine ⟨(x::r).getD r.length .other, ?_, ?_⟩
   ·have:r.length<(x::r).length:=by simp
    rw [List.getD_eq_getElem?_getD,List.getElem?_eq_getElem this]
    exact hsu _ (by rw [hsk'];exact List.getElem_mem this)
   ·show itm (vr 8) neg1 _=_
    unfold itm app2
    rw [ok_bnd (hv8d _),ok_bnd (x:=neg1) (a:= .int (-1)) rfl]
    unfold itemP
    dsimp only
    rw [cla,hsk']
    have e3:seqIndex? (-1) (x::r).length=some r.length:=by
     unfold seqIndex?
     simp
     exact ⟨⟨Q129 (.n1 _),Q130 (.n1 _)⟩,Q131 (.n2 _ _) rfl⟩
    dsimp only
    rw [e3]
 refine cps fun GC hGC=> ?_
 obtain ⟨v9,hv9,e9⟩:=e9
 refine hGC ?_
 let vd9:=vd8.set 9 v9
 let c8:=c7.set k (.dct 0 vd9)
 have s15:setAttrM B.C 0 9 (iteM (bnd (vr 8) truG) (itm (vr 8) neg1) (pure1 .none)) (vr 0) ⟨vd,c7⟩= .ok .next ⟨vd,c8⟩:=ok_setAttr (hv0d _) H6 e9 hv9
 have H7:Obj1 B k vd9 ⟨vd,c8⟩:=H6.set
 have hc8:c8=c6.set k (.dct 0 vd9):=by show (c6.set k _).set k _=_;rw [List.set_set]
 let vd10:=vd9.set 10 .other
 let c9:=c8.set k (.dct 0 vd10)
 have e10:bnd (evL [vr 10]) tupG ⟨vd,c8⟩= .ok .other ⟨vd,c8⟩:=by
  have ev:evL [vr 10] ⟨vd,c8⟩= .ok [.cell (g+2)] ⟨vd,c8⟩:=by
   unfold evL;rw [ok_bnd (hv10d _)];rfl
  rw [ok_bnd ev,hc8]
  rw [tupG_go (clb _)]
 have s16:setAttrM B.C 0 10 (bnd (evL [vr 10]) tupG) (vr 0) ⟨vd,c8⟩= .ok .next ⟨vd,c9⟩:=ok_setAttr (hv0d _) H7 e10 rfl
 have run:study2F B ⟨v0,cells⟩= .ok .next ⟨vd,c9⟩:=by
  unfold study2F
  dsimp only [blk]
  rw [seqF s0,ok_seq s1,ok_seq s2,ok_seq s3,ok_seq s4,ok_seq s5,ok_seq s6,seqF s7,ok_seq s8,ok_seq (x:=setV 7 (cS "")) s9,ok_seq s10,ok_seq s11,ok_seq s12,ok_seq s13,ok_seq s14,ok_seq s15]
  exact s16
 have hc9:c9=(cells.set k (.dct 0 vd10))++c9.drop cells.length:=by
  have h9:c9=c6.set k (.dct 0 vd10):=by show c8.set k _=_;rw [hc8,List.set_set]
  apply List.ext_getElem?
  intro j
  by_cases hj:j<cells.length
  ·rw [List.getElem?_append_left (by rw [List.length_set];exact hj),h9]
   by_cases hk:j=k
   ·subst hk
    rw [List.getElem?_set_self (by rw [hc6];simp [hc5l];exact lin2 (.t .v0 (.a .v1 (.k 3))) (.q .v1 .v2) (.t .v0 .v2) (.w [1, -1,1]) rfl (.n3 _ _ _) hg hj),List.getElem?_set_self hj]
   ·rw [List.getElem?_set_ne (Ne.symm hk),List.getElem?_set_ne (Ne.symm hk),hc6,List.getElem?_set_ne (by exact lin2 (.n (.q (.a .v0 (.k 2)) .v1)) (.q .v0 .v2) (.t .v1 .v2) (.w [1, -1,1]) rfl (.n3 _ _ _) hg hj),List.getElem?_set_ne (by exact lin2 (.n (.q (.a .v0 .k1) .v1)) (.q .v0 .v2) (.t .v1 .v2) (.w [1, -1,1]) rfl (.n3 _ _ _) hg hj)]
    skip
    rw [List.getElem?_append_left (by exact lin3 (.t .v0 .v1) (.q .v2 .v3) (.q .v1 (.a .v2 .k1)) (.t .v0 .v3) (.w [1, -1, -1,1]) rfl (.n4 _ _ _ _) hg hc4l hj)]
    skip
    rw [List.getElem?_set_ne (Ne.symm hk),List.getElem?_set_ne (Ne.symm hk),List.getElem?_set_ne (Ne.symm hk)]
    skip
    rw [List.getElem?_append_left (by rw [List.length_set];exact hj),List.getElem?_set_ne (Ne.symm hk)]
  ·rw [List.getElem?_append_right (by rw [List.length_set];exact Q7 (.n2 _ _) hj),List.length_set,List.getElem?_drop]
   congr 1;exact lin2 (.q .v0 (.a .v1 .v2)) (.n (.t .v0 .v1)) (.b 2 .v0 .v1) (.b (.d 2 (.w [0,1,1]) (.w [0,1,1,1])) (.d 2 (.w [0, -1,1]) (.w [1, -1,1]))) rfl (.n3 _ _ _) hj rfl
 refine ⟨vd10,c9.drop cells.length, ?_,by simp [vd10,vd9,vd8,vc,va,hv1l], ?_, ?_, ?_, ?_, ?_⟩
 ·unfold callF
  rw [hv0,run]
  skip
  rw [←hc9]
 ·simp [vd10,vd9,vd8,vc,va,vals1]
 ·simp [vd10,vd9,vd8,vc,va,vals1,hT]
 ·simp [vd10,vd9,vd8,vc,va,vals1,h.len]
 ·simp [vd10,vd9,vd8,vc,va,vals1,h.len]
 ·simp [vd10,vd9,vd8,vc,va,vals1,h.len]
end PT
end Mine
end
section
open PySem
set_option maxRecDepth 10000
set_option tactic.hygienic false
namespace Mine
namespace PT
variable {c:Nat}{b:Bool}{pr:Option Nat}
noncomputable def preOk:Option Nat→Bool
 | none=>true
 | some d=> !(lit "=<>!").contains d
noncomputable def special (c:Nat):Bool:=c==40||c==91||c==123||c==41||c==93||c==125||c==34||c==39||c==35
inductive Sc:Nat→Option Nat→List Nat→Option (List Nat)→Prop where
 | nil {lv:Nat}{pr:Option Nat}:Sc lv pr [] none
 | op {lv c:Nat}{pr:Option Nat}{r:List Nat}{o:Option (List Nat)}:(c=40∨c=91∨c=123)→Sc (lv+1) (some c) r o→Sc lv pr (c::r) o
 | cl {lv c:Nat}{pr:Option Nat}{r:List Nat}{o:Option (List Nat)}:(c=41∨c=93∨c=125)→Sc (lv-1) (some c) r o→Sc lv pr (c::r) o
 | st {lv q:Nat}{pr:Option Nat}{r:List Nat}{o:Option (List Nat)}:(q=34∨q=39)→Sc lv ((q::r)[RX.strN q (q::r)-1]?) ((q::r).drop (RX.strN q (q::r))) o→Sc lv pr (q::r) o
 | cm {lv:Nat}{pr:Option Nat}{r:List Nat}:Sc lv pr (35::r) none
 | eq {pr:Option Nat}{d:Nat}{r:List Nat}:preOk pr=true→d≠61→Sc 0 pr (61::d::r) (some (61::d::r))
 | ot {lv c:Nat}{pr:Option Nat}{r:List Nat}{o:Option (List Nat)}:special c=false→(c=61→∃d r',r=d::r'∧¬(lv=0∧preOk pr=true∧d≠61))→Sc lv (some c) r o→Sc lv pr (c::r) o
structure S3 where
 C:Addr
 k:Nat
 T:List Nat
 sp:Nat
 en:Nat
 cells:List PCell
noncomputable def st3 (e:S3) (i:Int) (fo:PV) (lv:Nat) (ch:PV):St:=⟨[.inst e.C e.k, .str e.T, .int i, .int e.sp, .int e.en,fo, .int lv,ch],e.cells⟩
variable {e:S3}{i lv:Nat}{fo ch:PV}
noncomputable abbrev eqC:PM Bool:=andM (eqM (vr 6) (cI 0)) (andM (eqM (vr 7) (cS "=")) (andM (orM (eqM (vr 2) (cI 0)) (lift2 ninP (app2 itemP (vr 1) (lift2 subP (vr 2) (cI 1))) (cS "=<>!"))) (lift2 neP (app2 itemP (vr 1) (lift2 addP (vr 2) (cI 1))) (cS "="))))
noncomputable def compB:PM Fl:=blk [
  setV 7 (app2 itemP (vr 1) (vr 2)),
  iteM (lift2 inP (vr 7) (cS "([{")) (blk [incV 6 1,incV 2 1])
  (iteM (lift2 inP (vr 7) (cS ")]}")) (blk [iteM (bnd (vr 6) truG) (setV 6 (lift2 subP (vr 6) (cI 1))) (ret1 .next),incV 2 1])
  (iteM (orM (eqM (vr 7) (cS "\"")) (eqM (vr 7) (cS "'"))) (setV 2 (bmethM okMat (mat3 strS [vr 1,vr 2,vr 4]) [] endG))
  (iteM (eqM (vr 7) (cS "#")) (ret1 .brk)
  (iteM eqC
   (blk [setV 5 (cI 1),ret1 .brk])
   (incV 2 1)))))]
theorem compW_eq (B:Ads):compW B=whileM fuel (lift2 ltP (vr 2) (vr 4)) compB (ret1 .next):=rfl
theorem rd3 (hc:e.T[i]? =some c) (hT:e.T.length≤60000):setV 7 (app2 itemP (vr 1) (vr 2)) (st3 e i fo lv ch)= .ok .next (st3 e i fo lv (.str [c])):=by
 rw [ok_setV (a:= .str [c]) (σ':=st3 e i fo lv ch) (itm_nat (x:=vr 1) (j:=vr 2) (S:=e.T) rfl rfl hc (by unfold sizeMax;exact Q0 (.n1 _) hT)) rfl];rfl
theorem in3 {s:String} (hb:(lit s).contains c=b):lift2 inP (vr 7) (cS s) (st3 e i fo lv (.str [c]))= .ok b (st3 e i fo lv (.str [c])):=by subst hb;rfl
theorem eq3 {s:String} (hb:([c]==lit s)=b):eqM (vr 7) (cS s) (st3 e i fo lv (.str [c]))= .ok b (st3 e i fo lv (.str [c])):=by subst hb;rfl
theorem or3 (hb:(decide (c=34)||decide (c=39))=b):orM (eqM (vr 7) (cS "\"")) (eqM (vr 7) (cS "'")) (st3 e i fo lv (.str [c]))= .ok b (st3 e i fo lv (.str [c])):=by
 subst hb
 unfold orM
 rw [ok_bnd (eq3 (b:=decide (c=34)) (by rw [Bool.eq_iff_iff,beq_iff_eq,decide_eq_true_eq];show [c]=[34]↔_;simp))]
 cases h:decide (c=34)
 ·simp only [Bool.false_eq_true,if_false,Bool.false_or]
  exact eq3 (by rw [Bool.eq_iff_iff,beq_iff_eq,decide_eq_true_eq];show [c]=[39]↔_;simp)
 ·rfl
theorem eqC_ok {d:Nat} (hc:e.T[i]? =some c) (hT:e.T.length≤60000) (hpr:pr=if i=0 then none else e.T[i-1]?) (hd:c=61→e.T[i+1]? =some d):
  eqC (st3 e i fo lv (.str [c]))= .ok (decide (lv=0∧c=61∧preOk pr=true∧d≠61)) (st3 e i fo lv (.str [c])):=by
 have b1:eqM (vr 6) (cI 0) (st3 e i fo lv (.str [c]))= .ok (decide (lv=0)) (st3 e i fo lv (.str [c])):=by
  show Res.ok ((lv:Int)==0) _=_
  congr 1
  rw [Bool.eq_iff_iff,beq_iff_eq,decide_eq_true_eq];lia
 have b2:eqM (vr 7) (cS "=") (st3 e i fo lv (.str [c]))= .ok (decide (c=61)) (st3 e i fo lv (.str [c])):=eq3 (by rw [Bool.eq_iff_iff,beq_iff_eq,decide_eq_true_eq];show [c]=[61]↔_;simp)
 unfold eqC andM
 rw [ok_bnd b1]
 by_cases h1:lv=0
 ·rw [decide_eq_true h1,if_pos rfl,ok_bnd b2]
  by_cases h2:c=61
  ·have hd:=hd h2
   rw [decide_eq_true h2,if_pos rfl]
   have b3:orM (eqM (vr 2) (cI 0)) (lift2 ninP (app2 itemP (vr 1) (lift2 subP (vr 2) (cI 1))) (cS "=<>!")) (st3 e i fo lv (.str [c]))= .ok (preOk pr) (st3 e i fo lv (.str [c])):=by
    unfold orM
    have e1:eqM (vr 2) (cI 0) (st3 e i fo lv (.str [c]))= .ok (decide (i=0)) (st3 e i fo lv (.str [c])):=by
     show Res.ok ((i:Int)==0) _=_
     congr 1
     rw [Bool.eq_iff_iff,beq_iff_eq,decide_eq_true_eq];lia
    rw [ok_bnd e1]
    by_cases h3:i=0
    ·rw [decide_eq_true h3,if_pos rfl,hpr,if_pos h3];rfl
    ·rw [decide_eq_false h3,if_neg (by decide),hpr,if_neg h3]
     have hlt:i-1<e.T.length:=by have:=lt_of_some hc;exact lin3 (.t .v2 .v1) (.n (.q .v0 .k0)) (.t .v0 .v1) (.b 2 .v0 .k1) (.d 3 (.w [0,1,1,0,1]) (.w [0,1,1,1,1])) rfl (.n3 _ _ _) h3 this rfl
     have h4:e.T[i-1]? =some e.T[i-1]:=List.getElem?_eq_getElem hlt
     have e2:app2 itemP (vr 1) (lift2 subP (vr 2) (cI 1)) (st3 e i fo lv (.str [c]))= .ok (.str [e.T[i-1]]) (st3 e i fo lv (.str [c])):=by
      refine itm_nat (x:=vr 1) (S:=e.T) (i:=i-1) rfl ?_ h4 (by unfold sizeMax;exact Q0 (.n1 _) hT)
      show Res.ok (PV.int ((i:Int)-1)) _=_
      rw [show ((i:Int)-1)=((i-1:Nat):Int) by exact Q117 (.n2 _ _) h3 rfl]
     unfold lift2
     rw [h4]
     unfold lift2 at e2
     rw [ok_bnd e2]
     rfl
   rw [ok_bnd b3]
   by_cases h5:preOk pr=true
   ·rw [h5,if_pos rfl]
    have e3:app2 itemP (vr 1) (lift2 addP (vr 2) (cI 1)) (st3 e i fo lv (.str [c]))= .ok (.str [d]) (st3 e i fo lv (.str [c])):=
     itm_nat (x:=vr 1) (S:=e.T) (i:=i+1) rfl rfl hd (by unfold sizeMax;exact Q0 (.n1 _) hT)
    unfold lift2
    unfold lift2 at e3
    rw [ok_bnd e3]
    show Res.ok ([d] != lit "=") _=_
    congr 1
    rw [Bool.eq_iff_iff,bne_iff_ne,decide_eq_true_eq]
    show ([d]≠[61])↔_
    simp [h1,h2]
   ·have h5':preOk pr=false:=by simpa using h5
    rw [h5',if_neg (by decide)]
    show Res.ok false _=_
    congr 1
    simp
  ·rw [decide_eq_false h2,if_neg (by decide)]
   show Res.ok false _=_
   congr 1
   simp [h2]
 ·rw [decide_eq_false h1,if_neg (by decide)]
  show Res.ok false _=_
  congr 1
  simp [h1]
theorem lt3 {j:Nat}:lift2 ltP (vr 2) (vr 4) (st3 e j fo lv ch)= .ok (decide (j<e.en)) (st3 e j fo lv ch):=by
 show Res.ok (decide ((j:Int)<(e.en:Int))) _=_
 congr 1
 rw [Bool.eq_iff_iff,decide_eq_true_eq,decide_eq_true_eq];lia
noncomputable abbrev lin (e:S3) (i:Nat):List Nat:=(e.T.take e.en).drop i
theorem lin_get {r:List Nat} (hen:e.en≤e.T.length) (h:lin e i=c::r):e.T[i]? =some c∧i<e.en∧lin e (i+1)=r:=by
 have h1:(lin e i)[0]? =some c:=by rw [h];rfl
 rw [List.getElem?_drop,Nat.add_zero,List.getElem?_take] at h1
 split at h1
 ·rename_i hi
  refine ⟨h1,hi, ?_⟩
  have:(lin e i).drop 1=r:=by rw [h];rfl
  rw [List.drop_drop] at this
  exact this
 ·cases h1
theorem lin_drop (n:Nat):(lin e i).drop n=lin e (i+n):=List.drop_drop
theorem lin_len (hen:e.en≤e.T.length):(lin e i).length=e.en-i:=by
 rw [List.length_drop,List.length_take];exact lin4 (.q .v4 .v5) (.l .v0 .v1) (.b 5 .v0 .v2) (.b 4 .v3 .v2) (.M 3 .v0 .v1) (.b (.d 2 (.d 5 (.d 8 (.w [0, -1,0, -1,0,1,1]) (.w [0, -1,0, -1,0,1,1,1])) (.d 8 (.w [0, -1,1, -1,0,1,1]) (.w [0, -1,1, -1,0,1,1,1]))) (.w [0,1,1])) (.d 3 (.d 6 (.d 6 (.w [0, -1,0,1,0,1,1]) (.w [1, -1,0,1,0,1,1])) (.d 6 (.w [0, -1,1,1,0,1,1]) (.w [1, -1,1,1,0,1,1]))) (.w [0,1,1]))) rfl (.n6 _ _ _ _ _ _) hen rfl rfl rfl
noncomputable def foundV (o:Option (List Nat)):PV:= .int (if o.isSome then 1 else 0)
set_option tactic.hygienic true in
theorem comp_loop (hT:e.T.length≤60000) (hen:e.en≤e.T.length) {l:List Nat}{o:Option (List Nat)} (h:Sc lv pr l o):∀(i N:Nat) (ch:PV),lin e i=l→i≤e.en→pr=(if i=0 then none else e.T[i-1]?)→l.length<N→
  ∃i' lv' ch',whileM N (lift2 ltP (vr 2) (vr 4)) compB (ret1 .next) (st3 e i (.int 0) lv ch)= .ok .next (st3 e (i':Nat) (foundV o) lv' ch')∧i'≤e.en∧∀suf,o=some suf→lin e i'=suf:=by
 induction h with
 | nil=>
  intro i N ch hl hi hpr hN
  cases N with
  | zero=>exact (show False from Q1 (.n1 _) hN).elim
  | succ N=>
   have:=lin_len (i:=i) hen
   rw [hl] at this
   simp at this
   rw [wh_F (σ1:=st3 e i (.int 0) _ ch) (by rw [lt3,decide_eq_false (by exact lin2 (.n (.t .v0 .v1)) (.q .k0 .v2) (.b 2 .v1 .v0) (.d 2 (.w [0, -1,1, -1]) (.w [1,0,1])) rfl (.n3 _ _ _) this rfl)])]
   exact ⟨i,_,ch,rfl,hi,fun suf hs=>by cases hs⟩
 | op hc h ih=>
  rename_i lv c pr r o
  intro i N ch hl hi hpr hN
  obtain ⟨g1,g2,g3⟩:=lin_get hen hl
  cases N with
  | zero=>exact (show False from Q1 (.n1 _) hN).elim
  | succ N=>
   have hb:compB (st3 e i (.int 0) lv ch)= .ok .next (st3 e (i+1:Nat) (.int 0) (lv+1) (.str [c])):=by
    unfold compB
    dsimp only [blk]
    rw [ok_seq (rd3 g1 hT),ok_iteT (in3 (by rcases hc with rfl | rfl | rfl <;> rfl))]
    rfl
   rw [wh_T (by rw [lt3,decide_eq_true g2]) (.inr hb)]
   exact ih (i+1) N _ g3 g2 (by rw [if_neg (by exact Q56 (.n1 _))];exact g1.symm) (by simp at hN;exact Q11 (.n2 _ _) hN)
 | cl hc h ih=>
  rename_i lv c pr r o
  intro i N ch hl hi hpr hN
  obtain ⟨g1,g2,g3⟩:=lin_get hen hl
  cases N with
  | zero=>exact (show False from Q1 (.n1 _) hN).elim
  | succ N=>
   have hb:compB (st3 e i (.int 0) lv ch)= .ok .next (st3 e (i+1:Nat) (.int 0) (lv-1) (.str [c])):=by
    unfold compB
    dsimp only [blk]
    rw [ok_seq (rd3 g1 hT),ok_iteF (in3 (by rcases hc with rfl | rfl | rfl <;> rfl)),ok_iteT (in3 (by rcases hc with rfl | rfl | rfl <;> rfl))]
    have ht:bnd (vr 6) truG (st3 e i (.int 0) lv (.str [c]))= .ok ((lv:Int) != 0) (st3 e i (.int 0) lv (.str [c])):=rfl
    cases lv with
    | zero=>rfl
    | succ lv=>
     have ht':bnd (vr 6) truG (st3 e i (.int 0) (lv+1) (.str [c]))= .ok true (st3 e i (.int 0) (lv+1) (.str [c])):=by
      rw [ht]
      have:(((lv+1:Nat):Int) != 0)=true:=by rw [bne_iff_ne];exact Q54 (.n1 _)
      rw [this]
     have e1:setV 6 (lift2 subP (vr 6) (cI 1)) (st3 e i (.int 0) (lv+1) (.str [c]))= .ok .next (st3 e i (.int 0) lv (.str [c])):=by
      show Res.ok Fl.next (St.mk [_,_,_,_,_,_, .int (((lv+1:Nat):Int)-1),_] _)=_
      rw [show (((lv+1:Nat):Int)-1)=(lv:Int) by exact Q23 (.n1 _)];rfl
     rw [seqT ht' e1]
     rfl
   rw [wh_T (by rw [lt3,decide_eq_true g2]) (.inr hb)]
   exact ih (i+1) N _ g3 g2 (by rw [if_neg (by exact Q56 (.n1 _))];exact g1.symm) (by simp at hN;exact Q11 (.n2 _ _) hN)
 | st hq h ih=>
  rename_i lv q pr r o
  intro i N ch hl hi hpr hN
  obtain ⟨g1,g2,g3⟩:=lin_get hen hl
  obtain ⟨n,hn⟩:∃n,n=RX.strN q (q::r):=⟨_,rfl⟩
  obtain ⟨n1,n2⟩:=strN_le (q:=q) (l:=q::r) (by simp)
  rw [←hn] at n1 n2
  have hll:=lin_len (i:=i) hen
  rw [hl] at hll
  cases N with
  | zero=>exact (show False from Q1 (.n1 _) hN).elim
  | succ N=>
   have hb:compB (st3 e i (.int 0) lv ch)= .ok .next (st3 e (i+n:Nat) (.int 0) lv (.str [q])):=by
    unfold compB
    dsimp only [blk]
    rw [ok_seq (rd3 g1 hT),ok_iteF (in3 (by rcases hq with rfl | rfl <;> rfl)),ok_iteF (in3 (by rcases hq with rfl | rfl <;> rfl)),ok_iteT (or3 (by rcases hq with rfl | rfl <;> rfl))]
    have m1:mat3 strS [vr 1,vr 2,vr 4] (st3 e i (.int 0) lv (.str [q]))= .ok (.mat ((i:Int)+n)) (st3 e i (.int 0) lv (.str [q])):=by
     show goMat strS e.T (i:Int) (e.en:Int) _=_
     unfold goMat
     rw [if_pos ⟨by exact Q8 (.n1 _),by exact Q134 (.n2 _ _) g2,by exact Q10 (.n2 _ _) hen,by exact Q25 (.n1 _) hT⟩]
     have e1:(e.T.drop (i:Int).toNat).take ((e.en:Int)-(i:Int)).toNat=q::r:=by
      rw [Int.toNat_natCast,show ((e.en:Int)-(i:Int)).toNat=e.en-i by exact Q135 (.n4 _ _ _ _) g2 rfl rfl, ←hl, ←List.drop_take]
     rw [e1]
     unfold strS
     simp only [List.head?_cons]
     rw [if_pos hq,hn]
     rfl
    have m2:bmethM okMat (mat3 strS [vr 1,vr 2,vr 4]) [] endG (st3 e i (.int 0) lv (.str [q]))= .ok (.int ((i:Int)+n)) (st3 e i (.int 0) lv (.str [q])):=by
     unfold bmethM
     rw [ok_bnd m1]
     rfl
    rw [ok_setV m2 rfl]
    rfl
   rw [wh_T (by rw [lt3,decide_eq_true g2]) (.inr hb)]
   rw [←hn] at ih
   refine ih (i+n) N _ (by rw [←lin_drop,hl]) (by exact lin4 (.l (.a .v0 .v1) .v2) (.l .v1 .v3) (.t .k0 .v1) (.q .v3 .v4) (.b 4 .v2 .v0) (.d 4 (.w [0,1,1,1,0,1]) (.w [0,1,0,1,1,1])) rfl (.n5 _ _ _ _ _) n1 n2 hll rfl) ?_ (by rw [List.length_drop];simp at hN hll ⊢;exact lin3 (.t .v3 .v2) (.t .k0 .v1) (.t .v0 .v2) (.b 3 (.a .v0 .k1) .v1) (.d 3 (.w [0,1,1,1,1]) (.w [0,1,1,0,1])) rfl (.n4 _ _ _ _) n2 hN rfl)
   rw [if_neg (by exact lin1 (.n (.q (.a .v0 .v1) .k0)) (.t .k0 .v1) (.w [1,1]) rfl (.n2 _ _) n2), ←hl,List.getElem?_drop,List.getElem?_take_of_lt (by exact lin5 (.t (.a .v0 .v4) .v2) (.l .v1 .v3) (.t .k0 .v1) (.q .v3 .v5) (.b 4 .v1 .k1) (.b 5 .v2 .v0) (.d 4 (.d 7 (.w [0,1,0,1,1,1,0,1]) (.w [0,1,1,0,0,1,0,1])) (.d 7 (.w [0,1,0,1,1,1,1,1]) (.w [0,1,0,0,0,1,1,1]))) rfl (.n6 _ _ _ _ _ _) n1 n2 hll rfl rfl)]
   congr 1;exact lin3 (.q (.a .v0 .v2) .v3) (.t .k0 .v1) (.b 3 (.a .v0 .v1) .k1) (.b 2 .v1 .k1) (.b (.d 2 (.d 5 (.w [0, -1,0,1,1]) (.w [1, -1,0,1,1])) (.w [0,1,1])) (.d 3 (.d 4 (.w [0, -1,0,1,1]) (.w [1, -1,0,1,1])) (.d 4 (.w [0, -1,0,1,1,1]) (.w [1, -1,0,1,1,1])))) rfl (.n4 _ _ _ _) n2 rfl rfl
 | cm=>
  rename_i lv pr r
  intro i N ch hl hi hpr hN
  obtain ⟨g1,g2,g3⟩:=lin_get hen hl
  cases N with
  | zero=>exact (show False from Q1 (.n1 _) hN).elim
  | succ N=>
   have hb:compB (st3 e i (.int 0) lv ch)= .ok .brk (st3 e i (.int 0) lv (.str [35])):=by
    unfold compB
    dsimp only [blk]
    rw [ok_seq (rd3 g1 hT),ok_iteF (in3 rfl),ok_iteF (in3 rfl),ok_iteF (or3 rfl),ok_iteT (eq3 rfl)]
    rfl
   rw [wh_B (by rw [lt3,decide_eq_true g2]) hb]
   exact ⟨i,_,_,rfl,hi,fun suf hs=>by cases hs⟩
 | eq hp hd=>
  rename_i pr d r
  intro i N ch hl hi hpr hN
  obtain ⟨g1,g2,g3⟩:=lin_get hen hl
  obtain ⟨g4,_,_⟩:=lin_get hen g3
  cases N with
  | zero=>exact (show False from Q1 (.n1 _) hN).elim
  | succ N=>
   have hb:compB (st3 e i (.int 0) 0 ch)= .ok .brk (st3 e i (.int 1) 0 (.str [61])):=by
    unfold compB
    dsimp only [blk]
    rw [ok_seq (rd3 g1 hT),ok_iteF (in3 rfl),ok_iteF (in3 rfl),ok_iteF (or3 rfl),ok_iteF (eq3 rfl),ok_iteT (by rw [eqC_ok g1 hT hpr (fun _=>g4),decide_eq_true ⟨rfl,rfl,hp,hd⟩])]
    rfl
   rw [wh_B (by rw [lt3,decide_eq_true g2]) hb]
   exact ⟨i,_,_,rfl,hi,fun suf hs=>by rw [hl];cases hs;rfl⟩
 | ot hs hc h ih=>
  rename_i lv c pr r o
  intro i N ch hl hi hpr hN
  obtain ⟨g1,g2,g3⟩:=lin_get hen hl
  have hsp:c≠40∧c≠91∧c≠123∧c≠41∧c≠93∧c≠125∧c≠34∧c≠39∧c≠35:=by
   unfold special at hs
   simp only [Bool.or_eq_false_iff,beq_eq_false_iff_ne] at hs
   obtain ⟨⟨⟨⟨⟨⟨⟨⟨a1,a2⟩,a3⟩,a4⟩,a5⟩,a6⟩,a7⟩,a8⟩,a9⟩:=hs
   exact ⟨a1,a2,a3,a4,a5,a6,a7,a8,a9⟩
  cases N with
  | zero=>exact (show False from Q1 (.n1 _) hN).elim
  | succ N=>
   have i1:(lit "([{").contains c=false:=by
    show ([40,91,123]:List Nat).contains c=false
    simp;exact ⟨lin1 (.n (.q .v0 (.k 40))) (.n (.q .v0 (.k 40))) (.d 1 (.w [1, -1]) (.w [1,1])) rfl (.n1 _) hsp.1,⟨lin2 (.n (.q .v0 (.k 91))) (.n (.q .v0 (.k 40))) (.n (.q .v0 (.k 91))) (.d 1 (.w [1, -1]) (.d 3 (.w [1,0, -1]) (.w [1,0,1]))) rfl (.n1 _) hsp.1 hsp.2.1,lin3 (.n (.q .v0 (.k 123))) (.n (.q .v0 (.k 40))) (.n (.q .v0 (.k 91))) (.n (.q .v0 (.k 123))) (.d 1 (.w [1, -1]) (.d 3 (.w [1,0, -1]) (.d 5 (.w [1,0,0, -1]) (.w [1,0,0,1])))) rfl (.n1 _) hsp.1 hsp.2.1 hsp.2.2.1⟩⟩
   have i2:(lit ")]}").contains c=false:=by
    show ([41,93,125]:List Nat).contains c=false
    simp;exact ⟨lin3 (.n (.q .v0 (.k 41))) (.n (.q .v0 (.k 40))) (.n (.q .v0 (.k 91))) (.n (.q .v0 (.k 41))) (.d 1 (.w [1, -1]) (.d 3 (.d 5 (.w [1,0,1]) (.w [1,0,0,1])) (.w [1,0,1]))) rfl (.n1 _) hsp.1 hsp.2.1 hsp.2.2.2.1,⟨lin3 (.n (.q .v0 (.k 93))) (.n (.q .v0 (.k 40))) (.n (.q .v0 (.k 91))) (.n (.q .v0 (.k 93))) (.d 1 (.w [1, -1]) (.d 3 (.w [1,0, -1]) (.d 5 (.w [1,0,0, -1]) (.w [1,0,0,1])))) rfl (.n1 _) hsp.1 hsp.2.1 hsp.2.2.2.2.1,lin3 (.n (.q .v0 (.k 125))) (.n (.q .v0 (.k 40))) (.n (.q .v0 (.k 91))) (.n (.q .v0 (.k 125))) (.d 1 (.w [1, -1]) (.d 3 (.w [1,0, -1]) (.d 5 (.w [1,0,0, -1]) (.w [1,0,0,1])))) rfl (.n1 _) hsp.1 hsp.2.1 hsp.2.2.2.2.2.1⟩⟩
   have hf:eqC (st3 e i (.int 0) lv (.str [c]))= .ok false (st3 e i (.int 0) lv (.str [c])):=by
    by_cases h61:c=61
    ·obtain ⟨d,r',hr,hno⟩:=hc h61
     rw [hr] at g3
     obtain ⟨g4,_,_⟩:=lin_get hen g3
     rw [eqC_ok g1 hT hpr (fun _=>g4),decide_eq_false (fun hh=>hno ⟨hh.1,hh.2.2⟩)]
    ·rw [eqC_ok (d:=0) g1 hT hpr (fun hh=>absurd hh h61),decide_eq_false (fun hh=>h61 hh.2.1)]
   have hb:compB (st3 e i (.int 0) lv ch)= .ok .next (st3 e (i+1:Nat) (.int 0) lv (.str [c])):=by
    unfold compB
    dsimp only [blk]
    rw [ok_seq (rd3 g1 hT),ok_iteF (in3 i1),ok_iteF (in3 i2),ok_iteF (or3 (by simp;exact ⟨lin3 (.n (.q .v0 (.k 34))) (.n (.q .v0 (.k 40))) (.n (.q .v0 (.k 91))) (.n (.q .v0 (.k 34))) (.d 1 (.d 3 (.d 5 (.w [1,0,0, -1]) (.w [1,0,0,1])) (.w [1,1])) (.w [1,1])) rfl (.n1 _) hsp.1 hsp.2.1 hsp.2.2.2.2.2.2.1,lin3 (.n (.q .v0 (.k 39))) (.n (.q .v0 (.k 40))) (.n (.q .v0 (.k 91))) (.n (.q .v0 (.k 39))) (.d 1 (.d 3 (.d 5 (.w [1,0,0, -1]) (.w [1,0,1])) (.w [1,1])) (.w [1,1])) rfl (.n1 _) hsp.1 hsp.2.1 hsp.2.2.2.2.2.2.2.1⟩)),ok_iteF (eq3 (by show ([c]==[35])=false;simp;exact lin3 (.n (.q .v0 (.k 35))) (.n (.q .v0 (.k 40))) (.n (.q .v0 (.k 91))) (.n (.q .v0 (.k 35))) (.d 1 (.d 3 (.d 5 (.w [1,0,0, -1]) (.w [1,0,0,1])) (.w [1,1])) (.w [1,1])) rfl (.n1 _) hsp.1 hsp.2.1 hsp.2.2.2.2.2.2.2.2)),ok_iteF hf]
    rfl
   rw [wh_T (by rw [lt3,decide_eq_true g2]) (.inr hb)]
   exact ih (i+1) N _ g3 g2 (by rw [if_neg (by exact Q56 (.n1 _))];exact g1.symm) (by simp at hN;exact Q11 (.n2 _ _) hN)
end PT
end Mine
end
section
open PySem
set_option maxRecDepth 10000
set_option tactic.hygienic false
namespace Mine
namespace PT
variable {Z y:List Nat}
noncomputable def cutN (wd Y:List Nat):Option (List Nat)→Nat
 | some (_::r)=>if slashS r=some none then Y.length-r.length else wd.length
 | _=>wd.length
noncomputable def stW (C:Addr) (k:Nat) (T:List Nat) (i:Int) (a b c d f:PV) (cells:List PCell):St:=⟨[.inst C k, .str T, .int i,a,b,c,d,f],cells⟩
variable {C:Addr}{k:Nat}{T:List Nat}{a b c d f:PV}{cells:List PCell}
theorem wloop {cond:PM Bool}{g:Nat→Bool} (hc:∀(i ch:Nat),T[i]? =some ch→cond (stW C k T i a b c d f cells)= .ok (g ch) (stW C k T i a b c d f cells)):
  ∀(w:List Nat) (i N:Nat) (e:Nat) (r:List Nat),(∀x∈w,g x=true)→T.drop i=w++e::r→g e=false→w.length<N→
   whileM N cond (incV 2 1) nop (stW C k T i a b c d f cells)= .ok .next (stW C k T (i+w.length:Nat) a b c d f cells)
 | [],i,N,e,r,_,hT,he,hN=>by
  cases N with
  | zero=>exact (show False from Q1 (.n1 _) hN).elim
  | succ N=>
   have h1:T[i]? =some e:=by
    have:(T.drop i)[0]? =some e:=by rw [hT];rfl
    rwa [List.getElem?_drop,Nat.add_zero] at this
   rw [wh_F (by rw [hc i e h1,he])]
   rfl
 | x::w,i,N,e,r,hw,hT,he,hN=>by
  cases N with
  | zero=>exact (show False from Q1 (.n1 _) hN).elim
  | succ N=>
   have h1:T[i]? =some x:=by
    have:(T.drop i)[0]? =some x:=by rw [hT];rfl
    rwa [List.getElem?_drop,Nat.add_zero] at this
   have h2:T.drop (i+1)=w++e::r:=by rw [←List.drop_drop,hT];rfl
   rw [wh_T (σ1:=stW C k T i a b c d f cells) (σ2:=stW C k T (i+1:Nat) a b c d f cells) (by rw [hc i x h1,hw x (.head _)]) (.inr rfl)]
   rw [wloop hc w (i+1) N e r (fun y hy=>hw y (.tail _ hy)) h2 he (by simp at hN;exact Q11 (.n2 _ _) hN)]
   simp only [List.length_cons]
   congr 3;exact Q13 (.n2 _ _)
theorem Sc.len {lv:Nat}{pr:Option Nat}{l:List Nat}{o:Option (List Nat)} (h:Sc lv pr l o):∀suf,o=some suf→suf.length≤l.length:=by
 induction h with
 | nil=>intro suf hs;cases hs
 | op _ _ ih=>intro suf hs;have:=ih suf hs;simp;exact Q21 (.n2 _ _) this
 | cl _ _ ih=>intro suf hs;have:=ih suf hs;simp;exact Q21 (.n2 _ _) this
 | st _ _ ih=>intro suf hs;have:=ih suf hs;rw [List.length_drop] at this;exact lin2 (.l .v0 .v1) (.l .v0 .v3) (.b 3 .v1 .v2) (.d 2 (.w [0,1,1,1]) (.w [0,1,1,1])) rfl (.n4 _ _ _ _) this rfl
 | cm=>intro suf hs;cases hs
 | eq _ _=>intro suf hs;cases hs;exact Nat.le_refl _
 | ot _ _ _ ih=>intro suf hs;have:=ih suf hs;simp;exact Q21 (.n2 _ _) this
theorem findN_nl {i:Nat} (hT:T.drop i=y++10::Z) (hy:10∉y):findN T 10 i (T.length-i)=some (i+y.length):=by
 have hg:∀j,j<y.length→T[i+j]? =y[j]? :=fun j hj=>by
  have:(T.drop i)[j]? =(y++10::Z)[j]? :=by rw [hT]
  rwa [List.getElem?_drop,List.getElem?_append_left hj] at this
 have hl:(T.drop i).length=y.length+(Z.length+1):=by rw [hT];simp
 rw [List.length_drop] at hl
 refine findN_of (by exact Q50 (.n2 _ _)) (by exact lin1 (.t (.a .v0 .v1) (.a .v0 .v3)) (.q .v3 (.a .v1 (.a .v2 .k1))) (.w [1, -1]) rfl (.n4 _ _ _ _) hl) ?_ ?_
 ·have:(T.drop i)[y.length]? =(y++10::Z)[y.length]? :=by rw [hT]
  rw [List.getElem?_drop] at this
  simpa using this
 ·intro j h1 h2 h3
  have:=hg (j-i) (by exact lin3 (.t .v3 .v2) (.l .v1 .v0) (.t .v0 (.a .v1 .v2)) (.b 3 .v0 .v1) (.d 3 (.w [0,1,1,0,1]) (.w [0,1,1,1,1])) rfl (.n4 _ _ _ _) h1 h2 rfl)
  rw [show i+(j-i)=j by exact lin2 (.q (.a .v0 .v2) .v1) (.l .v0 .v1) (.b 2 .v1 .v0) (.b (.d 2 (.w [0, -1,1]) (.w [1, -1,1])) (.d 2 (.w [0,1,1]) (.w [0,1,1,1]))) rfl (.n3 _ _ _) h1 rfl,h3] at this
  exact hy (List.mem_of_getElem? this.symm)
theorem compute_ok {B:Ads}{vals:List PV}{vars:List PV}{cells0:List PCell}{s tab:Nat}{W X wd rr:List Nat}{e0:Nat}{o:Option (List Nat)}
  (hstudy:methM B.C 0 (vr 0) [] (callF 14 (study2F B)) ⟨.inst B.C k::List.replicate 7 .unb,cells0⟩= .ok .none ⟨.inst B.C k::List.replicate 7 .unb,cells⟩)
  (H:Obj1 B k vals ⟨[],cells⟩) (h1:vals[1]? =some (.int tab)) (h2:vals[2]? =some (.str T)) (h5:vals[5]? =some (.int 1)) (h6:vals[6]? =some (.int s)) (htab:0<tab∧tab≤8)
  (hT:T.length≤60000) (hX:T.drop s=W++X) (hW:∀x∈W,x=32∨x=9) (hy:X=y++10::Z) (hny:10∉y) (hhd:∀x,X.head? =some x→x≠32∧x≠9)
  (hwd:y++[10]=wd++e0::rr) (hwn:∀x∈wd,x≠32∧x≠9∧x≠10) (he0:e0=32∨e0=9∨e0=10)
  (hSc:Sc 0 (if s+W.length=0 then none else T[s+W.length-1]?) (y++[10]) o) (hsuf:∀suf,o=some suf→∃c r,suf=c::r):
  callF 8 (computeF B) [.inst B.C k] ⟨vars,cells0⟩= .ok (.int ((expTab tab 0 ((T.drop s).take (W.length+cutN wd (y++[10]) o))).length+1)) ⟨vars,cells⟩:=by
 let v0:List PV:= .inst B.C k::List.replicate 7 .unb
 have hv0:vars0 8 [.inst B.C k]=v0:=rfl
 have HO:∀vs,Obj1 B k vals ⟨vs,cells⟩:=fun vs=>⟨H.cell,H.len⟩
 have hlen:(T.drop s).length=W.length+(y.length+(Z.length+1)):=by rw [hX,hy];simp
 rw [List.length_drop] at hlen
 have c1:exprM (methM B.C 0 (vr 0) [] (callF 14 (study2F B))) ⟨v0,cells0⟩= .ok .next ⟨v0,cells⟩:=ok_exprM hstudy
 have c2:assertM (eqM (attrM B.C 0 5 (vr 0)) (cI 1)) ⟨v0,cells⟩= .ok .next ⟨v0,cells⟩:=by
  refine asT ?_
  show bnd _ _ _=_
  rw [ok_bnd (ok_attr (x:=vr 0) rfl (HO _) h5 rfl)]
  rfl
 have c3:setV 1 (attrM B.C 0 2 (vr 0)) ⟨v0,cells⟩= .ok .next ⟨v0.set 1 (.str T),cells⟩:=ok_setV (ok_attr (x:=vr 0) rfl (HO _) h2 rfl) rfl
 have c4:setV 2 (attrM B.C 0 6 (vr 0)) ⟨v0.set 1 (.str T),cells⟩= .ok .next (stW B.C k T s .unb .unb .unb .unb .unb cells):=ok_setV (ok_attr (x:=vr 0) rfl (HO _) h6 rfl) rfl
 obtain ⟨x0,X',hx0⟩:∃x0 X',X=x0::X':=by
  cases hX':X with
  | nil=>rw [hy] at hX';simp at hX'
  | cons x0 X'=>exact ⟨x0,X',rfl⟩
 have hx0w:=hhd x0 (by rw [hx0];rfl)
 have cnd:∀{st:String}{a b c d f:PV} (i ch:Nat),T[i]? =some ch→lift2 inP (app2 itemP (vr 1) (vr 2)) (cS st) (stW B.C k T i a b c d f cells)= .ok ((lit st).contains ch) (stW B.C k T i a b c d f cells):=by
  intro st a b c d f i ch hch
  unfold lift2
  rw [ok_bnd (itm_nat (x:=vr 1) (j:=vr 2) (S:=T) (i:=i) rfl rfl hch (by unfold sizeMax;exact Q0 (.n1 _) hT))]
  rfl
 have cndn:∀{st:String}{a b c d f:PV} (i ch:Nat),T[i]? =some ch→lift2 ninP (app2 itemP (vr 1) (vr 2)) (cS st) (stW B.C k T i a b c d f cells)= .ok (!(lit st).contains ch) (stW B.C k T i a b c d f cells):=by
  intro st a b c d f i ch hch
  unfold lift2
  rw [ok_bnd (itm_nat (x:=vr 1) (j:=vr 2) (S:=T) (i:=i) rfl rfl hch (by unfold sizeMax;exact Q0 (.n1 _) hT))]
  rfl
 let sp:=s+W.length
 have c5:whileM fuel (lift2 inP (app2 itemP (vr 1) (vr 2)) (cS " \t")) (incV 2 1) nop (stW B.C k T s .unb .unb .unb .unb .unb cells)= .ok .next (stW B.C k T sp .unb .unb .unb .unb .unb cells):=by
  refine wloop (g:=fun ch=>(lit " \t").contains ch) (fun i ch h=>cnd i ch h) W s fuel x0 X' (fun x hx=> ?_) (by rw [hX,hx0]) ?_ (by unfold fuel;exact lin3 (.t .v0 (.k 1000000)) (.l .v1 (.k 60000)) (.q .v5 (.a .v0 (.a .v3 (.a .v4 .k1)))) (.b 5 .v1 .v2) (.d 3 (.w [0,1,1,1, -1]) (.w [0,1,1,0, -1])) rfl (.n6 _ _ _ _ _ _) hT hlen rfl)
  ·rcases hW x hx with rfl | rfl <;> rfl
  ·show ([32,9]:List Nat).contains x0=false
   simp;exact ⟨Q145 (.n1 _) hx0w.1,Q146 (.n1 _) hx0w.1 hx0w.2⟩
 have c6:setV 3 (vr 2) (stW B.C k T sp .unb .unb .unb .unb .unb cells)= .ok .next (stW B.C k T sp (.int sp) .unb .unb .unb .unb cells):=rfl
 have hTsp:T.drop sp=y++10::Z:=by
  show T.drop (s+W.length)=_
  rw [←List.drop_drop,hX,List.drop_left,hy]
 let en:=sp+y.length+1
 have c7:setV 4 (lift2 addP (bmethM okStr (vr 1) [cS "\n",vr 3] findG) (cI 1)) (stW B.C k T sp (.int sp) .unb .unb .unb .unb cells)= .ok .next (stW B.C k T sp (.int sp) (.int en) .unb .unb .unb cells):=by
  have e1:bmethM okStr (vr 1) [cS "\n",vr 3] findG (stW B.C k T sp (.int sp) .unb .unb .unb .unb cells)= .ok (.int (toI (findN T 10 (clip0 T.length sp) (T.length-clip0 T.length sp)))) (stW B.C k T sp (.int sp) .unb .unb .unb .unb cells):=rfl
  rw [clip0_nat,findN_nl hTsp hny] at e1
  have e2:lift2 addP (bmethM okStr (vr 1) [cS "\n",vr 3] findG) (cI 1) (stW B.C k T sp (.int sp) .unb .unb .unb .unb cells)= .ok (.int en) (stW B.C k T sp (.int sp) .unb .unb .unb .unb cells):=by
   show bnd _ _ _=_
   rw [ok_bnd e1]
   rfl
  rw [ok_setV e2 rfl];rfl
 let e:S3:=⟨B.C,k,T,sp,en,cells⟩
 have c8:set2M (setG 5) (setG 6) (cI 0) (stW B.C k T sp (.int sp) (.int en) .unb .unb .unb cells)= .ok .next (st3 e sp (.int 0) 0 .unb):=rfl
 have hen:e.en≤e.T.length:=by show sp+y.length+1≤T.length;show s+W.length+y.length+1≤_;exact lin2 (.l (.a (.a (.a .v0 .v1) .v2) .k1) .v3) (.q .v5 (.a .v1 (.a .v2 (.a .v4 .k1)))) (.b 5 .v3 .v0) (.d 2 (.w [0,1,1, -1]) (.w [0,1,0, -1])) rfl (.n6 _ _ _ _ _ _) hlen rfl
 have hlin:lin e sp=y++[10]:=by
  show (T.take en).drop sp=_
  rw [List.drop_take,hTsp,show en-sp=y.length+1 by show sp+y.length+1-sp=_;exact lin1 (.q .v2 (.a .v1 .k1)) (.b 2 (.a (.a .v0 .v1) .k1) .v0) (.b (.d 1 (.w [0, -1,1]) (.w [1, -1,1])) (.d 1 (.w [0,1,1]) (.w [0,1,1]))) rfl (.n3 _ _ _) rfl]
  rw [List.take_append,List.take_of_length_le (by exact Q9 (.n1 _)),show y.length+1-y.length=1 by exact Q51 (.n2 _ _) rfl]
  rfl
 obtain ⟨i',lv',ch',c9,hi',hsf⟩:=comp_loop (e:=e) hT hen hSc sp fuel .unb hlin (by show sp≤sp+y.length+1;exact lin0 (.l .v0 (.a (.a .v0 .v1) .k1)) (.w [1]) rfl (.n2 _ _)) rfl (by unfold fuel;simp;lia)
 have c9':compW B (st3 e sp (.int 0) 0 .unb)= .ok .next (st3 e (i':Nat) (foundV o) lv' ch'):=by rw [compW_eq];exact c9
 have wend:∀(j:Int) (fv:PV) (lv:PV) (ch:PV),bnd (vr 5) truG (stW B.C k T j (.int sp) (.int en) fv lv ch cells)= .ok false (stW B.C k T j (.int sp) (.int en) fv lv ch cells)→
   iteM (notM (bnd (vr 5) truG)) (blk [setV 2 (vr 3),whileM fuel (lift2 ninP (app2 itemP (vr 1) (vr 2)) (cS " \t\n")) (incV 2 1) (ret1 .next)]) (ret1 .next) (stW B.C k T j (.int sp) (.int en) fv lv ch cells)=
    .ok .next (stW B.C k T (sp+wd.length:Nat) (.int sp) (.int en) fv lv ch cells):=by
  intro j fv lv ch hf
  have hn:notM (bnd (vr 5) truG) (stW B.C k T j (.int sp) (.int en) fv lv ch cells)= .ok true (stW B.C k T j (.int sp) (.int en) fv lv ch cells):=by
   unfold notM;rw [ok_bnd hf];rfl
  rw [ok_iteT hn]
  dsimp only [blk]
  have e1:setV 2 (vr 3) (stW B.C k T j (.int sp) (.int en) fv lv ch cells)= .ok .next (stW B.C k T sp (.int sp) (.int en) fv lv ch cells):=rfl
  rw [ok_seq e1]
  refine wloop (g:=fun ch=> !(lit " \t\n").contains ch) (fun i ch h=>cndn i ch h) wd sp fuel e0 (rr++Z) (fun x hx=> ?_) ?_ ?_ ?_
  ·have:=hwn x hx
   show (!([32,9,10]:List Nat).contains x)=true
   simp;exact ⟨Q145 (.n1 _) this.1,⟨Q146 (.n1 _) this.1 this.2.1,lin3 (.n (.q .v0 (.k 10))) (.n (.q .v0 (.k 32))) (.n (.q .v0 (.k 9))) (.n (.q .v0 (.k 10))) (.d 1 (.d 3 (.w [1,0, -1]) (.d 5 (.w [1,1]) (.w [1,0,0,1]))) (.w [1,1])) rfl (.n1 _) this.1 this.2.1 this.2.2⟩⟩
  ·rw [hTsp,show y++10::Z=(y++[10])++Z by simp,hwd];simp
  ·rcases he0 with rfl | rfl | rfl <;> rfl
  ·have:=congrArg List.length hwd
   simp at this
   unfold fuel;lia
 have main:∃fv st',iteM (bnd (vr 5) truG) (blk [incV 2 1,setV 5 (ofB (lift2 isNG (bmethM (okPat B.sp) (pure1 (.glob (.ref B.sp))) [sliceM (vr 1) (vr 2) (vr 4)] (patG B.sp slashS)) (pure1 .none)))]) (ret1 .next) (st3 e (i':Nat) (foundV o) lv' ch')= .ok .next st'∧
   iteM (notM (bnd (vr 5) truG)) (blk [setV 2 (vr 3),whileM fuel (lift2 ninP (app2 itemP (vr 1) (vr 2)) (cS " \t\n")) (incV 2 1) (ret1 .next)]) (ret1 .next) st'= .ok .next (stW B.C k T (sp+cutN wd (y++[10]) o:Nat) (.int sp) (.int en) fv (.int lv') ch' cells):=by
  cases o with
  | none=>
   have e1:bnd (vr 5) truG (st3 e (i':Nat) (foundV none) lv' ch')= .ok false (st3 e (i':Nat) (foundV none) lv' ch'):=rfl
   exact ⟨.int 0,_,(ok_iteF e1).trans rfl,wend i' (.int 0) (.int lv') ch' rfl⟩
  | some suf=>
   obtain ⟨c0,r,rfl⟩:=hsuf suf rfl
   have hl:=hsf _ rfl
   obtain ⟨g1,g2,g3⟩:=lin_get hen hl
   have hlr:r.length=en-(i'+1):=by rw [←g3,lin_len hen]
   have e1:bnd (vr 5) truG (st3 e (i':Nat) (foundV (some (c0::r))) lv' ch')= .ok true (st3 e (i':Nat) (foundV (some (c0::r))) lv' ch'):=rfl
   have e2:incV 2 1 (st3 e (i':Nat) (foundV (some (c0::r))) lv' ch')= .ok .next (stW B.C k T (i'+1:Nat) (.int sp) (.int en) (.int 1) (.int lv') ch' cells):=rfl
   have e3:sliceM (vr 1) (vr 2) (vr 4) (stW B.C k T (i'+1:Nat) (.int sp) (.int en) (.int 1) (.int lv') ch' cells)= .ok (.str r) (stW B.C k T (i'+1:Nat) (.int sp) (.int en) (.int 1) (.int lv') ch' cells):=by
    rw [sl_nat (x:=vr 1) (ja:=vr 2) (jb:=vr 4) (S:=T) (a:=i'+1) (b:=en) rfl rfl rfl (by unfold sizeMax;exact Q0 (.n1 _) hT) (by have:i'<e.en:=g2;have:e.en≤T.length:=hen;exact lin2 (.l (.a .v0 .k1) .v1) (.l .v2 .v1) (.t .v0 .v2) (.w [1,1,1]) rfl (.n3 _ _ _) hen g2)]
    rw [←List.drop_take, ←g3]
   have e4:∀st,patG B.sp slashS [.glob (.ref B.sp), .str r] st=if slashS r=some none then .ok .none st else .ok (.mat (0+(((r.takeWhile RX.whiteU).length+1:Nat):Int))) st:=by
    intro st
    rw [patG_go]
    unfold goMat
    rw [if_pos ⟨by exact lin0 (.L .k0 .k0) (.w [1]) rfl .o,by exact lin1 (.L .k0 (.c .v0)) (.q .v0 .v1) (.w [1, -1]) rfl (.n2 _ _) hlr,by exact Q141 (.n1 _),by exact lin4 (.l .v0 (.k 4000000)) (.l .v1 (.k 60000)) (.l .v2 .v1) (.q .v0 .v4) (.b 4 .v2 (.a .v3 .k1)) (.d 4 (.w [0,1,1,1,1,1]) (.w [0,1,1,0,0,1])) rfl (.n5 _ _ _ _ _) hT hen hlr rfl⟩]
    simp only [Int.toNat_zero,List.drop_zero,Int.sub_zero,Int.toNat_natCast,List.take_length]
    unfold slashS
    by_cases hh:(List.dropWhile RX.whiteU r).head? =some 92
    ·simp only [if_pos hh]
     rw [if_neg (by simp)]
     rfl
    ·simp only [if_neg hh]
     rfl
   have e5:bmethM (okPat B.sp) (pure1 (.glob (.ref B.sp))) [sliceM (vr 1) (vr 2) (vr 4)] (patG B.sp slashS) (stW B.C k T (i'+1:Nat) (.int sp) (.int en) (.int 1) (.int lv') ch' cells)=patG B.sp slashS [.glob (.ref B.sp), .str r] (stW B.C k T (i'+1:Nat) (.int sp) (.int en) (.int 1) (.int lv') ch' cells):=by
    unfold bmethM
    rw [ok_bnd (x:=pure1 (.glob (.ref B.sp))) (a:= .glob (.ref B.sp)) rfl]
    have:okPat B.sp (.glob (.ref B.sp)) (stW B.C k T (i'+1:Nat) (.int sp) (.int en) (.int 1) (.int lv') ch' cells)=true:=by
     show (B.sp==B.sp)=true
     simp
    rw [if_pos this]
    have ev:evL [sliceM (vr 1) (vr 2) (vr 4)] (stW B.C k T (i'+1:Nat) (.int sp) (.int en) (.int 1) (.int lv') ch' cells)= .ok [.str r] (stW B.C k T (i'+1:Nat) (.int sp) (.int en) (.int 1) (.int lv') ch' cells):=by
     unfold evL;rw [ok_bnd e3];rfl
    rw [ok_bnd ev]
   by_cases hs:slashS r=some none
   ·have e6:ofB (lift2 isNG (bmethM (okPat B.sp) (pure1 (.glob (.ref B.sp))) [sliceM (vr 1) (vr 2) (vr 4)] (patG B.sp slashS)) (pure1 .none)) (stW B.C k T (i'+1:Nat) (.int sp) (.int en) (.int 1) (.int lv') ch' cells)= .ok (.bool true) (stW B.C k T (i'+1:Nat) (.int sp) (.int en) (.int 1) (.int lv') ch' cells):=by
     rw [e4,if_pos hs] at e5
     have e6':lift2 isNG (bmethM (okPat B.sp) (pure1 (.glob (.ref B.sp))) [sliceM (vr 1) (vr 2) (vr 4)] (patG B.sp slashS)) (pure1 .none) (stW B.C k T (i'+1:Nat) (.int sp) (.int en) (.int 1) (.int lv') ch' cells)= .ok true (stW B.C k T (i'+1:Nat) (.int sp) (.int en) (.int 1) (.int lv') ch' cells):=by
      unfold lift2
      rw [ok_bnd e5]
      rfl
     unfold ofB
     rw [ok_bnd e6']
     rfl
    have e7:blk [incV 2 1,setV 5 (ofB (lift2 isNG (bmethM (okPat B.sp) (pure1 (.glob (.ref B.sp))) [sliceM (vr 1) (vr 2) (vr 4)] (patG B.sp slashS)) (pure1 .none)))] (st3 e (i':Nat) (foundV (some (c0::r))) lv' ch')= .ok .next (stW B.C k T (i'+1:Nat) (.int sp) (.int en) (.bool true) (.int lv') ch' cells):=by
     dsimp only [blk]
     rw [ok_seq e2,ok_setV e6 rfl];rfl
    refine ⟨.bool true,_,(ok_iteT e1).trans e7, ?_⟩
    have e8:notM (bnd (vr 5) truG) (stW B.C k T (i'+1:Nat) (.int sp) (.int en) (.bool true) (.int lv') ch' cells)= .ok false (stW B.C k T (i'+1:Nat) (.int sp) (.int en) (.bool true) (.int lv') ch' cells):=rfl
    rw [ok_iteF e8]
    have hcn:cutN wd (y++[10]) (some (c0::r))=(y++[10]).length-r.length:=by
     show (if slashS r=some none then _ else _)=_
     rw [if_pos hs]
    rw [hcn]
    have:i'+1=sp+((y++[10]).length-r.length):=by
     have:i'<en:=g2
     rw [hlr];simp
     show i'+1=sp+(y.length+1-(sp+y.length+1-(i'+1)))
     have:sp≤i':=by
      have:=Sc.len hSc _ rfl
      rw [List.length_cons,hlr] at this
      simp at this
      lia
     lia
    rw [this];rfl
   ·have e6:ofB (lift2 isNG (bmethM (okPat B.sp) (pure1 (.glob (.ref B.sp))) [sliceM (vr 1) (vr 2) (vr 4)] (patG B.sp slashS)) (pure1 .none)) (stW B.C k T (i'+1:Nat) (.int sp) (.int en) (.int 1) (.int lv') ch' cells)= .ok (.bool false) (stW B.C k T (i'+1:Nat) (.int sp) (.int en) (.int 1) (.int lv') ch' cells):=by
     rw [e4,if_neg hs] at e5
     have e6':lift2 isNG (bmethM (okPat B.sp) (pure1 (.glob (.ref B.sp))) [sliceM (vr 1) (vr 2) (vr 4)] (patG B.sp slashS)) (pure1 .none) (stW B.C k T (i'+1:Nat) (.int sp) (.int en) (.int 1) (.int lv') ch' cells)= .ok false (stW B.C k T (i'+1:Nat) (.int sp) (.int en) (.int 1) (.int lv') ch' cells):=by
      unfold lift2
      rw [ok_bnd e5]
      rfl
     unfold ofB
     rw [ok_bnd e6']
     rfl
    have e7:blk [incV 2 1,setV 5 (ofB (lift2 isNG (bmethM (okPat B.sp) (pure1 (.glob (.ref B.sp))) [sliceM (vr 1) (vr 2) (vr 4)] (patG B.sp slashS)) (pure1 .none)))] (st3 e (i':Nat) (foundV (some (c0::r))) lv' ch')= .ok .next (stW B.C k T (i'+1:Nat) (.int sp) (.int en) (.bool false) (.int lv') ch' cells):=by
     dsimp only [blk]
     rw [ok_seq e2,ok_setV e6 rfl];rfl
    refine ⟨.bool false,_,(ok_iteT e1).trans e7, ?_⟩
    have:cutN wd (y++[10]) (some (c0::r))=wd.length:=by
     show (if slashS r=some none then _ else _)=_
     rw [if_neg hs]
    rw [this]
    exact wend (i'+1:Nat) (.bool false) (.int lv') ch' rfl
 obtain ⟨fv,st',main1,main2⟩:=main
 have hcut:cutN wd (y++[10]) o≤y.length+1:=by
  have hw:=congrArg List.length hwd
  simp at hw
  unfold cutN
  split
  ·split
   ·simp
   ·exact Q147 (.n3 _ _ _) hw
  ·exact Q147 (.n3 _ _ _) hw
 have c12:∀lv ch,retM (lift2 addP (bnd (evL [bmethM okStr (sliceM (vr 1) (attrM B.C 0 6 (vr 0)) (vr 2)) [attrM B.C 0 1 (vr 0)] expG]) lenG) (cI 1)) (stW B.C k T (sp+cutN wd (y++[10]) o:Nat) (.int sp) (.int en) fv lv ch cells)=
   .ok (.ret (.int ((expTab tab 0 ((T.drop s).take (W.length+cutN wd (y++[10]) o))).length+1))) (stW B.C k T (sp+cutN wd (y++[10]) o:Nat) (.int sp) (.int en) fv lv ch cells):=by
  intro lv ch
  obtain ⟨S,hS⟩:∃S,S=stW B.C k T (sp+cutN wd (y++[10]) o:Nat) (.int sp) (.int en) fv lv ch cells:=⟨_,rfl⟩
  have r0:vr 0 S= .ok (.inst B.C k) S:=by rw [hS];rfl
  have HS:Obj1 B k vals S:=by rw [hS];exact HO _
  have a6:attrM B.C 0 6 (vr 0) S= .ok (.int s) S:=ok_attr r0 HS h6 rfl
  have a1:attrM B.C 0 1 (vr 0) S= .ok (.int tab) S:=ok_attr r0 HS h1 rfl
  have sl:sliceM (vr 1) (attrM B.C 0 6 (vr 0)) (vr 2) S= .ok (.str ((T.drop s).take (W.length+cutN wd (y++[10]) o))) S:=by
   rw [sl_nat (S:=T) (a:=s) (b:=sp+cutN wd (y++[10]) o) (by rw [hS];rfl) a6 (by rw [hS];rfl) (by unfold sizeMax;exact Q0 (.n1 _) hT) (by lia)]
   rw [show sp+cutN wd (y++[10]) o-s=W.length+cutN wd (y++[10]) o by show s+W.length+_-s=_;exact lin1 (.q .v3 (.a .v1 .v2)) (.b 3 (.a (.a .v0 .v1) .v2) .v0) (.b (.d 1 (.w [0, -1,1]) (.w [1, -1,1])) (.d 1 (.w [0,1,1]) (.w [0,1,1]))) rfl (.n4 _ _ _ _) rfl]
  have ex:bmethM okStr (sliceM (vr 1) (attrM B.C 0 6 (vr 0)) (vr 2)) [attrM B.C 0 1 (vr 0)] expG S= .ok (.str (expTab tab 0 ((T.drop s).take (W.length+cutN wd (y++[10]) o)))) S:=by
   unfold bmethM
   rw [ok_bnd sl]
   rw [if_pos (show okStr _ _=true from rfl)]
   have ev:evL [attrM B.C 0 1 (vr 0)] S= .ok [.int tab] S:=by
    unfold evL;rw [ok_bnd a1];rfl
   rw [ok_bnd ev]
   rw [expG_go ⟨by exact Q34 (.n1 _) htab.1,by exact lin1 (.L (.c .v0) (.k 64)) (.l .v0 (.k 8)) (.w [1,1]) rfl (.n1 _) htab.2,by rw [List.length_take,List.length_drop];exact lin3 (.l .v5 (.k 65536)) (.l .v2 (.k 60000)) (.M 5 (.a .v0 .v1) .v4) (.b 4 .v2 .v3) (.d 2 (.d 5 (.w [0,1,1,1,1,1]) (.w [0,1,1,1,1])) (.d 5 (.w [0,1,0,1,1,1]) (.w [0,1,0,1,1]))) rfl (.n6 _ _ _ _ _ _) hT rfl rfl⟩,Int.toNat_natCast]
  have ln:bnd (evL [bmethM okStr (sliceM (vr 1) (attrM B.C 0 6 (vr 0)) (vr 2)) [attrM B.C 0 1 (vr 0)] expG]) lenG S= .ok (.int (expTab tab 0 ((T.drop s).take (W.length+cutN wd (y++[10]) o))).length) S:=by
   have ev:evL [bmethM okStr (sliceM (vr 1) (attrM B.C 0 6 (vr 0)) (vr 2)) [attrM B.C 0 1 (vr 0)] expG] S= .ok [.str (expTab tab 0 ((T.drop s).take (W.length+cutN wd (y++[10]) o)))] S:=by
    unfold evL;rw [ok_bnd ex];rfl
   rw [ok_bnd ev]
   rw [lenG_str]
   have q1:=expTab_len tab ((T.drop s).take (W.length+cutN wd (y++[10]) o)) 0
   have q2:((T.drop s).take (W.length+cutN wd (y++[10]) o)).length≤60000:=by rw [List.length_take,List.length_drop];exact lin3 (.l .v5 (.k 60000)) (.l .v2 (.k 60000)) (.M 5 (.a .v0 .v1) .v4) (.b 4 .v2 .v3) (.d 2 (.d 5 (.w [0,1,1,1,1,1]) (.w [0,1,1,1,1])) (.d 5 (.w [0,1,0,1,1,1]) (.w [0,1,0,1,1]))) rfl (.n6 _ _ _ _ _ _) hT rfl rfl
   have q3:=Nat.mul_le_mul q2 (show tab+1≤9 by exact lin1 (.l (.a .v0 .k1) (.k 9)) (.l .v0 (.k 8)) (.w [1,1]) rfl (.n1 _) htab.2)
   unfold sizeMax
   exact lin2 (.l .v0 (.k 1048576)) (.l .v0 .v1) (.l .v1 (.m 60000 (.k 9))) (.w [1,1,1]) rfl (.n2 _ _) q1 q3
  rw [←hS]
  have ad:lift2 addP (bnd (evL [bmethM okStr (sliceM (vr 1) (attrM B.C 0 6 (vr 0)) (vr 2)) [attrM B.C 0 1 (vr 0)] expG]) lenG) (cI 1) S= .ok (.int ((expTab tab 0 ((T.drop s).take (W.length+cutN wd (y++[10]) o))).length+1)) S:=by
   unfold lift2
   rw [ok_bnd ln]
   rfl
  unfold retM
  rw [ok_bnd ad]
  rfl
 have run:computeF B ⟨v0,cells0⟩= .ok (.ret (.int ((expTab tab 0 ((T.drop s).take (W.length+cutN wd (y++[10]) o))).length+1))) (stW B.C k T (sp+cutN wd (y++[10]) o:Nat) (.int sp) (.int en) fv (.int lv') ch' cells):=by
  unfold computeF
  dsimp only [blk]
  rw [ok_seq c1,ok_seq c2,ok_seq c3,ok_seq c4,ok_seq c5,ok_seq c6,ok_seq c7,ok_seq c8,ok_seq c9',ok_seq main1,ok_seq main2]
  exact c12 _ _
 unfold callF
 rw [hv0,run]
 rfl
end PT
end Mine
end
section
open PySem
set_option maxRecDepth 10000
set_option tactic.hygienic false
namespace Mine
namespace PT
variable {r w:List Nat}
noncomputable def wordsN:List (List Nat):=["=","b","(a=b)","'='","==","+=","\"\\\"=\"","<=","f[a==b]",")","!=","{'(':'='}","**=","'''\"='''",">=","'\\\\'"].map lit
noncomputable def isSg (w:List Nat):Bool:=w==[61]||w==[43,61]||w==[42,42,61]
noncomputable def Wd (w:List Nat):Prop:=w=[97]∨w∈wordsN
noncomputable def sufT:List (List Nat)→List Nat
 | []=>[92,10]
 | w::r=>w++32::sufT r
noncomputable def sufY:List (List Nat)→List Nat
 | []=>[92]
 | w::r=>w++32::sufY r
theorem sufT_eq:∀ws,sufT ws=sufY ws++[10]
 | []=>rfl
 | w::r=>by unfold sufT sufY;rw [sufT_eq r];simp
theorem wd_cases {P:List Nat→Prop} (h0:P [97]) (h1:∀w∈wordsN,P w) (h:Wd w):P w:=by
 rcases h with rfl | h
 ·exact h0
 ·exact h1 w h
theorem run_word (h:Wd w) (lno:Nat) (good:List Nat) (cont:Nat) (r:List Nat):run .pl ⟨0,lno,good,cont⟩ ((w++32::r).map transF)=run .pl ⟨0,lno,good,cont⟩ (r.map transF):=by
 have key:∀w∈[97]::wordsN,run .pl ⟨0,lno,good,cont⟩ ((w++32::r).map transF)=run .pl ⟨0,lno,good,cont⟩ (r.map transF):=by
  intro w hw
  have e:([97]::wordsN)=[[97],[61],[98],[40,97,61,98,41],[39,61,39],[61,61],[43,61],[34,92,34,61,34],[60,61],[102,91,97,61,61,98,93],[41],[33,61],[123,39,40,39,58,39,61,39,125],[42,42,61],[39,39,39,34,61,39,39,39],[62,61],[39,92,92,39]]:=by decide
  rw [e] at hw
  simp only [List.mem_cons,List.not_mem_nil,or_false] at hw
  rcases hw with rfl | rfl | rfl | rfl | rfl | rfl | rfl | rfl | rfl | rfl | rfl | rfl | rfl | rfl | rfl | rfl | rfl <;> rfl
 exact key w (by rcases h with rfl | h;exact .head _;exact .tail _ h)
theorem w2_word (h:Wd w) (hr:W2 r):W2 (w++32::r):=by
 have key:∀w∈[97]::wordsN,W2 (w++32::r):=by
  intro w hw
  have e:([97]::wordsN)=[[97],[61],[98],[40,97,61,98,41],[39,61,39],[61,61],[43,61],[34,92,34,61,34],[60,61],[102,91,97,61,61,98,93],[41],[33,61],[123,39,40,39,58,39,61,39,125],[42,42,61],[39,39,39,34,61,39,39,39],[62,61],[39,92,92,39]]:=by decide
  rw [e] at hw
  simp only [List.mem_cons,List.not_mem_nil,or_false] at hw
  rcases hw with rfl | rfl | rfl | rfl | rfl | rfl | rfl | rfl | rfl | rfl | rfl | rfl | rfl | rfl | rfl | rfl | rfl <;>
   (repeat first | exact hr | exact W2.ord rfl hr | refine W2.ord rfl ?_ | refine W2.br (by decide) ?_ | refine W2.str (by decide) ?_)
 exact key w (by rcases h with rfl | h;exact .head _;exact .tail _ h)
noncomputable def oOf:List (List Nat)→Option (List Nat)
 | []=>none
 | w::r=>if isSg w then some (61::32::sufT r) else oOf r
theorem sc_word (h:Wd w) {pr:Option Nat} (hp:preOk pr=true) {o:Option (List Nat)} (hr:Sc 0 (some 32) r o):Sc 0 pr (w++32::r) (if isSg w then some (61::32::r) else o):=by
 have key:∀w∈[97]::wordsN,Sc 0 pr (w++32::r) (if isSg w then some (61::32::r) else o):=by
  intro w hw
  have e:([97]::wordsN)=[[97],[61],[98],[40,97,61,98,41],[39,61,39],[61,61],[43,61],[34,92,34,61,34],[60,61],[102,91,97,61,61,98,93],[41],[33,61],[123,39,40,39,58,39,61,39,125],[42,42,61],[39,39,39,34,61,39,39,39],[62,61],[39,92,92,39]]:=by decide
  rw [e] at hw
  simp only [List.mem_cons,List.not_mem_nil,or_false] at hw
  rcases hw with rfl | rfl | rfl | rfl | rfl | rfl | rfl | rfl | rfl | rfl | rfl | rfl | rfl | rfl | rfl | rfl | rfl <;>
   (repeat first | exact hr | exact Sc.eq hp (by decide) | exact Sc.eq rfl (by decide) | refine Sc.op (by decide) ?_ | refine Sc.cl (by decide) ?_ | refine Sc.st (by decide) ?_ | refine Sc.ot rfl (fun e=>absurd e (by decide)) ?_ | refine Sc.ot rfl (fun _=>⟨_,_,rfl,by simp [preOk,lit]⟩) ?_)
 exact key w (by rcases h with rfl | h;exact .head _;exact .tail _ h)
end PT
end Mine
end
section
open PySem
set_option maxRecDepth 10000
set_option tactic.hygienic false
namespace Mine
namespace PT
noncomputable def plen (ws:List (List Nat)):Nat:=(ws.map fun w=>w.length+1).sum
noncomputable def sgAt:List (List Nat)→Option Nat
 | []=>none
 | [_]=>none
 | w::x::r=>if isSg w then some 0 else (sgAt (x::r)).map (· + 1)
noncomputable def adv (ws:List (List Nat)):Nat:=match sgAt ws with
 | some j=>j+1
 | none=>1
theorem sufT_len:∀ws,(sufT ws).length=plen ws+2
 | []=>rfl
 | w::r=>by unfold sufT;rw [List.length_append,List.length_cons,sufT_len r];unfold plen;simp;exact lin0 (.q (.a .v0 (.a (.a .v1 (.k 2)) .k1)) (.a (.a (.a .v0 .k1) .v1) (.k 2))) (.b (.w [1]) (.w [1])) rfl (.n2 _ _)
theorem sgAt_lt:∀{ws:List (List Nat)}{j:Nat},sgAt ws=some j→j+1<ws.length
 | [],_,h=>by cases h
 | [_],_,h=>by cases h
 | w::x::r,j,h=>by
  unfold sgAt at h
  split at h
  ·cases h;simp
  ·cases e:sgAt (x::r) with
   | none=>rw [e] at h;cases h
   | some i=>
    rw [e] at h
    have:=sgAt_lt e
    simp at h this ⊢
    exact lin2 (.t .v0 (.a .v1 .k1)) (.q (.a .v2 .k1) .v0) (.t .v2 .v1) (.w [1, -1,1]) rfl (.n3 _ _ _) h this
theorem oOf_some:∀{ws:List (List Nat)}{j:Nat},sgAt ws=some j→oOf ws=some (61::32::sufT (ws.drop (j+1)))
 | [],_,h=>by cases h
 | [_],_,h=>by cases h
 | w::x::r,j,h=>by
  unfold sgAt at h
  unfold oOf
  split at h
  ·rename_i hs
   cases h
   rw [if_pos hs];rfl
  ·rename_i hs
   rw [if_neg hs]
   cases e:sgAt (x::r) with
   | none=>rw [e] at h;cases h
   | some i=>
    rw [e] at h
    simp at h
    subst h
    exact oOf_some e
theorem oOf_none:∀{ws:List (List Nat)},sgAt ws=none→oOf ws=none∨oOf ws=some (61::32::sufT [])
 | [],_=> .inl rfl
 | [w],_=>by
  unfold oOf
  split
  ·exact .inr rfl
  ·exact .inl rfl
 | w::x::r,h=>by
  unfold sgAt at h
  unfold oOf
  split at h
  ·cases h
  ·rename_i hs
   rw [if_neg hs]
   exact oOf_none (by simpa using h)
structure WdF (w:List Nat):Prop where
 ne:w≠[]
 ok:∀c∈w,c≠10∧c≠32∧c≠9∧c≠13∧c<128
 hd:∀c,w.head? =some c→c≠92∧c≠35∧RX.whiteU c=false
 len:w.length≤9
theorem wd_f {w:List Nat} (h:Wd w):WdF w:=by
 have key:∀w∈[97]::wordsN,w≠[]∧(∀c∈w,c≠10∧c≠32∧c≠9∧c≠13∧c<128)∧(w.head? ≠some 92∧w.head? ≠some 35∧(w.head?.all fun c=> !RX.whiteU c)=true)∧w.length≤9:=by decide
 obtain ⟨a,b,c,d⟩:=key w (by rcases h with rfl | h;exact .head _;exact .tail _ h)
 refine ⟨a,b,fun x hx=> ?_,d⟩
 rw [hx] at c
 obtain ⟨c1,c2,c3⟩:=c
 refine ⟨fun e=>c1 (by rw [e]),fun e=>c2 (by rw [e]),by simpa using c3⟩
theorem slash_word {ws:List (List Nat)} (hw:∀w∈ws,Wd w) (hne:ws≠[]):slashS (32::sufT ws)=some none:=by
 cases ws with
 | nil=>exact absurd rfl hne
 | cons w r=>
  have f:=wd_f (hw w (.head _))
  cases w with
  | nil=>exact absurd rfl f.ne
  | cons c w=>
   obtain ⟨h1,_,h3⟩:=f.hd c rfl
   unfold slashS
   have e:(List.dropWhile RX.whiteU (32::sufT ((c::w)::r))).head? =some c:=by
    have e1:RX.whiteU 32=true:=by decide
    rw [List.dropWhile_cons,e1]
    simp only [if_true]
    show (List.dropWhile RX.whiteU (c::(w++32::sufT r))).head? =some c
    rw [List.dropWhile_cons,h3]
    rfl
   rw [e,if_neg (by simpa using h1)]
theorem cutN_some (wd Y:List Nat) (c:Nat) (r:List Nat):cutN wd Y (some (c::r))=if slashS r=some none then Y.length-r.length else wd.length:=rfl
noncomputable def fstW (ws:List (List Nat)):List Nat:=match ws with
 | []=>[92]
 | w::_=>w
theorem cut_eq {ws:List (List Nat)} (hw:∀w∈ws,Wd w):cutN (fstW ws) (sufT ws) (oOf ws)+1=plen ((ws++[[92]]).take (adv ws)):=by
 have hfst:(fstW ws).length+1=plen ((ws++[[92]]).take 1):=by
  cases ws <;> simp [fstW,plen]
 cases hs:sgAt ws with
 | none=>
  have ha:adv ws=1:=by unfold adv;rw [hs]
  rw [ha, ←hfst]
  rcases oOf_none hs with e | e
  ·rw [e];rfl
  ·rw [e]
   rw [cutN_some,if_neg (by decide)]
 | some j=>
  have ha:adv ws=j+1:=by unfold adv;rw [hs]
  have hj:=sgAt_lt hs
  rw [ha,oOf_some hs]
  have hne:ws.drop (j+1)≠[]:=fun e=>by
   have:=congrArg List.length e
   rw [List.length_drop] at this
   simp at this;exact lin3 .f (.t (.a .v0 .k1) .v1) (.q .v2 .k0) (.b 2 .v1 (.a .v0 .k1)) (.d 3 (.w [0, -1,0,1,1]) (.w [1,0,0,1])) rfl (.n3 _ _ _) hj this rfl
  rw [cutN_some,if_pos (slash_word (fun w h=>hw w (List.mem_of_mem_drop h)) hne),List.length_cons,sufT_len,sufT_len,List.take_append_of_le_length (by exact lin1 (.l (.a .v0 .k1) .v1) (.t (.a .v0 .k1) .v1) (.w [1,1]) rfl (.n2 _ _) hj)]
  have e:plen ws=plen (ws.take (j+1))+plen (ws.drop (j+1)):=by
   unfold plen
   rw [←List.sum_append, ←List.map_append,List.take_append_drop]
  have h1:1≤plen (ws.take (j+1)):=by
   cases ws with
   | nil=>simp at hj
   | cons w r=>unfold plen;simp;exact lin0 (.l .k1 (.a (.a .v0 .k1) .v1)) (.w [1]) rfl (.n2 _ _)
  exact lin3 (.q (.a .v3 .k1) .v2) (.q .v0 (.a .v2 .v1)) (.l .k1 .v2) (.b 3 (.a .v0 (.k 2)) (.a (.a .v1 (.k 2)) .k1)) (.b (.d 3 (.w [0, -1,1, -1]) (.w [1, -1,1, -1])) (.d 3 (.w [0,1,1,1]) (.w [0,1,1,0,1]))) rfl (.n4 _ _ _ _) e h1 rfl
theorem run_white:∀(W:List Nat) (z:Z) (r:List Nat),(∀c∈W,c=32∨c=9)→run .pl z ((W++r).map transF)=run .pl z (r.map transF)
 | [],_,_,_=>rfl
 | c::W,z,r,h=>by
  rcases h c (.head _) with rfl | rfl <;> exact run_white W z r fun x hx=>h x (.tail _ hx)
theorem run_suf:∀(ws:List (List Nat)),(∀w∈ws,Wd w)→run .pl z0 ((sufT ws).map transF)=some (.pl,⟨0,1,[0],1⟩)
 | [],_=>rfl
 | w::r,h=>by
  unfold sufT
  show run .pl ⟨0,0,[0],0⟩ _=_
  rw [run_word (h w (.head _))]
  exact run_suf r fun x hx=>h x (.tail _ hx)
theorem w2_white:∀(W:List Nat) (r:List Nat),(∀c∈W,c=32∨c=9)→W2 r→W2 (W++r)
 | [],_,_,h=>h
 | c::W,r,h,hr=>by
  refine .ord ?_ (w2_white W r (fun x hx=>h x (.tail _ hx)) hr)
  rcases h c (.head _) with rfl | rfl <;> rfl
theorem w2_suf:∀(ws:List (List Nat)),(∀w∈ws,Wd w)→W2 (sufT ws)
 | [],_=> .bs .nil
 | w::r,h=>w2_word (h w (.head _)) (w2_suf r fun x hx=>h x (.tail _ hx))
theorem sc_suf:∀(ws:List (List Nat)),(∀w∈ws,Wd w)→∀{pr:Option Nat},preOk pr=true→Sc 0 pr (sufT ws) (oOf ws)
 | [],_,_,_=> .ot rfl (fun e=>absurd e (by decide)) (.ot rfl (fun e=>absurd e (by decide)) .nil)
 | w::r,h,_,hp=>by
  have:=sc_word (h w (.head _)) hp (sc_suf r (fun x hx=>h x (.tail _ hx)) (pr:=some 32) rfl)
  exact this
theorem no10_suf:∀(ws:List (List Nat)),(∀w∈ws,Wd w)→10∉sufY ws
 | [],_=>by decide
 | w::r,h=>by
  unfold sufY
  rw [List.mem_append,List.mem_cons]
  rintro (h1 | h1 | h1)
  ·exact ((wd_f (h w (.head _))).ok 10 h1).1 rfl
  ·cases h1
  ·exact no10_suf r (fun x hx=>h x (.tail _ hx)) h1
theorem no9_suf:∀(ws:List (List Nat)),(∀w∈ws,Wd w)→9∉sufT ws
 | [],_=>by decide
 | w::r,h=>by
  unfold sufT
  rw [List.mem_append,List.mem_cons]
  rintro (h1 | h1 | h1)
  ·exact ((wd_f (h w (.head _))).ok 9 h1).2.2.1 rfl
  ·cases h1
  ·exact no9_suf r (fun x hx=>h x (.tail _ hx)) h1
theorem asc_suf:∀(ws:List (List Nat)),(∀w∈ws,Wd w)→∀c∈sufT ws,c<128
 | [],_,c,hc=>by simp [sufT] at hc;lia
 | w::r,h,c,hc=>by
  unfold sufT at hc
  rw [List.mem_append,List.mem_cons] at hc
  rcases hc with h1 | rfl | h1
  ·exact ((wd_f (h w (.head _))).ok c h1).2.2.2.2
  ·decide
  ·exact asc_suf r (fun x hx=>h x (.tail _ hx)) c h1
theorem plen_le:∀(ws:List (List Nat)),(∀w∈ws,Wd w)→plen ws≤10*ws.length
 | [],_=>Nat.le_refl _
 | w::r,h=>by
  have h1:=(wd_f (h w (.head _))).len
  have h2:=plen_le r fun x hx=>h x (.tail _ hx)
  unfold plen at h2 ⊢
  simp only [List.map_cons,List.sum_cons,List.length_cons]
  exact lin2 (.l (.a (.a .v0 .k1) .v1) (.m 10 (.a .v2 .k1))) (.l .v0 (.k 9)) (.l .v1 (.m 10 .v2)) (.w [1,1,1]) rfl (.n3 _ _ _) h1 h2
theorem exp_app (n:Nat):∀(l1 l2:List Nat) (col:Nat),9∉l2→(expTab n col (l1++l2)).length=(expTab n col l1).length+l2.length
 | [],l2,col,h=>by rw [List.nil_append,expTab_id n l2 col h];simp [expTab]
 | c::r,l2,col,h=>by
  rw [List.cons_append]
  unfold expTab
  split
  ·rw [List.length_append,List.length_append,exp_app n r l2 _ h];exact Q148 (.n3 _ _ _)
  ·rw [List.length_cons,List.length_cons,exp_app n r l2 _ h];exact lin0 (.q (.a (.a .v0 .v1) .k1) (.a (.a .v0 .k1) .v1)) (.b (.w [1]) (.w [1])) rfl (.n2 _ _)
end PT
end Mine
end
section
open PySem
set_option maxRecDepth 10000
set_option tactic.hygienic false
namespace Mine
namespace PT
variable {i k nv tab:Nat}{vals vars:List PV}{σ:St}{F:PM Fl}{B:Ads}{cells:List PCell}
theorem ok_meth1 {C:Addr}{σ':St}{fs:List (PM PV)}{as:List PV}{r:Res PV} (hC:C=B.C) (hv:vr i σ= .ok (.inst B.C k) σ) (h:Obj1 B k vals σ) (he:evL fs σ= .ok as σ')
  (hr:callF nv F (.inst B.C k::as) σ'=r):methM C 0 (vr i) fs (callF nv F) σ=r:=by
 subst hC
 unfold methM
 rw [ok_bnd hv]
 unfold instK
 dsimp only
 rw [if_pos rfl]
 dsimp only
 rw [dct_of h]
 dsimp only
 rw [ok_bnd he]
 exact hr
theorem ok_methT {r:Res PV} (hv:vr i σ= .ok (.inst B.C k) σ) (h:Obj1 B k vals σ) (hr:callT nv F [.inst B.C k] σ=r):
  methM B.C 0 (vr i) [] (callT nv F) σ=r:=by
 unfold methM
 rw [ok_bnd hv]
 unfold instK
 dsimp only
 rw [if_pos rfl]
 dsimp only
 rw [dct_of h]
 exact hr
theorem setcode_ok {T:List Nat} (h:Obj1 B k vals ⟨vars,cells⟩) (hT:T.length≤60000) (he:T.getLast? =some 10):
  callF 2 (setcodeF B) [.inst B.C k, .str T] ⟨vars,cells⟩= .ok .none ⟨vars,cells.set k (.dct 0 ((vals.set 2 (.str T)).set 3 (.int 0)))⟩:=by
 have H:Obj1 B k vals ⟨[.inst B.C k, .str T],cells⟩:=⟨h.cell,h.len⟩
 have hne:T≠[]:=fun e=>by rw [e] at he;cases he
 have hpos:0<T.length:=List.length_pos_iff.mpr hne
 have s0:assertM (orM (eqM (lenM (vr 1)) (cI 0)) (eqM (itm (vr 1) neg1) (cS "\n"))) ⟨[.inst B.C k, .str T],cells⟩= .ok .next ⟨[.inst B.C k, .str T],cells⟩:=by
  refine asT ?_
  have e1:lenM (vr 1) ⟨[.inst B.C k, .str T],cells⟩= .ok (.int T.length) ⟨[.inst B.C k, .str T],cells⟩:=by
   show lenG [.str T] _=_
   rw [lenG_str (by unfold sizeMax;exact Q0 (.n1 _) hT)]
  have e2:eqM (lenM (vr 1)) (cI 0) ⟨[.inst B.C k, .str T],cells⟩= .ok false ⟨[.inst B.C k, .str T],cells⟩:=by
   show bnd _ _ _=_
   rw [ok_bnd e1]
   show Res.ok ((T.length:Int)==0) _=_
   have:((T.length:Int)==0)=false:=by rw [beq_eq_false_iff_ne];exact Q53 (.n1 _) hpos
   rw [this]
  unfold orM
  rw [ok_bnd e2]
  simp only [Bool.false_eq_true,if_false]
  have e3:itm (vr 1) neg1 ⟨[.inst B.C k, .str T],cells⟩= .ok (.str [10]) ⟨[.inst B.C k, .str T],cells⟩:=by
   show itemP (.str T) (.int (-1)) _=_
   unfold itemP
   dsimp only
   rw [if_pos (by unfold sizeMax;exact Q0 (.n1 _) hT)]
   have e4:seqIndex? (-1) T.length=some (T.length-1):=by
    unfold seqIndex?
    simp
    exact ⟨⟨Q46 (.n1 _) hpos,Q47 (.n1 _)⟩,Q48 (.n3 _ _ _) rfl rfl⟩
   rw [e4]
   dsimp only
   rw [List.getLast?_eq_getElem?] at he
   rw [List.getD_eq_getElem?_getD,he]
   rfl
  show bnd _ _ _=_
  rw [ok_bnd e3]
  rfl
 have s1:setAttrM B.C 0 2 (vr 1) (vr 0) ⟨[.inst B.C k, .str T],cells⟩= .ok .next ⟨[.inst B.C k, .str T],cells.set k (.dct 0 (vals.set 2 (.str T)))⟩:=ok_setAttr rfl H rfl rfl
 have H1:Obj1 B k (vals.set 2 (.str T)) ⟨[.inst B.C k, .str T],cells.set k (.dct 0 (vals.set 2 (.str T)))⟩:=H.set
 have s2:setAttrM B.C 0 3 (cI 0) (vr 0) ⟨[.inst B.C k, .str T],cells.set k (.dct 0 (vals.set 2 (.str T)))⟩= .ok .next ⟨[.inst B.C k, .str T],cells.set k (.dct 0 ((vals.set 2 (.str T)).set 3 (.int 0)))⟩:=by
  rw [ok_setAttr (fe:=cI 0) (v:= .int 0) rfl H1 rfl rfl,List.set_set]
 unfold callF
 have hv:vars0 2 [.inst B.C k, .str T]=[.inst B.C k, .str T]:=rfl
 rw [hv]
 have run:setcodeF B ⟨[.inst B.C k, .str T],cells⟩= .ok .next ⟨[.inst B.C k, .str T],cells.set k (.dct 0 ((vals.set 2 (.str T)).set 3 (.int 0)))⟩:=by
  unfold setcodeF
  dsimp only [blk]
  rw [ok_seq s0,ok_seq s1]
  exact s2
 rw [run]
noncomputable def Par (k:Nat) (tab:Nat) (cells:List PCell):Prop:=∃vals,cells[k]? =some (.dct 0 vals)∧vals.length=11∧vals[1]? =some (.int tab)
theorem Par.forget {n:Nat} (h:Par k tab cells) (hk:k<n):Par k tab ((cells.take n).map (forgetC n)):=by
 obtain ⟨vals,h1,h2,h3⟩:=h
 refine ⟨vals.map (Mine.forget n), ?_,by rw [List.length_map];exact h2, ?_⟩
 ·rw [List.getElem?_map,List.getElem?_take_of_lt hk,h1];rfl
 ·rw [List.getElem?_map,h3];rfl
theorem told2 {W:List Nat}{ws:List (List Nat)} (h:cells[k]? =some (.dct 0 vals)) (hl:vals.length=11) (ht:vals[1]? =some (.int tab)) (htab:0<tab∧tab≤8)
  (hT:vals[2]? =some (.str (W++sufT ws))) (hlv:vals[3]? =some (.int 0)) (hW:∀c∈W,c=32∨c=9) (hWl:W.length≤1000) (hw:∀w∈ws,Wd w) (hwl:ws.length≤100):
  ∃cells',callT 8 (computeF B) [.inst B.C k] ⟨vars,cells⟩= .ok (.int ((expTab tab 0 W).length+plen ((ws++[[92]]).take (adv ws)):Nat)) ⟨vars,cells'⟩∧cells'.length=cells.length∧Par k tab cells':=by
 obtain ⟨T,hTe⟩:∃T,T=W++sufT ws:=⟨_,rfl⟩
 rw [←hTe] at hT
 have hkl:k<cells.length:=lt_of_some h
 have hpl:=plen_le ws hw
 have hsl:=sufT_len ws
 have hTl:T.length=W.length+(plen ws+2):=by rw [hTe,List.length_append,hsl]
 have hT1:T=(W++sufY ws)++[10]:=by rw [hTe,sufT_eq];simp
 have hn10:10∉W++sufY ws:=by
  rw [List.mem_append]
  rintro (h1 | h1)
  ·rcases hW 10 h1 with h2 | h2 <;> cases h2
  ·exact no10_suf ws hw h1
 have hlen1:(W++sufY ws).length+1=T.length:=by rw [hT1];simp;exact lin0 (.q (.a (.a .v0 .v1) .k1) (.a .v0 (.a .v1 .k1))) (.b (.w [1]) (.w [1])) rfl (.n2 _ _)
 have S:St1 T ⟨0,1,[0],1⟩:=by
  refine ⟨?_,by exact Q149 (.n4 _ _ _ _) hWl hwl hpl hTl, .inr (by rw [hT1];simp), ?_,by simp,by simp, ?_⟩
  ·rw [List.all_eq_true]
   intro c hc
   rw [hTe,List.mem_append] at hc
   rcases hc with hc | hc
   ·rcases hW c hc with rfl | rfl <;> rfl
   ·exact decide_eq_true (asc_suf ws hw c hc)
  ·refine ⟨(.pl,⟨0,1,[0],1⟩), ?_,rfl⟩
   rw [hTe,run_white W _ _ hW]
   exact run_suf ws hw
  ·show (1:Nat)=0↔(0:Nat)=1
   lia
 have hL:Lines T 0 T.length 1:=by
  refine .line (.nil) (by exact Q150 (.n3 _ _ _) hTl) ?_ ?_ (.inl rfl) (Nat.le_refl _)
  ·rw [hT1];simp
  ·intro a _ ha
   rw [hT1,List.getElem?_append_left (by exact lin3 (.t .v0 .v1) (.q (.a .v1 .k1) .v2) (.t .v0 .v3) (.b 3 .v2 .k1) (.d 3 (.w [0,1,1, -1,1]) (.w [0,1,0,0,1])) rfl (.n4 _ _ _ _) hlen1 ha rfl)]
   intro e
   exact hn10 (List.mem_of_getElem? e)
 have hj:junkS (T.drop 0)=some none:=by
  rw [List.drop_zero,hTe]
  have e:∀(W:List Nat),(∀c∈W,c=32∨c=9)→(List.dropWhile RX.white2 (W++sufT ws)).head? =(sufT ws).head? :=by
   intro W
   induction W with
   | nil=>
    intro _
    cases ws with
    | nil=>rfl
    | cons w r=>
     have f:=wd_f (hw w (.head _))
     cases w with
     | nil=>exact absurd rfl f.ne
     | cons c w=>
      have:=f.ok c (.head _)
      show (List.dropWhile RX.white2 (c::_)).head? =_
      rw [List.dropWhile_cons]
      have e:RX.white2 c=false:=by unfold RX.white2;simp;exact ⟨Q57 (.n1 _) this.1 this.2.1,Q58 (.n1 _) this.1 this.2.1 this.2.2.1⟩
      rw [e];rfl
   | cons c W ih=>
    intro h
    have e:RX.white2 c=true:=by rcases h c (.head _) with rfl | rfl <;> rfl
    rw [List.cons_append,List.dropWhile_cons,e]
    exact ih fun x hx=>h x (.tail _ hx)
  unfold junkS
  rw [e W hW]
  cases ws with
  | nil=>rfl
  | cons w r=>
   have f:=wd_f (hw w (.head _))
   cases w with
   | nil=>exact absurd rfl f.ne
   | cons c w=>
    have h1:=f.ok c (.head _)
    have h2:=f.hd c rfl
    show (if c=35∨c=10 then none else some none)=_
    rw [if_neg (by lia)]
 have hw2:W2 (T.drop 0):=by rw [List.drop_zero,hTe];exact w2_white W _ hW (w2_suf ws hw)
 let v0:List PV:= .inst B.C k::List.replicate 7 .unb
 have HO:Obj1 B k vals ⟨v0,cells⟩:=⟨h,hl⟩
 obtain ⟨vals2,ex,g1,g2,g3,g4,g5,g6,g7⟩:=study2_ok (s:=0) (a:=0) (b:=1) (pre:=[]) HO hT hlv S rfl (by exact lin0 (.l .k0 .k1) (.w [1]) rfl .o) (by exact lin0 (.l .k1 (.k 100000)) (.w [1]) rfl .o) (by simp) hL (Nat.zero_le _) (by exact Q150 (.n3 _ _ _) hTl) hj hw2
 have H2:Obj1 B k vals2 ⟨[],cells.set k (.dct 0 vals2)++ex⟩:=⟨by
  show (cells.set k (.dct 0 vals2)++ex)[k]? =_
  rw [List.getElem?_append_left (by rw [List.length_set];exact hkl),List.getElem?_set_self hkl],g2⟩
 have hpr:preOk (if 0+W.length=0 then none else T[0+W.length-1]?)=true:=by
  split
  ·rfl
  ·rename_i hne
   have hlt:W.length-1<W.length:=by exact lin2 (.t .v1 .v0) (.n (.q (.a .k0 .v0) .k0)) (.b 1 .v0 .k1) (.d 2 (.w [0,1,1]) (.w [0,1,1,1])) rfl (.n2 _ _) hne rfl
   rw [hTe,Nat.zero_add,List.getElem?_append_left hlt,List.getElem?_eq_getElem hlt]
   rcases hW _ (List.getElem_mem hlt) with e | e <;> rw [e] <;> rfl
 have hc:=compute_ok (B:=B) (k:=k) (T:=T) (vals:=vals2) (vars:=vars) (cells:=cells.set k (.dct 0 vals2)++ex) (cells0:=cells) (s:=0) (tab:=tab) (W:=W) (X:=sufT ws) (y:=sufY ws) (Z:=[]) (wd:=fstW ws)
  (rr:=match ws with | []=>[] | _::r=>sufT r) (e0:=match ws with | []=>10 | _=>32) (o:=oOf ws)
  (ok_meth rfl HO g1) H2 (by rw [g3,ht]) g4 g6 g7 htab (by exact Q149 (.n4 _ _ _ _) hWl hwl hpl hTl) (by rw [List.drop_zero,hTe]) hW (sufT_eq ws) (no10_suf ws hw) ?_ ?_ ?_ ?_ ?_ ?_
 rotate_left
 ·intro x hx
  cases ws with
  | nil=>cases hx;decide
  | cons w r=>
   have f:=wd_f (hw w (.head _))
   cases w with
   | nil=>exact absurd rfl f.ne
   | cons c w=>
    cases hx
    have:=f.ok x (.head _)
    exact ⟨Q57 (.n1 _) this.1 this.2.1,Q58 (.n1 _) this.1 this.2.1 this.2.2.1⟩
 ·rw [←sufT_eq]
  cases ws with
  | nil=>rfl
  | cons w r=>rfl
 ·intro x hx
  cases ws with
  | nil=>simp [fstW] at hx;exact ⟨lin1 (.n (.q .v0 (.k 32))) (.q .v0 (.k 92)) (.w [1, -1]) rfl (.n1 _) hx,⟨lin1 (.n (.q .v0 (.k 9))) (.q .v0 (.k 92)) (.w [1, -1]) rfl (.n1 _) hx,lin1 (.n (.q .v0 (.k 10))) (.q .v0 (.k 92)) (.w [1, -1]) rfl (.n1 _) hx⟩⟩
  | cons w r=>
   have:=(wd_f (hw w (.head _))).ok x hx
   exact ⟨Q57 (.n1 _) this.1 this.2.1,⟨Q58 (.n1 _) this.1 this.2.1 this.2.2.1,lin1 (.n (.q .v0 (.k 10))) (.n (.q .v0 (.k 10))) (.d 1 (.w [1, -1]) (.w [1,1])) rfl (.n1 _) this.1⟩⟩
 ·cases ws <;> simp
 ·rw [←sufT_eq];exact sc_suf ws hw hpr
 ·intro suf hsuf
  cases hs:sgAt ws with
  | none=>
   rcases oOf_none hs with e | e
   ·rw [e] at hsuf;cases hsuf
   ·rw [e] at hsuf;cases hsuf;exact ⟨_,_,rfl⟩
  | some j=>rw [oOf_some hs] at hsuf;cases hsuf;exact ⟨_,_,rfl⟩
 have hcut:=cut_eq hw
 rw [←sufT_eq] at hc
 have hn9:9∉(sufT ws).take (cutN (fstW ws) (sufT ws) (oOf ws)):=fun hm=>no9_suf ws hw (List.mem_of_mem_take hm)
 have hcl:cutN (fstW ws) (sufT ws) (oOf ws)≤(sufT ws).length:=by
  have hf:(fstW ws).length≤(sufT ws).length:=by
   cases ws with
   | nil=>decide
   | cons w r=>show w.length≤(w++32::sufT r).length;simp
  unfold cutN
  split
  ·split
   ·exact lin1 (.l .v2 .v0) (.b 2 .v0 .v1) (.d 1 (.w [0,1,1]) (.w [0,1,1])) rfl (.n3 _ _ _) rfl
   ·exact hf
  ·exact hf
 have hval:(expTab tab 0 ((T.drop 0).take (W.length+cutN (fstW ws) (sufT ws) (oOf ws)))).length+1=(expTab tab 0 W).length+plen ((ws++[[92]]).take (adv ws)):=by
  rw [List.drop_zero,hTe,List.take_append,List.take_of_length_le (by exact Q50 (.n2 _ _)),show W.length+cutN (fstW ws) (sufT ws) (oOf ws)-W.length=cutN (fstW ws) (sufT ws) (oOf ws) by exact lin1 (.q .v2 .v1) (.b 2 (.a .v0 .v1) .v0) (.b (.d 1 (.w [0, -1,1]) (.w [1, -1,1])) (.d 1 (.w [0,1,1]) (.w [0,1,1]))) rfl (.n3 _ _ _) rfl,exp_app tab W _ 0 hn9,List.length_take,
   Nat.min_eq_left hcl]
  exact lin1 (.q (.a (.a .v0 .v1) .k1) (.a .v0 .v2)) (.q (.a .v1 .k1) .v2) (.b (.w [1, -1]) (.w [1,1])) rfl (.n3 _ _ _) hcut
 refine ⟨((cells.set k (.dct 0 vals2)++ex).take cells.length).map (forgetC cells.length), ?_, ?_, ?_⟩
 ·unfold callT
  rw [hc]
  have hb:handBack cells.length (cells.set k (.dct 0 vals2)++ex) (.int ((((expTab tab 0 ((T.drop 0).take (W.length+cutN (fstW ws) (sufT ws) (oOf ws)))).length:Nat):Int)+1))=some (.int ((((expTab tab 0 ((T.drop 0).take (W.length+cutN (fstW ws) (sufT ws) (oOf ws)))).length:Nat):Int)+1)):=rfl
  dsimp only
  rw [hb]
  dsimp only
  rw [←hval]
  rfl
 ·simp
 ·refine Par.forget (n:=cells.length) ⟨vals2,H2.cell,g2,by rw [g3,ht]⟩ hkl
end PT
end Mine
end
section
open PySem
set_option maxRecDepth 10000
set_option tactic.hygienic false
namespace Mine
namespace PT
variable {j k n tab:Nat}{cells ex:List PCell}{S cs:List Nat}
noncomputable abbrev intsV (l:List Nat):List PV:=l.map fun n:Nat=> .int n
noncomputable abbrev strsV (ws:List (List Nat)):List PV:=ws.map .str
theorem forget_ints (n:Nat) (l:List Nat):(intsV l).map (Mine.forget n)=intsV l:=by
 rw [List.map_map];rfl
theorem forgetC_ints (n:Nat) (l:List Nat):forgetC n (.list (intsV l))= .list (intsV l):=by
 show PCell.list ((intsV l).map (Mine.forget n))=_
 rw [forget_ints]
theorem compL_cons {t:PV→PM Bool}{e:PV→PM PV}{x:PV}{r:List PV}{σ:St} (h:scal x=true):compL k t e (x::r) σ=bnd (t x) (fun b=>if b then bnd (e x) fun v=>bnd (appendG [.cell k,v]) fun _=>compL k t e r else compL k t e r) σ:=by
 rw [compL,h]
 rfl
structure CL (n k tab:Nat) (S cs:List Nat) (cells:List PCell):Prop where
 s:cells[n]? =some (.list (intsV S))
 c:cells[n+1]? =some (.list (intsV cs))
 par:Par k tab cells
theorem forgetAll {c:PCell} (h:cells[j]? =some c):((cells.take cells.length).map (forgetC cells.length))[j]? =some (forgetC cells.length c):=by
 rw [List.take_length,List.getElem?_map,h];rfl
theorem CL.forget (h:CL n k tab S cs cells):CL n k tab S cs ((cells.take cells.length).map (forgetC cells.length)):=by
 refine ⟨?_, ?_, ?_⟩
 ·rw [forgetAll h.s,forgetC_ints]
 ·rw [forgetAll h.c,forgetC_ints]
 ·have:k<cells.length:=by obtain ⟨v,h1,_⟩:=h.par;exact lt_of_some h1
  exact h.par.forget this
theorem Par.set {c:PCell} (h:Par k tab cells) (hj:j≠k):Par k tab (cells.set j c):=by
 obtain ⟨v,h1,h2⟩:=h
 exact ⟨v,by rw [List.getElem?_set_ne hj];exact h1,h2⟩
theorem Par.app (h:Par k tab cells):Par k tab (cells++ex):=by
 obtain ⟨v,h1,h2⟩:=h
 exact ⟨v,by rw [List.getElem?_append_left (lt_of_some h1)];exact h1,h2⟩
theorem CL.app (h:CL n k tab S cs cells):CL n k tab S cs (cells++ex):=
 ⟨by rw [List.getElem?_append_left (lt_of_some h.s)];exact h.s,by rw [List.getElem?_append_left (lt_of_some h.c)];exact h.c,h.par.app⟩
theorem CL.set {c:PCell} (h:CL n k tab S cs cells) (h1:j≠n) (h2:j≠n+1) (h3:j≠k):CL n k tab S cs (cells.set j c):=
 ⟨by rw [List.getElem?_set_ne h1];exact h.s,by rw [List.getElem?_set_ne h2];exact h.c,h.par.set h3⟩
theorem signs_ok (σ:St):bnd (evL []) (callT 0 signsF) σ= .ok (.seq false (strsV [[61],[43,61],[42,42,61]])) ⟨σ.vars,(σ.cells.take σ.cells.length).map (forgetC σ.cells.length)⟩:=by
 have e:evL [] σ= .ok [] σ:=rfl
 rw [ok_bnd e]
 rfl
theorem strL_map:∀ws:List (List Nat),strL (strsV ws)=some ws
 | []=>rfl
 | w::r=>by show (strL (strsV r)).map _=_;rw [strL_map r];rfl
theorem test_ok {ws:List (List Nat)}{i:Nat}{w:List Nat} (hw:ws[i]? =some w) (hl:ws.length≤1000) (σ:St):
  cmpM inLG (itm (pure1 (.seq false (strsV ws))) (pure1 (.int i))) (bnd (evL []) (callT 0 signsF)) σ= .ok (isSg w) ⟨σ.vars,(σ.cells.take σ.cells.length).map (forgetC σ.cells.length)⟩:=by
 have e1:itm (pure1 (.seq false (strsV ws))) (pure1 (.int i)) σ= .ok (.str w) σ:=by
  show itemP (.seq false (strsV ws)) (.int i) σ=_
  unfold itemP
  dsimp only
  have hi:=lt_of_some hw
  rw [List.length_map,if_pos (by unfold sizeMax;exact Q59 (.n1 _) hl),idx_nat hi]
  dsimp only
  rw [List.getD_eq_getElem?_getD,List.getElem?_map,hw];rfl
 unfold cmpM
 rw [ok_bnd e1,ok_bnd (signs_ok σ)]
 have e2:inLG (.str w) (.seq false (strsV [[61],[43,61],[42,42,61]])) ⟨σ.vars,(σ.cells.take σ.cells.length).map (forgetC σ.cells.length)⟩=some (isSg w):=by
  unfold inLG listV
  dsimp only
  rw [if_pos (by decide)]
  dsimp only
  rw [strL_map]
  show some (List.contains [[61],[43,61],[42,42,61]] w)=some (isSg w)
  unfold isSg
  simp [List.contains,List.elem,Bool.or_assoc]
  cases w==[61] <;> cases w==[43,61] <;> cases w==[42,42,61] <;> rfl
 rw [e2]
theorem compL_ok {kk:Nat}{ws:List (List Nat)}{vars:List PV} (hl:ws.length≤1000) (h1:kk≠n) (h2:kk≠n+1) (h3:kk≠k):∀(l acc:List Nat) (cells:List PCell),(∀i∈l,i<ws.length)→CL n k tab S cs cells→
  cells[kk]? =some (.list (intsV acc))→acc.length+l.length≤1000→
  ∃cells',compL kk (fun z=>cmpM inLG (itm (pure1 (.seq false (strsV ws))) (pure1 z)) (bnd (evL []) (callT 0 signsF))) (fun z=>pure1 z) (intsV l) ⟨vars,cells⟩= .ok (.cell kk) ⟨vars,cells'⟩∧cells'.length=cells.length∧CL n k tab S cs cells'∧
   cells'[kk]? =some (.list (intsV (acc++l.filter fun i=>isSg (ws.getD i []))))
 | [],acc,cells,_,hC,hk,_=>⟨cells,rfl,rfl,hC,by simpa using hk⟩
 | i::l,acc,cells,hi,hC,hk,hb=>by
  have hil:=hi i (.head _)
  have hw:ws[i]? =some ws[i]:=List.getElem?_eq_getElem hil
  let c1:=(cells.take cells.length).map (forgetC cells.length)
  have hC1:CL n k tab S cs c1:=hC.forget
  have hl1:c1.length=cells.length:=by simp [c1]
  have hk1:c1[kk]? =some (.list (intsV acc)):=by
   rw [forgetAll hk,forgetC_ints]
  have ht:=test_ok hw hl ⟨vars,cells⟩
  have hgd:ws.getD i []=ws[i]:=by rw [List.getD_eq_getElem?_getD,hw];rfl
  have e0:compL kk (fun z=>cmpM inLG (itm (pure1 (.seq false (strsV ws))) (pure1 z)) (bnd (evL []) (callT 0 signsF))) (fun z=>pure1 z) (intsV (i::l)) ⟨vars,cells⟩=
    (if isSg ws[i]=true then bnd (pure1 (.int i)) (fun v=>bnd (appendG [.cell kk,v]) fun _=>compL kk (fun z=>cmpM inLG (itm (pure1 (.seq false (strsV ws))) (pure1 z)) (bnd (evL []) (callT 0 signsF))) (fun z=>pure1 z) (intsV l))
     else compL kk (fun z=>cmpM inLG (itm (pure1 (.seq false (strsV ws))) (pure1 z)) (bnd (evL []) (callT 0 signsF))) (fun z=>pure1 z) (intsV l)) ⟨vars,c1⟩:=by
   show compL kk _ _ (.int i::intsV l) _=_
   rw [compL_cons rfl,ok_bnd ht]
  rw [e0]
  by_cases hs:isSg ws[i]=true
  ·rw [if_pos hs]
   have e1:appendG [.cell kk, .int i] ⟨vars,c1⟩= .ok .none ⟨vars,c1.set kk (.list (intsV (acc++[i])))⟩:=by
    show appG kk (.int i) _=_
    unfold appG cellL
    skip
    rw [hk1]
    dsimp only
    have hb':(intsV acc).length<sizeMax:=by rw [List.length_map];simp at hb;unfold sizeMax;exact Q151 (.n2 _ _) hb
    rw [if_pos hb']
    simp [isUnb]
   rw [ok_bnd (x:=pure1 (.int i)) (a:= .int i) rfl,ok_bnd e1]
   refine cps fun GC hGC=> ?_
   obtain ⟨c',g1,g2,g3,g4⟩:=compL_ok hl h1 h2 h3 l (acc++[i]) (c1.set kk (.list (intsV (acc++[i])))) (fun j hj=>hi j (.tail _ hj)) (hC1.set h1 h2 h3) (by rw [List.getElem?_set_self (by rw [hl1];exact lt_of_some hk)]) (by simp at hb ⊢;exact Q60 (.n2 _ _) hb)
   refine hGC ?_
   refine ⟨c',g1,by rw [g2,List.length_set,hl1],g3, ?_⟩
   rw [g4,List.filter_cons_of_pos (by rw [hgd];exact hs),List.append_assoc];rfl
  ·rw [if_neg hs]
   refine cps fun GC hGC=> ?_
   obtain ⟨c',g1,g2,g3,g4⟩:=compL_ok hl h1 h2 h3 l acc c1 (fun j hj=>hi j (.tail _ hj)) hC1 hk1 (by simp at hb ⊢;exact lin1 (.l (.a .v0 .v1) (.k 1000)) (.l (.a .v0 (.a .v1 .k1)) (.k 1000)) (.w [1,1]) rfl (.n2 _ _) hb)
   refine hGC ?_
   refine ⟨c',g1,by rw [g2,hl1],g3, ?_⟩
   rw [g4,List.filter_cons_of_neg (by rw [hgd];exact hs)]
theorem first_sg:∀v:List (List Nat),((List.range (v.length-1)).filter fun j=>isSg (v.getD j [])).head? =sgAt v
 | []=>rfl
 | [_]=>rfl
 | w::x::r=>by
  have e:(w::x::r).length-1=(x::r).length-1+1:=by simp
  rw [e,List.range_succ_eq_map,List.filter_cons]
  unfold sgAt
  by_cases hs:isSg w=true
  ·rw [if_pos (by simpa using hs),if_pos hs];rfl
  ·rw [if_neg (by simpa using hs),if_neg hs, ←first_sg (x::r),List.filter_map,List.head?_map]
   rfl
theorem rng_sg {ws:List (List Nat)}{f:Nat} (hf:f≤ws.length):((List.range (ws.length-1-f)).map (f + ·)).filter (fun i=>isSg (ws.getD i []))=((List.range ((ws.drop f).length-1)).filter fun j=>isSg ((ws.drop f).getD j [])).map (f + ·):=by
 rw [List.filter_map,List.length_drop,show ws.length-f-1=ws.length-1-f by exact lin4 (.q .v3 .v5) (.b 5 .v4 .v1) (.b 4 .v0 .k1) (.b 3 .v2 .k1) (.b 2 .v0 .v1) (.b (.d 1 (.d 4 (.d 7 (.d 10 (.w [0, -1,0, -1,0,1,0,1,1]) (.w [0,1,1])) (.d 10 (.w [0, -1,1, -1,0,1,0,1,1]) (.w [1,0,0,0,0,1,1]))) (.w [0,1,0,1,1])) (.w [0,1,1])) (.d 3 (.d 6 (.d 5 (.d 8 (.w [0, -1,0, -1,0,1,0,1,1]) (.w [1, -1,0, -1,0,1,0,1,1])) (.d 8 (.w [0, -1,1, -1,0,1,0,1,1]) (.w [1, -1,1, -1,0,1,0,1,1]))) (.w [0,1,1])) (.w [0,1,1]))) rfl (.n6 _ _ _ _ _ _) rfl rfl rfl rfl]
 congr 1
 apply List.filter_congr
 intro j _
 simp only [Function.comp,List.getD_eq_getElem?_getD,List.getElem?_drop]
end PT
end Mine
end
section
open PySem
set_option maxRecDepth 10000
set_option tactic.hygienic false
namespace Mine
namespace PT
variable {c f i k n tab width:Nat}{x:PM PV}{σ:St}{xs:List PV}{v word:PV}
theorem intsV_snoc (l:List Nat) (a:Nat):intsV l++[.int a]=intsV (l++[a]):=by simp
theorem strsV_snoc (l:List (List Nat)) (a:List Nat):strsV l++[.str a]=strsV (l++[a]):=by simp
noncomputable def stA (ws:List (List Nat)) (width i:Nat):Nat:=width+plen ((ws++[[92]]).take i)
noncomputable def startsL (ws:List (List Nat)) (width j:Nat):List Nat:=(List.range (j+1)).map (stA ws width)
theorem startsL_last (ws:List (List Nat)) (width j:Nat):(intsV (startsL ws width j)).getD ((intsV (startsL ws width j)).length-1) .other= .int (stA ws width j):=by
 unfold startsL
 rw [List.getD_eq_getElem?_getD]
 simp
theorem startsL_get {ws:List (List Nat)}{j:Nat} (h:i≤j):(intsV (startsL ws width j)).getD i .other= .int (stA ws width i):=by
 unfold startsL
 rw [List.getD_eq_getElem?_getD,List.getElem?_map,List.getElem?_map,List.getElem?_range (by exact lin1 (.t .v0 (.a .v1 .k1)) (.l .v0 .v1) (.w [1,1]) rfl (.n2 _ _) h)]
 rfl
theorem plen_snoc {ws:List (List Nat)}{w:List Nat} (h:ws[i]? =some w):plen (ws.take (i+1))=plen (ws.take i)+(w.length+1):=by
 rw [List.take_add_one,h]
 unfold plen
 simp
theorem itm_cell {j:PM PV}{i:Int}{q:Nat} (hx:x σ= .ok (.cell c) σ) (hj:j σ= .ok (.int i) σ) (hc:σ.cells[c]? =some (.list xs)) (hi:seqIndex? i xs.length=some q) (hv:xs.getD q .other=v):itm x j σ= .ok v σ:=by
 unfold itm app2
 rw [ok_bnd hx,ok_bnd hj]
 unfold itemP cellL
 dsimp only
 rw [hc]
 dsimp only
 rw [hi]
 dsimp only
 rw [hv]
theorem app_cell {fx:PM PV} (hx:x σ= .ok (.cell c) σ) (hf:fx σ= .ok v σ) (hc:σ.cells[c]? =some (.list xs)) (hl:xs.length<sizeMax) (hu:isUnb v=false):
  exprM (bmethM okList x [fx] appendG) σ= .ok .next {σ with cells:=σ.cells.set c (.list (xs++[v]))}:=by
 have h1:bmethM okList x [fx] appendG σ= .ok .none {σ with cells:=σ.cells.set c (.list (xs++[v]))}:=by
  unfold bmethM
  rw [ok_bnd hx]
  have hcl:cellL c σ=some xs:=by unfold cellL;rw [hc]
  have:okList (.cell c) σ=true:=by
   show (cellL c σ).isSome=true
   rw [hcl];rfl
  rw [if_pos this]
  have ev:evL [fx] σ= .ok [v] σ:=by
   unfold evL;rw [ok_bnd hf];rfl
  rw [ok_bnd ev]
  show appG c v σ=_
  unfold appG
  rw [hcl]
  dsimp only
  rw [if_pos hl,hu]
  rfl
 unfold exprM
 rw [ok_bnd h1]
theorem last_idx (h:0<n):seqIndex? (-1) n=some (n-1):=by
 unfold seqIndex?
 simp
 exact ⟨⟨Q46 (.n1 _) h,Q47 (.n1 _)⟩,Q48 (.n3 _ _ _) rfl rfl⟩
noncomputable def vars6 (width n:Nat) (word f c sg:PV):List PV:=[.int width, .cell n,word,f,c,sg]
noncomputable abbrev startB:PM Fl:=exprM (bmethM okList (vr 1) [lift2 addP (lift2 addP (itm (vr 1) neg1) (lenM (vr 2))) (cI 1)] appendG)
theorem starts_loop {ws:List (List Nat)}{width:Nat}{C0:List PCell} (hl:ws.length≤100):∀(rest pre:List (List Nat)) (word:PV),ws++[[92]]=pre++rest→(∀w∈rest,w.length≤1000)→
  ∃word',forL (setG 2) startB (strsV rest) ⟨vars6 width C0.length word .unb .unb .unb,C0++[.list (intsV (startsL ws width pre.length))]⟩=
   .ok .next ⟨vars6 width C0.length word' .unb .unb .unb,C0++[.list (intsV (startsL ws width (ws.length+1)))]⟩
 | [],pre,word,he,_=>by
  have:pre.length=ws.length+1:=by rw [List.append_nil] at he;rw [←he];simp
  exact ⟨word,by rw [this];rfl⟩
 | w::rest,pre,word,he,hw=>by
  have hpl:pre.length<ws.length+1:=by have:=congrArg List.length he;simp at this;exact lin1 (.t .v0 (.a .v1 .k1)) (.q (.a .v1 .k1) (.a .v0 (.a .v2 .k1))) (.w [1, -1]) rfl (.n3 _ _ _) this
  have hg:(ws++[[92]])[pre.length]? =some w:=by rw [he];simp
  let σ:St:=⟨vars6 width C0.length (.str w) .unb .unb .unb,C0++[.list (intsV (startsL ws width pre.length))]⟩
  have hcell:σ.cells[C0.length]? =some (.list (intsV (startsL ws width pre.length))):=by simp [σ]
  have hlen:(intsV (startsL ws width pre.length)).length=pre.length+1:=by simp [startsL]
  have e1:itm (vr 1) neg1 σ= .ok (.int (stA ws width pre.length)) σ:=
   itm_cell (x:=vr 1) (j:=neg1) (q:=pre.length) rfl rfl hcell (by rw [hlen];exact last_idx (by exact Q115 (.n1 _))) (by
    have:=startsL_last ws width pre.length
    rw [hlen] at this
    exact this)
  have e2:lenM (vr 2) σ= .ok (.int w.length) σ:=by
   show lenG [.str w] _=_
   rw [lenG_str (by have:=hw w (.head _);unfold sizeMax;exact Q59 (.n1 _) this)]
  have e3:lift2 addP (lift2 addP (itm (vr 1) neg1) (lenM (vr 2))) (cI 1) σ= .ok (.int (stA ws width (pre.length+1))) σ:=by
   have e4:lift2 addP (itm (vr 1) neg1) (lenM (vr 2)) σ= .ok (.int ((stA ws width pre.length:Int)+w.length)) σ:=by
    unfold lift2
    rw [ok_bnd e1,ok_bnd e2]
    rfl
   have e5:(((stA ws width pre.length:Int)+w.length)+1)=((stA ws width (pre.length+1):Nat):Int):=by
    unfold stA
    rw [plen_snoc hg]
    exact lin0 (.Q (.a (.a (.c (.a .v0 .v1)) (.c .v2)) .k1) (.c (.a .v0 (.a .v1 (.a .v2 .k1))))) (.b (.w [1]) (.w [1])) rfl (.n3 _ _ _)
   show bnd _ _ _=_
   rw [ok_bnd e4]
   show Res.ok (PV.int (((stA ws width pre.length:Int)+w.length)+1)) _=_
   rw [e5]
  have hb:=app_cell (x:=vr 1) (σ:=σ) rfl e3 hcell (by rw [hlen];unfold sizeMax;exact lin2 (.t (.a .v0 .k1) (.k 1048576)) (.l .v1 (.k 100)) (.t .v0 (.a .v1 .k1)) (.w [1,1,1]) rfl (.n2 _ _) hl hpl) rfl
  have hnew:intsV (startsL ws width pre.length)++[.int (stA ws width (pre.length+1))]=intsV (startsL ws width (pre++[w]).length):=by
   unfold startsL
   rw [List.length_append,List.length_singleton,List.range_succ (n:=pre.length+1),List.map_append,intsV_snoc]
   rfl
  have hset:({σ with cells:=σ.cells.set C0.length (.list (intsV (startsL ws width pre.length)++[.int (stA ws width (pre.length+1))]))}:St)=⟨vars6 width C0.length (.str w) .unb .unb .unb,C0++[.list (intsV (startsL ws width (pre++[w]).length))]⟩:=by
   rw [hnew]
   show St.mk _ ((C0++[_]).set C0.length _)=_
   rw [List.set_append_right _ _ (Nat.le_refl _),Nat.sub_self]
   rfl
  rw [hset] at hb
  obtain ⟨word',ih⟩:=starts_loop (width:=width) (C0:=C0) hl rest (pre++[w]) (.str w) (by rw [he];simp) (fun x hx=>hw x (.tail _ hx))
  refine ⟨word', ?_⟩
  show bnd (setG 2 (.str w)) _ _=_
  have e0:setG 2 (.str w) ⟨vars6 width C0.length word .unb .unb .unb,C0++[.list (intsV (startsL ws width pre.length))]⟩= .ok .next σ:=rfl
  rw [ok_bnd e0,ok_bnd hb]
  exact ih
noncomputable def colsFrom (ws:List (List Nat)) (width:Nat):Nat→Nat→List Nat
 | 0,_=>[]
 | n+1,f=>if f≤ws.length then stA ws width (f+adv (ws.drop f))::colsFrom ws width n (f+adv (ws.drop f)) else []
theorem adv_pos (ws:List (List Nat)):1≤adv ws:=by
 unfold adv
 split <;> lia
set_option tactic.hygienic true in
theorem adv_le {ws:List (List Nat)} (hf:f≤ws.length):f+adv (ws.drop f)≤ws.length+1:=by
 unfold adv
 split
 ·rename_i j hj
  have:=sgAt_lt hj
  rw [List.length_drop] at this
  exact lin3 (.l (.a .v0 (.a .v1 .k1)) (.a .v2 .k1)) (.l .v0 .v2) (.t (.a .v1 .k1) .v3) (.b 3 .v2 .v0) (.d 3 (.w [0,1,1,0,1]) (.w [0,1,1,1,1])) rfl (.n4 _ _ _ _) hf this rfl
 ·exact lin1 (.l (.a .v0 .k1) (.a .v1 .k1)) (.l .v0 .v1) (.w [1,1]) rfl (.n2 _ _) hf
noncomputable def colB (words:PV):PM Fl:=blk [
  setV 5 (signsC words),
  setV 3 (iteM (cmpM neLG (vr 5) (tupM false [])) (lift2 addP (itm (vr 5) (cI 0)) (cI 1)) (lift2 addP (vr 3) (cI 1))),
  exprM (bmethM okList (vr 4) [itm (vr 1) (vr 3)] appendG)]
theorem len_words {ws:List (List Nat)} (hl:ws.length≤100) (σ:St):lenM (pure1 (.seq false (strsV ws))) σ= .ok (.int ws.length) σ:=by
 show lenG [.seq false (strsV ws)] _=_
 rw [lenG_seq (by rw [List.length_map];exact (by unfold sizeMax;exact Q152 (.n1 _) hl)),List.length_map]
theorem col_one {ws:List (List Nat)}{cs:List Nat}{cells:List PCell}{sg:PV} (hl:ws.length≤100) (hne:ws≠[]) (hkn:k<n) (hf:f≤ws.length) (hC:CL n k tab (startsL ws width (ws.length+1)) cs cells) (hcs:cs.length≤1000):
  ∃cells' sg',colB (.seq false (strsV ws)) ⟨vars6 width n word (.int f) (.cell (n+1)) sg,cells⟩= .ok .next ⟨vars6 width n word (.int (f+adv (ws.drop f):Nat)) (.cell (n+1)) sg',cells'⟩∧
   CL n k tab (startsL ws width (ws.length+1)) (cs++[stA ws width (f+adv (ws.drop f))]) cells':=by
 have hm:0<ws.length:=List.length_pos_iff.mpr hne
 let σ:St:=⟨vars6 width n word (.int f) (.cell (n+1)) sg,cells⟩
 let l:List Nat:=(List.range (ws.length-1-f)).map (f + ·)
 have hn1:n+1<cells.length:=lt_of_some hC.c
 have er:rngM (vr 3) (lift2 subP (lenM (pure1 (.seq false (strsV ws)))) (cI 1)) σ= .ok (intsV l) σ:=by
  have e1:lift2 subP (lenM (pure1 (.seq false (strsV ws)))) (cI 1) σ= .ok (.int ((ws.length:Int)-1)) σ:=by
   unfold lift2
   rw [ok_bnd (len_words hl σ)]
   rfl
  have e2:evL [vr 3,lift2 subP (lenM (pure1 (.seq false (strsV ws)))) (cI 1)] σ= .ok [.int f, .int ((ws.length:Int)-1)] σ:=by
   unfold evL
   rw [ok_bnd (x:=vr 3) (a:= .int f) (σ:=σ) rfl]
   unfold evL
   rw [ok_bnd (x:=bnd _ _) (a:=[.int ((ws.length:Int)-1)]) (σ:=σ) (σ':=σ) (by rw [ok_bnd e1];rfl)]
   rfl
  unfold rngM
  rw [ok_bnd e2]
  dsimp only
  rw [if_pos ⟨by exact Q52 (.n1 _),by exact lin2 (.L (.c .v0) (.k 1000000000)) (.l .v1 (.k 100)) (.l .v0 .v1) (.w [1,1,1]) rfl (.n2 _ _) hl hf,by exact lin1 (.L (.g (.k 1000000000)) (.s (.c .v0) .k1)) (.t .k0 .v0) (.w [1,1]) rfl (.n1 _) hm,by exact lin1 (.L (.s (.c .v0) .k1) (.k 1000000000)) (.l .v0 (.k 100)) (.w [1,1]) rfl (.n1 _) hl⟩]
  have e3:rngL (f:Int) ((ws.length:Int)-1)=intsV l:=by
   unfold rngL
   rw [show ((ws.length:Int)-1-(f:Int)).toNat=ws.length-1-f by exact lin3 (.q .v2 .v4) (.b 4 .v3 .v1) (.b 3 .v0 .k1) (.N 2 (.s (.s (.c .v0) .k1) (.c .v1))) (.b (.d 1 (.d 4 (.d 7 (.w [0, -1,0,1,0,1,1]) (.w [1, -1,0,1,0,1,1])) (.w [0,1,0,1,1])) (.w [0,1,1])) (.d 3 (.d 3 (.d 6 (.w [0, -1,0, -1,0,1,1]) (.w [1, -1,0, -1,0,1,1])) (.d 6 (.w [0, -1,1, -1,0,1,1]) (.w [1, -1,1, -1,0,1,1]))) (.w [0,1,1]))) rfl (.n5 _ _ _ _ _) rfl rfl rfl]
   show _=(List.map (f + ·) (List.range (ws.length-1-f))).map _
   rw [List.map_map]
   apply List.map_congr_left
   intro i _
   simp
  rw [e3];rfl
 refine cps fun GC hGC=> ?_
 obtain ⟨c1,g1,g2,g3,g4⟩:=compL_ok (n:=n) (k:=k) (tab:=tab) (kk:=cells.length) (ws:=ws) (vars:=vars6 width n word (.int f) (.cell (n+1)) sg) (by exact lin1 (.l .v0 (.k 1000)) (.l .v0 (.k 100)) (.w [1,1]) rfl (.n1 _) hl) (by exact lin1 (.n (.q .v0 .v1)) (.t (.a .v1 .k1) .v0) (.w [1,1]) rfl (.n2 _ _) hn1) (by exact lin1 (.n (.q .v0 (.a .v1 .k1))) (.t (.a .v1 .k1) .v0) (.w [1,1]) rfl (.n2 _ _) hn1) (by exact lin2 (.n (.q .v0 .v1)) (.t .v1 .v2) (.t (.a .v2 .k1) .v0) (.w [1,1,1]) rfl (.n3 _ _ _) hkn hn1) l [] (cells++[.list []]) (by
  intro i hi
  obtain ⟨j,hj,rfl⟩:=List.mem_map.mp hi
  rw [List.mem_range] at hj
  exact lin4 (.t (.a .v0 .v1) .v2) (.l .v0 .v2) (.t .v1 .v4) (.b 4 .v3 .v0) (.b 3 .v2 .k1) (.d 3 (.d 6 (.w [0,1,0,1,1,0,1]) (.w [0,1,0,1,1,1,1])) (.w [0,1,1,1,1])) rfl (.n5 _ _ _ _ _) hf hj rfl rfl) (hC.app) (by simp) (by simp [l];exact lin1 (.l .v0 (.a (.a (.k 1000) .v1) .k1)) (.l .v0 (.k 100)) (.w [1,1]) rfl (.n2 _ _) hl)
 refine hGC ?_
 have ec:signsC (.seq false (strsV ws)) σ= .ok (.cell cells.length) ⟨vars6 width n word (.int f) (.cell (n+1)) sg,c1⟩:=by
  unfold signsC compM
  rw [ok_bnd er]
  exact g1
 have s1:setV 5 (signsC (.seq false (strsV ws))) σ= .ok .next ⟨vars6 width n word (.int f) (.cell (n+1)) (.cell cells.length),c1⟩:=by
  rw [ok_setV ec rfl];rfl
 let L:=l.filter fun i=>isSg (ws.getD i [])
 have hL:L=((List.range ((ws.drop f).length-1)).filter fun j=>isSg ((ws.drop f).getD j [])).map (f + ·):=rng_sg hf
 have hLh:L.head? =(sgAt (ws.drop f)).map (f + ·):=by rw [hL,List.head?_map,first_sg]
 let σ1:St:=⟨vars6 width n word (.int f) (.cell (n+1)) (.cell cells.length),c1⟩
 have g4':σ1.cells[cells.length]? =some (.list (intsV L)):=by
  show c1[cells.length]? =_
  rw [g4];rfl
 have hL1:L.length≤1000:=by
  have:L.length≤l.length:=List.length_filter_le _ _
  have:l.length=ws.length-1-f:=by simp [l]
  exact lin5 (.l .v0 (.k 1000)) (.l .v1 (.k 100)) (.l .v0 .v2) (.q .v2 .v5) (.b 5 .v4 .v3) (.b 4 .v1 .k1) (.d 4 (.d 7 (.w [0,1,0,1,1,1,1,1]) (.w [0,1,0,1,1,0,1,1])) (.w [0,1,1,0,1,1])) rfl (.n6 _ _ _ _ _ _) hl (by assumption) this rfl rfl
 have ene:cmpM neLG (vr 5) (tupM false []) σ1= .ok (decide (L≠[])) σ1:=by
  unfold cmpM
  rw [ok_bnd (x:=vr 5) (a:= .cell cells.length) (σ:=σ1) rfl,ok_bnd (x:=tupM false []) (a:= .seq false []) (σ:=σ1) (σ':=σ1) rfl]
  have:neLG (.cell cells.length) (.seq false []) σ1=some (decide (L≠[])):=by
   unfold neLG listV cellL
   dsimp only
   rw [g4']
   dsimp only
   rw [if_pos (by decide)]
   dsimp only
   cases L with
   | nil=>rfl
   | cons x r=>
    rw [if_pos (by simp)]
    rfl
  rw [this]
 have e3:iteM (cmpM neLG (vr 5) (tupM false [])) (lift2 addP (itm (vr 5) (cI 0)) (cI 1)) (lift2 addP (vr 3) (cI 1)) σ1= .ok (.int (f+adv (ws.drop f):Nat)) σ1:=by
  cases hs:sgAt (ws.drop f) with
  | none=>
   have hnil:L=[]:=by
    rw [hs] at hLh
    exact List.head?_eq_none_iff.mp hLh
   have ha:adv (ws.drop f)=1:=by unfold adv;rw [hs]
   rw [ok_iteF (by rw [ene,decide_eq_false (by simpa using hnil)]),ha]
   rfl
  | some j=>
   have hh:L.head? =some (f+j):=by rw [hLh,hs];rfl
   have hne':L≠[]:=fun e=>by rw [e] at hh;cases hh
   have ha:adv (ws.drop f)=j+1:=by unfold adv;rw [hs]
   rw [ok_iteT (by rw [ene,decide_eq_true hne']),ha]
   have e4:itm (vr 5) (cI 0) σ1= .ok (.int (f+j:Nat)) σ1:=by
    refine itm_cell (x:=vr 5) (j:=cI 0) (q:=0) rfl rfl g4' ?_ ?_
    ·cases hLc:L with
     | nil=>exact absurd hLc hne'
     | cons x r=>
      rw [List.length_map]
      exact idx_nat (i:=0) (by simp)
    ·cases hLc:L with
     | nil=>exact absurd hLc hne'
     | cons x r=>
      rw [hLc] at hh
      simp at hh
      subst hh
      rfl
   unfold lift2
   rw [ok_bnd e4]
   rfl
 have s2:setV 3 (iteM (cmpM neLG (vr 5) (tupM false [])) (lift2 addP (itm (vr 5) (cI 0)) (cI 1)) (lift2 addP (vr 3) (cI 1))) σ1= .ok .next ⟨vars6 width n word (.int (f+adv (ws.drop f):Nat)) (.cell (n+1)) (.cell cells.length),c1⟩:=by
  rw [ok_setV e3 rfl];rfl
 let σ2:St:=⟨vars6 width n word (.int (f+adv (ws.drop f):Nat)) (.cell (n+1)) (.cell cells.length),c1⟩
 have hle:=adv_le hf
 have e5:itm (vr 1) (vr 3) σ2= .ok (.int (stA ws width (f+adv (ws.drop f)))) σ2:=by
  refine itm_cell (x:=vr 1) (j:=vr 3) (q:=f+adv (ws.drop f)) rfl rfl g3.s ?_ (startsL_get hle)
  refine idx_nat ?_
  simp [startsL]
  exact lin1 (.t (.a .v0 .v1) (.a (.a .v2 .k1) .k1)) (.l (.a .v0 .v1) (.a .v2 .k1)) (.w [1,1]) rfl (.n3 _ _ _) hle
 have s3:=app_cell (x:=vr 4) (σ:=σ2) rfl e5 g3.c (by rw [List.length_map];unfold sizeMax;exact lin1 (.t .v0 (.k 1048576)) (.l .v0 (.k 1000)) (.w [1,1]) rfl (.n1 _) hcs) rfl
 refine ⟨c1.set (n+1) (.list (intsV cs++[.int (stA ws width (f+adv (ws.drop f)))])), .cell cells.length, ?_, ?_⟩
 ·unfold colB
  dsimp only [blk]
  rw [ok_seq s1,ok_seq s2]
  exact s3
 ·refine ⟨?_, ?_,g3.par.set (by exact lin1 (.n (.q (.a .v0 .k1) .v1)) (.t .v1 .v0) (.w [1,1]) rfl (.n2 _ _) hkn)⟩
  ·rw [List.getElem?_set_ne (by exact lin0 (.n (.q (.a .v0 .k1) .v0)) (.w [1]) rfl (.n1 _))];exact g3.s
  ·rw [List.getElem?_set_self (lt_of_some g3.c)]
   rw [intsV_snoc]
theorem col_loop {ws:List (List Nat)} (hl:ws.length≤100) (hne:ws≠[]) (hkn:k<n):∀(M N f:Nat) (cs:List Nat) (cells:List PCell) (sg:PV),ws.length+1-f<M→M≤N→f≤ws.length+1→
  CL n k tab (startsL ws width (ws.length+1)) cs cells→cs.length+M≤1000→
  ∃cells' sg' f',whileM N (lift2 leP (vr 3) (lenM (pure1 (.seq false (strsV ws))))) (colB (.seq false (strsV ws))) nop ⟨vars6 width n word (.int f) (.cell (n+1)) sg,cells⟩= .ok .next ⟨vars6 width n word f' (.cell (n+1)) sg',cells'⟩∧
   CL n k tab (startsL ws width (ws.length+1)) (cs++colsFrom ws width M f) cells'
 | 0,N,f,cs,cells,sg,h,_,_,_,_=>absurd h (by exact Q6 (.n1 _))
 | M+1,0,f,cs,cells,sg,_,h,_,_,_=>absurd h (by exact lin0 (.n (.l (.a .v0 .k1) .k0)) (.w [1]) rfl (.n1 _))
 | M+1,N+1,f,cs,cells,sg,hM,hN,hf,hC,hb=>by
  have ht:lift2 leP (vr 3) (lenM (pure1 (.seq false (strsV ws)))) ⟨vars6 width n word (.int f) (.cell (n+1)) sg,cells⟩= .ok (decide (f≤ws.length)) ⟨vars6 width n word (.int f) (.cell (n+1)) sg,cells⟩:=by
   unfold lift2
   rw [ok_bnd (x:=vr 3) (a:= .int f) rfl,ok_bnd (len_words hl _)]
   show Res.ok (decide ((f:Int)≤(ws.length:Int))) _=_
   congr 1
   rw [Bool.eq_iff_iff,decide_eq_true_eq,decide_eq_true_eq];lia
  unfold colsFrom
  by_cases hfl:f≤ws.length
  ·rw [decide_eq_true hfl] at ht
   obtain ⟨c1,sg1,e1,hC1⟩:=col_one (n:=n) (k:=k) (tab:=tab) (word:=word) (sg:=sg) hl hne hkn hfl hC (by exact lin1 (.l .v0 (.k 1000)) (.l (.a .v0 (.a .v1 .k1)) (.k 1000)) (.w [1,1]) rfl (.n2 _ _) hb)
   rw [wh_T ht (.inr e1),if_pos hfl]
   have:=adv_pos (ws.drop f)
   obtain ⟨c2,sg2,f2,e2,hC2⟩:=col_loop hl hne hkn M N (f+adv (ws.drop f)) (cs++[stA ws width (f+adv (ws.drop f))]) c1 sg1 (by exact lin5 (.t .v4 .v3) (.t .v5 (.a .v3 .k1)) (.l .v1 .v0) (.l .k1 .v2) (.b 4 (.a .v0 .k1) (.a .v1 .v2)) (.b 5 (.a .v0 .k1) .v1) (.d 4 (.d 7 (.w [0, -1,0,1,1,1,0,1]) (.w [1,0,0,0,0,0,1])) (.d 7 (.w [0, -1,0,1,1,1,1]) (.w [1,0,0,0,0,0,1]))) rfl (.n6 _ _ _ _ _ _) hM hfl this rfl rfl) (by exact lin1 (.l .v0 .v1) (.l (.a .v0 .k1) (.a .v1 .k1)) (.w [1,1]) rfl (.n2 _ _) hN) (adv_le hfl) hC1 (by simp;exact Q60 (.n2 _ _) hb)
   refine ⟨c2,sg2,f2,e2, ?_⟩
   rw [List.append_assoc] at hC2
   exact hC2
  ·rw [decide_eq_false hfl] at ht
   rw [wh_F ht,if_neg hfl,List.append_nil]
   exact ⟨cells,sg,_,rfl,hC⟩
theorem columns_ok {ws:List (List Nat)}{vars:List PV}{C0:List PCell} (hl:ws.length≤100) (hne:ws≠[]) (hw:∀w∈ws,w.length≤1000) (hP:Par k tab C0):
  ∃C1,callTC 6 columnsF [.seq false (strsV ws), .int width] ⟨vars,C0⟩= .ok (.seq false (intsV (colsFrom ws width (ws.length+2) 0))) ⟨vars,C1⟩∧C1.length=C0.length∧Par k tab C1:=by
 have hkn:k<C0.length:=by obtain ⟨v,h,_⟩:=hP;exact lt_of_some h
 let n:=C0.length
 have s1:setV 1 (cellM [vr 0]) ⟨vars0 6 [.int width],C0⟩= .ok .next ⟨vars6 width n .unb .unb .unb .unb,C0++[.list (intsV (startsL ws width ([]:List (List Nat)).length))]⟩:=by
  have:cellM [vr 0] ⟨vars0 6 [.int width],C0⟩= .ok (.cell n) ⟨vars0 6 [.int width],C0++[.list [.int width]]⟩:=rfl
  rw [ok_setV this rfl]
  have e:startsL ws width ([]:List (List Nat)).length=[width]:=by
   show [stA ws width 0]=_
   unfold stA
   rw [List.take_zero]
   rfl
  rw [e];rfl
 have hsrc:∀σ:St,lstM (app2 catG (pure1 (.seq false (strsV ws))) (tupM false [cS "\\"])) σ= .ok (strsV (ws++[[92]])) σ:=by
  intro σ
  have e1:app2 catG (pure1 (.seq false (strsV ws))) (tupM false [cS "\\"]) σ= .ok (.seq false (strsV (ws++[[92]]))) σ:=by
   unfold app2
   rw [ok_bnd (x:=pure1 (.seq false (strsV ws))) (a:= .seq false (strsV ws)) (σ:=σ) rfl,ok_bnd (x:=tupM false [cS "\\"]) (a:= .seq false [.str [92]]) (σ:=σ) (σ':=σ) rfl]
   unfold catG listV
   dsimp only
   rw [List.length_map,if_pos (by unfold sizeMax;exact Q152 (.n1 _) hl),if_pos (by decide)]
   dsimp only
   rw [if_pos (by rw [List.length_map];show _+1≤_;unfold sizeMax;exact lin1 (.l (.a .v0 .k1) (.k 1048576)) (.l .v0 (.k 100)) (.w [1,1]) rfl (.n1 _) hl),strsV_snoc]
  unfold lstM
  rw [ok_bnd e1]
  rfl
 refine cps fun GC hGC=> ?_
 obtain ⟨word',hst⟩:=starts_loop (width:=width) (C0:=C0) hl (ws++[[92]]) [] .unb rfl (fun w hm=>by
  rcases List.mem_append.mp hm with h | h
  ·exact hw w h
  ·rw [List.mem_singleton.mp h];decide)
 have s2:forM (lstM (app2 catG (pure1 (.seq false (strsV ws))) (tupM false [cS "\\"]))) (setG 2) startB ⟨vars6 width n .unb .unb .unb .unb,C0++[.list (intsV (startsL ws width ([]:List (List Nat)).length))]⟩=
   .ok .next ⟨vars6 width n word' .unb .unb .unb,C0++[.list (intsV (startsL ws width (ws.length+1)))]⟩:=by
  unfold forM
  rw [ok_bnd (hsrc _)]
  exact hst
 let c2:=(C0++[.list (intsV (startsL ws width (ws.length+1)))])++[PCell.list (intsV [])]
 have s3:swap2M 3 4 (cI 0) (cellM []) ⟨vars6 width n word' .unb .unb .unb,C0++[.list (intsV (startsL ws width (ws.length+1)))]⟩= .ok .next ⟨vars6 width n word' (.int (0:Nat)) (.cell (n+1)) .unb,c2⟩:=by
  have hcl:(C0++[PCell.list (intsV (startsL ws width (ws.length+1)))]).length=n+1:=by simp [n]
  have e1:cellM [] ⟨vars6 width n word' .unb .unb .unb,C0++[.list (intsV (startsL ws width (ws.length+1)))]⟩= .ok (.cell (n+1)) ⟨vars6 width n word' .unb .unb .unb,c2⟩:=by
   rw [←hcl];rfl
  have e0:cI 0 ⟨vars6 width n word' .unb .unb .unb,C0++[PCell.list (intsV (startsL ws width (ws.length+1)))]⟩= .ok (.int 0) ⟨vars6 width n word' .unb .unb .unb,C0++[PCell.list (intsV (startsL ws width (ws.length+1)))]⟩:=rfl
  unfold swap2M
  rw [ok_bnd e0,ok_bnd e1]
  rfl
 have hC:CL n k tab (startsL ws width (ws.length+1)) [] c2:=by
  refine ⟨?_, ?_,hP.app.app⟩
  ·show ((C0++[_])++[_])[C0.length]? =_
   rw [List.append_assoc,List.getElem?_append_right (Nat.le_refl _),Nat.sub_self];rfl
  ·show ((C0++[_])++[_])[C0.length+1]? =_
   rw [List.append_assoc,List.getElem?_append_right (by exact Q9 (.n1 _)),show C0.length+1-C0.length=1 by exact Q51 (.n2 _ _) rfl];rfl
 obtain ⟨c3,sg3,f3,s4,hC3⟩:=col_loop (n:=n) (k:=k) (tab:=tab) (width:=width) (word:=word') hl hne hkn (ws.length+2) fuel 0 [] c2 .unb (by exact lin1 (.t .v1 (.a .v0 (.k 2))) (.b 1 (.a .v0 .k1) .k0) (.d 1 (.w [0,1,1]) (.w [0,1,1])) rfl (.n2 _ _) rfl) (by unfold fuel;exact lin1 (.l (.a .v0 (.k 2)) (.k 1000000)) (.l .v0 (.k 100)) (.w [1,1]) rfl (.n1 _) hl) (by exact lin0 (.l .k0 (.a .v0 .k1)) (.w [1]) rfl (.n1 _)) hC (by simp;exact lin1 (.l .v0 (.k 998)) (.l .v0 (.k 100)) (.w [1,1]) rfl (.n1 _) hl)
 refine hGC ?_
 rw [List.nil_append] at hC3
 have run:callF 6 (columnsF (.seq false (strsV ws))) [.int width] ⟨vars,C0⟩= .ok (.cell (n+1)) ⟨vars,c3⟩:=by
  unfold callF
  have:columnsF (.seq false (strsV ws)) ⟨vars0 6 [.int width],C0⟩= .ok (.ret (.cell (n+1))) ⟨vars6 width n word' f3 (.cell (n+1)) sg3,c3⟩:=by
   unfold columnsF
   dsimp only [blk]
   rw [ok_seq s1,ok_seq s2,ok_seq s3]
   have s4':whileM fuel (lift2 leP (vr 3) (lenM (pure1 (.seq false (strsV ws))))) (seqM (setV 5 (signsC (.seq false (strsV ws)))) (seqM (setV 3 (iteM (cmpM neLG (vr 5) (tupM false [])) (lift2 addP (itm (vr 5) (cI 0)) (cI 1)) (lift2 addP (vr 3) (cI 1))))
     (exprM (bmethM okList (vr 4) [itm (vr 1) (vr 3)] appendG)))) nop ⟨vars6 width n word' (.int (0:Nat)) (.cell (n+1)) .unb,c2⟩= .ok .next ⟨vars6 width n word' f3 (.cell (n+1)) sg3,c3⟩:=s4
   rw [ok_seq s4']
   rfl
  rw [this]
 have hpl:plainL (.seq false (strsV ws))=true:=by
  show (strsV ws).all scal=true
  rw [List.all_eq_true]
  intro x hx
  refine cps fun GC hGC=> ?_
  obtain ⟨w,_,rfl⟩:=List.mem_map.mp hx
  refine hGC ?_
  rfl
 refine ⟨(c3.take C0.length).map (forgetC C0.length), ?_, ?_,hC3.par.forget hkn⟩
 ·unfold callTC
  dsimp only
  rw [if_pos hpl]
  unfold callT
  rw [run]
  dsimp only
  have hb:handBack C0.length c3 (.cell (n+1))=some (.seq false (intsV (colsFrom ws width (ws.length+2) 0))):=by
   unfold handBack
   have h1:safe C0.length (.cell (n+1))=false:=by
    show decide (C0.length+1<C0.length)=false
    rw [decide_eq_false (by exact lin0 (.n (.t (.a .v0 .k1) .v0)) (.w [1]) rfl (.n1 _))]
   rw [h1]
   simp only [Bool.false_eq_true,if_false]
   rw [hC3.c]
   dsimp only
   rw [if_pos]
   rw [List.all_eq_true]
   intro x hx
   refine cps fun GC hGC=> ?_
   obtain ⟨w,_,rfl⟩:=List.mem_map.mp hx
   refine hGC ?_
   rfl
  rw [hb]
 ·have:n+1<c3.length:=lt_of_some hC3.c
  have hn:n=C0.length:=rfl
  rw [List.length_map,List.length_take]
  exact lin2 (.q .v2 .v0) (.t (.a .v0 .k1) .v1) (.M 2 .v0 .v1) (.b (.d 2 (.w [0, -1,1]) (.w [1,0,0,1])) (.d 2 (.w [0,1,1]) (.w [1,1,1]))) rfl (.n3 _ _ _) this rfl
end PT
end Mine
end
section
open PySem
set_option maxRecDepth 10000
set_option tactic.hygienic false
namespace Mine
namespace PT
variable {f:Nat}{B:Ads}
structure E2 where
 a:Addr
 C:Addr
 lead:List Nat
 tab:Nat
 ws:List (List Nat)
 width:Nat
 sign:PV
 k:Nat
noncomputable def flatT (e:E2):List Nat:=List.replicate e.width 32++sufT e.ws
noncomputable def vars12 (e:E2) (T:List Nat) (col told:PV):List PV:=
 [.glob (.ref e.a), .str e.lead, .int e.tab, .seq false (strsV e.ws), .int e.width,e.sign, .str (sufT e.ws), .str (flatT e), .inst e.C e.k, .str T,col,told]
theorem plen_app (a b:List (List Nat)):plen (a++b)=plen a+plen b:=by unfold plen;rw [List.map_append,List.sum_append]
theorem stA_add {ws:List (List Nat)}{width a:Nat} (hf:f≤ws.length):stA ws width (f+a)=stA ws width f+plen ((ws.drop f++[[92]]).take a):=by
 unfold stA
 have e:(ws++[[92]]).take (f+a)=(ws++[[92]]).take f++((ws.drop f++[[92]]).take a):=by
  rw [List.take_add,List.drop_append_of_le_length hf]
 rw [e,plen_app];exact Q148 (.n3 _ _ _)
theorem sufT_drop:∀{ws:List (List Nat)}{f:Nat},f≤ws.length→(sufT ws).drop (plen (ws.take f))=sufT (ws.drop f)
 | ws,0,_=>by simp [plen]
 | [],f+1,h=>by simp at h
 | w::r,f+1,h=>by
  have ih:=sufT_drop (ws:=r) (f:=f) (by simpa using h)
  rw [List.take_succ_cons,List.drop_succ_cons]
  have e:plen (w::r.take f)=(w++[32]).length+plen (r.take f):=by unfold plen;simp
  rw [e, ←List.drop_drop]
  have e2:sufT (w::r)=(w++[32])++sufT r:=by show w++32::sufT r=_;simp
  rw [e2,List.drop_left]
  exact ih
theorem flat_drop {e:E2} (hf:f≤e.ws.length):(flatT e).drop (stA e.ws e.width f)=sufT (e.ws.drop f):=by
 unfold flatT stA
 rw [List.take_append_of_le_length hf, ←List.drop_drop]
 have:(List.replicate e.width 32++sufT e.ws).drop e.width=sufT e.ws:=by
  have h:=List.drop_left (l₁:=List.replicate e.width 32) (l₂:=sufT e.ws)
  rw [List.length_replicate] at h
  exact h
 rw [this]
 exact sufT_drop hf
structure Ok12 (e:E2):Prop where
 tab:0<e.tab∧e.tab≤8
 w:∀w∈e.ws,Wd w
 wl:e.ws.length≤50
 ne:e.ws≠[]
 width:e.width≤100
theorem stA_le {e:E2} (h:Ok12 e) (f:Nat):stA e.ws e.width f≤700:=by
 unfold stA
 have h1:plen ((e.ws++[[92]]).take f)≤plen (e.ws++[[92]]):=by
  have:=List.take_append_drop f (e.ws++[[92]])
  have h2:=plen_app ((e.ws++[[92]]).take f) ((e.ws++[[92]]).drop f)
  rw [this] at h2
  exact lin1 (.l .v0 .v1) (.q .v1 (.a .v0 .v2)) (.w [1, -1]) rfl (.n3 _ _ _) h2
 have h3:=plen_le e.ws h.w
 rw [plen_app] at h1
 have:plen [[92]]=2:=rfl
 have:=h.wl
 have:=h.width
 exact lin5 (.l (.a .v0 .v1) (.k 700)) (.l .v1 (.a .v2 .v3)) (.l .v2 (.m 10 .v4)) (.q .v3 (.k 2)) (.l .v4 (.k 50)) (.l .v0 (.k 100)) (.w [1,1,1,1,10,1]) rfl (.n5 _ _ _ _ _) h1 h3 (by assumption) (by assumption) this
theorem turn2 {e:E2}{W:List Nat}{cells:List PCell}{col told:PV} (hC:e.C=B.C) (h:Ok12 e) (hf:f≤e.ws.length) (hW:∀c∈W,c=32∨c=9) (hWl:W.length≤1000) (hWx:(expTab e.tab 0 W).length=stA e.ws e.width f) (hP:Par e.k e.tab cells):
  ∃cells',bnd (setG 10 (.int (stA e.ws e.width (f+adv (e.ws.drop f)):Nat))) (fun _=>law2L B) ⟨vars12 e (W++sufT (e.ws.drop f)) col told,cells⟩=
   .ok .next ⟨vars12 e (List.replicate (stA e.ws e.width (f+adv (e.ws.drop f))) 32++(flatT e).drop (stA e.ws e.width (f+adv (e.ws.drop f)))) (.int (stA e.ws e.width (f+adv (e.ws.drop f)):Nat)) (.int (stA e.ws e.width (f+adv (e.ws.drop f)):Nat)),cells'⟩∧Par e.k e.tab cells':=by
 refine cps fun GC hGC=> ?_
 obtain ⟨q,hq⟩:∃q,q=stA e.ws e.width (f+adv (e.ws.drop f)):=⟨_,rfl⟩
 refine hGC ?_
 rw [←hq]
 refine cps fun GC hGC=> ?_
 obtain ⟨T,hTe⟩:∃T,T=W++sufT (e.ws.drop f):=⟨_,rfl⟩
 refine hGC ?_
 rw [←hTe]
 refine cps fun GC hGC=> ?_
 obtain ⟨vals,v1,v2,v3⟩:=hP
 refine hGC ?_
 have hkl:e.k<cells.length:=lt_of_some v1
 have hwd:∀w∈e.ws.drop f,Wd w:=fun w hm=>h.w w (List.mem_of_mem_drop hm)
 have hwl:=h.wl
 have hdl:(e.ws.drop f).length≤100:=by rw [List.length_drop];exact lin2 (.l .v2 (.k 100)) (.l .v0 (.k 50)) (.b 2 .v0 .v1) (.d 2 (.w [0,1,1,1]) (.w [0,1,1])) rfl (.n3 _ _ _) hwl rfl
 have hpl:=plen_le _ hwd
 have hTl:T.length≤60000:=by rw [hTe,List.length_append,sufT_len];exact lin3 (.l (.a .v0 (.a .v1 (.k 2))) (.k 60000)) (.l .v0 (.k 1000)) (.l .v2 (.k 100)) (.l .v1 (.m 10 .v2)) (.w [1,1,10,1]) rfl (.n3 _ _ _) hWl hdl hpl
 have hTlast:T.getLast? =some 10:=by rw [hTe,sufT_eq];simp
 have e0:setG 10 (.int q) ⟨vars12 e T col told,cells⟩= .ok .next ⟨vars12 e T (.int q) told,cells⟩:=rfl
 rw [ok_bnd e0]
 let vals1:=(vals.set 2 (.str T)).set 3 (.int 0)
 let c1:=cells.set e.k (.dct 0 vals1)
 have H:Obj1 B e.k vals ⟨vars12 e T (.int q) told,cells⟩:=⟨v1,v2⟩
 have s1:exprM (methM B.C 0 (vr 8) [vr 9] (callF 2 (setcodeF B))) ⟨vars12 e T (.int q) told,cells⟩= .ok .next ⟨vars12 e T (.int q) told,c1⟩:=by
  refine ok_exprM (ok_meth1 (B:=B) (k:=e.k) (vals:=vals) (i:=8) (fs:=[vr 9]) (as:=[.str T]) (σ':=⟨vars12 e T (.int q) told,cells⟩) rfl ?_ H rfl ?_)
  ·rw [←hC];rfl
  ·exact setcode_ok H hTl hTlast
 have hc1:c1[e.k]? =some (.dct 0 vals1):=by
  show (cells.set e.k _)[e.k]? =_
  rw [List.getElem?_set_self hkl]
 have g1:vals1.length=11:=by simp [vals1,v2]
 have g2:vals1[1]? =some (.int e.tab):=by simp [vals1,v3]
 have g3:vals1[2]? =some (.str (W++sufT (e.ws.drop f))):=by rw [←hTe];simp [vals1,v2]
 have g4:vals1[3]? =some (.int 0):=by simp [vals1,v2]
 refine cps fun GC hGC=> ?_
 obtain ⟨c2,t1,t2,t3⟩:=told2 (B:=B) (vars:=vars12 e T (.int q) told) hc1 g1 g2 h.tab g3 g4 hW hWl hwd hdl
 refine hGC ?_
 rw [hWx, ←stA_add hf, ←hq] at t1
 have H1:Obj1 B e.k vals1 ⟨vars12 e T (.int q) told,c1⟩:=⟨hc1,g1⟩
 have s2:setV 11 (methM B.C 0 (vr 8) [] (callT 8 (computeF B))) ⟨vars12 e T (.int q) told,c1⟩= .ok .next ⟨vars12 e T (.int q) (.int q),c2⟩:=by
  have:methM B.C 0 (vr 8) [] (callT 8 (computeF B)) ⟨vars12 e T (.int q) told,c1⟩= .ok (.int q) ⟨vars12 e T (.int q) told,c2⟩:=ok_methT (B:=B) (by rw [←hC];rfl) H1 t1
  rw [ok_setV this rfl];rfl
 have s3:iteM (orM (lift2 neP (vr 11) (vr 10)) (notM (bnd (bnd (evL [vr 11,pure1 (.glob (.type "int"))]) isiG) truG))) (retM (pure1 (.bool false))) nop ⟨vars12 e T (.int q) (.int q),c2⟩= .ok .next ⟨vars12 e T (.int q) (.int q),c2⟩:=by
  have e1:lift2 neP (vr 11) (vr 10) ⟨vars12 e T (.int q) (.int q),c2⟩= .ok false ⟨vars12 e T (.int q) (.int q),c2⟩:=by
   show Res.ok ((q:Int) != (q:Int)) _=_
   simp
  have e2:orM (lift2 neP (vr 11) (vr 10)) (notM (bnd (bnd (evL [vr 11,pure1 (.glob (.type "int"))]) isiG) truG)) ⟨vars12 e T (.int q) (.int q),c2⟩= .ok false ⟨vars12 e T (.int q) (.int q),c2⟩:=by
   unfold orM
   rw [ok_bnd e1]
   rfl
  rw [ok_iteF e2];rfl
 have hq7:q≤700:=by rw [hq];exact stA_le h _
 have e4:lift2 mulS (cS " ") (vr 10) ⟨vars12 e T (.int q) (.int q),c2⟩= .ok (.str (List.replicate q 32)) ⟨vars12 e T (.int q) (.int q),c2⟩:=by
  unfold lift2
  rw [ok_bnd (x:=cS " ") (a:= .str [32]) rfl,ok_bnd (x:=vr 10) (a:= .int q) rfl]
  unfold mulS optM
  dsimp only
  rw [if_pos ⟨by decide,by exact lin1 (.L (.c .v0) (.k 1000)) (.l .v0 (.k 700)) (.w [1,1]) rfl (.n1 _) hq7,by exact Q153 (.n1 _)⟩]
  dsimp only
  rw [Int.toNat_natCast]
  congr 2
  have:∀n:Nat,(List.replicate n [32]).flatten=List.replicate n 32:=by
   intro n
   induction n with
   | zero=>rfl
   | succ n ih=>rw [List.replicate_succ,List.replicate_succ,List.flatten_cons,ih];rfl
  exact this q
 have hfl:(flatT e).length≤1000:=by
  have:=plen_le e.ws h.w
  have:=h.width
  unfold flatT
  rw [List.length_append,List.length_replicate,sufT_len]
  exact lin3 (.l (.a .v0 (.a .v1 (.k 2))) (.k 1000)) (.l .v2 (.k 50)) (.l .v1 (.m 10 .v2)) (.l .v0 (.k 100)) (.w [1,10,1,1]) rfl (.n3 _ _ _) hwl (by assumption) this
 have e5:sliceM (vr 7) (vr 10) (pure1 .none) ⟨vars12 e T (.int q) (.int q),c2⟩= .ok (.str ((flatT e).drop q)) ⟨vars12 e T (.int q) (.int q),c2⟩:=by
  unfold sliceM
  rw [ok_bnd (x:=vr 7) (a:= .str (flatT e)) rfl,ok_bnd (x:=vr 10) (a:= .int q) rfl,ok_bnd (x:=pure1 .none) (a:= .none) rfl]
  unfold sliceP optI
  dsimp only
  rw [if_pos (by unfold sizeMax;exact Q59 (.n1 _) hfl)]
  have:sliceS (flatT e) (some (q:Int)) none=(flatT e).drop q:=by
   unfold sliceS
   dsimp only
   rw [clip_nat]
   rcases Nat.le_total q (flatT e).length with hh | hh
   ·rw [Nat.min_eq_left hh,List.take_of_length_le (by rw [List.length_drop];exact Q22 (.n1 _))]
   ·rw [Nat.min_eq_right hh,List.drop_of_length_le (Nat.le_refl _),List.drop_of_length_le hh,List.take_nil]
  rw [this];rfl
 have s4:setV 9 (lift2 addP (lift2 mulS (cS " ") (vr 10)) (sliceM (vr 7) (vr 10) (pure1 .none))) ⟨vars12 e T (.int q) (.int q),c2⟩= .ok .next ⟨vars12 e (List.replicate q 32++(flatT e).drop q) (.int q) (.int q),c2⟩:=by
  have e6:lift2 addP (lift2 mulS (cS " ") (vr 10)) (sliceM (vr 7) (vr 10) (pure1 .none)) ⟨vars12 e T (.int q) (.int q),c2⟩= .ok (.str (List.replicate q 32++(flatT e).drop q)) ⟨vars12 e T (.int q) (.int q),c2⟩:=by
   show bnd _ _ _=_
   rw [ok_bnd e4,ok_bnd e5]
   unfold addP optM
   dsimp only
   rw [if_pos (by rw [List.length_replicate,List.length_drop];unfold sizeMax;exact lin3 (.l (.a .v0 .v2) (.k 1048576)) (.l .v0 (.k 700)) (.l .v1 (.k 1000)) (.b 2 .v1 .v0) (.d 3 (.w [0,1,1,0,1]) (.w [0,1,1,1])) rfl (.n3 _ _ _) hq7 hfl rfl)]
  rw [ok_setV e6 rfl];rfl
 refine ⟨c2, ?_,t3⟩
 unfold law2L
 dsimp only [blk]
 rw [ok_seq s1,ok_seq s2,ok_seq s3]
 exact s4
theorem loop2 {e:E2} (hC:e.C=B.C) (h:Ok12 e):∀(M f:Nat) (W:List Nat) (cells:List PCell) (col told:PV),f≤e.ws.length→(∀c∈W,c=32∨c=9)→W.length≤1000→(expTab e.tab 0 W).length=stA e.ws e.width f→Par e.k e.tab cells→
  ∃σ',forL (setG 10) (law2L B) (intsV (colsFrom e.ws e.width M f)) ⟨vars12 e (W++sufT (e.ws.drop f)) col told,cells⟩= .ok .next σ'
 | 0,f,W,cells,col,told,_,_,_,_,_=>⟨_,rfl⟩
 | M+1,f,W,cells,col,told,hf,hW,hWl,hWx,hP=>by
  unfold colsFrom
  rw [if_pos hf]
  obtain ⟨c1,e1,hP1⟩:=turn2 (B:=B) (col:=col) (told:=told) hC h hf hW hWl hWx hP
  obtain ⟨q,hq⟩:∃q,q=stA e.ws e.width (f+adv (e.ws.drop f)):=⟨_,rfl⟩
  have e2:forL (setG 10) (law2L B) (intsV (stA e.ws e.width (f+adv (e.ws.drop f))::colsFrom e.ws e.width M (f+adv (e.ws.drop f)))) ⟨vars12 e (W++sufT (e.ws.drop f)) col told,cells⟩=
    forL (setG 10) (law2L B) (intsV (colsFrom e.ws e.width M (f+adv (e.ws.drop f)))) ⟨vars12 e (List.replicate (stA e.ws e.width (f+adv (e.ws.drop f))) 32++(flatT e).drop (stA e.ws e.width (f+adv (e.ws.drop f)))) (.int (stA e.ws e.width (f+adv (e.ws.drop f)):Nat)) (.int (stA e.ws e.width (f+adv (e.ws.drop f)):Nat)),c1⟩:=by
   obtain ⟨f1,σ1,k1,k2⟩:=bnd_ok e1
   show bnd (setG 10 _) _ _=_
   rw [ok_bnd k1,ok_bnd k2]
  rw [e2]
  by_cases hf':f+adv (e.ws.drop f)≤e.ws.length
  ·rw [flat_drop hf']
   refine loop2 hC h M (f+adv (e.ws.drop f)) (List.replicate (stA e.ws e.width (f+adv (e.ws.drop f))) 32) c1 _ _ hf' (fun c hc=> .inl (List.mem_replicate.mp hc).2) ?_ ?_ hP1
   ·rw [List.length_replicate];have:=stA_le h (f+adv (e.ws.drop f));exact lin1 (.l .v0 (.k 1000)) (.l .v0 (.k 700)) (.w [1,1]) rfl (.n1 _) this
   ·rw [expTab_id _ _ _ (fun hm=>by have:=(List.mem_replicate.mp hm).2;cases this),List.length_replicate]
  ·have:colsFrom e.ws e.width M (f+adv (e.ws.drop f))=[]:=by
    cases M with
    | zero=>rfl
    | succ M=>unfold colsFrom;rw [if_neg hf']
   rw [this]
   exact ⟨_,rfl⟩
end PT
end Mine
end
section
open PySem
set_option maxRecDepth 10000
set_option tactic.hygienic false
namespace Mine
namespace PT
theorem words2_eq:words2=strsV wordsN:=by
 unfold words2 wordsN strsV
 rw [List.map_map];rfl
noncomputable def w16 (x:Int):List Nat:=wordsN.getD (Int.fmod x 16).toNat []
theorem fmod_bd (x n:Int) (h:0<n):0≤Int.fmod x n∧Int.fmod x n<n:=⟨Int.fmod_nonneg_of_pos x h,Int.fmod_lt_of_pos x h⟩
theorem w16_mem (x:Int):w16 x∈wordsN:=by
 obtain ⟨h1,h2⟩:=fmod_bd x 16 (by decide)
 unfold w16
 have hl:(Int.fmod x 16).toNat<wordsN.length:=by show _<16;lia
 rw [List.getD_eq_getElem?_getD,List.getElem?_eq_getElem hl]
 exact List.getElem_mem hl
theorem elt16 (x:Int) (σ:St):itm (pure1 (.seq false words2)) (lift2 modP (pure1 (.int x)) (cI 16)) σ= .ok (.str (w16 x)) σ:=by
 obtain ⟨h1,h2⟩:=fmod_bd x 16 (by decide)
 have e1:lift2 modP (pure1 (.int x)) (cI 16) σ= .ok (.int (Int.fmod x 16)) σ:=rfl
 unfold itm app2
 rw [ok_bnd (x:=pure1 (.seq false words2)) (a:= .seq false words2) (σ:=σ) rfl,ok_bnd e1,words2_eq]
 unfold itemP
 dsimp only
 rw [if_pos (by rw [List.length_map];decide)]
 have e2:seqIndex? (Int.fmod x 16) (strsV wordsN).length=some (Int.fmod x 16).toNat:=by
  have:=idx_nat (i:=(Int.fmod x 16).toNat) (n:=(strsV wordsN).length) (by rw [List.length_map];show _<16;lia)
  rw [Int.toNat_of_nonneg h1] at this
  exact this
 rw [e2]
 dsimp only
 have hl:(Int.fmod x 16).toNat<wordsN.length:=by show _<16;lia
 congr 1
 unfold w16
 rw [List.getD_eq_getElem?_getD,List.getD_eq_getElem?_getD,List.getElem?_map,List.getElem?_eq_getElem hl]
 rfl
theorem compW_loop {vars:List PV}{pre:List PCell}:∀(l:List Int) (acc:List (List Nat)),acc.length+l.length≤1000→
  compL pre.length (fun _=>ret1 true) (fun x=>itm (pure1 (.seq false words2)) (lift2 modP (pure1 x) (cI 16))) (l.map .int) ⟨vars,pre++[.list (strsV acc)]⟩= .ok (.cell pre.length) ⟨vars,pre++[.list (strsV (acc++l.map w16))]⟩
 | [],acc,_=>by rw [List.map_nil,List.map_nil,List.append_nil];rfl
 | x::l,acc,hb=>by
  rw [List.map_cons,compL_cons rfl,ok_bnd (x:=ret1 true) (a:=true) rfl]
  simp only [if_true]
  rw [ok_bnd (elt16 x _)]
  have e1:appendG [.cell pre.length, .str (w16 x)] ⟨vars,pre++[.list (strsV acc)]⟩= .ok .none ⟨vars,pre++[.list (strsV (acc++[w16 x]))]⟩:=by
   show appG pre.length (.str (w16 x)) _=_
   unfold appG cellL
   dsimp only
   have hg:(pre++[PCell.list (strsV acc)])[pre.length]? =some (.list (strsV acc)):=by simp
   rw [hg]
   dsimp only
   rw [if_pos (by rw [List.length_map];simp at hb;unfold sizeMax;exact Q151 (.n2 _ _) hb)]
   show (if isUnb (.str (w16 x))=true then _ else _)=_
   rw [if_neg (by intro h;cases h),List.set_append_right _ _ (Nat.le_refl _),Nat.sub_self]
   show Res.ok PV.none (St.mk vars (pre++[PCell.list (strsV acc++[.str (w16 x)])]))=_
   rw [strsV_snoc]
  rw [ok_bnd e1,compW_loop l (acc++[w16 x]) (by simp at hb ⊢;exact Q60 (.n2 _ _) hb),List.append_assoc]
  rfl
noncomputable abbrev widthB:PM Fl:=augM addI 4 (iteM (eqM (vr 5) (cS "\t")) (lift2 subP (vr 2) (lift2 modP (vr 4) (vr 2))) (cI 1))
theorem width_loop {v0 v1 v3:PV}{tab:Nat}{r:List PV}{cells:List PCell} (ht:0<tab):∀(l:List Nat) (w:Nat) (sg:PV),(∀c∈l,c=32∨c=9)→
  ∃sg',forL (setG 5) widthB (l.map fun c=> .str [c]) ⟨v0::v1 :: .int tab::v3 :: .int w::sg::r,cells⟩= .ok .next ⟨v0::v1 :: .int tab::v3 :: .int (w+(expTab tab w l).length:Nat)::sg'::r,cells⟩
 | [],w,sg,_=>⟨sg,rfl⟩
 | c::l,w,sg,h=>by
  have e0:setG 5 (.str [c]) ⟨v0::v1 :: .int tab::v3 :: .int w::sg::r,cells⟩= .ok .next ⟨v0::v1 :: .int tab::v3 :: .int w :: .str [c]::r,cells⟩:=rfl
  rw [List.map_cons]
  rcases h c (.head _) with rfl | rfl
  ·have e1:widthB ⟨v0::v1 :: .int tab::v3 :: .int w :: .str [32]::r,cells⟩= .ok .next ⟨v0::v1 :: .int tab::v3 :: .int (w+1:Nat) :: .str [32]::r,cells⟩:=rfl
   obtain ⟨sg',ih⟩:=width_loop (v0:=v0) (v1:=v1) (v3:=v3) (r:=r) (cells:=cells) ht l (w+1) (.str [32]) fun x hx=>h x (.tail _ hx)
   refine ⟨sg', ?_⟩
   show bnd (setG 5 (.str [32])) _ _=_
   rw [ok_bnd e0,ok_bnd e1]
   show forL _ _ _ _=_
   rw [ih]
   have:w+1+(expTab tab (w+1) l).length=w+(expTab tab w (32::l)).length:=by
    show _=w+(32::expTab tab (w+1) l).length
    rw [List.length_cons];exact Q13 (.n2 _ _)
   rw [this]
  ·have hm:((tab:Int)-Int.fmod (w:Int) (tab:Int))=((tab-w%tab:Nat):Int):=by
    have h1:Int.fmod (w:Int) (tab:Int)=((w%tab:Nat):Int):=by
     rw [Int.fmod_eq_emod_of_nonneg _ (by exact lin1 (.L .k0 (.c .v0)) (.t .k0 .v0) (.w [1,1]) rfl (.n1 _) ht)];rfl
    have h2:w%tab<tab:=Nat.mod_lt _ ht
    rw [h1];exact lin2 (.Q (.s (.c .v0) (.c .v1)) (.c .v2)) (.t .v1 .v0) (.b 2 .v0 .v1) (.b (.d 2 (.w [0,1,1]) (.w [0,1,1,1])) (.d 2 (.w [0, -1,1]) (.w [1, -1,1]))) rfl (.n3 _ _ _) h2 rfl
   have e1:widthB ⟨v0::v1 :: .int tab::v3 :: .int w :: .str [9]::r,cells⟩= .ok .next ⟨v0::v1 :: .int tab::v3 :: .int (w+(tab-w%tab):Nat) :: .str [9]::r,cells⟩:=by
    have e2:lift2 modP (vr 4) (vr 2) ⟨v0::v1 :: .int tab::v3 :: .int w :: .str [9]::r,cells⟩= .ok (.int (Int.fmod (w:Int) (tab:Int))) ⟨v0::v1 :: .int tab::v3 :: .int w :: .str [9]::r,cells⟩:=by
     unfold lift2
     rw [ok_bnd (x:=vr 4) (a:= .int w) rfl,ok_bnd (x:=vr 2) (a:= .int tab) rfl]
     unfold modP optM
     dsimp only
     rw [if_pos (by exact Q53 (.n1 _) ht)]
    have e3:lift2 subP (vr 2) (lift2 modP (vr 4) (vr 2)) ⟨v0::v1 :: .int tab::v3 :: .int w :: .str [9]::r,cells⟩= .ok (.int ((tab-w%tab:Nat):Int)) ⟨v0::v1 :: .int tab::v3 :: .int w :: .str [9]::r,cells⟩:=by
     rw [←hm]
     unfold lift2
     rw [ok_bnd (x:=vr 2) (a:= .int tab) rfl]
     unfold lift2 at e2
     rw [ok_bnd e2]
     rfl
    have e4:iteM (eqM (vr 5) (cS "\t")) (lift2 subP (vr 2) (lift2 modP (vr 4) (vr 2))) (cI 1) ⟨v0::v1 :: .int tab::v3 :: .int w :: .str [9]::r,cells⟩= .ok (.int ((tab-w%tab:Nat):Int)) ⟨v0::v1 :: .int tab::v3 :: .int w :: .str [9]::r,cells⟩:=by
     have ec:eqM (vr 5) (cS "\t") ⟨v0::v1 :: .int tab::v3 :: .int w :: .str [9]::r,cells⟩= .ok true ⟨v0::v1 :: .int tab::v3 :: .int w :: .str [9]::r,cells⟩:=rfl
     rw [ok_iteT ec]
     exact e3
    show augM _ _ _ _=_
    unfold augM
    have e5:lift2 addI (vr 4) (iteM (eqM (vr 5) (cS "\t")) (lift2 subP (vr 2) (lift2 modP (vr 4) (vr 2))) (cI 1)) ⟨v0::v1 :: .int tab::v3 :: .int w :: .str [9]::r,cells⟩= .ok (.int (w+(tab-w%tab):Nat)) ⟨v0::v1 :: .int tab::v3 :: .int w :: .str [9]::r,cells⟩:=by
     unfold lift2
     rw [ok_bnd (x:=vr 4) (a:= .int w) rfl]
     unfold lift2 at e4
     rw [ok_bnd e4]
     rfl
    rw [ok_bnd e5]
    rfl
   obtain ⟨sg',ih⟩:=width_loop (v0:=v0) (v1:=v1) (v3:=v3) (r:=r) (cells:=cells) ht l (w+(tab-w%tab)) (.str [9]) fun x hx=>h x (.tail _ hx)
   refine ⟨sg', ?_⟩
   show bnd (setG 5 (.str [9])) _ _=_
   rw [ok_bnd e0,ok_bnd e1]
   show forL _ _ _ _=_
   rw [ih]
   have:w+(tab-w%tab)+(expTab tab (w+(tab-w%tab)) l).length=w+(expTab tab w (9::l)).length:=by
    show _=w+(List.replicate (tab-w%tab) 32++expTab tab (w+(tab-w%tab)) l).length
    rw [List.length_append,List.length_replicate];exact lin0 (.q (.a (.a .v0 .v2) .v1) (.a .v0 (.a .v2 .v1))) (.b (.w [1]) (.w [1])) rfl (.n3 _ _ _)
   rw [this]
theorem join_suf:∀ws:List (List Nat),ws≠[]→joinT [32] ws++[32,92,10]=sufT ws
 | [],h=>absurd rfl h
 | [w],_=>by show w++[32,92,10]=w++32::[92,10];rfl
 | w::x::r,_=>by
  have ih:=join_suf (x::r) (by simp)
  show (w++([32]++joinT [32] (x::r)))++[32,92,10]=w++32::sufT (x::r)
  rw [←ih];simp
noncomputable def leads:List (List Nat):=[[],[32],[9],[32,32,9],[9,32],[32,9,9]]
theorem leads_ok:∀l∈leads,(∀c∈l,c=32∨c=9)∧l.length≤3:=by decide
theorem law2_ok (B:Ads) (a:Addr) (ns:List Int):∃σ',law2F B a ns ⟨vars0 12 [.glob (.ref a)],[]⟩= .ok (.ret (.bool true)) σ':=by
 refine cps fun GC hGC=> ?_
 obtain ⟨m1,m2⟩:=fmod_bd ns.sum 6 (by decide)
 obtain ⟨q1,q2⟩:=fmod_bd (ns.length:Int) 8 (by decide)
 let i6:=(Int.fmod ns.sum 6).toNat
 let lead:=leads.getD i6 []
 have hi6:i6<6:=by lia
 have hlead:lead∈leads:=by
  show leads.getD i6 []∈leads
  have:i6<leads.length:=hi6
  rw [List.getD_eq_getElem?_getD,List.getElem?_eq_getElem this]
  exact List.getElem_mem this
 obtain ⟨hl1,hl2⟩:=leads_ok lead hlead
 let tab:=(8-Int.fmod (ns.length:Int) 8).toNat
 have htab:0<tab∧tab≤8:=by
  skip
  lia
 have htabI:(8-Int.fmod (ns.length:Int) 8)=((tab:Nat):Int):=by
  skip
  lia
 let v0:List PV:=vars0 12 [.glob (.ref a)]
 have s1:setV 1 (itm (tupM false [cS "",cS " ",cS "\t",cS "  \t",cS "\t ",cS " \t\t"]) (lift2 modP (bnd (evL [vr 0]) (sumB a ns)) (cI 6))) ⟨v0,[]⟩= .ok .next ⟨v0.set 1 (.str lead),[]⟩:=by
  have e1:bnd (evL [vr 0]) (sumB a ns) ⟨v0,[]⟩= .ok (.int ns.sum) ⟨v0,[]⟩:=by
   rw [ok_bnd (x:=evL [vr 0]) (a:=[.glob (.ref a)]) (σ:=⟨v0,[]⟩) (σ':=⟨v0,[]⟩) rfl]
   show (if a=a then ret1 (PV.int ns.sum) else badM) _=_
   rw [if_pos rfl];rfl
  have e2:lift2 modP (bnd (evL [vr 0]) (sumB a ns)) (cI 6) ⟨v0,[]⟩= .ok (.int (Int.fmod ns.sum 6)) ⟨v0,[]⟩:=by
   show bnd _ _ _=_
   rw [ok_bnd e1];rfl
  have e3:itm (tupM false [cS "",cS " ",cS "\t",cS "  \t",cS "\t ",cS " \t\t"]) (lift2 modP (bnd (evL [vr 0]) (sumB a ns)) (cI 6)) ⟨v0,[]⟩= .ok (.str lead) ⟨v0,[]⟩:=by
   unfold itm app2
   rw [ok_bnd (x:=tupM false _) (a:= .seq false (strsV leads)) (σ:=⟨v0,[]⟩) (σ':=⟨v0,[]⟩) rfl,ok_bnd e2]
   unfold itemP
   dsimp only
   rw [if_pos (by decide)]
   have e4:seqIndex? (Int.fmod ns.sum 6) (strsV leads).length=some i6:=by
    have:=idx_nat (i:=i6) (n:=(strsV leads).length) hi6
    rw [show ((i6:Nat):Int)=Int.fmod ns.sum 6 from Int.toNat_of_nonneg m1] at this
    exact this
   rw [e4]
   dsimp only
   congr 1
   show (strsV leads).getD i6 .other= .str (leads.getD i6 [])
   have:i6<leads.length:=hi6
   rw [List.getD_eq_getElem?_getD,List.getD_eq_getElem?_getD,List.getElem?_map,List.getElem?_eq_getElem this]
   rfl
  rw [ok_setV e3 rfl]
 let v1:List PV:=v0.set 1 (.str lead)
 have s2:setV 2 (lift2 subP (cI 8) (lift2 modP (bnd (evL [vr 0]) (lenB a ns)) (cI 8))) ⟨v1,[]⟩= .ok .next ⟨v1.set 2 (.int tab),[]⟩:=by
  have e1:bnd (evL [vr 0]) (lenB a ns) ⟨v1,[]⟩= .ok (.int ns.length) ⟨v1,[]⟩:=by
   rw [ok_bnd (x:=evL [vr 0]) (a:=[.glob (.ref a)]) (σ:=⟨v1,[]⟩) (σ':=⟨v1,[]⟩) rfl]
   show (if a=a then ret1 (PV.int ns.length) else badM) _=_
   rw [if_pos rfl];rfl
  have e2:lift2 modP (bnd (evL [vr 0]) (lenB a ns)) (cI 8) ⟨v1,[]⟩= .ok (.int (Int.fmod ns.length 8)) ⟨v1,[]⟩:=by
   show bnd _ _ _=_
   rw [ok_bnd e1];rfl
  have e3:lift2 subP (cI 8) (lift2 modP (bnd (evL [vr 0]) (lenB a ns)) (cI 8)) ⟨v1,[]⟩= .ok (.int tab) ⟨v1,[]⟩:=by
   unfold lift2
   rw [ok_bnd (x:=cI 8) (a:= .int 8) rfl]
   unfold lift2 at e2
   rw [ok_bnd e2]
   show Res.ok (PV.int (8-Int.fmod (ns.length:Int) 8)) _=_
   rw [htabI]
  rw [ok_setV e3 rfl]
 let v2:List PV:=v1.set 2 (.int tab)
 let xs:=sliceX ns none (some 6)
 have hxs:xs.length≤6:=by
  show (sliceX ns none (some 6)).length≤6
  unfold sliceX
  simp only [Option.elim]
  have:clipAt ns.length 6=min 6 ns.length:=clipAt_nat ns.length 6
  rw [this,List.length_take]
  exact lin3 (.l .v3 (.k 6)) (.M 3 .v2 .v0) (.b 2 .v1 .k0) (.M 1 (.k 6) .v0) (.d 1 (.d 4 (.d 7 (.w [0,1,0,1,0,1,1]) (.w [1,1,0,1,0,1,1])) (.w [0,1,0,1,1])) (.d 4 (.d 7 (.w [0,1,0,1,1,1,1]) (.w [1,0,0,0,0,1,1])) (.w [0,1,1,1,1]))) rfl (.n4 _ _ _ _) rfl rfl rfl
 let ws0:=xs.map w16
 let ws:List (List Nat):=[97]::ws0
 have hws:∀w∈ws,Wd w:=by
  intro w hw
  rcases List.mem_cons.mp hw with rfl | hw
  ·exact .inl rfl
  ·obtain ⟨x,_,rfl⟩:=List.mem_map.mp hw
   exact .inr (w16_mem x)
 have hwl:ws.length≤7:=by simp [ws,ws0];exact lin1 (.l .v0 (.k 6)) (.l .v0 (.k 6)) (.w [1,1]) rfl (.n1 _) hxs
 let c1:List PCell:=[.list (strsV ws0)]
 have s3:setV 3 (app2 catG (tupM false [cS "a"]) (wordsC a ns)) ⟨v2,[]⟩= .ok .next ⟨v2.set 3 (.seq false (strsV ws)),c1⟩:=by
  have e1:lstM (slcB a ns (vr 0) (pure1 .none) (cI 6)) ⟨v2,[]⟩= .ok (xs.map .int) ⟨v2,[]⟩:=by
   have e0:slcB a ns (vr 0) (pure1 .none) (cI 6) ⟨v2,[]⟩= .ok (.seq false (xs.map .int)) ⟨v2,[]⟩:=by
    unfold slcB
    rw [ok_bnd (x:=vr 0) (a:= .glob (.ref a)) (σ:=⟨v2,[]⟩) (σ':=⟨v2,[]⟩) rfl,ok_bnd (x:=pure1 .none) (a:= .none) (σ:=⟨v2,[]⟩) rfl,ok_bnd (x:=cI 6) (a:= .int 6) (σ:=⟨v2,[]⟩) rfl]
    dsimp only [optI]
    rw [if_pos rfl]
   unfold lstM
   rw [ok_bnd e0]
   rfl
  have e2:wordsC a ns ⟨v2,[]⟩= .ok (.cell 0) ⟨v2,c1⟩:=by
   unfold wordsC compM
   rw [ok_bnd e1]
   have:=compW_loop (vars:=v2) (pre:=[]) xs [] (by simp;exact lin1 (.l .v0 (.k 1000)) (.l .v0 (.k 6)) (.w [1,1]) rfl (.n1 _) hxs)
   rw [List.nil_append] at this
   exact this
  have e3:app2 catG (tupM false [cS "a"]) (wordsC a ns) ⟨v2,[]⟩= .ok (.seq false (strsV ws)) ⟨v2,c1⟩:=by
   unfold app2
   rw [ok_bnd (x:=tupM false [cS "a"]) (a:= .seq false [.str [97]]) (σ:=⟨v2,[]⟩) (σ':=⟨v2,[]⟩) rfl,ok_bnd e2]
   unfold catG listV cellL
   dsimp only
   rw [if_pos (by decide)]
   skip
   show (if _+(strsV ws0).length≤sizeMax then _ else _)=_
   rw [if_pos (by rw [List.length_map];show 1+_≤_;simp [ws0];unfold sizeMax;exact lin1 (.l (.a .k1 .v0) (.k 1048576)) (.l .v0 (.k 6)) (.w [1,1]) rfl (.n1 _) hxs)]
   rfl
  rw [ok_setV e3 rfl]
 let v3:List PV:=v2.set 3 (.seq false (strsV ws))
 have s4:setV 4 (cI 0) ⟨v3,c1⟩= .ok .next ⟨v3.set 4 (.int (0:Nat)),c1⟩:=rfl
 obtain ⟨sg,hwid⟩:=width_loop (v0:= .glob (.ref a)) (v1:= .str lead) (v3:= .seq false (strsV ws)) (tab:=tab) (r:=[.unb, .unb, .unb, .unb, .unb, .unb]) (cells:=c1) htab.1 lead 0 .unb hl1
 refine hGC ?_
 rw [Nat.zero_add] at hwid
 let width:=(expTab tab 0 lead).length
 have hwidth:width≤30:=by
  have:=expTab_len tab lead 0
  have:=Nat.mul_le_mul hl2 (show tab+1≤9 by lia)
  skip
  exact lin2 (.l .v0 (.k 30)) (.l .v0 .v1) (.l .v1 (.m 3 (.k 9))) (.w [1,1,1]) rfl (.n2 _ _) (by assumption) this
 have s5:forM (txtM (vr 1)) (setG 5) widthB ⟨v3.set 4 (.int (0:Nat)),c1⟩= .ok .next ⟨[.glob (.ref a), .str lead, .int tab, .seq false (strsV ws), .int width,sg, .unb, .unb, .unb, .unb, .unb, .unb],c1⟩:=by
  have e1:txtM (vr 1) ⟨v3.set 4 (.int (0:Nat)),c1⟩= .ok (lead.map fun c=> .str [c]) ⟨v3.set 4 (.int (0:Nat)),c1⟩:=by
   unfold txtM
   rw [ok_bnd (x:=vr 1) (a:= .str lead) (σ:=⟨v3.set 4 (.int (0:Nat)),c1⟩) (σ':=⟨v3.set 4 (.int (0:Nat)),c1⟩) rfl]
   dsimp only
   rw [if_pos]
   ·rfl
   ·rw [List.all_eq_true]
    intro c hc
    rcases hl1 c hc with rfl | rfl <;> rfl
  unfold forM
  rw [ok_bnd e1]
  exact hwid
 let v5:List PV:=[.glob (.ref a), .str lead, .int tab, .seq false (strsV ws), .int width,sg, .unb, .unb, .unb, .unb, .unb, .unb]
 have hpl:=plen_le ws hws
 have s6:setV 6 (lift2 addP (bmethM okStr (cS " ") [vr 3] joinG) (cS " \\\n")) ⟨v5,c1⟩= .ok .next ⟨v5.set 6 (.str (sufT ws)),c1⟩:=by
  have e1:bmethM okStr (cS " ") [vr 3] joinG ⟨v5,c1⟩= .ok (.str (joinT [32] ws)) ⟨v5,c1⟩:=by
   unfold bmethM
   rw [ok_bnd (x:=cS " ") (a:= .str [32]) (σ:=⟨v5,c1⟩) (σ':=⟨v5,c1⟩) rfl]
   rw [if_pos (show okStr _ _=true from rfl),ok_bnd (x:=evL [vr 3]) (a:=[.seq false (strsV ws)]) (σ:=⟨v5,c1⟩) (σ':=⟨v5,c1⟩) rfl]
   have hsum:(ws.map (·.length)).sum≤plen ws:=by
    have:∀l:List (List Nat),(l.map (·.length)).sum≤plen l:=by
     intro l
     induction l with
     | nil=>exact Nat.le_refl _
     | cons x r ih=>unfold plen at ih ⊢;simp only [List.map_cons,List.sum_cons];exact lin1 (.l (.a .v0 .v1) (.a (.a .v0 .k1) .v2)) (.l .v1 .v2) (.w [1,1]) rfl (.n3 _ _ _) ih
    exact this ws
   exact joinG_go (if_pos (by rw [List.length_map];unfold sizeMax;exact lin1 (.l .v0 (.k 1048576)) (.l .v0 (.k 7)) (.w [1,1]) rfl (.n1 _) hwl)) (strL_map _) ⟨by decide,by show _+_*1≤_;exact lin3 (.l (.a .v0 (.r .v1 1)) (.k 65536)) (.l .v1 (.k 7)) (.l .v2 (.m 10 .v1)) (.l .v0 .v2) (.w [1,11,1,1]) rfl (.n3 _ _ _) hwl hpl hsum⟩
  have e2:lift2 addP (bmethM okStr (cS " ") [vr 3] joinG) (cS " \\\n") ⟨v5,c1⟩= .ok (.str (sufT ws)) ⟨v5,c1⟩:=by
   show bnd _ _ _=_
   rw [ok_bnd e1,ok_bnd (x:=cS " \\\n") (a:= .str [32,92,10]) (σ:=⟨v5,c1⟩) (σ':=⟨v5,c1⟩) rfl]
   have hj:=join_suf ws (by simp [ws])
   have hjl:=congrArg List.length hj
   rw [List.length_append,sufT_len] at hjl
   unfold addP optM
   dsimp only
   rw [if_pos (by unfold sizeMax;exact lin3 (.l (.a .v0 .v1) (.k 1048576)) (.l .v2 (.k 7)) (.l .v3 (.m 10 .v2)) (.q (.a .v0 .v1) (.a .v3 (.k 2))) (.w [1,10,1,1]) rfl (.n4 _ _ _ _) hwl hpl hjl)]
   skip
   rw [hj]
  rw [ok_setV e2 rfl]
 let v6:List PV:=v5.set 6 (.str (sufT ws))
 let e:E2:=⟨a,B.C,lead,tab,ws,width,sg,1⟩
 have s7:setV 7 (lift2 addP (lift2 mulS (cS " ") (vr 4)) (vr 6)) ⟨v6,c1⟩= .ok .next ⟨v6.set 7 (.str (flatT e)),c1⟩:=by
  have e1:lift2 mulS (cS " ") (vr 4) ⟨v6,c1⟩= .ok (.str (List.replicate width 32)) ⟨v6,c1⟩:=by
   unfold lift2
   rw [ok_bnd (x:=cS " ") (a:= .str [32]) (σ:=⟨v6,c1⟩) (σ':=⟨v6,c1⟩) rfl,ok_bnd (x:=vr 4) (a:= .int width) (σ:=⟨v6,c1⟩) (σ':=⟨v6,c1⟩) rfl]
   unfold mulS optM
   dsimp only
   rw [if_pos ⟨by decide,by exact lin1 (.L (.c .v0) (.k 1000)) (.l .v0 (.k 30)) (.w [1,1]) rfl (.n1 _) hwidth,by exact Q153 (.n1 _)⟩]
   dsimp only
   rw [Int.toNat_natCast]
   congr 2
   have:∀n:Nat,(List.replicate n [32]).flatten=List.replicate n 32:=by
    intro n
    induction n with
    | zero=>rfl
    | succ n ih=>rw [List.replicate_succ,List.replicate_succ,List.flatten_cons,ih];rfl
   exact this width
  have e2:lift2 addP (lift2 mulS (cS " ") (vr 4)) (vr 6) ⟨v6,c1⟩= .ok (.str (flatT e)) ⟨v6,c1⟩:=by
   show bnd _ _ _=_
   rw [ok_bnd e1,ok_bnd (x:=vr 6) (a:= .str (sufT ws)) (σ:=⟨v6,c1⟩) (σ':=⟨v6,c1⟩) rfl]
   unfold addP optM
   dsimp only
   rw [if_pos (by rw [List.length_replicate,sufT_len];unfold sizeMax;exact lin3 (.l (.a .v0 (.a .v1 (.k 2))) (.k 1048576)) (.l .v2 (.k 7)) (.l .v0 (.k 30)) (.l .v1 (.m 10 .v2)) (.w [1,10,1,1]) rfl (.n3 _ _ _) hwl hwidth hpl)]
   rfl
  rw [ok_setV e2 rfl]
 let v7:List PV:=v6.set 7 (.str (flatT e))
 let vals0:List PV:=[.int 4, .int tab, .unb, .unb, .unb, .unb, .unb, .unb, .unb, .unb, .unb]
 let c2:List PCell:=[.list (strsV ws0), .dct 0 vals0]
 have s8:setV 8 (newM B.C 0 11 3 (initF B) [cI 4,vr 2]) ⟨v7,c1⟩= .ok .next ⟨v7.set 8 (.inst B.C 1),c2⟩:=by
  have e1:callF 3 (initF B) [.inst B.C 1, .int 4, .int tab] ⟨v7,[.list (strsV ws0), .dct 0 (List.replicate 11 .unb)]⟩= .ok .none ⟨v7,c2⟩:=by
   have H0:Obj1 B 1 (List.replicate 11 .unb) ⟨[.inst B.C 1, .int 4, .int tab],[.list (strsV ws0), .dct 0 (List.replicate 11 .unb)]⟩:=⟨rfl,rfl⟩
   have a1:setAttrM B.C 0 0 (vr 1) (vr 0) ⟨[.inst B.C 1, .int 4, .int tab],[.list (strsV ws0), .dct 0 (List.replicate 11 .unb)]⟩= .ok .next ⟨[.inst B.C 1, .int 4, .int tab],[.list (strsV ws0), .dct 0 ((List.replicate 11 .unb).set 0 (.int 4))]⟩:=ok_setAttr (k:=1) rfl H0 rfl rfl
   have H1:Obj1 B 1 ((List.replicate 11 .unb).set 0 (.int 4)) ⟨[.inst B.C 1, .int 4, .int tab],[.list (strsV ws0), .dct 0 ((List.replicate 11 .unb).set 0 (.int 4))]⟩:=⟨rfl,rfl⟩
   have a2:setAttrM B.C 0 1 (vr 2) (vr 0) ⟨[.inst B.C 1, .int 4, .int tab],[.list (strsV ws0), .dct 0 ((List.replicate 11 .unb).set 0 (.int 4))]⟩= .ok .next ⟨[.inst B.C 1, .int 4, .int tab],c2⟩:=ok_setAttr (k:=1) rfl H1 rfl rfl
   unfold callF
   have:initF B ⟨vars0 3 [.inst B.C 1, .int 4, .int tab],[.list (strsV ws0), .dct 0 (List.replicate 11 .unb)]⟩= .ok .next ⟨[.inst B.C 1, .int 4, .int tab],c2⟩:=by
    unfold initF
    dsimp only [blk]
    have hv:vars0 3 [.inst B.C 1, .int 4, .int tab]=[.inst B.C 1, .int 4, .int tab]:=rfl
    rw [hv,ok_seq a1]
    exact a2
   rw [this]
  have e2:newM B.C 0 11 3 (initF B) [cI 4,vr 2] ⟨v7,c1⟩= .ok (.inst B.C 1) ⟨v7,c2⟩:=by
   unfold newM
   rw [ok_bnd (x:=evL [cI 4,vr 2]) (a:=[.int 4, .int tab]) (σ:=⟨v7,c1⟩) (σ':=⟨v7,c1⟩) rfl]
   show (match callF 3 (initF B) [.inst B.C 1, .int 4, .int tab] ⟨v7,[.list (strsV ws0), .dct 0 (List.replicate 11 .unb)]⟩ with | .ok .none σ'=>Res.ok (PV.inst B.C 1) σ' | _=> .bad)=_
   rw [e1]
  rw [ok_setV e2 rfl]
 let v8:List PV:=v7.set 8 (.inst B.C 1)
 have s9:setV 9 (lift2 addP (vr 1) (vr 6)) ⟨v8,c2⟩= .ok .next ⟨vars12 e (lead++sufT ws) .unb .unb,c2⟩:=by
  have e2:lift2 addP (vr 1) (vr 6) ⟨v8,c2⟩= .ok (.str (lead++sufT ws)) ⟨v8,c2⟩:=by
   show bnd _ _ _=_
   rw [ok_bnd (x:=vr 1) (a:= .str lead) (σ:=⟨v8,c2⟩) (σ':=⟨v8,c2⟩) rfl,ok_bnd (x:=vr 6) (a:= .str (sufT ws)) (σ:=⟨v8,c2⟩) (σ':=⟨v8,c2⟩) rfl]
   unfold addP optM
   dsimp only
   rw [if_pos (by rw [sufT_len];unfold sizeMax;exact lin3 (.l (.a .v0 (.a .v1 (.k 2))) (.k 1048576)) (.l .v0 (.k 3)) (.l .v2 (.k 7)) (.l .v1 (.m 10 .v2)) (.w [1,1,10,1]) rfl (.n3 _ _ _) hl2 hwl hpl)]
  rw [ok_setV e2 rfl];rfl
 have hPar:Par 1 tab c2:=⟨vals0,rfl,rfl,rfl⟩
 refine cps fun GC hGC=> ?_
 obtain ⟨c3,hcol,hcl,hPar3⟩:=columns_ok (k:=1) (tab:=tab) (ws:=ws) (width:=width) (vars:=vars12 e (lead++sufT ws) .unb .unb) (C0:=c2) (by exact lin1 (.l .v0 (.k 100)) (.l .v0 (.k 7)) (.w [1,1]) rfl (.n1 _) hwl) (by simp [ws]) (fun w hw=>by have:=(wd_f (hws w hw)).len;exact lin1 (.l .v0 (.k 1000)) (.l .v0 (.k 9)) (.w [1,1]) rfl (.n1 _) this) hPar
 have hOk:Ok12 e:=⟨htab,hws,by exact lin1 (.l .v0 (.k 50)) (.l .v0 (.k 7)) (.w [1,1]) rfl (.n1 _) hwl,by simp [ws],by exact lin1 (.l .v0 (.k 100)) (.l .v0 (.k 30)) (.w [1,1]) rfl (.n1 _) hwidth⟩
 obtain ⟨σe,hloop⟩:=loop2 (B:=B) (e:=e) rfl hOk (ws.length+2) 0 lead c3 .unb .unb (Nat.zero_le _) hl1 (by exact lin1 (.l .v0 (.k 1000)) (.l .v0 (.k 3)) (.w [1,1]) rfl (.n1 _) hl2) (by
  skip
  unfold stA
  rw [List.take_zero]
  rfl) hPar3
 refine hGC ?_
 have s10:forM (lstM (bnd (evL [vr 3,vr 4]) (callTC 6 columnsF))) (setG 10) (law2L B) ⟨vars12 e (lead++sufT ws) .unb .unb,c2⟩= .ok .next σe:=by
  have e1:bnd (evL [vr 3,vr 4]) (callTC 6 columnsF) ⟨vars12 e (lead++sufT ws) .unb .unb,c2⟩= .ok (.seq false (intsV (colsFrom ws width (ws.length+2) 0))) ⟨vars12 e (lead++sufT ws) .unb .unb,c3⟩:=by
   rw [ok_bnd (x:=evL [vr 3,vr 4]) (a:=[.seq false (strsV ws), .int width]) (σ:=⟨vars12 e (lead++sufT ws) .unb .unb,c2⟩) (σ':=⟨vars12 e (lead++sufT ws) .unb .unb,c2⟩) rfl]
   exact hcol
  have e2:lstM (bnd (evL [vr 3,vr 4]) (callTC 6 columnsF)) ⟨vars12 e (lead++sufT ws) .unb .unb,c2⟩= .ok (intsV (colsFrom ws width (ws.length+2) 0)) ⟨vars12 e (lead++sufT ws) .unb .unb,c3⟩:=by
   unfold lstM
   rw [ok_bnd e1]
   rfl
  unfold forM
  rw [ok_bnd e2]
  exact hloop
 refine ⟨σe, ?_⟩
 unfold law2F
 dsimp only [blk]
 rw [ok_seq s1,ok_seq s2,ok_seq s3,ok_seq s4,ok_seq s5,ok_seq s6,ok_seq s7,ok_seq s8,ok_seq s9,ok_seq s10]
 rfl
end PT
end Mine
end
section
open PySem PySem.W PySem.Calls PyProof.Rows
set_option maxRecDepth 100000
set_option maxHeartbeats 4000000
set_option tactic.hygienic false
namespace Mine
noncomputable def ads:Ads:=⟨248,63,65,64,58,90⟩
section
variable {prog:Program}{w:World}{p:Params}{pp:Program}{loose:List PySem.Str}{mean:ExcName→Option Value}{mg mb:PySem.Str→Option Value}
@[reducible] noncomputable def gg (prog:Program) (w:World) (p:Params) (pp:Program) (loose:List PySem.Str) (mean:ExcName→Option Value) (mg mb:PySem.Str→Option Value):Glb:=gOf prog w (H.heap39 p) pp loose mean mg mb
theorem attr_facts:plainGet (H.heap39 p) 248 "x" =true∧hasDictIn (H.heap39 p) 248=true∧findIn (H.heap39 p) (.ref 248) "__setattr__" =some (some (.builtin "object.__setattr__"))∧plainOver (H.heap39 p) 248=true:=
 ⟨by kernel_rfl,by kernel_rfl,by kernel_rfl,by kernel_rfl⟩
theorem attr_ok {j:Nat}{name:PySem.Str} (hj:(tabsP 0)[j]? =some name) (ha:findIn (H.heap39 p) (.ref 248) name=some Option.none):AttrOk (gg prog w p pp loose mean mg mb) 248 0 j name:=
 ⟨hj,attr_facts.1,attr_facts.2.1,ha,attr_facts.2.2.1,attr_facts.2.2.2,by unfold takerIn;rw [ha];rfl⟩
theorem pf_ok:PF (gg prog w p pp loose mean mg mb) ads where
 indentwidth:=attr_ok rfl (by kernel_rfl)
 tabwidth:=attr_ok rfl (by kernel_rfl)
 code:=attr_ok rfl (by kernel_rfl)
 study_level:=attr_ok rfl (by kernel_rfl)
 goodlines:=attr_ok rfl (by kernel_rfl)
 continuation:=attr_ok rfl (by kernel_rfl)
 stmt_start:=attr_ok rfl (by kernel_rfl)
 stmt_end:=attr_ok rfl (by kernel_rfl)
 lastch:=attr_ok rfl (by kernel_rfl)
 lastopen:=attr_ok rfl (by kernel_rfl)
 bracketing:=attr_ok rfl (by kernel_rfl)
 cNone:=⟨_,by rfl⟩
 cBack:=⟨_,by rfl⟩
 cFirst:=⟨_,by rfl⟩
 cNext:=⟨_,by rfl⟩
 cBra:=⟨_,by rfl⟩
 trans:=by kernel_rfl
 junk:=by kernel_rfl
 chew:=by kernel_rfl
 str:=by kernel_rfl
 len:=by kernel_rfl
 range:=by kernel_rfl
 tuple:=by kernel_rfl
 junkK:=⟨43,⟨_,_,_,_,_,_,_,_,_,by rfl,by rfl,by kernel_rfl⟩,by kernel_rfl⟩
 chewK:=⟨53,⟨_,_,_,_,_,_,_,_,_,by rfl,by rfl,by kernel_rfl⟩,by kernel_rfl⟩
 strK:=⟨48,⟨_,_,_,_,_,_,_,_,_,by rfl,by rfl,by kernel_rfl⟩,by kernel_rfl⟩
 spK:=⟨_,_,_,_,_,_,_,_,_,by rfl,by rfl,by kernel_rfl⟩
 trK:=⟨82,tab_at (by kernel_rfl) (by kernel_rfl) (by kernel_rfl) (by kernel_rfl) (by kernel_rfl) (by kernel_rfl) (by kernel_rfl)⟩
end
section
variable {prog:Program}{w:World}{p:Params}{pp:Program}{loose:List PySem.Str}{mean:ExcName→Option Value}{mg mb:PySem.Str→Option Value}
theorem m0_ok_fn:FnAt (gg prog w p pp loose mean mg mb) (fi0 p) 154 ["self","indentwidth","tabwidth"] (bodyAt (H.heap39 p) 154) where
 ok:=⟨by kernel_rfl,of_decide_eq_true (by kernel_rfl),fun _=>of_decide_eq_true (by kernel_rfl),of_decide_eq_true (by kernel_rfl)⟩
 gen:=by kernel_rfl
 co:=by kernel_rfl
 nocell:=of_decide_eq_true (by kernel_rfl)
 bare:=⟨rfl,rfl,rfl,rfl⟩
 pre:=rfl
 at_:=⟨_,_,_,_,_,_,_,_,_,_,_,_,by rfl,by kernel_rfl,fun vs h=>by obtain ⟨a,b,c,rfl⟩:=mk_three h;rfl⟩
theorem m0_ok:NewAt (gg prog w p pp loose mean mg mb) 248 (fi0 p) "Parser" 154 ["self","indentwidth","tabwidth"] (bodyAt (H.heap39 p) 154):=
 ⟨by kernel_rfl,by kernel_rfl,by kernel_rfl,by kernel_rfl,by kernel_rfl,m0_ok_fn⟩
theorem m1_ok_fn:FnAt (gg prog w p pp loose mean mg mb) (fi1 p) 182 ["self"] (bodyAt (H.heap39 p) 182) where
 ok:=⟨by kernel_rfl,of_decide_eq_true (by kernel_rfl),fun _=>of_decide_eq_true (by kernel_rfl),of_decide_eq_true (by kernel_rfl)⟩
 gen:=by kernel_rfl
 co:=by kernel_rfl
 nocell:=of_decide_eq_true (by kernel_rfl)
 bare:=⟨rfl,rfl,rfl,rfl⟩
 pre:=rfl
 at_:=⟨_,_,_,_,_,_,_,_,_,_,_,_,by rfl,by kernel_rfl,fun vs h=>by obtain ⟨a,rfl⟩:=mk_one h;rfl⟩
theorem m1_ok:MethAt (gg prog w p pp loose mean mg mb) 248 (fi1 p) "_study1" 182 ["self"] (bodyAt (H.heap39 p) 182):=
 ⟨by kernel_rfl,by kernel_rfl,by kernel_rfl,by kernel_rfl,of_decide_eq_true (by kernel_rfl),m1_ok_fn⟩
theorem m2_ok_fn:FnAt (gg prog w p pp loose mean mg mb) (fi2 p) 196 ["self"] (bodyAt (H.heap39 p) 196) where
 ok:=⟨by kernel_rfl,of_decide_eq_true (by kernel_rfl),fun _=>of_decide_eq_true (by kernel_rfl),of_decide_eq_true (by kernel_rfl)⟩
 gen:=by kernel_rfl
 co:=by kernel_rfl
 nocell:=of_decide_eq_true (by kernel_rfl)
 bare:=⟨rfl,rfl,rfl,rfl⟩
 pre:=rfl
 at_:=⟨_,_,_,_,_,_,_,_,_,_,_,_,by rfl,by kernel_rfl,fun vs h=>by obtain ⟨a,rfl⟩:=mk_one h;rfl⟩
theorem m2_ok:MethAt (gg prog w p pp loose mean mg mb) 248 (fi2 p) "_study2" 196 ["self"] (bodyAt (H.heap39 p) 196):=
 ⟨by kernel_rfl,by kernel_rfl,by kernel_rfl,by kernel_rfl,of_decide_eq_true (by kernel_rfl),m2_ok_fn⟩
theorem m3_ok_fn:FnAt (gg prog w p pp loose mean mg mb) (fi3 p) 217 ["self"] (bodyAt (H.heap39 p) 217) where
 ok:=⟨by kernel_rfl,of_decide_eq_true (by kernel_rfl),fun _=>of_decide_eq_true (by kernel_rfl),of_decide_eq_true (by kernel_rfl)⟩
 gen:=by kernel_rfl
 co:=by kernel_rfl
 nocell:=of_decide_eq_true (by kernel_rfl)
 bare:=⟨rfl,rfl,rfl,rfl⟩
 pre:=rfl
 at_:=⟨_,_,_,_,_,_,_,_,_,_,_,_,by rfl,by kernel_rfl,fun vs h=>by obtain ⟨a,rfl⟩:=mk_one h;rfl⟩
theorem m3_ok:MethAt (gg prog w p pp loose mean mg mb) 248 (fi3 p) "compute_backslash_indent" 217 ["self"] (bodyAt (H.heap39 p) 217):=
 ⟨by kernel_rfl,by kernel_rfl,by kernel_rfl,by kernel_rfl,of_decide_eq_true (by kernel_rfl),m3_ok_fn⟩
theorem m4_ok_fn:FnAt (gg prog w p pp loose mean mg mb) (fi4 p) 161 ["self","s"] (bodyAt (H.heap39 p) 161) where
 ok:=⟨by kernel_rfl,of_decide_eq_true (by kernel_rfl),fun _=>of_decide_eq_true (by kernel_rfl),of_decide_eq_true (by kernel_rfl)⟩
 gen:=by kernel_rfl
 co:=by kernel_rfl
 nocell:=of_decide_eq_true (by kernel_rfl)
 bare:=⟨rfl,rfl,rfl,rfl⟩
 pre:=rfl
 at_:=⟨_,_,_,_,_,_,_,_,_,_,_,_,by rfl,by kernel_rfl,fun vs h=>by obtain ⟨a,b,rfl⟩:=mk_two h;rfl⟩
theorem m4_ok:MethAt (gg prog w p pp loose mean mg mb) 248 (fi4 p) "set_code" 161 ["self","s"] (bodyAt (H.heap39 p) 161):=
 ⟨by kernel_rfl,by kernel_rfl,by kernel_rfl,by kernel_rfl,of_decide_eq_true (by kernel_rfl),m4_ok_fn⟩
theorem m5_ok_fn:FnAt (gg prog w p pp loose mean mg mb) (fi5 p) 260 [] (bodyAt (H.heap39 p) 260) where
 ok:=⟨by kernel_rfl,of_decide_eq_true (by kernel_rfl),fun _=>of_decide_eq_true (by kernel_rfl),of_decide_eq_true (by kernel_rfl)⟩
 gen:=by kernel_rfl
 co:=by kernel_rfl
 nocell:=of_decide_eq_true (by kernel_rfl)
 bare:=⟨rfl,rfl,rfl,rfl⟩
 pre:=rfl
 at_:=⟨_,_,_,_,_,_,_,_,_,_,_,_,by rfl,by kernel_rfl,fun vs h=>by cases vs with | nil=>rfl | cons a r=>cases h⟩
theorem m5_ok:DefAt (gg prog w p pp loose mean mg mb) (fi5 p) "_law_signs" 260 [] (bodyAt (H.heap39 p) 260):=
 ⟨by kernel_rfl,by kernel_rfl,m5_ok_fn⟩
theorem m6_ok:DefAtC (gg prog w p pp loose mean mg mb) (fi6 p) "_law_columns" 265 "words" ["width"] (bodyAt (H.heap39 p) 265) where
 ns:=by kernel_rfl
 keep:=by kernel_rfl
 at_:=⟨⟨by kernel_rfl,of_decide_eq_true (by kernel_rfl),fun _=>of_decide_eq_true (by kernel_rfl),of_decide_eq_true (by kernel_rfl)⟩,by kernel_rfl,by kernel_rfl,fun n=>by rfl,by kernel_rfl,⟨rfl,rfl,rfl⟩,rfl,
  ⟨_,_,_,_,_,_,_,_,_,_,_,_,by rfl,by kernel_rfl,fun vs h=>by obtain ⟨a,b,rfl⟩:=mk_two h;rfl⟩⟩
theorem f2_ok:F2 (gg prog w p pp loose mean mg mb) ads p:=
 ⟨pf_ok,by kernel_rfl,m0_ok,m1_ok,m2_ok,m3_ok,m4_ok,m5_ok,m6_ok,by kernel_rfl,by kernel_rfl,by kernel_rfl,by kernel_rfl,by kernel_rfl,rfl,of_decide_eq_true (by kernel_rfl)⟩
end
end Mine
end
section
open PySem PySem.W PySem.Calls PyProof.Rows
set_option maxRecDepth 100000
set_option maxHeartbeats 4000000
set_option tactic.hygienic false
namespace Mine
theorem fi7_ok (p:Params) (a:Addr) (ns:List Int):FIok (fi7 p a ns):=⟨by kernel_rfl,of_decide_eq_true (by kernel_rfl),fun _=>of_decide_eq_true (by kernel_rfl),of_decide_eq_true (by kernel_rfl)⟩
theorem fi7_cell (p:Params) (a:Addr) (ns:List Int):∀x∈(fi7 p a ns).scope.names,x.2≠ .cell:=of_decide_eq_true (by kernel_rfl)
theorem j02_go {prog:Program}{w:World}{p:Params}{pp:Program}{loose:List PySem.Str}{mean:ExcName→Option Value}{mg mb:PySem.Str→Option Value}{h₀:Heap}{a fa:Addr}{vs:List Value}{ns:List Int}{cd:Value}{s:Shared}{m:PySem.Str→Option Value}
  {Q:Flow→Shared→Prop}{E:Value→Shared→Prop} (X:(H.heap39 p).In h₀) (T:Top pp loose mean mg mb h₀) (K0:Below callerA h₀ [] h₀) (hL:h₀.IsList a vs.toArray) (hI:IntsAre vs ns) (hn:ns.length≤63)
  (F:Fr h₀ h₀.objs.size s.heap m) (hm:m "script" =some (.ref a)) (N:News h₀ h₀.objs.size s.heap []) (ht:0<s.toks) (hQ:∀h' t' m',Fr h₀ h₀.objs.size h' m'→Q (.ret (.bool true)) (Sh s h' t')):
  wpAny (model prog w) (callerA.deeper (envOf "law" (fi7 p a ns).scope h₀.objs.size fa cd)) (execs (bodyAt (H.heap39 p) 270) (envOf "law" (fi7 p a ns).scope h₀.objs.size fa cd)) Q E s:=by
 refine law_go (G:=gg prog w p pp loose mean mg mb) (law2_R f2_ok a ns) (h₀:=h₀) (L:=h₀.objs.size) ?_ (PT.law2_ok ads a ns) ?_ hQ
 ·refine ⟨⟨fi7_ok p a ns,fun _=>⟨fa,cd,envOf_eq (fi7_cell p a ns)⟩,rfl,rfl,rfl,X,T,⟨callerA,h₀,[],_,K0,rfl,rfl,(fi7_ok p a ns).kind⟩,rfl, ?_, ?_, ?_⟩, ?_, ?_⟩
  ·intro q hq
   rw [List.mem_singleton.mp hq]
   exact ⟨vs,hL,hI,by show ns.length≤1000;omega⟩
  ·intro q hq;cases hq
  ·intro q hq;cases hq
  ·exact Nat.le_of_ble_eq_true rfl
  ·exact Nat.le_of_ble_eq_true rfl
 ·refine ⟨m,[],[],⟨F,N,List.nodup_nil,List.nodup_nil,rfl, ?_, ?_, ?_,ht,rfl, ?_⟩⟩
  ·intro k b c hb;cases hb
  ·intro i x pv e1 e2
   cases i with
   | zero=>
    right
    have e2':some (PV.glob (.ref a))=some pv:=e2
    have e1':some ("script" :PySem.Str)=some x:=e1
    cases e2'
    cases e1'
    exact ⟨rfl, .ref a,hm, .glob⟩
   | succ i=>
    left
    have e2':(List.replicate 11 PV.unb)[i]? =some pv:=e2
    exact (List.mem_replicate.mp (List.mem_of_getElem? e2')).2
  ·intro q hq;cases hq
  ·intro q hq;cases hq
theorem nOk:namesOk H.view (looseW H.view H.lo) (namesW H.view H.lo)=true:=by
 rw [PySem.W.Fast.te17448422675489707002,PySem.W.Fast.te821141287760084731];kernel_rfl
theorem nImp:importsNone H.view=true:=by
 rw [PySem.W.Fast.te2458874890965802552];kernel_rfl
local macro_rules | `(tactic| k_qdec)=> `(tactic| first | exact nOk | exact nImp)
theorem cw2:PySem.Challenge.rw_km0028_02.Holds:=by
 refine holds_law H.said fun said'=> ?_
 refine holds_openN (r:=PySem.Challenge.rw_km0028_02.row) (q:=H.view) (loose:=H.lo) (Xt:=H.xt) (XP:=XL H.view H.lv) (Yf:=Hook.obs H.hook) (Ya:=Hook.val H.hook) (YP:=Hook.says H.hook) (N:=16794) H.left (Hook.of H.hook) (Hook.keeps H.hook) (fun s e=>xl_of s (Bool.and_eq_true_iff.mp e).1) XL.keeps (by rfl) (by rfl) (by rfl) (fun s e=>recFacts_of (Bool.and_eq_true_iff.mp e).2) (by rfl) said' H.okV H.bare H.prom ?_
 k_go0
 rename Fr _ _ _ _=>F
 rename News _ _ _ _=>N
 rename IntsAre _ _=>hI
 rename Heap.IsList _ _ _=>hL
 rename Top _ _ _ _ _ _=>T
 rename Frag.In _ _=>X
 rename Below _ _ _ _=>K0
 refine j02_go X T K0 hL hI (by omega) F rfl N (Nat.succ_pos _) (fun h' t' m' F'=> ?_)
 dsimp only [Sh]
 wrow_close
end Mine
end
set_option maxRecDepth 100000 in
set_option maxHeartbeats 8000000 in
theorem PySem.Challenge.cw_km0028_02_holds : PySem.Challenge.rw_km0028_02.Holds := by
  exact Mine.cw2
