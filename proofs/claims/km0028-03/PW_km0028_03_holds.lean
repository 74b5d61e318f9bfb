import PyProof.Rows.All
import Wide.All
import OpenK.AllK
import Wide.FinOn
import PyProof.IsiH_list
import PyProof.Rows.RuleB_floordiv
import KE.KTryDeepN
import PySem.Challenge.RW_km0028_03
set_option Elab.async false
set_option linter.all false
set_option tactic.hygienic false
set_option genInjectivity false
set_option genSizeOf false
set_option bootstrap.genMatcherCode false
set_option maxRecDepth 100000
section
set_option tactic.hygienic true
open PySem PySem.W PySem.Calls PyProof.Rows
set_option maxHeartbeats 0
namespace _M.H
noncomputable abbrev pw:Program:=PySem.Challenge.pw_km0028_03
noncomputable abbrev kh (P:Params) (x:PySem.Str):Int:=PyData.keyHash P x
noncomputable def sA (i:Nat):Stmt:=pw.main.body.getD i (.Pass ⟨0,0,0,0⟩)
noncomputable def sC (i j:Nat):Stmt:=match sA i with
 | .ClassDef _ _ _ b .. =>b.getD j (.Pass ⟨0,0,0,0⟩)
 | s=>s
noncomputable def fA:Stmt→Arguments
 | .FunctionDef _ a .. =>a
 | _=>⟨[],[], .none,[],[], .none,[]⟩
noncomputable def fB:Stmt→List Stmt
 | .FunctionDef _ _ b .. =>b
 | _=>[]
noncomputable def fS:Stmt→Scope
 | .FunctionDef _ _ _ _ _ _ s .. =>s
 | _=>default
noncomputable abbrev e (P:Params) (x:PySem.Str) (k:Nat) (v:Value):DictEntry:=⟨kh P x, .str x k,v⟩
noncomputable abbrev eb (P:Params) (x:String) (k:Nat):DictEntry:=⟨kh P (PySem.Str.ofString x), .str (PySem.Str.ofString x) k, .builtin x⟩
noncomputable abbrev et (P:Params) (x:String) (k:Nat):DictEntry:=⟨kh P (PySem.Str.ofString x), .str (PySem.Str.ofString x) k, .type x⟩
noncomputable abbrev tu (l:Array Value):Obj:=⟨.type "tuple", .none, .seq l 0, #[]⟩
noncomputable abbrev di (l:Array DictEntry) (n:Nat):Obj:=⟨.type "dict", .none, .dict l n, #[]⟩
noncomputable abbrev co (x y:PySem.Str) (k l m:Nat) (a b c d e g:Int) (r:Addr) (q:Bool) (h:Int) (j:Addr) (u v w z:Value) (i i2:Int) (n:Nat):Obj:=
 ⟨.type "code", .none, .fields #[.str x k, .str y l, .str "/claim/cut.py" m, .int a 0, .int b 0, .int c 0, .int d 0, .int e g.toNat, .ref r, .bool q, .int h 0, .ref j,u,v,w,z, .int i 0, .int i2 0, .str "/claim/cut.py" n], #[]⟩
noncomputable abbrev lB (o:Obj):BT:= .node o .nil .nil
noncomputable def iq:List Int→Nat→List Value
 | [],_=>[]
 | a::r,k=> .int a k::iq r (k+1)
noncomputable def iz:List Int→List Value
 | []=>[]
 | a::r=> .int a 0::iz r
noncomputable def trE (v:List (Nat×Int×Nat)) (k:Nat):Nat→List DictEntry→List DictEntry
 | 0,acc=>acc
 | i+1,acc=>trE v k i (⟨i, .int i (k+(i+i)),match v.lookup i with | some (a,t)=> .int a t | none=> .int 120 (k-1)⟩::acc)
noncomputable def o41 (P:Params):Obj:=di #[e P "__name__" 1 (.str "builtins" 160),e P "__doc__" 2 (.builtin "builtins.__doc__:str#opaque"),e P "__package__" 3 (.builtin "builtins.__package__:str#opaque"),e P "__loader__" 4 (.builtin "builtins.__loader__:shared#opaque"),e P "__spec__" 5 (.builtin "builtins.__spec__#opaque"),eb P "__build_class__" 6,eb P "__import__" 7,eb P "abs" 8,eb P "all" 9,eb P "any" 10,eb P "ascii" 11,eb P "bin" 12,eb P "breakpoint" 13,eb P "callable" 14,eb P "chr" 15,eb P "compile" 16,eb P "delattr" 17,eb P "dir" 18,eb P "divmod" 19,eb P "eval" 20,eb P "exec" 21,eb P "format" 22,eb P "getattr" 23,eb P "globals" 24,eb P "hasattr" 25,eb P "hash" 26,eb P "hex" 27,eb P "id" 28,eb P "input" 29,eb P "isinstance" 30,eb P "issubclass" 31,eb P "iter" 32,eb P "aiter" 33,eb P "len" 34,eb P "locals" 35,eb P "max" 36,eb P "min" 37,eb P "next" 38,eb P "anext" 39,eb P "oct" 40,eb P "ord" 41,eb P "pow" 42,eb P "print" 43,eb P "repr" 44,eb P "round" 45,eb P "setattr" 46,eb P "sorted" 47,eb P "sum" 48,eb P "vars" 49,e P "None" 50 .none,e P "Ellipsis" 51 .ellipsis,e P "NotImplemented" 52 .notImplemented,e P "False" 53 (.bool .false),e P "True" 54 (.bool .true),et P "bool" 55,et P "memoryview" 56,et P "bytearray" 57,et P "bytes" 58,et P "classmethod" 59,et P "complex" 60,et P "dict" 61,et P "enumerate" 62,et P "filter" 63,et P "float" 64,et P "frozenset" 65,et P "property" 66,et P "int" 67,et P "list" 68,et P "map" 69,et P "object" 70,et P "range" 71,et P "reversed" 72,et P "set" 73,et P "slice" 74,et P "staticmethod" 75,et P "str" 76,et P "super" 77,et P "tuple" 78,et P "type" 79,et P "zip" 80,e P "__debug__" 81 (.bool .true),et P "BaseException" 82,et P "BaseExceptionGroup" 83,et P "Exception" 84,et P "GeneratorExit" 85,et P "KeyboardInterrupt" 86,et P "SystemExit" 87,et P "ArithmeticError" 88,et P "AssertionError" 89,et P "AttributeError" 90,et P "BufferError" 91,et P "EOFError" 92,et P "ImportError" 93,et P "LookupError" 94,et P "MemoryError" 95,et P "NameError" 96,et P "OSError" 97,et P "ReferenceError" 98,et P "RuntimeError" 99,et P "StopAsyncIteration" 100,et P "StopIteration" 101,et P "SyntaxError" 102,et P "SystemError" 103,et P "TypeError" 104,et P "ValueError" 105,et P "Warning" 106,et P "FloatingPointError" 107,et P "OverflowError" 108,et P "ZeroDivisionError" 109,et P "BytesWarning" 110,et P "DeprecationWarning" 111,et P "EncodingWarning" 112,et P "FutureWarning" 113,et P "ImportWarning" 114,et P "PendingDeprecationWarning" 115,et P "ResourceWarning" 116,et P "RuntimeWarning" 117,et P "SyntaxWarning" 118,et P "UnicodeWarning" 119,et P "UserWarning" 120,et P "BlockingIOError" 121,et P "ChildProcessError" 122,et P "ConnectionError" 123,et P "FileExistsError" 124,et P "FileNotFoundError" 125,et P "InterruptedError" 126,et P "IsADirectoryError" 127,et P "NotADirectoryError" 128,et P "PermissionError" 129,et P "ProcessLookupError" 130,et P "TimeoutError" 131,et P "IndentationError" 132,et P "_IncompleteInputError" 133,et P "IndexError" 134,et P "KeyError" 135,et P "ModuleNotFoundError" 136,et P "NotImplementedError" 137,et P "PythonFinalizationError" 138,et P "RecursionError" 139,et P "UnboundLocalError" 140,et P "UnicodeError" 141,et P "BrokenPipeError" 142,et P "ConnectionAbortedError" 143,et P "ConnectionRefusedError" 144,et P "ConnectionResetError" 145,et P "TabError" 146,et P "UnicodeDecodeError" 147,et P "UnicodeEncodeError" 148,et P "UnicodeTranslateError" 149,et P "ExceptionGroup" 150,e P "EnvironmentError" 151 (.type "OSError"),e P "IOError" 152 (.type "OSError"),eb P "open" 153,e P "quit" 154 (.builtin "builtins.quit#opaque"),e P "exit" 155 (.builtin "builtins.exit#opaque"),e P "copyright" 156 (.builtin "builtins.copyright#opaque"),e P "credits" 157 (.builtin "builtins.credits#opaque"),e P "license" 158 (.builtin "builtins.license#opaque"),e P "help" 159 (.builtin "builtins.help#opaque")] 159
noncomputable def o42 (P:Params):Obj:=di #[e P "builtins" 162 (.ref 4),e P "__main__" 163 (.ref 5),e P "_sre" 244 (.ref 12)] 3
noncomputable def o43 (P:Params):Obj:=⟨.none, .none,(.dict #[e P "\x69mport.loaded._sre" 183 (.bool .true),e P "class._frozen_importlib.BuiltinImporter" 185 (.ref 14),e P "watched.\x69mport" 206 (.ref 18),e P "class._frozen_importlib.ModuleSpec" 216 (.ref 22),e P "sys.modules.booked-epoch" 245 (.int 3 0),e P "\x69mport.later-laid._sre" 270 (.bool .true),e P "watched.library" 272 (.ref 27),e P "watched.library-objects" 0 (.str "\x0c" 0),e P "watched.library-deep._sre" 273 (.str "\x04\x00\x00\x0b\x04\x00\x00\x0b\x04\x00\x00\x03\x04\x00\x00\x0b\x08\x04dict\x02" 0)] 9), #[]⟩
noncomputable def o44 (P:Params):Obj:=di #[e P "__name__" 165 (.str "__main__" 164),e P "__doc__" 166 .none,e P "__package__" 167 .none,e P "__loader__" 168 (.builtin "__main__.__loader__#opaque"),e P "__spec__" 169 .none,e P "__annotations__" 170 (.ref 6),e P "__builtins__" 171 (.ref 4),e P "__file__" 173 (.str "/claim/cut.py" 172),e P "__cached__" 174 .none,e P "_sre" 275 (.ref 12)] 10
noncomputable def o45:Obj:=⟨(.type "module"),(.some 0), .plain, #[]⟩
noncomputable def o46:Obj:=⟨(.type "module"),(.some 3), .plain, #[]⟩
noncomputable def o47:Obj:=di #[] 0
noncomputable def o48:Obj:=tu #[]
noncomputable def o49:Obj:=⟨.none, .none,(.fields #[]), #[]⟩
noncomputable def o50:Obj:=co "<module>" "<module>" 176 177 178 1 0 0 0 0 0 7 .false 175 8 .none .none .none .none 179 1 180
noncomputable def o51:Obj:=⟨(.type "frame"), .none, .plain, #[(.some (.ref 9)),(.some (.ref 3)),(.some (.ref 3)), .none,(.some (.str "__main__" 164)), .none,(.some (.ref 0))]⟩
noncomputable def o52 (P:Params):Obj:=di #[e P "__name__" 247 (.str "_sre" 246),e P "__doc__" 248 .none,e P "__package__" 250 (.str "" 249),e P "__loader__" 251 (.builtin "off-the-table:_sre.__loader__:shared#opaque"),e P "__spec__" 252 (.builtin "off-the-table:_sre.__spec__:shared#opaque"),e P "compile" 253 (.builtin "_sre.compile"),e P "template" 254 (.builtin "off-the-table:_sre.template:shared#opaque"),e P "getcodesize" 255 (.builtin "off-the-table:_sre.getcodesize:shared#opaque"),e P "ascii_iscased" 256 (.builtin "off-the-table:_sre.ascii_iscased:shared#opaque"),e P "unicode_iscased" 257 (.builtin "off-the-table:_sre.unicode_iscased:shared#opaque"),e P "ascii_tolower" 258 (.builtin "off-the-table:_sre.ascii_tolower:shared#opaque"),e P "unicode_tolower" 259 (.builtin "off-the-table:_sre.unicode_tolower:shared#opaque"),e P "MAGIC" 261 (.int 20230612 260),e P "CODESIZE" 263 (.int 4 262),e P "MAXREPEAT" 265 (.int 4294967295 264),e P "MAXGROUPS" 267 (.int 1073741823 266),⟨(kh P "copyright"),(.str "copyright" 269),(.str " SRE 2.2.2 Copyright (c) 1997-2002 by Secret Labs AB " 268)⟩] 17
noncomputable def o53:Obj:=⟨(.type "module"),(.some 11), .plain, #[]⟩
noncomputable def o54 (P:Params):Obj:=di #[e P "__module__" 189 (.str "_frozen_importlib" 186),e P "__firstlineno__" 190 (.int 971 187),e P "__doc__" 191 (.builtin "_frozen_importlib.BuiltinImporter.__doc__:str#opaque"),e P "_ORIGIN" 192 (.str "built-in" 188),e P "find_spec" 193 (.builtin "_frozen_importlib.BuiltinImporter.find_spec#opaque"),e P "create_module" 194 (.builtin "_frozen_importlib.BuiltinImporter.create_module#opaque"),e P "exec_module" 195 (.builtin "_frozen_importlib.BuiltinImporter.exec_module#opaque"),e P "get_code" 196 (.builtin "_frozen_importlib.BuiltinImporter.get_code#opaque"),e P "get_source" 197 (.builtin "_frozen_importlib.BuiltinImporter.get_source#opaque"),e P "is_package" 198 (.builtin "_frozen_importlib.BuiltinImporter.is_package#opaque"),e P "load_module" 199 (.builtin "_frozen_importlib.BuiltinImporter.load_module#opaque"),e P "__static_attributes__" 200 (.ref 15),e P "__dict__" 202 (.ref 16),e P "__weakref__" 204 (.ref 17)] 14
noncomputable def o55:Obj:=⟨(.type "type"), .none,(.cls ⟨"BuiltinImporter",[(.type "object")],[(.ref 14),(.type "object")],13,"BuiltinImporter", .true,[],[], .false, .none, .false⟩), #[]⟩
noncomputable def o56:Obj:=tu #[]
noncomputable def o57:Obj:=⟨(.type "getset_descriptor"), .none,(.fields #[(.str "__dict__" 201),(.ref 14),(.builtin "function.__dict__"),(.builtin "function.__dict__#set")]), #[]⟩
noncomputable def o58:Obj:=⟨(.type "getset_descriptor"), .none,(.fields #[(.str "__weakref__" 203),(.ref 14),(.builtin "ExceptionGroup.__weakref__"), .none]), #[]⟩
noncomputable def o59:Obj:=⟨.none, .none,(.seq #[(.int 13 0),(.str "\x06½\n__module__\x06º\x11_frozen_importlib\x06¾\x0f__firstlineno__\x04»\x00ϋ\x06¿\x07__doc__\t4_frozen_importlib.BuiltinImporter.__doc__:str#opaque\x06À\x07_ORIGIN\x06¼\x08built-in\x06Á\tfind_spec\t2_frozen_importlib.BuiltinImporter.find_spec#opaque\x06Â\x0dcreate_module\t6_frozen_importlib.BuiltinImporter.create_module#opaque\x06Ã\x0bexec_module\t4_frozen_importlib.BuiltinImporter.exec_module#opaque\x06Ä\x08get_code\t1_frozen_importlib.BuiltinImporter.get_code#opaque\x06Å\nget_source\t3_frozen_importlib.BuiltinImporter.get_source#opaque\x06Æ\nis_package\t3_frozen_importlib.BuiltinImporter.is_package#opaque\x06Ç\x0bload_module\t4_frozen_importlib.BuiltinImporter.load_module#opaque\x06È\x15__static_attributes__\x04\x00\x00\x0f\x06Ê\x08__dict__\x04\x00\x00\x10\x06Ì\x0b__weakref__\x04\x00\x00\x11" 0),(.bool .true),(.bool .true),(.str "" 205),(.int 21 0),(.str "\x06ã\n__module__\x06Ù\x11_frozen_importlib\x06ä\x0f__firstlineno__\x04Ú\x00Ȳ\x06å\x07__doc__\t/_frozen_importlib.ModuleSpec.__doc__:str#opaque\x06æ\x08__init__\t,_frozen_importlib.ModuleSpec.__init__#opaque\x06ç\x08__repr__\t,_frozen_importlib.ModuleSpec.__repr__#opaque\x06è\x06__eq__\t*_frozen_importlib.ModuleSpec.__eq__#opaque\x06é\x06cached\t*_frozen_importlib.ModuleSpec.cached#opaque\x06ê\x06parent\t*_frozen_importlib.ModuleSpec.parent#opaque\x06ë\x0chas_location\t0_frozen_importlib.ModuleSpec.has_location#opaque\x06ì\x15__static_attributes__\x04\x00\x00\x17\x06î\x08__dict__\x04\x00\x00\x18\x06ð\x0b__weakref__\x04\x00\x00\x19\x06ñ\x08__hash__\x00" 0),(.bool .true),(.bool .true),(.str "" 242)] 1), #[]⟩
noncomputable def o60:Obj:=⟨(.type "list"), .none,(.seq #[] 0), #[]⟩
noncomputable def o61 (P:Params):Obj:=di #[e P "name" 208 (.str "_sre" 207),e P "loader" 209 (.ref 14),e P "origin" 210 (.str "built-in" 184),e P "loader_state" 211 .none,e P "submodule_search_locations" 212 .none,e P "_uninitialized_submodules" 213 (.ref 19),e P "_set_fileattr" 214 (.bool .false),e P "_cached" 215 .none,e P "_initializing" 243 (.bool .false)] 9
noncomputable def o62 (P:Params):Obj:=di #[e P "__module__" 227 (.str "_frozen_importlib" 217),e P "__firstlineno__" 228 (.int 562 218),e P "__doc__" 229 (.builtin "_frozen_importlib.ModuleSpec.__doc__:str#opaque"),e P "__init__" 230 (.builtin "_frozen_importlib.ModuleSpec.__init__#opaque"),e P "__repr__" 231 (.builtin "_frozen_importlib.ModuleSpec.__repr__#opaque"),e P "__eq__" 232 (.builtin "_frozen_importlib.ModuleSpec.__eq__#opaque"),e P "cached" 233 (.builtin "_frozen_importlib.ModuleSpec.cached#opaque"),e P "parent" 234 (.builtin "_frozen_importlib.ModuleSpec.parent#opaque"),e P "has_location" 235 (.builtin "_frozen_importlib.ModuleSpec.has_location#opaque"),e P "__static_attributes__" 236 (.ref 23),e P "__dict__" 238 (.ref 24),e P "__weakref__" 240 (.ref 25),e P "__hash__" 241 .none] 13
noncomputable def o63:Obj:=⟨(.type "type"), .none,(.cls ⟨"ModuleSpec",[(.type "object")],[(.ref 22),(.type "object")],21,"ModuleSpec", .true,[],[], .false, .none, .false⟩), #[]⟩
noncomputable def o64:Obj:=tu #[(.str "_cached" 219),(.str "_set_fileattr" 220),(.str "_uninitialized_submodules" 221),(.str "loader" 222),(.str "loader_state" 223),(.str "name" 224),(.str "origin" 225),(.str "submodule_search_locations" 226)]
noncomputable def o65:Obj:=⟨(.type "getset_descriptor"), .none,(.fields #[(.str "__dict__" 237),(.ref 22),(.builtin "function.__dict__"),(.builtin "function.__dict__#set")]), #[]⟩
noncomputable def o66:Obj:=⟨(.type "getset_descriptor"), .none,(.fields #[(.str "__weakref__" 239),(.ref 22),(.builtin "ExceptionGroup.__weakref__"), .none]), #[]⟩
noncomputable def o67:Obj:=⟨(.ref 22),(.some 20), .plain, #[]⟩
noncomputable def o68:Obj:=⟨.none, .none,(.seq #[(.int 11 0),(.str ⟨#[6,247,8,95,95,110,97,109,101,95,95,6,246,4,95,115,114,101,6,248,7,95,95,100,111,99,95,95,0,6,250,11,95,95,112,97,99,107,97,103,101,95,95,6,249,0,6,251,10,95,95,108,111,97,100,101,114,95,95,4,0,0,14,6,252,8,95,95,115,112,101,99,95,95,4,0,0,26,6,253,7,99,111,109,112,105,108,101,9,12,95,115,114,101,46,99,111,109,112,105,108,101,6,254,8,116,101,109,112,108,97,116,101,9,13,95,115,114,101,46,116,101,109,112,108,97,116,101,6,255,11,103,101,116,99,111,100,101,115,105,122,101,9,16,95,115,114,101,46,103,101,116,99,111,100,101,115,105,122,101,6,256,13,97,115,99,105,105,95,105,115,99,97,115,101,100,9,18,95,115,114,101,46,97,115,99,105,105,95,105,115,99,97,115,101,100,6,257,15,117,110,105,99,111,100,101,95,105,115,99,97,115,101,100,9,20,95,115,114,101,46,117,110,105,99,111,100,101,95,105,115,99,97,115,101,100,6,258,13,97,115,99,105,105,95,116,111,108,111,119,101,114,9,18,95,115,114,101,46,97,115,99,105,105,95,116,111,108,111,119,101,114,6,259,15,117,110,105,99,111,100,101,95,116,111,108,111,119,101,114,9,20,95,115,114,101,46,117,110,105,99,111,100,101,95,116,111,108,111,119,101,114,6,261,5,77,65,71,73,67,4,260,0,20230612,6,263,8,67,79,68,69,83,73,90,69,4,262,0,4,6,265,9,77,65,88,82,69,80,69,65,84,4,264,0,4294967295,6,267,9,77,65,88,71,82,79,85,80,83,4,266,0,1073741823,6,269,9,99,111,112,121,114,105,103,104,116,6,268,53,32,83,82,69,32,50,46,50,46,50,32,67,111,112,121,114,105,103,104,116,32,40,99,41,32,49,57,57,55,45,50,48,48,50,32,98,121,32,83,101,99,114,101,116,32,76,97,98,115,32,65,66,32]⟩ 0),(.bool .true),(.bool .false),(.str "_sre" 271)] 0), #[]⟩
noncomputable def fT (P:Params):Heap:=⟨#[(o41 P),(o42 P),(o43 P),(o44 P),o45,o46,o47,o48,o49,o50,o51,(o52 P),o53,(o54 P),o55,o56,o57,o58,o59,o60,(o61 P),(o62 P),o63,o64,o65,o66,o67,o68],⟨[],[],[],0,[],[], .false, #[],[],0, .false, .false, .false,0,[2000,10,10], .false,0, .true,[],[],0, .false⟩⟩
noncomputable def o69:Obj:=tu #[]
noncomputable def o70:Obj:=⟨.none, .none,(.fields #[]), #[]⟩
noncomputable def o71:Obj:=co "<module>" "<module>" 277 278 279 1 0 0 0 0 0 28 .false 276 29 .none .none .none .none 280 1 281
noncomputable def o72:Obj:=⟨(.type "frame"), .none, .plain, #[(.some (.ref 30)),(.some (.ref 3)),(.some (.ref 3)), .none,(.some (.str "__main__" 164)), .none,(.some (.ref 0))]⟩
noncomputable def aL5 (P:Params):Heap:=⟨#[(o41 P),(o42 P),(o43 P),(o44 P),o45,o46,o47,o48,o49,o50,o51,(o52 P),o53,(o54 P),o55,o56,o57,o58,o59,o60,(o61 P),(o62 P),o63,o64,o65,o66,o67,o68,o69,o70,o71,o72],⟨[],[],[],0,[],[], .false, #[],[],0, .false, .false, .false,0,[2000,10,10], .false,0, .true,[],[],0, .false⟩⟩
noncomputable def aD9 (P:Params):BT:=(.node (o41 P) (.node (o42 P) (.node (o44 P) (.node o48 (.node o56 (lB o72) .nil) (lB o64)) (.node (o52 P) (lB o60) (lB o68))) (.node o46 (.node o50 (lB o58) (lB o66)) (.node (o54 P) (lB (o62 P)) (lB o70)))) (.node (o43 P) (.node o45 (.node o49 (lB o57) (lB o65)) (.node o53 (lB (o61 P)) (lB o69))) (.node o47 (.node o51 (lB o59) (lB o67)) (.node o55 (lB o63) (lB o71)))))
noncomputable def o75 (P:Params):Obj:=di #[e P "__name__" 165 (.str "cpy313.idlelib.pyparse" 289),e P "__doc__" 166 .none,e P "__package__" 167 .none,e P "__loader__" 168 (.builtin "__main__.__loader__#opaque"),e P "__spec__" 169 .none,e P "__annotations__" 170 (.ref 6),e P "__builtins__" 171 (.ref 4),e P "__file__" 173 (.str "/claim/cut.py" 172),e P "__cached__" 174 .none,e P "_sre" 275 (.ref 12),e P "_wall" 288 (.ref 38),e P "_twin_re_2" 334 (.ref 43),e P "_twin_re_3" 609 (.ref 48),e P "_twin_re_6" 639 (.ref 53),e P "_twin_re_7" 663 (.ref 58)] 15
noncomputable def o76:Obj:=⟨.none, .none,(.fields #[(.int 2 0),(.int 0 0),(.ref 37)]), #[]⟩
noncomputable def o77:Obj:=tu #[]
noncomputable def o78:Obj:=⟨.none, .none,(.fields #[]), #[]⟩
noncomputable def o79:Obj:=tu #[(.str "k" 285)]
noncomputable def o80:Obj:=tu #[]
noncomputable def o81:Obj:=⟨.none, .none,(.func ⟨"_wall","_wall",(fA (sA 1)),(.stmts (fB (sA 1))),(fS (sA 1)),0,[], .none, .none, .none, .none, .none, .none, .none,0⟩), #[]⟩
noncomputable def o82:Obj:=co "_wall" "_wall" 282 283 284 2 1 0 0 3 0 32 .true 276 33 .none (.ref 34) (.ref 35) (.ref 36) 286 2 287
noncomputable def o83:Obj:=⟨(.type "function"), .none,(.func ⟨"_wall","_wall",(fA (sA 1)),(.stmts (fB (sA 1))),(fS (sA 1)),3,[], .none, .none, .none,(.str "__main__" 164), .none,(.ref 37), .none,0⟩), #[]⟩
noncomputable def o84:Obj:=⟨(.type "list"), .none,(.seq (iq [14,4,0,1,4294967295,24,11,0,4294967295,13,6,16,32,16,9,0,1,23,16,0,1,16,35,13,4,8,13,0,24,5,0,4294967295,2,1,18,16,10,1] 294).toArray 0), #[]⟩
noncomputable def o85:Obj:=di #[] 0
noncomputable def o86:Obj:=tu #[.none]
noncomputable def o87:Obj:=tu (iz [14,4,0,1,4294967295,24,11,0,4294967295,13,6,16,32,16,9,0,1,23,16,0,1,16,35,13,4,8,13,0,24,5,0,4294967295,2,1,18,16,10,1]).toArray
noncomputable def o88:Obj:=⟨(.type "re.Pattern"), .none,(.fields #[(.str "\n    [ \\t]*\n    (?: \\# \\S .* )?\n    \\n\n" 292),(.int 96 333),(.int 0 0), .none, .none,(.ref 42),(.int 0 0)]), #[]⟩
noncomputable def o89:Obj:=⟨(.type "list"), .none,(.seq (iq [14,9,4,1,4294967295,16,34,16,39,0,7,72,16,34,16,34,16,34,24,12,0,4294967295,13,7,21,16,34,16,92,0,1,23,37,0,4294967295,7,6,16,92,3,15,15,13,16,34,5,7,0,16,34,16,34,1,15,2,0,24,12,0,4294967295,13,7,21,16,34,16,92,0,1,18,23,9,0,1,16,34,16,34,16,34,18,15,186,56,16,34,24,17,0,4294967295,13,12,21,9,1024,4,268435456,0,0,0,0,0,0,1,23,24,0,4294967295,16,92,3,24,17,0,4294967295,13,12,21,9,1024,4,268435456,0,0,0,0,0,0,1,18,24,6,0,1,16,34,1,15,130,72,16,39,16,39,16,39,24,12,0,4294967295,13,7,21,16,39,16,92,0,1,23,37,0,4294967295,7,6,16,92,3,15,15,13,16,39,5,7,0,16,39,16,39,1,15,2,0,24,12,0,4294967295,13,7,21,16,39,16,92,0,1,18,23,9,0,1,16,39,16,39,16,39,18,15,58,56,16,39,24,17,0,4294967295,13,12,21,9,1024,128,268435456,0,0,0,0,0,0,1,23,24,0,4294967295,16,92,3,24,17,0,4294967295,13,12,21,9,1024,128,268435456,0,0,0,0,0,0,1,18,24,6,0,1,16,39,1,15,2,0,1] 338).toArray 0), #[]⟩
noncomputable def o90:Obj:=di #[] 0
noncomputable def o91:Obj:=tu #[.none]
noncomputable def o92:Obj:=tu (iz [14,9,4,1,4294967295,16,34,16,39,0,7,72,16,34,16,34,16,34,24,12,0,4294967295,13,7,21,16,34,16,92,0,1,23,37,0,4294967295,7,6,16,92,3,15,15,13,16,34,5,7,0,16,34,16,34,1,15,2,0,24,12,0,4294967295,13,7,21,16,34,16,92,0,1,18,23,9,0,1,16,34,16,34,16,34,18,15,186,56,16,34,24,17,0,4294967295,13,12,21,9,1024,4,268435456,0,0,0,0,0,0,1,23,24,0,4294967295,16,92,3,24,17,0,4294967295,13,12,21,9,1024,4,268435456,0,0,0,0,0,0,1,18,24,6,0,1,16,34,1,15,130,72,16,39,16,39,16,39,24,12,0,4294967295,13,7,21,16,39,16,92,0,1,23,37,0,4294967295,7,6,16,92,3,15,15,13,16,39,5,7,0,16,39,16,39,1,15,2,0,24,12,0,4294967295,13,7,21,16,39,16,92,0,1,18,23,9,0,1,16,39,16,39,16,39,18,15,58,56,16,39,24,17,0,4294967295,13,12,21,9,1024,128,268435456,0,0,0,0,0,0,1,23,24,0,4294967295,16,92,3,24,17,0,4294967295,13,12,21,9,1024,128,268435456,0,0,0,0,0,0,1,18,24,6,0,1,16,39,1,15,2,0,1]).toArray
noncomputable def o93:Obj:=⟨(.type "re.Pattern"), .none,(.fields #[(.str "\n    \\\"\"\" [^\"\\\\]* (?:\n                     (?: \\\\. | \"(?!\"\") )\n                     [^\"\\\\]*\n                 )*\n    (?: \\\"\"\" )?\n\n|   \" [^\"\\\\\\n]* (?: \\\\. [^\"\\\\\\n]* )* \"?\n\n|   ''' [^'\\\\]* (?:\n                   (?: \\\\. | '(?!'') )\n                   [^'\\\\]*\n                )*\n    (?: ''' )?\n\n|   ' [^'\\\\\\n]* (?: \\\\. [^'\\\\\\n]* )* '?\n" 336),(.int 112 608),(.int 0 0), .none, .none,(.ref 47),(.int 0 0)]), #[]⟩
noncomputable def o94:Obj:=⟨(.type "list"), .none,(.seq (iq [14,4,0,1,4294967295,24,17,1,4294967295,13,12,21,9,0,908,939524096,671088640,0,0,0,0,0,1,1] 613).toArray 0), #[]⟩
noncomputable def o95:Obj:=di #[] 0
noncomputable def o96:Obj:=tu #[.none]
noncomputable def o97:Obj:=tu (iz [14,4,0,1,4294967295,24,17,1,4294967295,13,12,21,9,0,908,939524096,671088640,0,0,0,0,0,1,1]).toArray
noncomputable def o98:Obj:=⟨(.type "re.Pattern"), .none,(.fields #[(.str "\n    [^[\\](){}#'\"\\\\]+\n" 611),(.int 96 638),(.int 0 0), .none, .none,(.ref 52),(.int 0 0)]), #[]⟩
noncomputable def o99:Obj:=⟨(.type "list"), .none,(.seq (iq [14,4,0,1,4294967295,24,9,0,4294967295,13,4,8,12,0,1,16,92,1] 643).toArray 0), #[]⟩
noncomputable def qH:Obj:=di #[] 0
noncomputable def qG:Obj:=tu #[.none]
noncomputable def pC:Obj:=tu (iz [14,4,0,1,4294967295,24,9,0,4294967295,13,4,8,12,0,1,16,92,1]).toArray
noncomputable def pB:Obj:=⟨(.type "re.Pattern"), .none,(.fields #[(.str "\\s*\\\\" 641),(.int 32 662),(.int 0 0), .none, .none,(.ref 57),(.int 0 0)]), #[]⟩
noncomputable def yE (P:Params):BT:=(.node (o41 P) (.node (o42 P) (.node (o75 P) (.node o48 (.node o56 (lB o72) (lB o92)) (.node o64 (lB o84) (lB qH))) (.node (o52 P) (.node o60 (lB o80) (lB o96)) (.node o68 (lB o88) .nil))) (.node o46 (.node o50 (.node o58 (lB o78) (lB o94)) (.node o66 (lB o86) (lB pC))) (.node (o54 P) (.node (o62 P) (lB o82) (lB o98)) (.node o76 (lB o90) .nil)))) (.node (o43 P) (.node o45 (.node o49 (.node o57 (lB o77) (lB o93)) (.node o65 (lB o85) (lB qG))) (.node o53 (.node (o61 P) (lB o81) (lB o97)) (.node o69 (lB o89) .nil))) (.node o47 (.node o51 (.node o59 (lB o79) (lB o95)) (.node o67 (lB o87) (lB pB))) (.node o55 (.node o63 (lB o83) (lB o99)) (.node o71 (lB o91) .nil)))))
noncomputable def o104 (P:Params):Obj:=di #[e P "__name__" 165 (.str "cpy313.idlelib.pyparse" 289),e P "__doc__" 166 .none,e P "__package__" 167 .none,e P "__loader__" 168 (.builtin "__main__.__loader__#opaque"),e P "__spec__" 169 .none,e P "__annotations__" 170 (.ref 6),e P "__builtins__" 171 (.ref 4),e P "__file__" 173 (.str "/claim/cut.py" 172),e P "__cached__" 174 .none,e P "_sre" 275 (.ref 12),e P "_wall" 288 (.ref 38),e P "_twin_re_2" 334 (.ref 43),e P "_twin_re_3" 609 (.ref 48),e P "_twin_re_6" 639 (.ref 53),e P "_twin_re_7" 663 (.ref 58),e P "C_NONE" 672 (.int 0 667),e P "C_BACKSLASH" 673 (.int 1 668),e P "C_STRING_FIRST_LINE" 674 (.int 2 669),e P "C_STRING_NEXT_LINES" 675 (.int 3 670),e P "C_BRACKET" 676 (.int 4 671)] 20
noncomputable def sU:Obj:=⟨(.type "range"), .none,(.fields #[(.int 0 665),(.int 5 664),(.int 1 666)]), #[]⟩
noncomputable def sT:Obj:=⟨(.type "range_iterator"), .none,(.fields #[(.int 5 0),(.int 0 0),(.int 1 0)]), #[]⟩
noncomputable def sS:Obj:=tu #[]
noncomputable def sR:Obj:=⟨(.type "StopIteration"), .none,(.fields #[(.ref 61), .none, .none, .none,(.bool .false), .none]), #[]⟩
noncomputable def yD (P:Params):BT:=(.node (o41 P) (.node (o42 P) (.node (o104 P) (.node o48 (.node o56 (lB o72) (lB o92)) (.node o64 (lB o84) (lB qH))) (.node (o52 P) (.node o60 (lB o80) (lB o96)) (.node o68 (lB o88) (lB sU)))) (.node o46 (.node o50 (.node o58 (lB o78) (lB o94)) (.node o66 (lB o86) (lB pC))) (.node (o54 P) (.node (o62 P) (lB o82) (lB o98)) (.node o76 (lB o90) (lB sS))))) (.node (o43 P) (.node o45 (.node o49 (.node o57 (lB o77) (lB o93)) (.node o65 (lB o85) (lB qG))) (.node o53 (.node (o61 P) (lB o81) (lB o97)) (.node o69 (lB o89) (lB sT)))) (.node o47 (.node o51 (.node o59 (lB o79) (lB o95)) (.node o67 (lB o87) (lB pB))) (.node o55 (.node o63 (lB o83) (lB o99)) (.node o71 (lB o91) (lB sR))))))
noncomputable def o111 (P:Params):Obj:=di #[e P "__name__" 165 (.str "cpy313.idlelib.pyparse" 289),e P "__doc__" 166 .none,e P "__package__" 167 .none,e P "__loader__" 168 (.builtin "__main__.__loader__#opaque"),e P "__spec__" 169 .none,e P "__annotations__" 170 (.ref 6),e P "__builtins__" 171 (.ref 4),e P "__file__" 173 (.str "/claim/cut.py" 172),e P "__cached__" 174 .none,e P "_sre" 275 (.ref 12),e P "_wall" 288 (.ref 38),e P "_twin_re_2" 334 (.ref 43),e P "_twin_re_3" 609 (.ref 48),e P "_twin_re_6" 639 (.ref 53),e P "_twin_re_7" 663 (.ref 58),e P "C_NONE" 672 (.int 0 667),e P "C_BACKSLASH" 673 (.int 1 668),e P "C_STRING_FIRST_LINE" 674 (.int 2 669),e P "C_STRING_NEXT_LINES" 675 (.int 3 670),e P "C_BRACKET" 676 (.int 4 671),e P "_junkre" 678 (.ref 63),e P "_match_stringre" 680 (.ref 64),e P "_chew_ordinaryre" 682 (.ref 65),e P "ParseMap" 710 (.ref 82)] 24
noncomputable def o112:Obj:=⟨.none, .none,(.fields #[(.int 2 0),(.int 0 0),(.ref 37),(.int 14 0),(.int 0 0),(.ref 71)]), #[]⟩
noncomputable def sQ:Obj:=⟨(.type "builtin_function_or_method"), .none,(.fields #[(.builtin "re.Pattern.match"),(.ref 43)]), #[]⟩
noncomputable def sP:Obj:=⟨(.type "builtin_function_or_method"), .none,(.fields #[(.builtin "re.Pattern.match"),(.ref 48)]), #[]⟩
noncomputable def sO:Obj:=⟨(.type "builtin_function_or_method"), .none,(.fields #[(.builtin "re.Pattern.match"),(.ref 53)]), #[]⟩
noncomputable def sN:Obj:=tu #[(.type "dict")]
noncomputable def uV:Obj:=⟨(.type "builtin_function_or_method"), .none,(.fields #[(.builtin "type.__prepare__"),(.type "type")]), #[]⟩
noncomputable def uU (P:Params):Obj:=di #[e P "__module__" 690 (.str "cpy313.idlelib.pyparse" 289),e P "__qualname__" 692 (.str "ParseMap" 691),e P "__firstlineno__" 694 (.int 14 693),e P "__missing__" 702 (.ref 79),e P "__static_attributes__" 703 (.ref 80)] 5
noncomputable def uT:Obj:=tu #[]
noncomputable def uS:Obj:=⟨.none, .none,(.fields #[(.int 16 0),(.int 4 0),(.ref 78)]), #[]⟩
noncomputable def uR:Obj:=co "ParseMap" "ParseMap" 685 686 687 14 0 0 0 0 0 69 .false 276 70 .none .none .none .none 688 14 689
noncomputable def uQ:Obj:=⟨(.type "frame"), .none, .plain, #[(.some (.ref 71)),(.some (.ref 3)),(.some (.ref 68)), .none,(.some (.str "cpy313.idlelib.pyparse" 289)), .none,(.some (.ref 0))]⟩
noncomputable def uP:Obj:=tu #[]
noncomputable def uO:Obj:=⟨.none, .none,(.fields #[]), #[]⟩
noncomputable def sM:Obj:=tu #[(.str "self" 698),(.str "key" 699)]
noncomputable def uN:Obj:=tu #[]
noncomputable def uM:Obj:=⟨.none, .none,(.func ⟨"__missing__","ParseMap.__missing__",(fA (sC 11 0)),(.stmts (fB (sC 11 0))),(fS (sC 11 0)),0,[], .none, .none, .none, .none, .none, .none, .none,0⟩), #[]⟩
noncomputable def sL:Obj:=co "__missing__" "ParseMap.__missing__" 695 696 697 16 2 0 0 3 0 73 .true 276 74 .none (.ref 75) (.ref 76) (.ref 77) 700 16 701
noncomputable def sK:Obj:=⟨(.type "function"), .none,(.func ⟨"__missing__","ParseMap.__missing__",(fA (sC 11 0)),(.stmts (fB (sC 11 0))),(fS (sC 11 0)),3,[], .none, .none, .none,(.str "cpy313.idlelib.pyparse" 289), .none,(.ref 78), .none,0⟩), #[]⟩
noncomputable def uL:Obj:=tu #[]
noncomputable def sJ (P:Params):Obj:=di #[e P "__module__" 690 (.str "cpy313.idlelib.pyparse" 289),e P "__firstlineno__" 694 (.int 14 693),e P "__missing__" 702 (.ref 79),e P "__static_attributes__" 703 (.ref 80),e P "__dict__" 705 (.ref 83),e P "__weakref__" 707 (.ref 84),e P "__doc__" 708 .none] 4
noncomputable def sI:Obj:=⟨(.type "type"), .none,(.cls ⟨"ParseMap",[(.type "dict")],[(.ref 82),(.type "dict"),(.type "object")],81,"ParseMap", .true,[],[], .false, .none, .false⟩), #[(.some (.ref 66)), .none,(.some (.str "ParseMap" 683)),(.some (.str "ParseMap" 691)),(.some (.builtin "dict.__new__")),(.some (.bool .true))]⟩
noncomputable def sH:Obj:=⟨(.type "getset_descriptor"), .none,(.fields #[(.str "__dict__" 704),(.ref 82),(.builtin "function.__dict__"),(.builtin "function.__dict__#set")]), #[]⟩
noncomputable def sG:Obj:=⟨(.type "getset_descriptor"), .none,(.fields #[(.str "__weakref__" 706),(.ref 82),(.builtin "ExceptionGroup.__weakref__"), .none]), #[]⟩
noncomputable def uK:Obj:=⟨(.type "super"), .none,(.fields #[(.ref 82),(.ref 82),(.ref 82)]), #[]⟩
noncomputable def uJ:Obj:=⟨(.type "builtin_function_or_method"), .none,(.fields #[(.builtin "object.__init_subclass__"),(.ref 82)]), #[]⟩
noncomputable def yC (P:Params):BT:=(.node (o41 P) (.node (o42 P) (.node (o111 P) (.node o48 (.node o56 (.node o72 (lB sQ) .nil) (.node o92 (lB sK) .nil)) (.node o64 (.node o84 (lB uR) .nil) (lB qH))) (.node (o52 P) (.node o60 (.node o80 (lB uV) .nil) (.node o96 (lB sH) .nil)) (.node o68 (.node o88 (lB sM) .nil) (lB sU)))) (.node o46 (.node o50 (.node o58 (.node o78 (lB sO) .nil) (.node o94 (lB (sJ P)) .nil)) (.node o66 (.node o86 (lB uP) .nil) (lB pC))) (.node (o54 P) (.node (o62 P) (.node o82 (lB uT) .nil) (.node o98 (lB uK) .nil)) (.node o112 (.node o90 (lB uM) .nil) (lB sS))))) (.node (o43 P) (.node o45 (.node o49 (.node o57 (.node o77 (lB sP) .nil) (.node o93 (lB uL) .nil)) (.node o65 (.node o85 (lB uQ) .nil) (lB qG))) (.node o53 (.node (o61 P) (.node o81 (lB (uU P)) .nil) (.node o97 (lB sG) .nil)) (.node o69 (.node o89 (lB uN) .nil) (lB sT)))) (.node o47 (.node o51 (.node o59 (.node o79 (lB sN) .nil) (.node o95 (lB sI) .nil)) (.node o67 (.node o87 (lB uO) .nil) (lB pB))) (.node o55 (.node o63 (.node o83 (lB uS) .nil) (.node o99 (lB uJ) .nil)) (.node o71 (.node o91 (lB sL) .nil) (lB sR))))))
noncomputable def aW6 (P:Params):Obj:=di #[e P "__name__" 165 (.str "cpy313.idlelib.pyparse" 289),e P "__doc__" 166 .none,e P "__package__" 167 .none,e P "__loader__" 168 (.builtin "__main__.__loader__#opaque"),e P "__spec__" 169 .none,e P "__annotations__" 170 (.ref 6),e P "__builtins__" 171 (.ref 4),e P "__file__" 173 (.str "/claim/cut.py" 172),e P "__cached__" 174 .none,e P "_sre" 275 (.ref 12),e P "_wall" 288 (.ref 38),e P "_twin_re_2" 334 (.ref 43),e P "_twin_re_3" 609 (.ref 48),e P "_twin_re_6" 639 (.ref 53),e P "_twin_re_7" 663 (.ref 58),e P "C_NONE" 672 (.int 0 667),e P "C_BACKSLASH" 673 (.int 1 668),e P "C_STRING_FIRST_LINE" 674 (.int 2 669),e P "C_STRING_NEXT_LINES" 675 (.int 3 670),e P "C_BRACKET" 676 (.int 4 671),e P "_junkre" 678 (.ref 63),e P "_match_stringre" 680 (.ref 64),e P "_chew_ordinaryre" 682 (.ref 65),e P "ParseMap" 710 (.ref 82),e P "trans" 972 (.ref 90)] 25
noncomputable def xD:Obj:=⟨(.type "builtin_function_or_method"), .none,(.fields #[(.builtin "dict.fromkeys"),(.ref 82)]), #[]⟩
noncomputable def xC:Obj:=⟨(.type "range"), .none,(.fields #[(.int 0 713),(.int 128 712),(.int 1 714)]), #[]⟩
noncomputable def uI:Obj:=di #[] 0
noncomputable def o141:Obj:=⟨.ref 82, .some 89, .dict (trE [] 716 128 []).toArray 128, #[]⟩
noncomputable def aA0:Obj:=⟨(.type "range_iterator"), .none,(.fields #[(.int 128 0),(.int 0 0),(.int 1 0)]), #[]⟩
noncomputable def zZ:Obj:=tu #[]
noncomputable def zY:Obj:=⟨(.type "StopIteration"), .none,(.fields #[(.ref 92), .none, .none, .none,(.bool .false), .none]), #[]⟩
noncomputable def nQ (P:Params):BT:=(.node (o41 P) (.node (o42 P) (.node (aW6 P) (.node o48 (.node o56 (.node o72 (lB sQ) .nil) (.node o92 (lB sK) .nil)) (.node o64 (.node o84 (lB uR) .nil) (.node qH (lB xD) .nil))) (.node (o52 P) (.node o60 (.node o80 (lB uV) .nil) (.node o96 (lB sH) .nil)) (.node o68 (.node o88 (lB sM) .nil) (.node sU (lB aA0) .nil)))) (.node o46 (.node o50 (.node o58 (.node o78 (lB sO) .nil) (.node o94 (lB (sJ P)) .nil)) (.node o66 (.node o86 (lB uP) .nil) (.node pC (lB uI) .nil))) (.node (o54 P) (.node (o62 P) (.node o82 (lB uT) .nil) (.node o98 (lB uK) .nil)) (.node o112 (.node o90 (lB uM) .nil) (.node sS (lB zY) .nil))))) (.node (o43 P) (.node o45 (.node o49 (.node o57 (.node o77 (lB sP) .nil) (.node o93 (lB uL) .nil)) (.node o65 (.node o85 (lB uQ) .nil) (.node qG (lB xC) .nil))) (.node o53 (.node (o61 P) (.node o81 (lB (uU P)) .nil) (.node o97 (lB sG) .nil)) (.node o69 (.node o89 (lB uN) .nil) (.node sT (lB zZ) .nil)))) (.node o47 (.node o51 (.node o59 (.node o79 (lB sN) .nil) (.node o95 (lB sI) .nil)) (.node o67 (.node o87 (lB uO) .nil) (.node pB (lB o141) .nil))) (.node o55 (.node o63 (.node o83 (lB uS) .nil) (.node o99 (lB uJ) .nil)) (.node o71 (.node o91 (lB sL) .nil) (lB sR))))))
noncomputable def o147:Obj:=⟨.none, .none,(.fields #[(.int 2 0),(.int 0 0),(.ref 37),(.int 14 0),(.int 0 0),(.ref 71),(.int 19 0),(.int 13 0),(.ref 97)]), #[]⟩
noncomputable def o148:Obj:=⟨.ref 82, .some 89, .dict (trE [(40,40,989),(91,40,1001),(123,40,995)] 716 128 []).toArray 128, #[]⟩
noncomputable def aJ0:Obj:=⟨(.type "str_ascii_iterator"), .none,(.fields #[.none,(.int 3 0)]), #[]⟩
noncomputable def aI9:Obj:=tu #[]
noncomputable def aI8:Obj:=⟨.none, .none,(.fields #[]), #[]⟩
noncomputable def aI7:Obj:=co "<genexpr>" "<genexpr>" 974 975 976 19 1 0 0 35 0 95 .true 276 96 .none .none .none .none 977 19 978
noncomputable def aI6 (P:Params):Obj:=⟨(.type "frame"), .none,(.dict #[e P ".0" 979 (.ref 94),e P "c" 986 (.str "[" 997)] 2), #[]⟩
noncomputable def aI5:Obj:=⟨(.type "generator"), .none,(.fields #[(.int 0 0),(.str "<genexpr>" 980),(.str "<genexpr>" 981)]), #[]⟩
noncomputable def aI4:Obj:=tu #[(.str "'generator' object has no attribute 'keys'" 983)]
noncomputable def aI3:Obj:=⟨(.type "AttributeError"), .none,(.fields #[(.ref 100), .none, .none, .none,(.bool .false), .none,(.str "keys" 984),(.ref 99)]), #[]⟩
noncomputable def aI2:Obj:=tu #[(.int 40 987),(.int 40 989)]
noncomputable def aI1:Obj:=tu #[(.int 123 993),(.int 40 995)]
noncomputable def aI0:Obj:=tu #[(.int 91 999),(.int 40 1001)]
noncomputable def aH9:Obj:=tu #[]
noncomputable def aH8:Obj:=⟨(.type "StopIteration"), .none,(.fields #[(.ref 105), .none, .none, .none,(.bool .false), .none]), #[]⟩
noncomputable def aH7:Obj:=tu #[]
noncomputable def aH6:Obj:=⟨(.type "StopIteration"), .none,(.fields #[(.ref 107), .none, .none, .none,(.bool .false), .none]), #[]⟩
noncomputable def yB (P:Params):BT:=(.node (o41 P) (.node (o42 P) (.node (aW6 P) (.node o48 (.node o56 (.node o72 (lB sQ) (lB aI9)) (.node o92 (lB sK) .nil)) (.node o64 (.node o84 (lB uR) (lB aI1)) (.node qH (lB xD) .nil))) (.node (o52 P) (.node o60 (.node o80 (lB uV) (lB aI5)) (.node o96 (lB sH) .nil)) (.node o68 (.node o88 (lB sM) (lB aH7)) (.node sU (lB aA0) .nil)))) (.node o46 (.node o50 (.node o58 (.node o78 (lB sO) (lB aI7)) (.node o94 (lB (sJ P)) .nil)) (.node o66 (.node o86 (lB uP) (lB aH9)) (.node pC (lB uI) .nil))) (.node (o54 P) (.node (o62 P) (.node o82 (lB uT) (lB aI3)) (.node o98 (lB uK) .nil)) (.node o147 (.node o90 (lB uM) .nil) (.node sS (lB zY) .nil))))) (.node (o43 P) (.node o45 (.node o49 (.node o57 (.node o77 (lB sP) (lB aI8)) (.node o93 (lB uL) .nil)) (.node o65 (.node o85 (lB uQ) (lB aI0)) (.node qG (lB xC) .nil))) (.node o53 (.node (o61 P) (.node o81 (lB (uU P)) (lB aI4)) (.node o97 (lB sG) .nil)) (.node o69 (.node o89 (lB uN) (lB aH6)) (.node sT (lB zZ) .nil)))) (.node o47 (.node o51 (.node o59 (.node o79 (lB sN) (lB (aI6 P))) (.node o95 (lB sI) .nil)) (.node o67 (.node o87 (lB uO) (lB aH8)) (.node pB (lB o148) .nil))) (.node o55 (.node o63 (.node o83 (lB uS) (lB aI2)) (.node o99 (lB uJ) .nil)) (.node o71 (.node o91 (lB sL) .nil) (.node sR (lB aJ0) .nil))))))
noncomputable def o170:Obj:=⟨.none, .none,(.fields #[(.int 2 0),(.int 0 0),(.ref 37),(.int 14 0),(.int 0 0),(.ref 71),(.int 19 0),(.int 13 0),(.ref 97),(.int 20 0),(.int 13 0),(.ref 112)]), #[]⟩
noncomputable def o171:Obj:=⟨.ref 82, .some 89, .dict (trE [(40,40,989),(41,41,1019),(91,40,1001),(93,41,1031),(123,40,995),(125,41,1025)] 716 128 []).toArray 128, #[]⟩
noncomputable def aW5:Obj:=⟨(.type "str_ascii_iterator"), .none,(.fields #[.none,(.int 3 0)]), #[]⟩
noncomputable def aW4:Obj:=tu #[]
noncomputable def aW3:Obj:=⟨.none, .none,(.fields #[]), #[]⟩
noncomputable def aW2:Obj:=co "<genexpr>" "<genexpr>" 1004 1005 1006 20 1 0 0 35 0 110 .true 276 111 .none .none .none .none 1007 20 1008
noncomputable def aW1 (P:Params):Obj:=⟨(.type "frame"), .none,(.dict #[e P ".0" 1009 (.ref 109),e P "c" 1016 (.str "]" 1027)] 2), #[]⟩
noncomputable def aW0:Obj:=⟨(.type "generator"), .none,(.fields #[(.int 1 0),(.str "<genexpr>" 1010),(.str "<genexpr>" 1011)]), #[]⟩
noncomputable def aV9:Obj:=tu #[(.str "'generator' object has no attribute 'keys'" 1013)]
noncomputable def aV8:Obj:=⟨(.type "AttributeError"), .none,(.fields #[(.ref 115), .none, .none, .none,(.bool .false), .none,(.str "keys" 1014),(.ref 114)]), #[]⟩
noncomputable def aV7:Obj:=tu #[(.int 41 1017),(.int 41 1019)]
noncomputable def aV6:Obj:=tu #[(.int 125 1023),(.int 41 1025)]
noncomputable def aV5:Obj:=tu #[(.int 93 1029),(.int 41 1031)]
noncomputable def aV4:Obj:=tu #[]
noncomputable def aV3:Obj:=⟨(.type "StopIteration"), .none,(.fields #[(.ref 120), .none, .none, .none,(.bool .false), .none]), #[]⟩
noncomputable def aV2:Obj:=tu #[]
noncomputable def aV1:Obj:=⟨(.type "StopIteration"), .none,(.fields #[(.ref 122), .none, .none, .none,(.bool .false), .none]), #[]⟩
noncomputable def yA (P:Params):BT:=(.node (o41 P) (.node (o42 P) (.node (aW6 P) (.node o48 (.node o56 (.node o72 (lB sQ) (lB aI9)) (.node o92 (lB sK) (lB aW3))) (.node o64 (.node o84 (lB uR) (lB aI1)) (.node qH (lB xD) (lB aV5)))) (.node (o52 P) (.node o60 (.node o80 (lB uV) (lB aI5)) (.node o96 (lB sH) (lB aV9))) (.node o68 (.node o88 (lB sM) (lB aH7)) (.node sU (lB aA0) (lB aV1))))) (.node o46 (.node o50 (.node o58 (.node o78 (lB sO) (lB aI7)) (.node o94 (lB (sJ P)) (lB (aW1 P)))) (.node o66 (.node o86 (lB uP) (lB aH9)) (.node pC (lB uI) (lB aV3)))) (.node (o54 P) (.node (o62 P) (.node o82 (lB uT) (lB aI3)) (.node o98 (lB uK) (lB aV7))) (.node o170 (.node o90 (lB uM) (lB aW5)) (.node sS (lB zY) .nil))))) (.node (o43 P) (.node o45 (.node o49 (.node o57 (.node o77 (lB sP) (lB aI8)) (.node o93 (lB uL) (lB aW2))) (.node o65 (.node o85 (lB uQ) (lB aI0)) (.node qG (lB xC) (lB aV4)))) (.node o53 (.node (o61 P) (.node o81 (lB (uU P)) (lB aI4)) (.node o97 (lB sG) (lB aV8))) (.node o69 (.node o89 (lB uN) (lB aH6)) (.node sT (lB zZ) .nil)))) (.node o47 (.node o51 (.node o59 (.node o79 (lB sN) (lB (aI6 P))) (.node o95 (lB sI) (lB aW0))) (.node o67 (.node o87 (lB uO) (lB aH8)) (.node pB (lB o171) (lB aV2)))) (.node o55 (.node o63 (.node o83 (lB uS) (lB aI2)) (.node o99 (lB uJ) (lB aV6))) (.node o71 (.node o91 (lB sL) (lB aW4)) (.node sR (lB aJ0) .nil))))))
noncomputable def o193:Obj:=⟨.none, .none,(.fields #[(.int 2 0),(.int 0 0),(.ref 37),(.int 14 0),(.int 0 0),(.ref 71),(.int 19 0),(.int 13 0),(.ref 97),(.int 20 0),(.int 13 0),(.ref 112),(.int 21 0),(.int 13 0),(.ref 127)]), #[]⟩
noncomputable def aV0:Obj:=⟨.ref 82, .some 89, .dict (trE [(10,10,1063),(34,34,1048),(35,35,1068),(39,39,1053),(40,40,989),(41,41,1019),(91,40,1001),(92,92,1058),(93,41,1031),(123,40,995),(125,41,1025)] 716 128 []).toArray 128, #[]⟩
noncomputable def o195:Obj:=⟨(.type "str_ascii_iterator"), .none,(.fields #[.none,(.int 5 0)]), #[]⟩
noncomputable def o196:Obj:=tu #[]
noncomputable def o197:Obj:=⟨.none, .none,(.fields #[]), #[]⟩
noncomputable def o198:Obj:=co "<genexpr>" "<genexpr>" 1034 1035 1036 21 1 0 0 35 0 125 .true 276 126 .none .none .none .none 1037 21 1038
noncomputable def o199 (P:Params):Obj:=⟨(.type "frame"), .none,(.dict #[e P ".0" 1039 (.ref 124),e P "c" 1046 (.str "#" 1065)] 2), #[]⟩
noncomputable def o200:Obj:=⟨(.type "generator"), .none,(.fields #[(.int 2 0),(.str "<genexpr>" 1040),(.str "<genexpr>" 1041)]), #[]⟩
noncomputable def o201:Obj:=tu #[(.str "'generator' object has no attribute 'keys'" 1043)]
noncomputable def o202:Obj:=⟨(.type "AttributeError"), .none,(.fields #[(.ref 130), .none, .none, .none,(.bool .false), .none,(.str "keys" 1044),(.ref 129)]), #[]⟩
noncomputable def o203:Obj:=tu #[(.int 34 1047),(.int 34 1048)]
noncomputable def o204:Obj:=tu #[(.int 39 1052),(.int 39 1053)]
noncomputable def o205:Obj:=tu #[(.int 92 1057),(.int 92 1058)]
noncomputable def o206:Obj:=tu #[(.int 10 1062),(.int 10 1063)]
noncomputable def o207:Obj:=tu #[(.int 35 1067),(.int 35 1068)]
noncomputable def o208:Obj:=tu #[]
noncomputable def o209:Obj:=⟨(.type "StopIteration"), .none,(.fields #[(.ref 137), .none, .none, .none,(.bool .false), .none]), #[]⟩
noncomputable def o210:Obj:=tu #[]
noncomputable def o211:Obj:=⟨(.type "StopIteration"), .none,(.fields #[(.ref 139), .none, .none, .none,(.bool .false), .none]), #[]⟩
noncomputable def xZ (P:Params):BT:=(.node (o41 P) (.node (o42 P) (.node (aW6 P) (.node o48 (.node o56 (.node o72 (.node sQ (lB o198) .nil) (lB aI9)) (.node o92 (lB sK) (lB aW3))) (.node o64 (.node o84 (.node uR (lB o206) .nil) (lB aI1)) (.node qH (lB xD) (lB aV5)))) (.node (o52 P) (.node o60 (.node o80 (.node uV (lB o202) .nil) (lB aI5)) (.node o96 (lB sH) (lB aV9))) (.node o68 (.node o88 (.node sM (lB o210) .nil) (lB aH7)) (.node sU (lB aA0) (lB aV1))))) (.node o46 (.node o50 (.node o58 (.node o78 (.node sO (lB o200) .nil) (lB aI7)) (.node o94 (lB (sJ P)) (lB (aW1 P)))) (.node o66 (.node o86 (.node uP (lB o208) .nil) (lB aH9)) (.node pC (lB uI) (lB aV3)))) (.node (o54 P) (.node (o62 P) (.node o82 (.node uT (lB o204) .nil) (lB aI3)) (.node o98 (lB uK) (lB aV7))) (.node o193 (.node o90 (lB uM) (lB aW5)) (.node sS (lB zY) (lB o196)))))) (.node (o43 P) (.node o45 (.node o49 (.node o57 (.node o77 (.node sP (lB (o199 P)) .nil) (lB aI8)) (.node o93 (lB uL) (lB aW2))) (.node o65 (.node o85 (.node uQ (lB o207) .nil) (lB aI0)) (.node qG (lB xC) (lB aV4)))) (.node o53 (.node (o61 P) (.node o81 (.node (uU P) (lB o203) .nil) (lB aI4)) (.node o97 (lB sG) (lB aV8))) (.node o69 (.node o89 (.node uN (lB o211) .nil) (lB aH6)) (.node sT (lB zZ) (lB o195))))) (.node o47 (.node o51 (.node o59 (.node o79 (.node sN (lB o201) .nil) (lB (aI6 P))) (.node o95 (lB sI) (lB aW0))) (.node o67 (.node o87 (.node uO (lB o209) .nil) (lB aH8)) (.node pB (lB aV0) (lB aV2)))) (.node o55 (.node o63 (.node o83 (.node uS (lB o205) .nil) (lB aI2)) (.node o99 (lB uJ) (lB aV6))) (.node o71 (.node o91 (lB sL) (lB aW4)) (.node sR (lB aJ0) (lB o197)))))))
noncomputable def o218 (P:Params):Obj:=di #[e P "__name__" 165 (.str "law_km0028_03" 1240),e P "__doc__" 166 .none,e P "__package__" 167 .none,e P "__loader__" 168 (.builtin "__main__.__loader__#opaque"),e P "__spec__" 169 .none,e P "__annotations__" 170 (.ref 6),e P "__builtins__" 171 (.ref 4),e P "__file__" 173 (.str "/claim/cut.py" 172),e P "__cached__" 174 .none,e P "_sre" 275 (.ref 12),e P "_wall" 288 (.ref 38),e P "_twin_re_2" 334 (.ref 43),e P "_twin_re_3" 609 (.ref 48),e P "_twin_re_6" 639 (.ref 53),e P "_twin_re_7" 663 (.ref 58),e P "C_NONE" 672 (.int 0 667),e P "C_BACKSLASH" 673 (.int 1 668),e P "C_STRING_FIRST_LINE" 674 (.int 2 669),e P "C_STRING_NEXT_LINES" 675 (.int 3 670),e P "C_BRACKET" 676 (.int 4 671),e P "_junkre" 678 (.ref 63),e P "_match_stringre" 680 (.ref 64),e P "_chew_ordinaryre" 682 (.ref 65),e P "ParseMap" 710 (.ref 82),e P "trans" 972 (.ref 90),e P "Parser" 1239 (.ref 248),e P "_law_heads" 1247 (.ref 259),e P "_law_breaks" 1263 (.ref 281),e P "_law_whites" 1269 (.ref 288),e P "_law_ahead" 1280 (.ref 289),e P "_law_later" 1286 (.ref 296),e P "_law_width" 1296 (.ref 303),e P "_law_ask" 1304 (.ref 310),e P "law" 1310 (.ref 315)] 34
noncomputable def o219:Obj:=⟨.none, .none,(.fields #[(.int 2 0),(.int 0 0),(.ref 37),(.int 14 0),(.int 0 0),(.ref 71),(.int 19 0),(.int 13 0),(.ref 97),(.int 20 0),(.int 13 0),(.ref 112),(.int 21 0),(.int 13 0),(.ref 127),(.int 22 0),(.int 0 0),(.ref 146),(.int 261 0),(.int 0 0),(.ref 258),(.int 264 0),(.int 0 0),(.ref 287),(.int 267 0),(.int 0 0),(.ref 295),(.int 269 0),(.int 0 0),(.ref 302),(.int 274 0),(.int 0 0),(.ref 309),(.int 280 0),(.int 0 0),(.ref 314)]), #[]⟩
noncomputable def o220:Obj:=tu #[]
noncomputable def o221:Obj:=⟨(.type "builtin_function_or_method"), .none,(.fields #[(.builtin "type.__prepare__"),(.type "type")]), #[]⟩
noncomputable def o222 (P:Params):Obj:=di #[e P "__module__" 1077 (.str "cpy313.idlelib.pyparse" 289),e P "__qualname__" 1079 (.str "Parser" 1078),e P "__firstlineno__" 1081 (.int 22 1080),e P "__init__" 1090 (.ref 154),e P "set_code" 1098 (.ref 161),e P "find_good_parse_start" 1106 (.ref 168),e P "set_lo" 1114 (.ref 175),e P "_study1" 1133 (.ref 182),e P "get_continuation_type" 1140 (.ref 189),e P "_study2" 1160 (.ref 196),e P "compute_bracket_indent" 1167 (.ref 203),e P "get_num_lines_in_stmt" 1174 (.ref 210),e P "compute_backslash_indent" 1188 (.ref 217),e P "get_base_indent_string" 1199 (.ref 224),e P "is_block_opener" 1206 (.ref 231),e P "is_block_closer" 1213 (.ref 238),e P "get_last_stmt_bracketing" 1220 (.ref 245),e P "__static_attributes__" 1232 (.ref 246)] 18
noncomputable def o223:Obj:=tu #[]
noncomputable def o224:Obj:=⟨.none, .none,(.fields #[(.int 24 0),(.int 4 0),(.ref 153),(.int 28 0),(.int 4 0),(.ref 160),(.int 33 0),(.int 4 0),(.ref 167),(.int 36 0),(.int 4 0),(.ref 174),(.int 39 0),(.int 4 0),(.ref 181),(.int 124 0),(.int 4 0),(.ref 188),(.int 127 0),(.int 4 0),(.ref 195),(.int 200 0),(.int 4 0),(.ref 202),(.int 203 0),(.int 4 0),(.ref 209),(.int 206 0),(.int 4 0),(.ref 216),(.int 243 0),(.int 4 0),(.ref 223),(.int 252 0),(.int 4 0),(.ref 230),(.int 255 0),(.int 4 0),(.ref 237),(.int 258 0),(.int 4 0),(.ref 244)]), #[]⟩
noncomputable def o225:Obj:=co "Parser" "Parser" 1072 1073 1074 22 0 0 0 0 0 144 .false 276 145 .none .none .none .none 1075 22 1076
noncomputable def o226:Obj:=⟨(.type "frame"), .none, .plain, #[(.some (.ref 146)),(.some (.ref 3)),(.some (.ref 143)), .none,(.some (.str "cpy313.idlelib.pyparse" 289)), .none,(.some (.ref 0))]⟩
noncomputable def o227:Obj:=tu #[]
noncomputable def o228:Obj:=⟨.none, .none,(.fields #[]), #[]⟩
noncomputable def o229:Obj:=tu #[(.str "self" 1085),(.str "indentwidth" 1086),(.str "tabwidth" 1087)]
noncomputable def o230:Obj:=tu #[]
noncomputable def o231:Obj:=⟨.none, .none,(.func ⟨"__init__","Parser.__init__",(fA (sC 16 0)),(.stmts (fB (sC 16 0))),(fS (sC 16 0)),0,[], .none, .none, .none, .none, .none, .none, .none,0⟩), #[]⟩
noncomputable def o232:Obj:=co "__init__" "Parser.__init__" 1082 1083 1084 24 3 0 0 3 0 148 .true 276 149 .none (.ref 150) (.ref 151) (.ref 152) 1088 24 1089
noncomputable def o233:Obj:=⟨(.type "function"), .none,(.func ⟨"__init__","Parser.__init__",(fA (sC 16 0)),(.stmts (fB (sC 16 0))),(fS (sC 16 0)),3,[], .none, .none, .none,(.str "cpy313.idlelib.pyparse" 289), .none,(.ref 153), .none,0⟩), #[]⟩
noncomputable def o234:Obj:=tu #[]
noncomputable def o235:Obj:=⟨.none, .none,(.fields #[]), #[]⟩
noncomputable def o236:Obj:=tu #[(.str "self" 1094),(.str "s" 1095)]
noncomputable def o237:Obj:=tu #[]
noncomputable def o238:Obj:=⟨.none, .none,(.func ⟨"set_code","Parser.set_code",(fA (sC 16 1)),(.stmts (fB (sC 16 1))),(fS (sC 16 1)),0,[], .none, .none, .none, .none, .none, .none, .none,0⟩), #[]⟩
noncomputable def o239:Obj:=co "set_code" "Parser.set_code" 1091 1092 1093 28 2 0 0 3 0 155 .true 276 156 .none (.ref 157) (.ref 158) (.ref 159) 1096 28 1097
noncomputable def o240:Obj:=⟨(.type "function"), .none,(.func ⟨"set_code","Parser.set_code",(fA (sC 16 1)),(.stmts (fB (sC 16 1))),(fS (sC 16 1)),3,[], .none, .none, .none,(.str "cpy313.idlelib.pyparse" 289), .none,(.ref 160), .none,0⟩), #[]⟩
noncomputable def o241:Obj:=tu #[]
noncomputable def o242:Obj:=⟨.none, .none,(.fields #[]), #[]⟩
noncomputable def o243:Obj:=tu #[(.str "self" 1102),(.str "is_char_in_string" 1103)]
noncomputable def o244:Obj:=tu #[]
noncomputable def o245:Obj:=⟨.none, .none,(.func ⟨"find_good_parse_start","Parser.find_good_parse_start",(fA (sC 16 2)),(.stmts (fB (sC 16 2))),(fS (sC 16 2)),0,[], .none, .none, .none, .none, .none, .none, .none,0⟩), #[]⟩
noncomputable def o246:Obj:=co "find_good_parse_start" "Parser.find_good_parse_start" 1099 1100 1101 33 2 0 0 3 0 162 .true 276 163 .none (.ref 164) (.ref 165) (.ref 166) 1104 33 1105
noncomputable def o247:Obj:=⟨(.type "function"), .none,(.func ⟨"find_good_parse_start","Parser.find_good_parse_start",(fA (sC 16 2)),(.stmts (fB (sC 16 2))),(fS (sC 16 2)),3,[], .none, .none, .none,(.str "cpy313.idlelib.pyparse" 289), .none,(.ref 167), .none,0⟩), #[]⟩
noncomputable def o248:Obj:=tu #[]
noncomputable def o249:Obj:=⟨.none, .none,(.fields #[]), #[]⟩
noncomputable def o250:Obj:=tu #[(.str "self" 1110),(.str "lo" 1111)]
noncomputable def o251:Obj:=tu #[]
noncomputable def o252:Obj:=⟨.none, .none,(.func ⟨"set_lo","Parser.set_lo",(fA (sC 16 3)),(.stmts (fB (sC 16 3))),(fS (sC 16 3)),0,[], .none, .none, .none, .none, .none, .none, .none,0⟩), #[]⟩
noncomputable def o253:Obj:=co "set_lo" "Parser.set_lo" 1107 1108 1109 36 2 0 0 3 0 169 .true 276 170 .none (.ref 171) (.ref 172) (.ref 173) 1112 36 1113
noncomputable def o254:Obj:=⟨(.type "function"), .none,(.func ⟨"set_lo","Parser.set_lo",(fA (sC 16 3)),(.stmts (fB (sC 16 3))),(fS (sC 16 3)),3,[], .none, .none, .none,(.str "cpy313.idlelib.pyparse" 289), .none,(.ref 174), .none,0⟩), #[]⟩
noncomputable def o255:Obj:=tu #[]
noncomputable def o256:Obj:=⟨.none, .none,(.fields #[]), #[]⟩
noncomputable def o257:Obj:=tu #[(.str "self" 1118),(.str "code" 1119),(.str "continuation" 1120),(.str "level" 1121),(.str "lno" 1122),(.str "goodlines" 1123),(.str "push_good" 1124),(.str "i" 1125),(.str "n" 1126),(.str "ch" 1127),(.str "quote" 1128),(.str "firstlno" 1129),(.str "w" 1130)]
noncomputable def o258:Obj:=tu #[]
noncomputable def o259:Obj:=⟨.none, .none,(.func ⟨"_study1","Parser._study1",(fA (sC 16 4)),(.stmts (fB (sC 16 4))),(fS (sC 16 4)),0,[], .none, .none, .none, .none, .none, .none, .none,0⟩), #[]⟩
noncomputable def o260:Obj:=co "_study1" "Parser._study1" 1115 1116 1117 39 1 0 0 3 0 176 .true 276 177 .none (.ref 178) (.ref 179) (.ref 180) 1131 39 1132
noncomputable def o261:Obj:=⟨(.type "function"), .none,(.func ⟨"_study1","Parser._study1",(fA (sC 16 4)),(.stmts (fB (sC 16 4))),(fS (sC 16 4)),3,[], .none, .none, .none,(.str "cpy313.idlelib.pyparse" 289), .none,(.ref 181), .none,0⟩), #[]⟩
noncomputable def o262:Obj:=tu #[]
noncomputable def o263:Obj:=⟨.none, .none,(.fields #[]), #[]⟩
noncomputable def o264:Obj:=tu #[(.str "self" 1137)]
noncomputable def o265:Obj:=tu #[]
noncomputable def o266:Obj:=⟨.none, .none,(.func ⟨"get_continuation_type","Parser.get_continuation_type",(fA (sC 16 5)),(.stmts (fB (sC 16 5))),(fS (sC 16 13)),0,[], .none, .none, .none, .none, .none, .none, .none,0⟩), #[]⟩
noncomputable def o267:Obj:=co "get_continuation_type" "Parser.get_continuation_type" 1134 1135 1136 124 1 0 0 3 0 183 .true 276 184 .none (.ref 185) (.ref 186) (.ref 187) 1138 124 1139
noncomputable def o268:Obj:=⟨(.type "function"), .none,(.func ⟨"get_continuation_type","Parser.get_continuation_type",(fA (sC 16 5)),(.stmts (fB (sC 16 5))),(fS (sC 16 13)),3,[], .none, .none, .none,(.str "cpy313.idlelib.pyparse" 289), .none,(.ref 188), .none,0⟩), #[]⟩
noncomputable def o269:Obj:=tu #[]
noncomputable def o270:Obj:=⟨.none, .none,(.fields #[]), #[]⟩
noncomputable def o271:Obj:=tu #[(.str "self" 1144),(.str "code" 1145),(.str "goodlines" 1146),(.str "i" 1147),(.str "p" 1148),(.str "q" 1149),(.str "nothing" 1150),(.str "lastch" 1151),(.str "stack" 1152),(.str "push_stack" 1153),(.str "bracketing" 1154),(.str "m" 1155),(.str "newp" 1156),(.str "ch" 1157)]
noncomputable def o272:Obj:=tu #[]
noncomputable def o273:Obj:=⟨.none, .none,(.func ⟨"_study2","Parser._study2",(fA (sC 16 6)),(.stmts (fB (sC 16 6))),(fS (sC 16 6)),0,[], .none, .none, .none, .none, .none, .none, .none,0⟩), #[]⟩
noncomputable def o274:Obj:=co "_study2" "Parser._study2" 1141 1142 1143 127 1 0 0 3 0 190 .true 276 191 .none (.ref 192) (.ref 193) (.ref 194) 1158 127 1159
noncomputable def o275:Obj:=⟨(.type "function"), .none,(.func ⟨"_study2","Parser._study2",(fA (sC 16 6)),(.stmts (fB (sC 16 6))),(fS (sC 16 6)),3,[], .none, .none, .none,(.str "cpy313.idlelib.pyparse" 289), .none,(.ref 195), .none,0⟩), #[]⟩
noncomputable def o276:Obj:=tu #[]
noncomputable def o277:Obj:=⟨.none, .none,(.fields #[]), #[]⟩
noncomputable def o278:Obj:=tu #[(.str "self" 1164)]
noncomputable def o279:Obj:=tu #[]
noncomputable def o280:Obj:=⟨.none, .none,(.func ⟨"compute_bracket_indent","Parser.compute_bracket_indent",(fA (sC 16 7)),(.stmts (fB (sC 16 7))),(fS (sC 16 13)),0,[], .none, .none, .none, .none, .none, .none, .none,0⟩), #[]⟩
noncomputable def o281:Obj:=co "compute_bracket_indent" "Parser.compute_bracket_indent" 1161 1162 1163 200 1 0 0 3 0 197 .true 276 198 .none (.ref 199) (.ref 200) (.ref 201) 1165 200 1166
noncomputable def o282:Obj:=⟨(.type "function"), .none,(.func ⟨"compute_bracket_indent","Parser.compute_bracket_indent",(fA (sC 16 7)),(.stmts (fB (sC 16 7))),(fS (sC 16 13)),3,[], .none, .none, .none,(.str "cpy313.idlelib.pyparse" 289), .none,(.ref 202), .none,0⟩), #[]⟩
noncomputable def o283:Obj:=tu #[]
noncomputable def o284:Obj:=⟨.none, .none,(.fields #[]), #[]⟩
noncomputable def o285:Obj:=tu #[(.str "self" 1171)]
noncomputable def o286:Obj:=tu #[]
noncomputable def o287:Obj:=⟨.none, .none,(.func ⟨"get_num_lines_in_stmt","Parser.get_num_lines_in_stmt",(fA (sC 16 8)),(.stmts (fB (sC 16 8))),(fS (sC 16 13)),0,[], .none, .none, .none, .none, .none, .none, .none,0⟩), #[]⟩
noncomputable def o288:Obj:=co "get_num_lines_in_stmt" "Parser.get_num_lines_in_stmt" 1168 1169 1170 203 1 0 0 3 0 204 .true 276 205 .none (.ref 206) (.ref 207) (.ref 208) 1172 203 1173
noncomputable def o289:Obj:=⟨(.type "function"), .none,(.func ⟨"get_num_lines_in_stmt","Parser.get_num_lines_in_stmt",(fA (sC 16 8)),(.stmts (fB (sC 16 8))),(fS (sC 16 13)),3,[], .none, .none, .none,(.str "cpy313.idlelib.pyparse" 289), .none,(.ref 209), .none,0⟩), #[]⟩
noncomputable def o290:Obj:=tu #[]
noncomputable def o291:Obj:=⟨.none, .none,(.fields #[]), #[]⟩
noncomputable def o292:Obj:=tu #[(.str "self" 1178),(.str "code" 1179),(.str "i" 1180),(.str "startpos" 1181),(.str "endpos" 1182),(.str "found" 1183),(.str "level" 1184),(.str "ch" 1185)]
noncomputable def o293:Obj:=tu #[]
noncomputable def o294:Obj:=⟨.none, .none,(.func ⟨"compute_backslash_indent","Parser.compute_backslash_indent",(fA (sC 16 9)),(.stmts (fB (sC 16 9))),(fS (sC 16 9)),0,[], .none, .none, .none, .none, .none, .none, .none,0⟩), #[]⟩
noncomputable def o295:Obj:=co "compute_backslash_indent" "Parser.compute_backslash_indent" 1175 1176 1177 206 1 0 0 3 0 211 .true 276 212 .none (.ref 213) (.ref 214) (.ref 215) 1186 206 1187
noncomputable def o296:Obj:=⟨(.type "function"), .none,(.func ⟨"compute_backslash_indent","Parser.compute_backslash_indent",(fA (sC 16 9)),(.stmts (fB (sC 16 9))),(fS (sC 16 9)),3,[], .none, .none, .none,(.str "cpy313.idlelib.pyparse" 289), .none,(.ref 216), .none,0⟩), #[]⟩
noncomputable def o297:Obj:=tu #[]
noncomputable def o298:Obj:=⟨.none, .none,(.fields #[]), #[]⟩
noncomputable def o299:Obj:=tu #[(.str "self" 1192),(.str "i" 1193),(.str "n" 1194),(.str "j" 1195),(.str "code" 1196)]
noncomputable def o300:Obj:=tu #[]
noncomputable def o301:Obj:=⟨.none, .none,(.func ⟨"get_base_indent_string","Parser.get_base_indent_string",(fA (sC 16 10)),(.stmts (fB (sC 16 10))),(fS (sC 16 10)),0,[], .none, .none, .none, .none, .none, .none, .none,0⟩), #[]⟩
noncomputable def o302:Obj:=co "get_base_indent_string" "Parser.get_base_indent_string" 1189 1190 1191 243 1 0 0 3 0 218 .true 276 219 .none (.ref 220) (.ref 221) (.ref 222) 1197 243 1198
noncomputable def o303:Obj:=⟨(.type "function"), .none,(.func ⟨"get_base_indent_string","Parser.get_base_indent_string",(fA (sC 16 10)),(.stmts (fB (sC 16 10))),(fS (sC 16 10)),3,[], .none, .none, .none,(.str "cpy313.idlelib.pyparse" 289), .none,(.ref 223), .none,0⟩), #[]⟩
noncomputable def o304:Obj:=tu #[]
noncomputable def o305:Obj:=⟨.none, .none,(.fields #[]), #[]⟩
noncomputable def o306:Obj:=tu #[(.str "self" 1203)]
noncomputable def o307:Obj:=tu #[]
noncomputable def o308:Obj:=⟨.none, .none,(.func ⟨"is_block_opener","Parser.is_block_opener",(fA (sC 16 11)),(.stmts (fB (sC 16 11))),(fS (sC 16 13)),0,[], .none, .none, .none, .none, .none, .none, .none,0⟩), #[]⟩
noncomputable def o309:Obj:=co "is_block_opener" "Parser.is_block_opener" 1200 1201 1202 252 1 0 0 3 0 225 .true 276 226 .none (.ref 227) (.ref 228) (.ref 229) 1204 252 1205
noncomputable def o310:Obj:=⟨(.type "function"), .none,(.func ⟨"is_block_opener","Parser.is_block_opener",(fA (sC 16 11)),(.stmts (fB (sC 16 11))),(fS (sC 16 13)),3,[], .none, .none, .none,(.str "cpy313.idlelib.pyparse" 289), .none,(.ref 230), .none,0⟩), #[]⟩
noncomputable def o311:Obj:=tu #[]
noncomputable def o312:Obj:=⟨.none, .none,(.fields #[]), #[]⟩
noncomputable def o313:Obj:=tu #[(.str "self" 1210)]
noncomputable def o314:Obj:=tu #[]
noncomputable def o315:Obj:=⟨.none, .none,(.func ⟨"is_block_closer","Parser.is_block_closer",(fA (sC 16 12)),(.stmts (fB (sC 16 12))),(fS (sC 16 13)),0,[], .none, .none, .none, .none, .none, .none, .none,0⟩), #[]⟩
noncomputable def o316:Obj:=co "is_block_closer" "Parser.is_block_closer" 1207 1208 1209 255 1 0 0 3 0 232 .true 276 233 .none (.ref 234) (.ref 235) (.ref 236) 1211 255 1212
noncomputable def o317:Obj:=⟨(.type "function"), .none,(.func ⟨"is_block_closer","Parser.is_block_closer",(fA (sC 16 12)),(.stmts (fB (sC 16 12))),(fS (sC 16 13)),3,[], .none, .none, .none,(.str "cpy313.idlelib.pyparse" 289), .none,(.ref 237), .none,0⟩), #[]⟩
noncomputable def o318:Obj:=tu #[]
noncomputable def o319:Obj:=⟨.none, .none,(.fields #[]), #[]⟩
noncomputable def o320:Obj:=tu #[(.str "self" 1217)]
noncomputable def o321:Obj:=tu #[]
noncomputable def o322:Obj:=⟨.none, .none,(.func ⟨"get_last_stmt_bracketing","Parser.get_last_stmt_bracketing",(fA (sC 16 13)),(.stmts (fB (sC 16 13))),(fS (sC 16 13)),0,[], .none, .none, .none, .none, .none, .none, .none,0⟩), #[]⟩
noncomputable def o323:Obj:=co "get_last_stmt_bracketing" "Parser.get_last_stmt_bracketing" 1214 1215 1216 258 1 0 0 3 0 239 .true 276 240 .none (.ref 241) (.ref 242) (.ref 243) 1218 258 1219
noncomputable def o324:Obj:=⟨(.type "function"), .none,(.func ⟨"get_last_stmt_bracketing","Parser.get_last_stmt_bracketing",(fA (sC 16 13)),(.stmts (fB (sC 16 13))),(fS (sC 16 13)),3,[], .none, .none, .none,(.str "cpy313.idlelib.pyparse" 289), .none,(.ref 244), .none,0⟩), #[]⟩
noncomputable def o325:Obj:=tu #[(.str "code" 1221),(.str "continuation" 1222),(.str "goodlines" 1223),(.str "indentwidth" 1224),(.str "lastch" 1225),(.str "lastopenbracketpos" 1226),(.str "stmt_bracketing" 1227),(.str "stmt_end" 1228),(.str "stmt_start" 1229),(.str "study_level" 1230),(.str "tabwidth" 1231)]
noncomputable def o326 (P:Params):Obj:=di #[e P "__module__" 1077 (.str "cpy313.idlelib.pyparse" 289),e P "__firstlineno__" 1081 (.int 22 1080),e P "__init__" 1090 (.ref 154),e P "set_code" 1098 (.ref 161),e P "find_good_parse_start" 1106 (.ref 168),e P "set_lo" 1114 (.ref 175),e P "_study1" 1133 (.ref 182),e P "get_continuation_type" 1140 (.ref 189),e P "_study2" 1160 (.ref 196),e P "compute_bracket_indent" 1167 (.ref 203),e P "get_num_lines_in_stmt" 1174 (.ref 210),e P "compute_backslash_indent" 1188 (.ref 217),e P "get_base_indent_string" 1199 (.ref 224),e P "is_block_opener" 1206 (.ref 231),e P "is_block_closer" 1213 (.ref 238),e P "get_last_stmt_bracketing" 1220 (.ref 245),e P "__static_attributes__" 1232 (.ref 246),e P "__dict__" 1234 (.ref 249),e P "__weakref__" 1236 (.ref 250),e P "__doc__" 1237 .none] 4
noncomputable def o327:Obj:=⟨(.type "type"), .none,(.cls ⟨"Parser",[(.type "object")],[(.ref 248),(.type "object")],247,"Parser", .true,[],[], .false, .none, .false⟩), #[.none, .none,(.some (.str "Parser" 1070)),(.some (.str "Parser" 1078)),(.some (.builtin "object.__new__")),(.some (.bool .true))]⟩
noncomputable def o328:Obj:=⟨(.type "getset_descriptor"), .none,(.fields #[(.str "__dict__" 1233),(.ref 248),(.builtin "function.__dict__"),(.builtin "function.__dict__#set")]), #[]⟩
noncomputable def o329:Obj:=⟨(.type "getset_descriptor"), .none,(.fields #[(.str "__weakref__" 1235),(.ref 248),(.builtin "ExceptionGroup.__weakref__"), .none]), #[]⟩
noncomputable def o330:Obj:=⟨(.type "super"), .none,(.fields #[(.ref 248),(.ref 248),(.ref 248)]), #[]⟩
noncomputable def o331:Obj:=⟨(.type "builtin_function_or_method"), .none,(.fields #[(.builtin "object.__init_subclass__"),(.ref 248)]), #[]⟩
noncomputable def o332:Obj:=tu #[]
noncomputable def o333:Obj:=⟨.none, .none,(.fields #[]), #[]⟩
noncomputable def o334:Obj:=tu #[]
noncomputable def o335:Obj:=tu #[]
noncomputable def o336:Obj:=⟨.none, .none,(.func ⟨"_law_heads","_law_heads",(fA (sA 22)),(.stmts (fB (sA 18))),(fS (sA 22)),0,[], .none, .none, .none, .none, .none, .none, .none,0⟩), #[]⟩
noncomputable def o337:Obj:=co "_law_heads" "_law_heads" 1242 1243 1244 261 0 0 0 3 0 253 .true 276 254 .none (.ref 255) (.ref 256) (.ref 257) 1245 261 1246
noncomputable def o338:Obj:=⟨(.type "function"), .none,(.func ⟨"_law_heads","_law_heads",(fA (sA 22)),(.stmts (fB (sA 18))),(fS (sA 22)),3,[], .none, .none, .none,(.str "law_km0028_03" 1240), .none,(.ref 258), .none,0⟩), #[]⟩
noncomputable def o339:Obj:=tu #[(.str "b = c \\\n" 1249),(.bool .true)]
noncomputable def o340:Obj:=⟨(.type "list"), .none,(.seq #[(.ref 260)] 0), #[]⟩
noncomputable def o341:Obj:=tu #[(.str " \\\n" 1248),(.bool .true),(.ref 261)]
noncomputable def o342:Obj:=tu #[(.str "=(a,\n" 1251),(.bool .false)]
noncomputable def o343:Obj:=tu #[(.str "=) \\\n" 1252),(.bool .true)]
noncomputable def o344:Obj:=⟨(.type "list"), .none,(.seq #[(.ref 263),(.ref 264)] 0), #[]⟩
noncomputable def o345:Obj:=tu #[(.str "\\\n" 1250),(.bool .true),(.ref 265)]
noncomputable def o346:Obj:=tu #[(.str "a = b)\\\n" 1254),(.bool .true)]
noncomputable def o347:Obj:=⟨(.type "list"), .none,(.seq #[(.ref 267)] 0), #[]⟩
noncomputable def o348:Obj:=tu #[(.str " (\n" 1253),(.bool .false),(.ref 268)]
noncomputable def o349:Obj:=tu #[(.str "\n" 1256),(.bool .false)]
noncomputable def o350:Obj:=tu #[(.str "]=c \\\n" 1257),(.bool .true)]
noncomputable def o351:Obj:=⟨(.type "list"), .none,(.seq #[(.ref 270),(.ref 271)] 0), #[]⟩
noncomputable def o352:Obj:=tu #[(.str " [#]= b\n" 1255),(.bool .false),(.ref 272)]
noncomputable def o353:Obj:=tu #[(.str "= \\\n" 1259),(.bool .false)]
noncomputable def o354:Obj:=tu #[(.str "\"\"\"\\\n" 1260),(.bool .true)]
noncomputable def o355:Obj:=⟨(.type "list"), .none,(.seq #[(.ref 274),(.ref 275)] 0), #[]⟩
noncomputable def o356:Obj:=tu #[(.str " \"\"\"=\n" 1258),(.bool .false),(.ref 276)]
noncomputable def o357:Obj:=tu #[(.str "=' = c \\\n" 1262),(.bool .true)]
noncomputable def o358:Obj:=⟨(.type "list"), .none,(.seq #[(.ref 278)] 0), #[]⟩
noncomputable def o359:Obj:=tu #[(.str " '=\\\n" 1261),(.bool .false),(.ref 279)]
noncomputable def o360:Obj:=⟨(.type "list"), .none,(.seq #[(.ref 262),(.ref 266),(.ref 269),(.ref 273),(.ref 277),(.ref 280)] 0), #[]⟩
noncomputable def o361:Obj:=tu #[]
noncomputable def o362:Obj:=⟨.none, .none,(.fields #[]), #[]⟩
noncomputable def o363:Obj:=tu #[]
noncomputable def o364:Obj:=tu #[]
noncomputable def o365:Obj:=⟨.none, .none,(.func ⟨"_law_whites","_law_whites",(fA (sA 22)),(.stmts (fB (sA 20))),(fS (sA 22)),0,[], .none, .none, .none, .none, .none, .none, .none,0⟩), #[]⟩
noncomputable def o366:Obj:=co "_law_whites" "_law_whites" 1264 1265 1266 264 0 0 0 3 0 282 .true 276 283 .none (.ref 284) (.ref 285) (.ref 286) 1267 264 1268
noncomputable def o367:Obj:=⟨(.type "function"), .none,(.func ⟨"_law_whites","_law_whites",(fA (sA 22)),(.stmts (fB (sA 20))),(fS (sA 22)),3,[], .none, .none, .none,(.str "law_km0028_03" 1240), .none,(.ref 287), .none,0⟩), #[]⟩
noncomputable def o368:Obj:=⟨(.type "list"), .none,(.seq #[(.str "a = b\n" 1270),(.str "\n" 1271),(.str "  #c = d\n" 1272),(.str "\tif a:\n" 1273),(.str "f(a,\n =b)\n" 1274),(.str "'''\n= \\\n'''\n" 1275),(.str "c = \\\n d\n" 1276),(.str "# e (\n" 1277),(.str ") = (a)\n" 1278),(.str "x = 'it\n" 1279)] 0), #[]⟩
noncomputable def o369:Obj:=tu #[]
noncomputable def o370:Obj:=⟨.none, .none,(.fields #[]), #[]⟩
noncomputable def o371:Obj:=tu #[]
noncomputable def o372:Obj:=tu #[]
noncomputable def o373:Obj:=⟨.none, .none,(.func ⟨"_law_later","_law_later",(fA (sA 22)),(.stmts (fB (sA 22))),(fS (sA 22)),0,[], .none, .none, .none, .none, .none, .none, .none,0⟩), #[]⟩
noncomputable def o374:Obj:=co "_law_later" "_law_later" 1281 1282 1283 267 0 0 0 3 0 290 .true 276 291 .none (.ref 292) (.ref 293) (.ref 294) 1284 267 1285
noncomputable def o375:Obj:=⟨(.type "function"), .none,(.func ⟨"_law_later","_law_later",(fA (sA 22)),(.stmts (fB (sA 22))),(fS (sA 22)),3,[], .none, .none, .none,(.str "law_km0028_03" 1240), .none,(.ref 295), .none,0⟩), #[]⟩
noncomputable def o376:Obj:=tu #[]
noncomputable def o377:Obj:=⟨.none, .none,(.fields #[]), #[]⟩
noncomputable def o378:Obj:=tu #[(.str "text" 1290),(.str "tab" 1291),(.str "column" 1292),(.str "sign" 1293)]
noncomputable def o379:Obj:=tu #[]
noncomputable def o380:Obj:=⟨.none, .none,(.func ⟨"_law_width","_law_width",(fA (sA 23)),(.stmts (fB (sA 23))),(fS (sA 23)),0,[], .none, .none, .none, .none, .none, .none, .none,0⟩), #[]⟩
noncomputable def o381:Obj:=co "_law_width" "_law_width" 1287 1288 1289 269 2 0 0 3 0 297 .true 276 298 .none (.ref 299) (.ref 300) (.ref 301) 1294 269 1295
noncomputable def o382:Obj:=⟨(.type "function"), .none,(.func ⟨"_law_width","_law_width",(fA (sA 23)),(.stmts (fB (sA 23))),(fS (sA 23)),3,[], .none, .none, .none,(.str "law_km0028_03" 1240), .none,(.ref 302), .none,0⟩), #[]⟩
noncomputable def o383:Obj:=tu #[]
noncomputable def o384:Obj:=⟨.none, .none,(.fields #[]), #[]⟩
noncomputable def o385:Obj:=tu #[(.str "parser" 1300),(.str "text" 1301)]
noncomputable def o386:Obj:=tu #[]
noncomputable def o387:Obj:=⟨.none, .none,(.func ⟨"_law_ask","_law_ask",(fA (sA 24)),(.stmts (fB (sA 24))),(fS (sA 24)),0,[], .none, .none, .none, .none, .none, .none, .none,0⟩), #[]⟩
noncomputable def o388:Obj:=co "_law_ask" "_law_ask" 1297 1298 1299 274 2 0 0 3 0 304 .true 276 305 .none (.ref 306) (.ref 307) (.ref 308) 1302 274 1303
noncomputable def o389:Obj:=⟨(.type "function"), .none,(.func ⟨"_law_ask","_law_ask",(fA (sA 24)),(.stmts (fB (sA 24))),(fS (sA 24)),3,[], .none, .none, .none,(.str "law_km0028_03" 1240), .none,(.ref 309), .none,0⟩), #[]⟩
noncomputable def bM:Obj:=tu #[]
noncomputable def o391:Obj:=⟨.none, .none,(.fields #[]), #[]⟩
noncomputable def o392:Obj:=⟨.none, .none,(.func ⟨"law","law",(fA (sA 25)),(.stmts (fB (sA 25))),(fS (sA 25)),0,[], .none, .none, .none, .none, .none, .none, .none,0⟩), #[]⟩
noncomputable def o393:Obj:=co "law" "law" 1305 1306 1307 280 1 0 0 3 0 311 .true 276 312 .none .none .none (.ref 313) 1308 280 1309
noncomputable def o394:Obj:=⟨(.type "function"), .none,(.func ⟨"law","law",(fA (sA 25)),(.stmts (fB (sA 25))),(fS (sA 25)),3,[], .none, .none, .none,(.str "law_km0028_03" 1240), .none,(.ref 314), .none,0⟩), #[]⟩
noncomputable def xY (P:Params):BT:=(.node (o41 P) (.node (o42 P) (.node (o218 P) (.node o48 (.node o56 (.node o72 (.node sQ (.node o198 (lB o334) .nil) (lB o270)) (.node aI9 (.node o238 (lB o366) .nil) (lB o302))) (.node o92 (.node sK (.node (o222 P) (lB o350) .nil) (lB o286)) (.node aW3 (.node o254 (lB o382) .nil) (lB o318)))) (.node o64 (.node o84 (.node uR (.node o206 (lB o342) .nil) (lB o278)) (.node aI1 (.node o246 (lB o374) .nil) (lB o310))) (.node qH (.node xD (.node o230 (lB o358) .nil) (lB o294)) (.node aV5 (.node o262 (lB bM) .nil) (lB (o326 P)))))) (.node (o52 P) (.node o60 (.node o80 (.node uV (.node o202 (lB o338) .nil) (lB o274)) (.node aI5 (.node o242 (lB o370) .nil) (lB o306))) (.node o96 (.node sH (.node o226 (lB o354) .nil) (lB o290)) (.node aV9 (.node o258 (lB o386) .nil) (lB o322)))) (.node o68 (.node o88 (.node sM (.node o210 (lB o346) .nil) (lB o282)) (.node aH7 (.node o250 (lB o378) .nil) (lB o314))) (.node sU (.node aA0 (.node o234 (lB o362) .nil) (lB o298)) (.node aV1 (.node o266 (lB o394) .nil) (lB o330)))))) (.node o46 (.node o50 (.node o58 (.node o78 (.node sO (.node o200 (lB o336) .nil) (lB o272)) (.node aI7 (.node o240 (lB o368) .nil) (lB o304))) (.node o94 (.node (sJ P) (.node o224 (lB o352) .nil) (lB o288)) (.node (aW1 P) (.node o256 (lB o384) .nil) (lB o320)))) (.node o66 (.node o86 (.node uP (.node o208 (lB o344) .nil) (lB o280)) (.node aH9 (.node o248 (lB o376) .nil) (lB o312))) (.node pC (.node uI (.node o232 (lB o360) .nil) (lB o296)) (.node aV3 (.node o264 (lB o392) .nil) (lB o328))))) (.node (o54 P) (.node (o62 P) (.node o82 (.node uT (.node o204 (lB o340) .nil) (lB o276)) (.node aI3 (.node o244 (lB o372) .nil) (lB o308))) (.node o98 (.node uK (.node o228 (lB o356) .nil) (lB o292)) (.node aV7 (.node o260 (lB o388) .nil) (lB o324)))) (.node o219 (.node o90 (.node uM (.node o220 (lB o348) .nil) (lB o284)) (.node aW5 (.node o252 (lB o380) .nil) (lB o316))) (.node sS (.node zY (.node o236 (lB o364) .nil) (lB o300)) (.node o196 (lB o268) (lB o332))))))) (.node (o43 P) (.node o45 (.node o49 (.node o57 (.node o77 (.node sP (.node (o199 P) (lB o335) .nil) (lB o271)) (.node aI8 (.node o239 (lB o367) .nil) (lB o303))) (.node o93 (.node uL (.node o223 (lB o351) .nil) (lB o287)) (.node aW2 (.node o255 (lB o383) .nil) (lB o319)))) (.node o65 (.node o85 (.node uQ (.node o207 (lB o343) .nil) (lB o279)) (.node aI0 (.node o247 (lB o375) .nil) (lB o311))) (.node qG (.node xC (.node o231 (lB o359) .nil) (lB o295)) (.node aV4 (.node o263 (lB o391) .nil) (lB o327))))) (.node o53 (.node (o61 P) (.node o81 (.node (uU P) (.node o203 (lB o339) .nil) (lB o275)) (.node aI4 (.node o243 (lB o371) .nil) (lB o307))) (.node o97 (.node sG (.node o227 (lB o355) .nil) (lB o291)) (.node aV8 (.node o259 (lB o387) .nil) (lB o323)))) (.node o69 (.node o89 (.node uN (.node o211 (lB o347) .nil) (lB o283)) (.node aH6 (.node o251 (lB o379) .nil) (lB o315))) (.node sT (.node zZ (.node o235 (lB o363) .nil) (lB o299)) (.node o195 (lB o267) (lB o331)))))) (.node o47 (.node o51 (.node o59 (.node o79 (.node sN (.node o201 (lB o337) .nil) (lB o273)) (.node (aI6 P) (.node o241 (lB o369) .nil) (lB o305))) (.node o95 (.node sI (.node o225 (lB o353) .nil) (lB o289)) (.node aW0 (.node o257 (lB o385) .nil) (lB o321)))) (.node o67 (.node o87 (.node uO (.node o209 (lB o345) .nil) (lB o281)) (.node aH8 (.node o249 (lB o377) .nil) (lB o313))) (.node pB (.node aV0 (.node o233 (lB o361) .nil) (lB o297)) (.node aV2 (.node o265 (lB o393) .nil) (lB o329))))) (.node o55 (.node o63 (.node o83 (.node uS (.node o205 (lB o341) .nil) (lB o277)) (.node aI2 (.node o245 (lB o373) .nil) (lB o309))) (.node o99 (.node uJ (.node o229 (lB o357) .nil) (lB o293)) (.node aV6 (.node o261 (lB o389) .nil) (lB o325)))) (.node o71 (.node o91 (.node sL (.node o221 (lB o349) .nil) (lB o285)) (.node aW4 (.node o253 (lB o381) .nil) (lB o317))) (.node sR (.node aJ0 (.node o237 (lB o365) .nil) (lB o301)) (.node o197 (lB o269) (lB o333))))))))
noncomputable def nY (P:Params):Heap:=⟨#[(o41 P),(o42 P),(o43 P),(o218 P),o45,o46,o47,o48,o49,o50,o51,(o52 P),o53,(o54 P),o55,o56,o57,o58,o59,o60,(o61 P),(o62 P),o63,o64,o65,o66,o67,o68,o69,o219,o71,o72,o77,o78,o79,o80,o81,o82,o83,o84,o85,o86,o87,o88,o89,o90,o91,o92,o93,o94,o95,o96,o97,o98,o99,qH,qG,pC,pB,sU,sT,sS,sR,sQ,sP,sO,sN,uV,(uU P),uT,uS,uR,uQ,uP,uO,sM,uN,uM,sL,sK,uL,(sJ P),sI,sH,sG,uK,uJ,xD,xC,uI,aV0,aA0,zZ,zY,aJ0,aI9,aI8,aI7,(aI6 P),aI5,aI4,aI3,aI2,aI1,aI0,aH9,aH8,aH7,aH6,aW5,aW4,aW3,aW2,(aW1 P),aW0,aV9,aV8,aV7,aV6,aV5,aV4,aV3,aV2,aV1,o195,o196,o197,o198,(o199 P),o200,o201,o202,o203,o204,o205,o206,o207,o208,o209,o210,o211,o220,o221,(o222 P),o223,o224,o225,o226,o227,o228,o229,o230,o231,o232,o233,o234,o235,o236,o237,o238,o239,o240,o241,o242,o243,o244,o245,o246,o247,o248,o249,o250,o251,o252,o253,o254,o255,o256,o257,o258,o259,o260,o261,o262,o263,o264,o265,o266,o267,o268,o269,o270,o271,o272,o273,o274,o275,o276,o277,o278,o279,o280,o281,o282,o283,o284,o285,o286,o287,o288,o289,o290,o291,o292,o293,o294,o295,o296,o297,o298,o299,o300,o301,o302,o303,o304,o305,o306,o307,o308,o309,o310,o311,o312,o313,o314,o315,o316,o317,o318,o319,o320,o321,o322,o323,o324,o325,(o326 P),o327,o328,o329,o330,o331,o332,o333,o334,o335,o336,o337,o338,o339,o340,o341,o342,o343,o344,o345,o346,o347,o348,o349,o350,o351,o352,o353,o354,o355,o356,o357,o358,o359,o360,o361,o362,o363,o364,o365,o366,o367,o368,o369,o370,o371,o372,o373,o374,o375,o376,o377,o378,o379,o380,o381,o382,o383,o384,o385,o386,o387,o388,o389,bM,o391,o392,o393,o394],⟨[],[],[],0,[],[], .false, #[],[],0, .false, .false, .false,0,[2000,10,10], .false,0, .true,[],[],0, .false⟩⟩
noncomputable def aY:Params→Frag:=fun P=>[⟨2,(o43 P)⟩,⟨3,(o218 P)⟩,⟨32,bM⟩,⟨34,o79⟩,⟨35,bM⟩,⟨37,o82⟩,⟨38,o83⟩,⟨42,o87⟩,⟨43,o88⟩,⟨47,o92⟩,⟨48,o93⟩,⟨52,o97⟩,⟨53,o98⟩,⟨57,pC⟩,⟨58,pB⟩,⟨63,sQ⟩,⟨64,sP⟩,⟨65,sO⟩,⟨66,sN⟩,⟨73,bM⟩,⟨75,sM⟩,⟨76,bM⟩,⟨78,sL⟩,⟨79,sK⟩,⟨80,bM⟩,⟨81,(sJ P)⟩,⟨82,sI⟩,⟨83,sH⟩,⟨84,sG⟩,⟨89,uI⟩,⟨90,aV0⟩,⟨148,bM⟩,⟨150,o229⟩,⟨151,bM⟩,⟨153,o232⟩,⟨154,o233⟩,⟨155,bM⟩,⟨157,o236⟩,⟨158,bM⟩,⟨160,o239⟩,⟨161,o240⟩,⟨162,bM⟩,⟨164,o243⟩,⟨165,bM⟩,⟨167,o246⟩,⟨168,o247⟩,⟨169,bM⟩,⟨171,o250⟩,⟨172,bM⟩,⟨174,o253⟩,⟨175,o254⟩,⟨176,bM⟩,⟨178,o257⟩,⟨179,bM⟩,⟨181,o260⟩,⟨182,o261⟩,⟨183,bM⟩,⟨185,o264⟩,⟨186,bM⟩,⟨188,o267⟩,⟨189,o268⟩,⟨190,bM⟩,⟨192,o271⟩,⟨193,bM⟩,⟨195,o274⟩,⟨196,o275⟩,⟨197,bM⟩,⟨199,o278⟩,⟨200,bM⟩,⟨202,o281⟩,⟨203,o282⟩,⟨204,bM⟩,⟨206,o285⟩,⟨207,bM⟩,⟨209,o288⟩,⟨210,o289⟩,⟨211,bM⟩,⟨213,o292⟩,⟨214,bM⟩,⟨216,o295⟩,⟨217,o296⟩,⟨218,bM⟩,⟨220,o299⟩,⟨221,bM⟩,⟨223,o302⟩,⟨224,o303⟩,⟨225,bM⟩,⟨227,o306⟩,⟨228,bM⟩,⟨230,o309⟩,⟨231,o310⟩,⟨232,bM⟩,⟨234,o313⟩,⟨235,bM⟩,⟨237,o316⟩,⟨238,o317⟩,⟨239,bM⟩,⟨241,o320⟩,⟨242,bM⟩,⟨244,o323⟩,⟨245,o324⟩,⟨246,o325⟩,⟨247,(o326 P)⟩,⟨248,o327⟩,⟨249,o328⟩,⟨250,o329⟩,⟨253,bM⟩,⟨255,bM⟩,⟨256,bM⟩,⟨258,o337⟩,⟨259,o338⟩,⟨260,o339⟩,⟨261,o340⟩,⟨262,o341⟩,⟨263,o342⟩,⟨264,o343⟩,⟨265,o344⟩,⟨266,o345⟩,⟨267,o346⟩,⟨268,o347⟩,⟨269,o348⟩,⟨270,o349⟩,⟨271,o350⟩,⟨272,o351⟩,⟨273,o352⟩,⟨274,o353⟩,⟨275,o354⟩,⟨276,o355⟩,⟨277,o356⟩,⟨278,o357⟩,⟨279,o358⟩,⟨280,o359⟩,⟨281,o360⟩,⟨282,bM⟩,⟨284,bM⟩,⟨285,bM⟩,⟨287,o366⟩,⟨288,o367⟩,⟨289,o368⟩,⟨290,bM⟩,⟨292,bM⟩,⟨293,bM⟩,⟨295,o374⟩,⟨296,o375⟩,⟨297,bM⟩,⟨299,o378⟩,⟨300,bM⟩,⟨302,o381⟩,⟨303,o382⟩,⟨304,bM⟩,⟨306,o385⟩,⟨307,bM⟩,⟨309,o388⟩,⟨310,o389⟩,⟨311,bM⟩,⟨314,o393⟩,⟨315,o394⟩]
noncomputable def lf:Life:=⟨[],[],[],0,[],[],false, #[],[],0,false,false,false,0,[2000,10,10],false,0,true,[],[],0,false⟩
noncomputable def stT (t:Params→BT) (n:Nat) (gs:Array GenState) (k:Nat) (w:World) (os:OsState):SharedT:=⟨t w.params,n,lf,gs,⟨0,0,0,0⟩,k,os⟩
noncomputable def env:Env:={scope:=pw.main.scope,locals:=mainNs,globals:=mainNs,cells:=[],code:= .ref 30,frame:=some 31}
noncomputable abbrev cdE:Code:= .body (behindTheImports pw) env
noncomputable abbrev pcs (a n:Nat):List Stmt:=((behindTheImports pw).drop a).take n
noncomputable abbrev fr0:List Frame:=[topFrame ⟨0,0,0,0⟩]
abbrev Seg (m:Nat) (t1:Params→BT) (n1:Nat) (g1:Array GenState) (k1 a n:Nat) (p1:Pos) (t2:Params→BT) (n2:Nat) (g2:Array GenState) (k2:Nat) (p2:Pos) (w:World):Prop:=
 (fun os=>segRunT treeTable pw w 28 (some (.ref 6)) 1 m (stT t1 n1 g1 k1 w os) (piecesOf (pcs a n) env cdE p1 fr0))=fun os=>some (Flow.next,stT t2 n2 g2 k2 w os,cdE,p2)
theorem up {m:Nat}{t1:Params→BT}{n1:Nat}{g1:Array GenState}{k1 a n:Nat}{p1:Pos}{t2:Params→BT}{n2:Nat}{g2:Array GenState}{k2:Nat}{p2:Pos}{w:World}
  (h:(fun os=>PySem.W.Fast.tw10110043849684766642 PySem.W.Fast.tw14364793385576792824 pw w 28 (some (.ref 6)) 1 m (stT t1 n1 g1 k1 w os) (piecesOf (pcs a n) env cdE p1 fr0))=fun os=>some (Flow.next,stT t2 n2 g2 k2 w os,cdE,p2)):
  Seg m t1 n1 g1 k1 a n p1 t2 n2 g2 k2 p2 w:=by
 unfold Seg
 rw [PySem.W.Fast.te10110043849684766642,PySem.W.Fast.te14364793385576792824];exact h
theorem op0 (w:World):(fencedOpening treeTable pw w 17108).map (fun s=>(s.heap,s.gens,s.drawn,s.toks))=some (fT w.params, #[],⟨0,0,0,0⟩,276):=by
 unfold fencedOpening
 rw [PySem.W.Fast.te10274390034422433532,PySem.W.Fast.te14364793385576792824]
 kernel_rfl
theorem size0 (w:World):((fT w.params).isNs mainGlobals&&(#[]:Array GenState).size==0,(fT w.params).objs.size,(fT w.params).nsMap mainGlobals "__annotations__")=(true,28,some (.ref 6)):=by
 rw [PySem.W.Fast.te8920871248978507458];kernel_rfl
theorem q0 (w:World):(fun os=>topGo treeTable pw w 28 (some (.ref 6)) 12 ⟨fT w.params, #[],⟨0,0,0,0⟩,276,os⟩ (topStub pw))=fun os=>some (⟨aL5 w.params, #[],⟨0,0,0,0⟩,282,os⟩,⟨denote treeTable cdE,cdE,⟨0,0,0,0⟩,fr0⟩):=by
 rw [PySem.W.Fast.te15667345088766844465,PySem.W.Fast.te14364793385576792824,PySem.W.Fast.te11892475500146522536];kernel_rfl
theorem qb (w:World):(fun os=>segRun treeTable pw w 28 (some (.ref 6)) 1 1 ⟨aL5 w.params, #[],⟨0,0,0,0⟩,282,os⟩ (blockOf (behindTheImports pw) env cdE ⟨0,0,0,0⟩ fr0))=fun os=>some (Flow.next,(stT aD9 32 #[] 282 w os).abs,cdE,⟨0,0,0,0⟩):=by
 rw [PySem.W.Fast.te14374325043358763698,PySem.W.Fast.te14364793385576792824];kernel_rfl
theorem q1 (w:World):Seg 584 aD9 32 #[] 282 0 6 ⟨0,0,0,0⟩ yE 59 #[] 664 ⟨9,0,9,10⟩ w:=up (by kernel_rfl)
theorem q2:∀w,Seg 152 yE 59 #[] 664 6 1 ⟨9,0,9,10⟩ yD 63 #[] 677 ⟨10,63,10,72⟩ w:=byRow2 "special-get-raises" (fun w=>up (by kernel_rfl)) (fun w=>up (by kernel_rfl))
theorem q3 (w:World):Seg 307 yD 63 #[] 677 7 4 ⟨10,63,10,72⟩ yC 87 #[] 711 ⟨14,0,17,18⟩ w:=up (by kernel_rfl)
noncomputable def lpD (i:Nat):Obj:=⟨.ref 82, .some 89, .dict (trE [] 716 i []).toArray i, #[]⟩
noncomputable def lpI (i:Nat):Obj:=⟨.type "range_iterator", .none, .fields #[.int i 0, .int (128-i) 0, .int 1 0], #[]⟩
noncomputable def lpT (i:Nat) (P:Params):BT:=(.node (o41 P) (.node (o42 P) (.node (o111 P) (.node o48 (.node o56 (.node o72 (.node sQ .nil .nil) .nil) (.node o92 (.node sK .nil .nil) .nil)) (.node o64 (.node o84 (.node uR .nil .nil) .nil) (.node qH (.node xD .nil .nil) .nil))) (.node (o52 P) (.node o60 (.node o80 (.node uV .nil .nil) .nil) (.node o96 (.node sH .nil .nil) .nil)) (.node o68 (.node o88 (.node sM .nil .nil) .nil) (.node sU (.node (lpI i) .nil .nil) .nil)))) (.node o46 (.node o50 (.node o58 (.node o78 (.node sO .nil .nil) .nil) (.node o94 (.node (sJ P) .nil .nil) .nil)) (.node o66 (.node o86 (.node uP .nil .nil) .nil) (.node pC (.node uI .nil .nil) .nil))) (.node (o54 P) (.node (o62 P) (.node o82 (.node uT .nil .nil) .nil) (.node o98 (.node uK .nil .nil) .nil)) (.node o112 (.node o90 (.node uM .nil .nil) .nil) (.node sS .nil .nil))))) (.node (o43 P) (.node o45 (.node o49 (.node o57 (.node o77 (.node sP .nil .nil) .nil) (.node o93 (.node uL .nil .nil) .nil)) (.node o65 (.node o85 (.node uQ .nil .nil) .nil) (.node qG (.node xC .nil .nil) .nil))) (.node o53 (.node (o61 P) (.node o81 (.node (uU P) .nil .nil) .nil) (.node o97 (.node sG .nil .nil) .nil)) (.node o69 (.node o89 (.node uN .nil .nil) .nil) (.node sT .nil .nil)))) (.node o47 (.node o51 (.node o59 (.node o79 (.node sN .nil .nil) .nil) (.node o95 (.node sI .nil .nil) .nil)) (.node o67 (.node o87 (.node uO .nil .nil) .nil) (.node pB (.node (lpD i) .nil .nil) .nil))) (.node o55 (.node o63 (.node o83 (.node uS .nil .nil) .nil) (.node o99 (.node uJ .nil .nil) .nil)) (.node o71 (.node o91 (.node sL .nil .nil) .nil) (.node sR .nil .nil))))))
noncomputable def lpC:Code:= .builtin "dict.fromkeys.loop" ⟨[.ref 90, .ref 91, .int 120 715],[]⟩
noncomputable abbrev ths (w:World) (os:OsState):SharedT:=stT yC 87 #[] 711 w os
noncomputable abbrev tht:Thread:=piecesOf (pcs 11 1) env cdE ⟨14,0,17,18⟩ fr0
noncomputable def lpF (w:World) (os:OsState):List Frame:=match PySem.W.Fast.tw10295753902157049106 PySem.W.Fast.tw14364793385576792824 pw w 28 (some (.ref 6)) 1 113 (ths w os) tht with
 | some (_,t)=>t.stack
 | none=>[]
noncomputable abbrev lpt (w:World) (os:OsState):Thread:=⟨PySem.W.Fast.tw11892475500146522536 PySem.W.Fast.tw14364793385576792824 lpC,lpC,⟨18,8,18,42⟩,lpF w os⟩
abbrev Go (m:Nat) (s:World→OsState→SharedT) (t:World→OsState→Thread) (i:Nat) (w:World):Prop:=
 (fun os=>segGoT treeTable pw w 28 (some (.ref 6)) 1 m (s w os) (t w os))=fun os=>some (stT (lpT i) 92 #[] (716+2*i) w os,lpt w os)
theorem upg {m:Nat}{s:World→OsState→SharedT}{t:World→OsState→Thread}{i:Nat}{w:World}
  (h:(fun os=>PySem.W.Fast.tw10295753902157049106 PySem.W.Fast.tw14364793385576792824 pw w 28 (some (.ref 6)) 1 m (s w os) (t w os))=fun os=>some (stT (lpT i) 92 #[] (716+2*i) w os,lpt w os)):Go m s t i w:=by
 unfold Go
 rw [PySem.W.Fast.te10295753902157049106,PySem.W.Fast.te14364793385576792824];exact h
noncomputable abbrev lps (i:Nat) (w:World) (os:OsState):SharedT:=stT (lpT i) 92 #[] (716+2*i) w os
theorem z0:∀w,Go 113 ths (fun z_ z_=>tht) 0 w:=byRow2 "special-get-raises" (fun w=>upg (by kernel_rfl)) (fun w=>upg (by kernel_rfl))
theorem z1a (w:World):Go 1280 (lps 0) lpt 32 (w.withFollow "special-get-raises" false):=upg (by kernel_rfl)
theorem z1b (w:World):Go 1280 (lps 0) lpt 32 (w.withFollow "special-get-raises" true):=upg (by kernel_rfl)
theorem z1:∀w,Go 1280 (lps 0) lpt 32 w:=byRow2 "special-get-raises" z1a z1b
theorem z2a (w:World):Go 1280 (lps 32) lpt 64 (w.withFollow "special-get-raises" false):=upg (by kernel_rfl)
theorem z2b (w:World):Go 1280 (lps 32) lpt 64 (w.withFollow "special-get-raises" true):=upg (by kernel_rfl)
theorem z2:∀w,Go 1280 (lps 32) lpt 64 w:=byRow2 "special-get-raises" z2a z2b
theorem z3a (w:World):Go 1280 (lps 64) lpt 96 (w.withFollow "special-get-raises" false):=upg (by kernel_rfl)
theorem z3b (w:World):Go 1280 (lps 64) lpt 96 (w.withFollow "special-get-raises" true):=upg (by kernel_rfl)
theorem z3:∀w,Go 1280 (lps 64) lpt 96 w:=byRow2 "special-get-raises" z3a z3b
abbrev Sgl (w:World):Prop:=(fun os=>segRunT treeTable pw w 28 (some (.ref 6)) 1 1303 (lps 96 w os) (lpt w os))=fun os=>some (Flow.next,stT nQ 94 #[] 973 w os,cdE,⟨18,0,18,5⟩)
theorem upl {w:World} (h:(fun os=>PySem.W.Fast.tw10110043849684766642 PySem.W.Fast.tw14364793385576792824 pw w 28 (some (.ref 6)) 1 1303 (lps 96 w os) (lpt w os))=fun os=>some (Flow.next,stT nQ 94 #[] 973 w os,cdE,⟨18,0,18,5⟩)):Sgl w:=by
 unfold Sgl
 rw [PySem.W.Fast.te10110043849684766642,PySem.W.Fast.te14364793385576792824];exact h
theorem zla (w:World):Sgl (w.withFollow "special-get-raises" false):=upl (by kernel_rfl)
theorem zlb (w:World):Sgl (w.withFollow "special-get-raises" true):=upl (by kernel_rfl)
theorem zl:∀w,Sgl w:=byRow2 "special-get-raises" zla zlb
theorem q4 (w:World) (os:OsState):segRun treeTable pw w 28 (some (.ref 6)) 1 (113+(1280+(1280+(1280+1303)))) (ths w os).abs tht=some (Flow.next,(stT nQ 94 #[] 973 w os).abs,cdE,⟨18,0,18,5⟩):=
 seg_go (segGo_of (congrFun (z0 w) os)) (seg_go (segGo_of (congrFun (z1 w) os)) (seg_go (segGo_of (congrFun (z2 w) os)) (seg_go (segGo_of (congrFun (z3 w) os)) (segRun_of (congrFun (zl w) os)))))
theorem q5:∀w,Seg 367 nQ 94 #[] 973 12 1 ⟨18,0,18,5⟩ yB 109 #[.finished] 1003 ⟨19,0,19,49⟩ w:=byRow2 "comprehension-iter-twice" (byRow2 "special-get-raises" (fun w=>up (by kernel_rfl)) (fun w=>up (by kernel_rfl))) (byRow2 "special-get-raises" (fun w=>up (by kernel_rfl)) (fun w=>up (by kernel_rfl)))
theorem q6:∀w,Seg 367 yB 109 #[.finished] 1003 13 1 ⟨19,0,19,49⟩ yA 124 #[.finished, .finished] 1033 ⟨20,0,20,49⟩ w:=byRow2 "comprehension-iter-twice" (byRow2 "special-get-raises" (fun w=>up (by kernel_rfl)) (fun w=>up (by kernel_rfl))) (byRow2 "special-get-raises" (fun w=>up (by kernel_rfl)) (fun w=>up (by kernel_rfl)))
theorem q7:∀w,Seg 522 yA 124 #[.finished, .finished] 1033 14 1 ⟨20,0,20,49⟩ xZ 141 #[.finished, .finished, .finished] 1070 ⟨21,0,21,52⟩ w:=byRow2 "comprehension-iter-twice" (byRow2 "special-get-raises" (fun w=>up (by kernel_rfl)) (fun w=>up (by kernel_rfl))) (byRow2 "special-get-raises" (fun w=>up (by kernel_rfl)) (fun w=>up (by kernel_rfl)))
theorem q8 (w:World):Seg 944 xZ 141 #[.finished, .finished, .finished] 1070 15 10 ⟨21,0,21,52⟩ xY 316 #[.finished, .finished, .finished] 1311 ⟨280,0,303,15⟩ w:=up (by kernel_rfl)
theorem qf (w:World):(fun os=>topRun treeTable pw w 28 (some (.ref 6)) 2 (stT xY 316 #[.finished, .finished, .finished] 1311 w os).abs ⟨doneF .next,cdE,⟨280,0,303,15⟩,fr0⟩)=fun os=>some ⟨nY w.params, #[.finished, .finished, .finished],⟨0,0,0,0⟩,1311,os⟩:=by
 rw [PySem.W.Fast.te14082659384304107361,PySem.W.Fast.te14364793385576792824];kernel_rfl
theorem bodyEq:behindTheImports pw=pcs 0 6++(pcs 6 1++(pcs 7 4++(pcs 11 1++(pcs 12 1++(pcs 13 1++(pcs 14 1++(pcs 15 10++[]))))))):=by kernel_rfl
theorem run0 (w:World) (os:OsState):topRun treeTable pw w 28 (some (.ref 6)) (12+(1+(584+(152+(307+((113+(1280+(1280+(1280+1303))))+(367+(367+(522+(944+2)))))))))) ⟨fT w.params, #[],⟨0,0,0,0⟩,276,os⟩ (topStub pw)=some ⟨nY w.params, #[.finished, .finished, .finished],⟨0,0,0,0⟩,1311,os⟩:=by
 refine go_top (congrFun (q0 w) os) (piece_block (congrFun (qb w) os) ?_)
 rw [bodyEq]
 exact piece_app (segRun_of (congrFun (q1 w) os)) (piece_app (segRun_of (congrFun (q2 w) os)) (piece_app (segRun_of (congrFun (q3 w) os)) (piece_app (q4 w os) (piece_app (segRun_of (congrFun (q5 w) os)) (piece_app (segRun_of (congrFun (q6 w) os)) (piece_app (segRun_of (congrFun (q7 w) os)) (piece_app (segRun_of (congrFun (q8 w) os)) (congrFun (qf w) os))))))))
noncomputable def dA:Program:={pw with main:={pw.main with body:=[sA 0,sA 1,sA 3,sA 4,sA 5,sA 6,sA 7,sA 8,sA 9,sA 10,sA 11,sA 12,sA 16,sA 18,sA 19,sA 20,sA 21,sA 22,sA 23,sA 24,sA 25]}}
noncomputable def lo:List PySem.Str:=["_twin_re_2","_twin_re_3","_twin_re_6","_twin_re_7","C_NONE","C_BACKSLASH","C_STRING_FIRST_LINE","C_STRING_NEXT_LINES","C_BRACKET","_junkre","_match_stringre","_chew_ordinaryre","trans","_law_breaks","_law_ahead"]
noncomputable def lv:List (PySem.Str×WData):=[("C_NONE", .int 0),("C_BACKSLASH", .int 1),("C_STRING_FIRST_LINE", .int 2),("C_STRING_NEXT_LINES", .int 3),("C_BRACKET", .int 4)]
noncomputable abbrev law:OpenLaw:=PySem.Challenge.rw_km0028_03
noncomputable def ads:List Addr:=[2,3,32,34,35,37,38,42,43,47,48,52,53,57,58,63,64,65,66,73,75,76,78,79,80,81,82,83,84,89,90,148,150,151,153,154,155,157,158,160,161,162,164,165,167,168,169,171,172,174,175,176,178,179,181,182,183,185,186,188,189,190,192,193,195,196,197,199,200,202,203,204,206,207,209,210,211,213,214,216,217,218,220,221,223,224,225,227,228,230,231,232,234,235,237,238,239,241,242,244,245,246,247,248,249,250,253,255,256,258,259,260,261,262,263,264,265,266,267,268,269,270,271,272,273,274,275,276,277,278,279,280,281,282,284,285,287,288,289,290,292,293,295,296,297,299,300,302,303,304,306,307,309,310,311,314,315]
noncomputable abbrev pO:Hook:=kHook aY ads (fun z_=>by kernel_rfl)
noncomputable abbrev xt:Shared→Bool:=fun s=>xlAt dA lv s&&recOk (RowW.records law.row.toRowW) s
noncomputable abbrev sF (w:World) (os:OsState):Shared:=⟨nY w.params, #[.finished, .finished, .finished],⟨0,0,0,0⟩,1311,os⟩
noncomputable abbrev hF (w:World):Heap:=nY w.params
theorem said:law.wellSaid=true:=by kernel_rfl
theorem l1 (w:World):(fun os=>(staticsOk (importedModules pw.main.body) (fT w.params) (hF w)&&namesBound pw (hF w)&&gensDone (sF w os)&&laidKept (fT w.params) (hF w)))=fun z_=>true:=by
 rw [PySem.W.Fast.te5923862056798008813];kernel_rfl
theorem l2 (w:World):(fun os=>seen ((recsOf dA).map (·.name)) (ownsOf dA) [] {sF w os with gens:= #[]})=fun z_=>expectedOf dA:=by
 rw [PySem.W.Fast.te5160383126252970620,PySem.W.R.mapR_eq,PySem.W.Fast.te3399658132070893891,PySem.W.Fast.te5991557255702980513];kernel_rfl
theorem l3 (w:World):(fun os=>(sF w os).heap.bltView)=fun z_=>bltViewBooted:=by kernel_rfl
theorem l4 (w:World):(fun os=>((sF w os).heap.keysOk (looseW dA lo) ((recsOf dA).map (·.name)) ((litsOf dA).map (·.1)) ((clssOf dA (looseW dA lo)).map (·.name))&&(sF w os).heap.accountedOkI (importedModules pw.main.body)&&(sF w os).heap.isNs mainGlobals&&(sF w os).heap.isNs builtinsNs&&tablesOk dA (sF w os).heap&&xt (sF w os)&&(if false then (sF w os).gens.size==0 else !leftWithCleanup (sF w os).gens)))=fun z_=>true:=by
 rw [PySem.W.Fast.te10880121769531294198,PySem.W.Fast.te821141287760084731,PySem.W.R.mapR_eq,PySem.W.Fast.te3399658132070893891,PySem.W.Fast.te7409074990110511671,PySem.W.Fast.te13664370479719496447,PySem.W.Fast.te14722251495701143533,PySem.W.Fast.te5923862056798008813,PySem.W.Fast.te10994771534591457954];kernel_rfl
theorem l5 (w:World):(fun os=>tabsOk dA (sF w os))=fun z_=>true:=by
 rw [PySem.W.Fast.te479339242167458305];kernel_rfl
theorem l6 (w:World):(fun os=>pinSeenD dA (drecsOf dA) (sF w os))=fun z_=>pinGoodD (drecsOf dA):=by
 rw [PySem.W.Fast.te16090120013241838585,PySem.W.Fast.te3247288618530077131];kernel_rfl
theorem l7 (w:World):(fun os=>plainSeenE dA (looseW dA lo) (sF w os))=fun z_=>plainGoodE dA (looseW dA lo):=by
 rw [PySem.W.Fast.te2386780881361962483,PySem.W.Fast.te821141287760084731];kernel_rfl
theorem l8 (w:World):(fun os=>plainSeenD dA lo (sF w os))=fun z_=>plainGoodD dA lo:=by
 rw [PySem.W.Fast.te11698064438423848299];kernel_rfl
theorem l9 (w:World):(fun os=>wideSeen dA (sF w os))=fun z_=>wideGood dA:=by
 rw [PySem.W.Fast.te7317090234206586261];kernel_rfl
theorem l10 (w:World):(fun os=>clsSeenW dA lo (sF w os))=fun z_=>clsGoodW dA lo:=by
 rw [PySem.W.Fast.te7369524293546568484];kernel_rfl
theorem l11 (w:World):(fun os=>Hook.obs pO (sF w os))=fun z_=>Hook.val pO w:=by kernel_rfl
theorem looks (w:World):(fun os=>((staticsOk (importedModules pw.main.body) (fT w.params) (hF w)&&namesBound pw (hF w)&&gensDone (sF w os)&&laidKept (fT w.params) (hF w)),
  openSeen dA lo (importedModules pw.main.body) xt false (sF w os),Hook.obs pO (sF w os)))=fun z_=>(true,openGood dA lo,Hook.val pO w):=
 funext fun os=>looks_pair (congrFun (l1 w) os) (looks_pair (looks_pair (congrFun (l2 w) os) (looks_pair (congrFun (l3 w) os) (looks_pair (congrFun (l4 w) os) (looks_pair (congrFun (l5 w) os) (looks_pair (congrFun (l6 w) os)
  (looks_pair (congrFun (l7 w) os) (looks_pair (congrFun (l8 w) os) (looks_pair (congrFun (l9 w) os) (congrFun (l10 w) os))))))))) (congrFun (l11 w) os))
theorem left:LeftO pw dA lo xt (Hook.obs pO) (Hook.val pO) 17108 false:=LeftO.of_pieces op0 size0 run0 (by kernel_rfl) looks
theorem okV:(chainsOk dA&&opensWell law.row.toRowW.prog&&(frees law.row.toRowW&&law.row.toRowW.within.isEmpty))=true:=by kernel_rfl
theorem bare:law.row.toRowW.prog.bare:=⟨rfl,rfl,rfl,rfl,rfl,by kernel_rfl⟩
theorem prom:law.row.toRowW.promised:=⟨[.list []],by kernel_rfl,by kernel_rfl⟩
end _M.H
end
section
set_option genSizeOf false
set_option genInjectivity false
set_option genCtorIdx false
namespace _M.Ln
inductive Cx where
 | o
 | n (a:Nat) (r:Cx)
 | z (a:Int) (r:Cx)
noncomputable abbrev Cx.n1 (a0:Nat):Cx:= .n a0 .o
noncomputable abbrev Cx.n2 (a0 a1:Nat):Cx:= .n a0 (.n a1 .o)
noncomputable abbrev Cx.n3 (a0 a1 a2:Nat):Cx:= .n a0 (.n a1 (.n a2 .o))
noncomputable abbrev Cx.n4 (a0 a1 a2 a3:Nat):Cx:= .n a0 (.n a1 (.n a2 (.n a3 .o)))
noncomputable abbrev Cx.n5 (a0 a1 a2 a3 a4:Nat):Cx:= .n a0 (.n a1 (.n a2 (.n a3 (.n a4 .o))))
noncomputable abbrev Cx.n6 (a0 a1 a2 a3 a4 a5:Nat):Cx:= .n a0 (.n a1 (.n a2 (.n a3 (.n a4 (.n a5 .o)))))
noncomputable abbrev Cx.n7 (a0 a1 a2 a3 a4 a5 a6:Nat):Cx:= .n a0 (.n a1 (.n a2 (.n a3 (.n a4 (.n a5 (.n a6 .o))))))
noncomputable abbrev Cx.n8 (a0 a1 a2 a3 a4 a5 a6 a7:Nat):Cx:= .n a0 (.n a1 (.n a2 (.n a3 (.n a4 (.n a5 (.n a6 (.n a7 .o)))))))
noncomputable def Cx.N:Cx→Nat→Nat
 | .n a _,0=>a
 | .n _ r,i+1=>r.N i
 | .z _ r,i+1=>r.N i
 | _,_=>0
noncomputable def Cx.Z:Cx→Nat→Int
 | .z a _,0=>a
 | .n _ r,i+1=>r.Z i
 | .z _ r,i+1=>r.Z i
 | _,_=>0
inductive Tm where
 | v (i:Nat)
 | k (n:Nat)
 | a (e1 e2:Tm)
 | s (e1 e2:Tm)
 | g (e:Tm)
 | m (n:Nat) (e:Tm)
 | r (e:Tm) (n:Nat)
 | c (e:Tm)
 | u (e:Tm)
noncomputable abbrev Tm.v0:Tm:= .v 0
noncomputable abbrev Tm.v1:Tm:= .v 1
noncomputable abbrev Tm.v2:Tm:= .v 2
noncomputable abbrev Tm.v3:Tm:= .v 3
noncomputable abbrev Tm.v4:Tm:= .v 4
noncomputable abbrev Tm.v5:Tm:= .v 5
noncomputable abbrev Tm.v6:Tm:= .v 6
noncomputable abbrev Tm.v7:Tm:= .v 7
noncomputable abbrev Tm.k0:Tm:= .k 0
noncomputable abbrev Tm.k1:Tm:= .k 1
noncomputable def Tm.n (x:Cx):Tm→Nat
 | .v i=>x.N i
 | .k j=>j
 | .a e1 e2=>e1.n x+e2.n x
 | .m j e1=>j*e1.n x
 | .r e1 j=>e1.n x*j
 | .u e1=>(e1.n x).succ
 | _=>0
noncomputable def Tm.z (x:Cx):Tm→Int
 | .v i=>x.Z i
 | .k j=>Int.ofNat j
 | .a e1 e2=>e1.z x+e2.z x
 | .s e1 e2=>e1.z x-e2.z x
 | .g e1=> -e1.z x
 | .m j e1=>Int.ofNat j*e1.z x
 | .r e1 j=>e1.z x*Int.ofNat j
 | .c e1=>(e1.n x:Int)
 | _=>0
inductive Cn where
 | l (e1 e2:Tm)
 | t (e1 e2:Tm)
 | q (e1 e2:Tm)
 | L (e1 e2:Tm)
 | T (e1 e2:Tm)
 | Q (e1 e2:Tm)
 | b (i:Nat) (e1 e2:Tm)
 | M (i:Nat) (e1 e2:Tm)
 | N (i:Nat) (e:Tm)
 | n (c:Cn)
 | f
noncomputable def Cn.D (x:Cx):Cn→Prop
 | .l e1 e2=>e1.n x≤e2.n x
 | .t e1 e2=>e1.n x<e2.n x
 | .q e1 e2=>e1.n x=e2.n x
 | .L e1 e2=>e1.z x≤e2.z x
 | .T e1 e2=>e1.z x<e2.z x
 | .Q e1 e2=>e1.z x=e2.z x
 | .b i e1 e2=>x.N i=e1.n x-e2.n x
 | .M i e1 e2=>x.N i=min (e1.n x) (e2.n x)
 | .N i e1=>x.N i=(e1.z x).toNat
 | .n c1=>¬c1.D x
 | .f=>False
noncomputable abbrev Sm:=Int×List Int×List Int
noncomputable def ev (f:Nat→Int):List Int→Int
 | []=>0
 | c::r=>c*f 0+ev (fun i=>f (i+1)) r
noncomputable def ad (c:Int):Nat→List Int→List Int
 | 0,[]=>[c]
 | 0,a::r=>(c+a)::r
 | i+1,[]=>0::ad c i []
 | i+1,a::r=>a::ad c i r
theorem zF (c:Int):∀(i:Nat) (l:List Int) (f:Nat→Int),ev f (ad c i l)=c*f i+ev f l
 | 0,[],_=>rfl
 | 0,a::r,f=>by
  show (c+a)*f 0+ev _ r=c*f 0+(a*f 0+ev _ r)
  rw [Int.add_mul,Int.add_assoc]
 | i+1,[],f=>by
  show 0*f 0+ev _ (ad c i [])=_
  rw [zF c i [],Int.zero_mul,Int.zero_add]
  rfl
 | i+1,a::r,f=>by
  show a*f 0+ev _ (ad c i r)=c*f (i+1)+(a*f 0+ev _ r)
  rw [zF c i r,Int.add_left_comm]
noncomputable def Smd (x:Cx) (p:Sm):Int:=p.1+(ev (fun i=>(x.N i:Int)) p.2.1+ev x.Z p.2.2)
noncomputable def Tm.pn (p:Sm):Tm→Int→Sm
 | .v i,j=>(p.1,ad j i p.2.1,p.2.2)
 | .k i,j=>(j*i+p.1,p.2)
 | .a e1 e2,j=>e2.pn (e1.pn p j) j
 | .m i e1,j=>e1.pn p (j*i)
 | .r e1 i,j=>e1.pn p (j*i)
 | .u e1,j=>e1.pn (j+p.1,p.2) j
 | _,_=>p
theorem zI (x:Cx) (c:Int) (p:Sm):Smd x (c+p.1,p.2)=c+Smd x p:=Int.add_assoc _ _ _
theorem Tm.pn_d (x:Cx):∀(e:Tm) (p:Sm) (j:Int),Smd x (e.pn p j)=j*(e.n x:Int)+Smd x p
 | .v i,p,j=>by
  show p.1+(ev _ (ad j i p.2.1)+_)=_
  rw [zF,Int.add_assoc (j*_),Int.add_left_comm];rfl
 | .k n,p,j=>zI x _ p
 | .a e1 e2,p,j=>by
  show Smd x (e2.pn (e1.pn p j) j)=j*((e1.n x+e2.n x:Nat):Int)+_
  rw [Tm.pn_d x e2,Tm.pn_d x e1,Int.natCast_add,Int.mul_add,Int.add_left_comm,Int.add_assoc]
 | .m n e,p,j=>by
  show Smd x (e.pn p (j*n))=j*((n*e.n x:Nat):Int)+_
  rw [Tm.pn_d x e,Int.natCast_mul,Int.mul_assoc]
 | .r e n,p,j=>by
  show Smd x (e.pn p (j*n))=j*((e.n x*n:Nat):Int)+_
  rw [Tm.pn_d x e,Int.natCast_mul,Int.mul_assoc,Int.mul_comm (n:Int)]
 | .u e,p,j=>by
  show Smd x (e.pn (j+p.1,p.2) j)=j*((e.n x).succ:Int)+_
  rw [Tm.pn_d x e,zI,Int.natCast_succ,Int.mul_add,Int.mul_one,Int.add_assoc]
 | .s _ _,p,j | .g _,p,j | .c _,p,j=>by show Smd x p=j*0+_;rw [Int.mul_zero,Int.zero_add]
noncomputable def Tm.pz (p:Sm):Tm→Int→Sm
 | .v i,j=>(p.1,p.2.1,ad j i p.2.2)
 | .k n,j=>(j*n+p.1,p.2)
 | .c e1,j=>e1.pn p j
 | .a e1 e2,j=>e2.pz (e1.pz p j) j
 | .s e1 e2,j=>e2.pz (e1.pz p j) (-j)
 | .g e1,j=>e1.pz p (-j)
 | .m n e1,j=>e1.pz p (j*n)
 | .r e1 n,j=>e1.pz p (j*n)
 | .u _,_=>p
theorem Tm.pz_d (x:Cx):∀(e:Tm) (p:Sm) (j:Int),Smd x (e.pz p j)=j*e.z x+Smd x p
 | .v i,p,j=>by
  show p.1+(_+ev _ (ad j i p.2.2))=_
  rw [zF,Int.add_left_comm _ (j*_),Int.add_left_comm];rfl
 | .k n,p,j=>zI x _ p
 | .c e,p,j=>Tm.pn_d x e p j
 | .a e1 e2,p,j=>by
  show Smd x (e2.pz (e1.pz p j) j)=j*(e1.z x+e2.z x)+_
  rw [Tm.pz_d x e2,Tm.pz_d x e1,Int.mul_add,Int.add_left_comm,Int.add_assoc]
 | .s e1 e2,p,j=>by
  show Smd x (e2.pz (e1.pz p j) (-j))=j*(e1.z x-e2.z x)+_
  rw [Tm.pz_d x e2,Tm.pz_d x e1,Int.mul_sub,Int.neg_mul,Int.sub_eq_add_neg,Int.add_left_comm,Int.add_assoc]
 | .g e,p,j=>by
  show Smd x (e.pz p (-j))=j*(-e.z x)+_
  rw [Tm.pz_d x e,Int.neg_mul_comm]
 | .m n e,p,j=>by
  show Smd x (e.pz p (j*n))=j*(n*e.z x)+_
  rw [Tm.pz_d x e,Int.mul_assoc]
 | .r e n,p,j=>by
  show Smd x (e.pz p (j*n))=j*(e.z x*n)+_
  rw [Tm.pz_d x e,Int.mul_assoc,Int.mul_comm (n:Int)]
 | .u _,p,j=>by show Smd x p=j*0+_;rw [Int.mul_zero,Int.zero_add]
noncomputable abbrev Fc:=Nat×Tm×Tm
noncomputable def FD (x:Cx):Fc→Prop
 | (1,a,b)=>a.z x≤b.z x
 | (2,a,b)=>a.z x<b.z x
 | (3,a,b)=>a.z x=b.z x
 | _=>True
noncomputable def Cn.F:Cn→Bool→Fc
 | .l a e,y=>bif y then (1, .c a, .c e) else (2, .c e, .c a)
 | .t a e,y=>bif y then (2, .c a, .c e) else (1, .c e, .c a)
 | .q a e,y=>bif y then (3, .c a, .c e) else (match e with | .k 0=>(2, .k 0, .c a) | _=>(0,a,a))
 | .L a e,y=>bif y then (1,a,e) else (2,e,a)
 | .T a e,y=>bif y then (2,a,e) else (1,e,a)
 | .Q a e,y=>bif y then (3,a,e) else (0,a,a)
 | .n c,y=>c.F !y
 | _,_=>(0, .k 0, .k 0)
noncomputable abbrev Cn.H (x:Cx) (c:Cn) (y:Bool):Prop:=bif y then c.D x else ¬c.D x
theorem Cn.F_d (x:Cx):∀(c:Cn) (y:Bool),c.H x y→FD x (c.F y)
 | .l a e,y,h=>by cases y;exact Int.ofNat_lt.mpr (Nat.not_le.mp h);exact Int.ofNat_le.mpr h
 | .t a e,y,h=>by cases y;exact Int.ofNat_le.mpr (Nat.not_lt.mp h);exact Int.ofNat_lt.mpr h
 | .q a (.k 0),false,h=>Int.ofNat_lt.mpr (Nat.pos_of_ne_zero h)
 | .q a (.k (_+1)),false,h | .q a (.v _),false,h | .q a (.a _ _),false,h | .q a (.s _ _),false,h | .q a (.g _),false,h | .q a (.m _ _),false,h | .q a (.r _ _),false,h | .q a (.c _),false,h | .q a (.u _),false,h=>trivial
 | .q a e,true,h=>congrArg Int.ofNat h
 | .L a e,y,h=>by cases y;exact Int.not_le.mp h;exact h
 | .T a e,y,h=>by cases y;exact Int.not_lt.mp h;exact h
 | .Q a e,y,h=>by cases y;exact trivial;exact h
 | .n c,y,h=>Cn.F_d x c (!y) (by cases y;exact Classical.byContradiction h;exact h)
 | .f,y,_ | .b ..,y,_ | .M ..,y,_ | .N ..,y,_=>trivial
noncomputable def Fp (p:Sm) (w:Int):Fc→Sm
 | (1,a,b)=>bif Int.ble' 0 w then a.pz (b.pz p w) (-w) else p
 | (2,a,b)=>bif Int.ble' 0 w then a.pz (b.pz (-w+p.1,p.2) w) (-w) else p
 | (3,a,b)=>a.pz (b.pz p w) (-w)
 | _=>p
theorem Fp_d (x:Cx) (p:Sm) (w:Int):∀c:Fc,FD x c→Smd x p≤Smd x (Fp p w c):=by
 have key:∀(a b:Tm) (p:Sm),Smd x (a.pz (b.pz p w) (-w))=w*(b.z x-a.z x)+Smd x p:=fun a b p=>by
  rw [Tm.pz_d,Tm.pz_d,Int.mul_sub,Int.neg_mul, ←Int.add_assoc,Int.add_comm (-(w*_)),Int.sub_eq_add_neg]
 intro c h
 match c,h with
 | (1,a,b),h=>
  show _≤Smd x (bif Int.ble' 0 w then _ else _)
  cases e:Int.ble' 0 w with
  | false=>exact Int.le_refl _
  | true=>
   show _≤Smd x (a.pz (b.pz p w) (-w))
   rw [key]
   exact Int.le_add_of_nonneg_left (Int.mul_nonneg (by simpa using e) (Int.sub_nonneg_of_le h))
 | (2,a,b),h=>
  show _≤Smd x (bif Int.ble' 0 w then _ else _)
  cases e:Int.ble' 0 w with
  | false=>exact Int.le_refl _
  | true=>
   show _≤Smd x (a.pz (b.pz (-w+p.1,p.2) w) (-w))
   rw [key,zI, ←Int.add_assoc]
   refine Int.le_add_of_nonneg_left ?_
   rw [←Int.mul_neg_one, ←Int.mul_add]
   exact Int.mul_nonneg (by simpa using e) (by have h:a.z x<b.z x:=h;omega)
 | (3,a,b),h=>
  have h:a.z x=b.z x:=h
  show _≤Smd x (a.pz (b.pz p w) (-w))
  rw [key,h,Int.sub_self,Int.mul_zero,Int.zero_add]
  exact Int.le_refl _
 | (0,_,_),_ | (_+4,_,_),_=>exact Int.le_refl _
noncomputable abbrev Hy:=Cn×Bool
inductive Ct where
 | w (l:List Int)
 | d (i:Nat) (a b:Ct)
 | b (a b:Ct)
noncomputable def sumF:List Hy→List Int→Sm
 | c::cs,w::ws=>Fp (sumF cs ws) w (c.1.F c.2)
 | _,_=>(0,[],[])
theorem aE4 (x:Cx):∀(cs:List Hy) (ws:List Int),(∀c∈cs,c.1.H x c.2)→0≤Smd x (sumF cs ws)
 | [],_,_=>Int.le_refl _
 | _::_,[],_=>Int.le_refl _
 | c::cs,w::ws,h=>Int.le_trans (aE4 x cs ws fun c m=>h c (.tail _ m)) (Fp_d x _ w _ (Cn.F_d x _ _ (h c (.head _))))
noncomputable def neg:List Int→Bool
 | []=>true
 | c::r=>Int.ble' c 0&&neg r
noncomputable def nul:List Int→Bool
 | []=>true
 | c::r=>Int.beq' c 0&&nul r
theorem bC8:∀(l:List Int) (f:Nat→Int),(∀i,0≤f i)→neg l=true→ev f l≤0
 | [],_,_,_=>Int.le_refl _
 | c::r,f,hf,h=>by
  have h:=Bool.and_eq_true_iff.mp h
  exact Int.add_le_add (Int.mul_nonpos_of_nonpos_of_nonneg (by simpa using h.1) (hf 0)) (bC8 r _ (fun i=>hf (i+1)) h.2)
theorem bC6:∀(l:List Int) (f:Nat→Int),nul l=true→ev f l=0
 | [],_,_=>rfl
 | c::r,f,h=>by
  have h:=Bool.and_eq_true_iff.mp h
  have hc:c=0:=by simpa using h.1
  show c*f 0+ev _ r=0
  rw [hc,Int.zero_mul,bC6 r _ h.2];rfl
noncomputable def bad (p:Sm):Bool:=Int.blt' p.1 0&&(neg p.2.1&&nul p.2.2)
theorem bad_d (x:Cx) (p:Sm) (h:bad p=true):Smd x p<0:=by
 have h:=Bool.and_eq_true_iff.mp h
 have h2:=Bool.and_eq_true_iff.mp h.2
 unfold Smd
 rw [bC6 _ _ h2.2,Int.add_zero]
 exact Int.add_lt_add_of_lt_of_le (by simpa using h.1) (bC8 _ _ (fun i=>Int.natCast_nonneg _) h2.1)
noncomputable def wy:Cn→Bool→Option (List Hy×List Hy)
 | .q a e,y=>bif y then none else some ([(.t a e,true)],[(.t e a,true)])
 | .Q a e,y=>bif y then none else some ([(.T a e,true)],[(.T e a,true)])
 | .b i a e,y=>bif y then some ([(.l e a,true),(.q (.a (.v i) e) a,true)],[(.l a e,true),(.q (.v i) (.k 0),true)]) else none
 | .M i a e,y=>bif y then some ([(.l a e,true),(.q (.v i) a,true)],[(.l e a,true),(.q (.v i) e,true)]) else none
 | .N i e,y=>bif y then some ([(.L (.k 0) e,true),(.Q (.c (.v i)) e,true)],[(.L e (.k 0),true),(.q (.v i) (.k 0),true)]) else none
 | .n c,y=>wy c !y
 | _,_=>none
theorem pA {x:Cx}{c:Cn} (h:c.D x):∀d∈[((c,true):Hy)],d.1.H x d.2:=fun d m=>by rw [List.mem_singleton.mp m];exact h
theorem lX {x:Cx}{c d:Cn} (h:c.D x) (k:d.D x):∀e∈[((c,true):Hy),(d,true)],e.1.H x e.2:=fun e m=>by
 cases m with
 | head=>exact h
 | tail _ m=>exact pA k _ m
theorem wy_d {x:Cx}{p:List Hy×List Hy}:∀(c:Cn) (y:Bool),wy c y=some p→c.H x y→(∀c∈p.1,c.1.H x c.2)∨(∀c∈p.2,c.1.H x c.2)
 | .q a e,false,k,h=>by cases k;exact (Nat.lt_or_gt_of_ne h).imp pA pA
 | .Q a e,false,k,h=>by cases k;exact (Int.lt_or_gt_of_ne h).imp pA pA
 | .b i a e,true,k,h=>by
  cases k
  have h:x.N i=a.n x-e.n x:=h
  exact (Nat.le_total (e.n x) (a.n x)).imp (fun k=>lX k (show x.N i+e.n x=a.n x by rw [h,Nat.sub_add_cancel k])) fun k=>lX k (show x.N i=0 by rw [h,Nat.sub_eq_zero_of_le k])
 | .M i a e,true,k,h=>by
  cases k
  have h:x.N i=min (a.n x) (e.n x):=h
  exact (Nat.le_total (a.n x) (e.n x)).imp (fun k=>lX k (h.trans (Nat.min_eq_left k))) fun k=>lX k (h.trans (Nat.min_eq_right k))
 | .N i e,true,k,h=>by
  cases k
  have h:x.N i=(e.z x).toNat:=h
  exact (Int.le_total 0 (e.z x)).imp (fun k=>lX k (show ((x.N i:Nat):Int)=e.z x by rw [h,Int.toNat_of_nonneg k])) fun k=>lX k (h.trans (Int.toNat_of_nonpos k))
 | .n c,y,k,h=>wy_d c (!y) k (by cases y;exact Classical.byContradiction h;exact h)
noncomputable def chk (hs:List Hy):Ct→Bool
 | .w l=>bad (sumF hs l)
 | .d i a b=>(match hs[i]? with
  | some c=>(match wy c.1 c.2 with
   | some p=>chk (p.1++hs) a&&chk (p.2++hs) b
   | none=>false)
  | none=>false)
 | .b _ _=>false
theorem zD {p:Hy→Prop}{l m:List Hy} (h:∀c∈l,p c) (k:∀c∈m,p c):∀c∈l++m,p c:=fun c e=>(List.mem_append.mp e).elim (h c) (k c)
theorem aE {p:Hy→Prop}{c:Hy}{l:List Hy} (h:p c) (k:∀c∈l,p c):∀b∈c::l,p b:=fun b m=>by
 cases m with
 | head=>exact h
 | tail _ m=>exact k b m
theorem kD (x:Cx):∀(t:Ct) (hs:List Hy),chk hs t=true→(∀c∈hs,c.1.H x c.2)→False
 | .w l,hs,e,h=>Int.not_lt.mpr (aE4 x hs l h) (bad_d x _ e)
 | .d i a b,hs,e,h=>by
  have e':(match hs[i]? with
  | some c=>(match wy c.1 c.2 with
   | some p=>chk (p.1++hs) a&&chk (p.2++hs) b
   | none=>false)
  | none=>false)=true:=e
  cases m:hs[i]? with
  | none=>rw [m] at e';cases e'
  | some c=>
   rw [m] at e'
   dsimp only at e'
   cases k:wy c.1 c.2 with
   | none=>rw [k] at e';cases e'
   | some p=>
    rw [k] at e'
    have e':=Bool.and_eq_true_iff.mp e'
    exact (wy_d _ _ k (h c (List.mem_of_getElem? m))).elim (fun q=>kD x a _ e'.1 (zD q h)) fun q=>kD x b _ e'.2 (zD q h)
noncomputable def gch (hs:List Hy) (g:Cn):Ct→Bool
 | .b t1 t2=>(match g with
  | .q a b=>chk ((.t a b,true)::hs) t1&&chk ((.t b a,true)::hs) t2
  | .Q a b=>chk ((.T a b,true)::hs) t1&&chk ((.T b a,true)::hs) t2
  | _=>false)
 | t=>chk ((g,false)::hs) t
theorem eN {x:Cx}{hs:List Hy} (h:∀c∈hs,c.1.H x c.2) {g:Cn}{t:Ct} (e:gch hs g t=true):g.D x:=by
 have one:∀t,chk ((g,false)::hs) t=true→g.D x:=fun t e=>Classical.byContradiction fun n=>kD x t _ e (aE n h)
 induction t with
 | w l=>exact one _ e
 | d i a b=>exact one _ e
 | b t1 t2=>
  induction g with
  | q a b=>
   have e:=Bool.and_eq_true_iff.mp e
   exact Nat.le_antisymm (Nat.not_lt.mp fun n=>kD x _ _ e.2 (aE n h)) (Nat.not_lt.mp fun n=>kD x _ _ e.1 (aE n h))
  | Q a b=>
   have e:=Bool.and_eq_true_iff.mp e
   exact Int.le_antisymm (Int.not_lt.mp fun n=>kD x _ _ e.2 (aE n h)) (Int.not_lt.mp fun n=>kD x _ _ e.1 (aE n h))
  | _=>cases e
theorem nI {p:Hy→Prop}:∀c∈([]:List Hy),p c:=fun z_ m=>by cases m
theorem _root_._M.lin0 (g:Cn) (t:Ct) (e:gch [] g t=true) (x:Cx):g.D x:=eN nI e
theorem _root_._M.lin1 (g c1:Cn) (t:Ct) (e:gch [(c1,true)] g t=true) (x:Cx) (h1:c1.D x):g.D x:=eN (aE (c:=(c1,true)) h1 nI) e
theorem _root_._M.lin2 (g c1 c2:Cn) (t:Ct) (e:gch [(c1,true),(c2,true)] g t=true) (x:Cx) (h1:c1.D x) (h2:c2.D x):g.D x:=eN (aE (c:=(c1,true)) h1 (aE (c:=(c2,true)) h2 nI)) e
theorem _root_._M.lin3 (g c1 c2 c3:Cn) (t:Ct) (e:gch [(c1,true),(c2,true),(c3,true)] g t=true) (x:Cx) (h1:c1.D x) (h2:c2.D x) (h3:c3.D x):g.D x:=eN (aE (c:=(c1,true)) h1 (aE (c:=(c2,true)) h2 (aE (c:=(c3,true)) h3 nI))) e
theorem _root_._M.lin4 (g c1 c2 c3 c4:Cn) (t:Ct) (e:gch [(c1,true),(c2,true),(c3,true),(c4,true)] g t=true) (x:Cx) (h1:c1.D x) (h2:c2.D x) (h3:c3.D x) (h4:c4.D x):g.D x:=eN (aE (c:=(c1,true)) h1 (aE (c:=(c2,true)) h2 (aE (c:=(c3,true)) h3 (aE (c:=(c4,true)) h4 nI)))) e
theorem _root_._M.lin5 (g c1 c2 c3 c4 c5:Cn) (t:Ct) (e:gch [(c1,true),(c2,true),(c3,true),(c4,true),(c5,true)] g t=true) (x:Cx) (h1:c1.D x) (h2:c2.D x) (h3:c3.D x) (h4:c4.D x) (h5:c5.D x):g.D x:=eN (aE (c:=(c1,true)) h1 (aE (c:=(c2,true)) h2 (aE (c:=(c3,true)) h3 (aE (c:=(c4,true)) h4 (aE (c:=(c5,true)) h5 nI))))) e
theorem _root_._M.lin6 (g c1 c2 c3 c4 c5 c6:Cn) (t:Ct) (e:gch [(c1,true),(c2,true),(c3,true),(c4,true),(c5,true),(c6,true)] g t=true) (x:Cx) (h1:c1.D x) (h2:c2.D x) (h3:c3.D x) (h4:c4.D x) (h5:c5.D x) (h6:c6.D x):g.D x:=eN (aE (c:=(c1,true)) h1 (aE (c:=(c2,true)) h2 (aE (c:=(c3,true)) h3 (aE (c:=(c4,true)) h4 (aE (c:=(c5,true)) h5 (aE (c:=(c6,true)) h6 nI)))))) e
theorem _root_._M.lin7 (g c1 c2 c3 c4 c5 c6 c7:Cn) (t:Ct) (e:gch [(c1,true),(c2,true),(c3,true),(c4,true),(c5,true),(c6,true),(c7,true)] g t=true) (x:Cx) (h1:c1.D x) (h2:c2.D x) (h3:c3.D x) (h4:c4.D x) (h5:c5.D x) (h6:c6.D x) (h7:c7.D x):g.D x:=eN (aE (c:=(c1,true)) h1 (aE (c:=(c2,true)) h2 (aE (c:=(c3,true)) h3 (aE (c:=(c4,true)) h4 (aE (c:=(c5,true)) h5 (aE (c:=(c6,true)) h6 (aE (c:=(c7,true)) h7 nI))))))) e
theorem _root_._M.lin8 (g c1 c2 c3 c4 c5 c6 c7 c8:Cn) (t:Ct) (e:gch [(c1,true),(c2,true),(c3,true),(c4,true),(c5,true),(c6,true),(c7,true),(c8,true)] g t=true) (x:Cx) (h1:c1.D x) (h2:c2.D x) (h3:c3.D x) (h4:c4.D x) (h5:c5.D x) (h6:c6.D x) (h7:c7.D x) (h8:c8.D x):g.D x:=eN (aE (c:=(c1,true)) h1 (aE (c:=(c2,true)) h2 (aE (c:=(c3,true)) h3 (aE (c:=(c4,true)) h4 (aE (c:=(c5,true)) h5 (aE (c:=(c6,true)) h6 (aE (c:=(c7,true)) h7 (aE (c:=(c8,true)) h8 nI)))))))) e
theorem _root_._M.lin9 (g c1 c2 c3 c4 c5 c6 c7 c8 c9:Cn) (t:Ct) (e:gch [(c1,true),(c2,true),(c3,true),(c4,true),(c5,true),(c6,true),(c7,true),(c8,true),(c9,true)] g t=true) (x:Cx) (h1:c1.D x) (h2:c2.D x) (h3:c3.D x) (h4:c4.D x) (h5:c5.D x) (h6:c6.D x) (h7:c7.D x) (h8:c8.D x) (h9:c9.D x):g.D x:=eN (aE (c:=(c1,true)) h1 (aE (c:=(c2,true)) h2 (aE (c:=(c3,true)) h3 (aE (c:=(c4,true)) h4 (aE (c:=(c5,true)) h5 (aE (c:=(c6,true)) h6 (aE (c:=(c7,true)) h7 (aE (c:=(c8,true)) h8 (aE (c:=(c9,true)) h9 nI))))))))) e
theorem _root_._M.lin10 (g c1 c2 c3 c4 c5 c6 c7 c8 c9 c10:Cn) (t:Ct) (e:gch [(c1,true),(c2,true),(c3,true),(c4,true),(c5,true),(c6,true),(c7,true),(c8,true),(c9,true),(c10,true)] g t=true) (x:Cx) (h1:c1.D x) (h2:c2.D x) (h3:c3.D x) (h4:c4.D x) (h5:c5.D x) (h6:c6.D x) (h7:c7.D x) (h8:c8.D x) (h9:c9.D x) (h10:c10.D x):g.D x:=eN (aE (c:=(c1,true)) h1 (aE (c:=(c2,true)) h2 (aE (c:=(c3,true)) h3 (aE (c:=(c4,true)) h4 (aE (c:=(c5,true)) h5 (aE (c:=(c6,true)) h6 (aE (c:=(c7,true)) h7 (aE (c:=(c8,true)) h8 (aE (c:=(c9,true)) h9 (aE (c:=(c10,true)) h10 nI)))))))))) e
theorem _root_._M.lin11 (g c1 c2 c3 c4 c5 c6 c7 c8 c9 c10 c11:Cn) (t:Ct) (e:gch [(c1,true),(c2,true),(c3,true),(c4,true),(c5,true),(c6,true),(c7,true),(c8,true),(c9,true),(c10,true),(c11,true)] g t=true) (x:Cx) (h1:c1.D x) (h2:c2.D x) (h3:c3.D x) (h4:c4.D x) (h5:c5.D x) (h6:c6.D x) (h7:c7.D x) (h8:c8.D x) (h9:c9.D x) (h10:c10.D x) (h11:c11.D x):g.D x:=eN (aE (c:=(c1,true)) h1 (aE (c:=(c2,true)) h2 (aE (c:=(c3,true)) h3 (aE (c:=(c4,true)) h4 (aE (c:=(c5,true)) h5 (aE (c:=(c6,true)) h6 (aE (c:=(c7,true)) h7 (aE (c:=(c8,true)) h8 (aE (c:=(c9,true)) h9 (aE (c:=(c10,true)) h10 (aE (c:=(c11,true)) h11 nI))))))))))) e
theorem _root_._M.cps {P:Prop} (h:∀C:Prop,(P→C)→C):P:=h P id
end _M.Ln
namespace _M
def Q0:=lin1 (.l .v0 (.k 1048576)) (.l .v0 (.k 60000)) (.w [1,1]) rfl
def Q1:=lin1 .f (.t .v0 .k0) (.w [0,1]) rfl
def Q2:=lin0 (.l .k0 .v0) (.w [1]) rfl
def Q3:=lin1 (.l .v0 .v1) (.l (.a .v0 .k1) .v1) (.w [1,1]) rfl
def Q4:=lin1 (.l .v0 (.a .v1 .k1)) (.l (.a .v0 .k1) (.a .v1 .k1)) (.w [1,1]) rfl
def Q5:=lin3 (.t (.a .v0 .v3) (.k 90000)) (.t (.a .v0 .v4) (.k 90000)) (.b 3 .v1 (.a .v2 .k1)) (.b 4 .v1 .v2) (.d 2 (.d 5 (.w [0, -1,0,1,1,1]) (.w [1,0,1])) (.w [0,1,1,1])) rfl
def Q6:=lin2 (.t (.a (.a .v0 .k1) (.m 2 .v1)) (.k 900)) (.t .v1 .v2) (.t (.a .v0 (.m 2 .v2)) (.k 900)) (.w [1,2,1]) rfl
def Q7:=lin2 (.t (.a (.a .v0 (.k 3)) (.m 20 .v1)) (.k 9000)) (.t .v1 .v2) (.t (.a .v0 (.m 20 .v2)) (.k 9000)) (.w [1,20,1]) rfl
def Q8:=lin1 (.l .v0 .v1) (.n (.t .v1 .v0)) (.w [1,1]) rfl
def Q9:=lin0 (.L .k0 (.c .v0)) (.w [1]) rfl
def Q10:=lin1 (.L (.c .v0) (.c .v1)) (.l .v0 .v1) (.w [1,1]) rfl
def Q11:=lin1 (.t .v0 .v1) (.t .v0 .v1) (.w [1,1]) rfl
def Q12:=lin1 (.T (.c .v0) (.k 9223372036854775808)) (.l .v0 (.k 1048576)) (.w [1,1]) rfl
def Q13:=lin2 (.q .v2 .v3) (.b 3 .v0 .v1) (.N 2 (.s (.c .v0) (.c .v1))) (.b (.d 1 (.d 4 (.w [0, -1,0,1,1]) (.w [1, -1,0,1,1])) (.w [0,1,1])) (.d 2 (.d 3 (.w [0, -1,0,1,1]) (.w [1, -1,0,1,1])) (.w [0,1,1]))) rfl
def Q14:=lin0 (.n (.t .v0 .k0)) (.w [1]) rfl
def Q15:=lin1 (.q (.a (.a .v0 .k1) .v1) .v2) (.q (.a .v0 (.a .v1 .k1)) .v2) (.b (.w [1, -1]) (.w [1,1])) rfl
def Q16:=lin1 (.t (.a .v0 .k1) (.k 16000000)) (.t .v0 (.k 100)) (.w [1,1]) rfl
def Q17:=lin1 (.t .v0 (.k 16000000)) (.t (.a (.a .v0 (.m 3 (.a .v1 .k1))) (.k 10)) (.k 16000000)) (.w [1,1]) rfl
def Q18:=lin1 (.n (.q .v0 (.k 10))) (.n (.t .v0 (.k 256))) (.w [1,1]) rfl
def Q19:=lin1 (.n (.q .v0 (.k 92))) (.n (.t .v0 (.k 256))) (.w [1,1]) rfl
def Q20:=lin1 (.t (.a .v0 .k1) (.k 16000000)) (.t (.a (.a .v0 (.m 3 (.a .v1 .k1))) (.k 10)) (.k 16000000)) (.w [1,1]) rfl
def Q21:=lin1 (.l .v0 (.a .v1 .k1)) (.l .v0 .v1) (.w [1,1]) rfl
def Q22:=lin0 (.Q (.s (.c (.a .v0 .k1)) .k1) (.c .v0)) (.b (.w [1]) (.w [1])) rfl
def Q23:=lin0 (.l .v0 (.a .v0 .k1)) (.w [1]) rfl
def Q24:=lin4 (.t (.m 2 .v3) .v2) (.t (.m 2 .v4) (.a .v2 .k1)) (.t .v1 .v0) (.b 3 .v0 (.a .v1 .k1)) (.b 4 .v0 .v1) (.d 3 (.d 6 (.w [0, -2,0,2,1,1]) (.w [1,0,1])) (.d 6 (.w [0, -2,0,2,1,1,2]) (.w [1,0,0,0,0,0,1]))) rfl
def Q25:=lin1 (.l .v0 (.k 4000000)) (.l .v0 (.k 60000)) (.w [1,1]) rfl
def Q26:=lin1 (.t .v0 (.k 300000)) (.l (.a .v0 (.m 2 .v1)) (.k 200000)) (.w [1,1]) rfl
def Q27:=lin2 (.l (.a .v0 .k1) .v1) (.l .v0 .v1) (.n (.q .v1 .v0)) (.d 2 (.w [1,0,1]) (.w [1,1])) rfl
def Q28:=lin0 (.t .v0 (.a .v0 .k1)) (.w [1]) rfl
def Q29:=lin1 (.t .v0 (.a .v1 .k1)) (.t .v0 .v1) (.w [1,1]) rfl
def Q30:=lin2 (.q .v0 .v1) (.q .v2 .v1) (.q .v2 .v0) (.b (.w [1, -1,1]) (.w [1,1, -1])) rfl
def Q31:=lin2 (.t .v0 .v1) (.t .v0 .v3) (.M 3 .v1 .v2) (.d 2 (.w [0,1,1,1]) (.w [1,1,1,1])) rfl
def Q32:=lin2 (.l .v0 .v1) (.t .v2 .v1) (.b 2 .v0 .k1) (.d 2 (.w [0, -1,1,1]) (.w [1, -1,1,1])) rfl
def Q33:=lin1 (.T .k0 (.c .v0)) (.t .k0 .v0) (.w [1,1]) rfl
def Q34:=lin0 (.q (.a (.a .v0 .k1) .v1) (.a .v0 (.a .v1 .k1))) (.b (.w [1]) (.w [1])) rfl
def Q35:=lin1 (.q .v0 .v1) (.q .v1 .v0) (.b (.w [1,1]) (.w [1, -1])) rfl
def Q36:=lin1 (.t .v0 (.k 16000000)) (.t .v0 (.k 100)) (.w [1,1]) rfl
def Q37:=lin1 (.t (.a .v0 (.k 5)) (.k 16000000)) (.t (.a (.a .v0 (.m 3 (.a .v1 .k1))) (.k 10)) (.k 16000000)) (.w [1,1]) rfl
def Q38:=lin2 (.l .v0 (.k 4000000)) (.l .v1 (.k 4000000)) (.q (.a .v2 .v0) .v1) (.w [1,1,1]) rfl
def Q39:=lin0 (.l .v0 .v0) (.w [1]) rfl
def Q40:=lin1 (.T (.c .v0) (.c .v1)) (.t .v0 .v1) (.w [1,1]) rfl
def Q41:=lin1 (.n (.Q (.c .v0) .k0)) (.n (.q .v0 .k0)) (.w [1,1]) rfl
def Q42:=lin1 (.l .v0 .v1) (.t .v0 .v1) (.w [1,1]) rfl
def Q43:=lin1 (.t .k0 .v0) (.n (.q .v0 .k0)) (.w [1,1]) rfl
def Q44:=lin4 (.t .v3 .v2) (.t .v4 (.a .v2 .k1)) (.t .v1 .v0) (.b 3 .v0 (.a .v1 .k1)) (.b 4 .v0 .v1) (.d 3 (.d 6 (.w [0, -1,0,1,1,1]) (.w [1,0,1])) (.d 6 (.w [0, -1,0,1,1,1,1]) (.w [1,0,0,0,0,0,1]))) rfl
def Q45:=lin1 (.t .v0 .v1) (.q .v1 (.a .v0 .k1)) (.w [1, -1]) rfl
def Q46:=lin2 (.t .v0 .v1) (.t .v0 .v2) (.q .v1 .v2) (.w [1,1, -1]) rfl
def Q47:=lin2 (.Q (.s (.c .v0) .k1) (.c .v2)) (.t .v1 .v0) (.b 2 .v0 .k1) (.b (.d 2 (.w [0,1,1]) (.w [0,1,1,1])) (.d 2 (.w [0, -1,1]) (.w [1, -1,1]))) rfl
def Q48:=lin0 (.n (.Q (.c (.a .v0 .k1)) .k0)) (.w [1]) rfl
def Q49:=lin1 (.t (.a .v0 .k1) .v1) (.q .v1 (.a .v0 (.k 3))) (.w [1, -1]) rfl
def Q50:=lin0 (.n (.q (.a .v0 .k1) .k0)) (.w [1]) rfl
def Q51:=lin2 (.l (.a (.a .v0 .v1) .v2) (.k 60000)) (.l .v0 (.k 3)) (.l (.a .v1 (.a .v2 (.a .v3 .v4))) (.k 40)) (.w [1,1,1]) rfl
def Q52:=lin1 (.l .v0 (.k 60000)) (.l .v0 (.k 43)) (.w [1,1]) rfl
def Q53:=lin1 (.t .v0 (.a (.a .v1 .k1) .v2)) (.t .v0 (.a .v1 (.a .v2 .k1))) (.w [1,1]) rfl
def Q54:=lin1 (.l .v0 .v1) (.l .v0 .v1) (.w [1,1]) rfl
def Q55:=lin2 (.t .v0 .v1) (.t .v0 (.a .v1 .k1)) (.n (.q .v0 .v1)) (.d 2 (.w [1,1]) (.w [1,0,1])) rfl
def Q56:=lin2 (.t .v0 (.a .k0 .v2)) (.t .v0 .v1) (.b 2 (.a .v1 .k1) .k0) (.d 2 (.w [0, -1,1,1]) (.w [1, -1,1,1])) rfl
def Q57:=lin1 (.t .v0 (.k 1000)) (.t (.a (.a .v0 .k1) (.m 2 .v1)) (.k 900)) (.w [1,1]) rfl
def Q58:=lin1 (.l .v0 .v1) (.q .v0 .k0) (.w [1,1]) rfl
def Q59:=lin2 (.t .v1 .v0) (.n (.q .v0 .k0)) (.b 1 .v0 .k1) (.d 2 (.w [0,1,1]) (.w [0,1,1,1])) rfl
def Q60:=lin2 (.t .v0 .v1) (.t .v0 .v2) (.q .v2 .v1) (.w [1,1,1]) rfl
def Q61:=lin3 .f (.n (.t .v0 .v1)) (.t .v2 .v1) (.q .v2 .v0) (.w [0,1,1, -1]) rfl
def Q62:=lin1 (.t .v0 (.k 30)) (.t .v0 (.k 29)) (.w [1,1]) rfl
def Q63:=lin0 (.n (.T (.c .v0) .k0)) (.w [1]) rfl
def Q64:=lin0 (.l .k1 (.k 2)) (.w [1]) rfl
def Q65:=lin0 (.T (.a (.g .k1) .k1) .k1) (.w [1]) rfl
def Q66:=lin1 (.n (.T (.a .v0 .k1) (.c .k0))) (.L (.g .k1) .v0) (.w [1,1]) rfl
def Q67:=lin0 (.q (.a .k1 (.a .v0 .v1)) (.a (.a .v0 .k1) .v1)) (.b (.w [1]) (.w [1])) rfl
def Q68:=lin1 (.t .v0 (.k 16000000)) (.t (.a .v0 (.k 5)) (.k 16000000)) (.w [1,1]) rfl
def Q69:=lin1 (.t (.a .v0 .k1) (.k 16000000)) (.t (.a .v0 (.k 5)) (.k 16000000)) (.w [1,1]) rfl
def Q70:=lin1 (.t .v0 (.k 16000000)) (.t (.a (.a .v0 (.m 3 .v1)) (.k 10)) (.k 16000000)) (.w [1,1]) rfl
def Q71:=lin1 (.t (.a .v0 (.k 5)) (.k 16000000)) (.t (.a (.a .v0 (.m 3 .v1)) (.k 10)) (.k 16000000)) (.w [1,1]) rfl
def Q72:=lin1 (.t .v0 (.k 16000000)) (.t (.a (.a .v0 (.m 3 (.a (.a .v1 .k1) .k1))) (.k 10)) (.k 16000000)) (.w [1,1]) rfl
def Q73:=lin1 (.t (.a .v0 .k1) (.k 16000000)) (.t (.a (.a .v0 (.m 3 (.a (.a .v1 .k1) .k1))) (.k 10)) (.k 16000000)) (.w [1,1]) rfl
def Q74:=lin0 (.q (.a .v0 (.a (.k 2) (.a .v1 .v2))) (.a (.a (.a (.a .v0 .k1) .k1) .v1) .v2)) (.b (.w [1]) (.w [1])) rfl
def Q75:=lin2 (.l .v0 .v1) (.l (.a (.a .v2 .k1) .k1) (.a .v1 .k1)) (.q (.a .v3 .v0) .v2) (.w [1,1,1]) rfl
def Q76:=lin0 (.t .v0 (.a (.a (.a .v0 .k1) .k1) .v1)) (.w [1]) rfl
def Q77:=lin0 (.q (.a .v0 (.a .k1 (.a .v1 .v2))) (.a (.a (.a .v0 .k1) .v1) .v2)) (.b (.w [1]) (.w [1])) rfl
def Q78:=lin1 (.n (.q .v0 (.k 34))) (.n (.t .v0 (.k 256))) (.w [1,1]) rfl
def Q79:=lin1 (.n (.q .v0 (.k 39))) (.n (.t .v0 (.k 256))) (.w [1,1]) rfl
def Q80:=lin1 (.t (.a (.a .v0 .k1) .k1) (.k 16000000)) (.t (.a .v0 (.k 5)) (.k 16000000)) (.w [1,1]) rfl
def Q81:=lin0 (.l (.a .v0 (.k 8)) (.a .v0 (.k 11))) (.w [1]) rfl
def Q82:=lin0 (.l (.a .v0 (.k 8)) (.a .v0 (.k 10))) (.w [1]) rfl
def Q83:=lin0 (.l (.a .v0 (.k 8)) (.a .v0 (.k 9))) (.w [1]) rfl
def Q84:=lin1 (.t (.a .v0 .k1) (.k 16000000)) (.t (.a (.a .v0 (.m 3 .v1)) (.k 10)) (.k 16000000)) (.w [1,1]) rfl
def Q85:=lin1 (.t (.a .v0 .k1) (.k 16000000)) (.t (.a (.a .v0 (.m 3 (.a (.a (.a .v1 .k1) .k1) .k1))) (.k 10)) (.k 16000000)) (.w [1,1]) rfl
def Q86:=lin1 (.t (.a (.a .v0 .k1) .k1) (.k 16000000)) (.t (.a (.a .v0 (.m 3 (.a .v1 .k1))) (.k 10)) (.k 16000000)) (.w [1,1]) rfl
def Q87:=lin0 (.l (.a (.a (.a (.a (.m 16 .v0) (.a .v1 (.k 3))) (.k 30)) (.k 2)) .k1) (.a (.a (.m 16 .v0) (.a .v1 (.k 3))) (.k 36))) (.w [1]) rfl
def Q88:=lin0 (.l (.a (.a (.a (.a (.m 16 .v0) (.a .v1 (.k 3))) (.k 30)) (.k 2)) .k1) (.a (.a (.m 16 .v0) (.a .v1 (.k 3))) (.k 35))) (.w [1]) rfl
def Q89:=lin0 (.l (.a .v0 .k1) (.a .v0 (.k 3))) (.w [1]) rfl
def Q90:=lin0 (.l (.a .v0 .k1) (.a .v0 (.k 2))) (.w [1]) rfl
def Q91:=lin0 (.l (.a (.a (.m 7 .v0) (.a .k0 .k1)) (.k 30)) (.a (.m 16 .v0) (.k 60))) (.w [1]) rfl
def Q92:=lin2 (.l .v0 (.m 4 (.k 18446744073709551616))) (.l .v1 (.k 1152921504606846976)) (.l .v0 .v1) (.w [1,1,1]) rfl
def Q93:=lin3 (.l .v2 (.k 4000000)) (.L .v0 (.c .v1)) (.l .v1 (.k 4000000)) (.N 2 .v0) (.d 3 (.w [0,1,1,1,1]) (.w [0,1,1])) rfl
def Q94:=lin2 (.q .v1 .v0) (.l .v0 (.k 4000000)) (.M 1 (.k 9223372036854775807) .v0) (.b (.d 2 (.w [0, -1,1,1]) (.w [0, -1,1])) (.d 2 (.w [1,1,1]) (.w [0,1,1]))) rfl
def Q95:=lin3 (.q .v3 .v2) (.L .v0 (.c .v1)) (.N 2 .v0) (.M 3 .v2 .v1) (.b (.d 2 (.d 5 (.w [0, -1,0,0,1]) (.w [0, -1,0,1,1,1])) (.w [0,1,1])) (.d 3 (.w [0,1,1]) (.w [1,1,1]))) rfl
def Q96:=lin1 (.L (.g (.k 9223372036854775808)) .v0) (.L .k0 .v0) (.w [1,1]) rfl
def Q97:=lin2 (.T .v0 (.k 9223372036854775808)) (.L .v0 (.c .v1)) (.l .v1 (.k 4000000)) (.w [1,1,1]) rfl
def Q98:=lin1 (.L (.g (.k 4611686018427387904)) .v0) (.L (.g (.k 1000000000)) .v0) (.w [1,1]) rfl
def Q99:=lin1 (.T .v0 (.k 4611686018427387904)) (.L .v0 (.k 1000000000)) (.w [1,1]) rfl
def Q100:=lin1 (.l .v0 (.k 4294967295)) (.l .v0 (.k 4000000)) (.w [1,1]) rfl
def Q101:=lin2 (.q .v0 (.a .v1 .k1)) (.t .k0 .v0) (.b 1 .v0 .k1) (.b (.d 2 (.w [0,1,1]) (.w [0,1,1,1])) (.d 2 (.w [0, -1,1]) (.w [1, -1,1]))) rfl
def Q102:=lin1 (.q (.a (.a .v0 .k1) .v1) (.a .v2 .k1)) (.q (.a .v0 (.a .v1 .k1)) (.a .v2 .k1)) (.b (.w [1, -1]) (.w [1,1])) rfl
def Q103:=lin2 (.q .v2 .k0) (.l .v0 .v1) (.b 2 .v0 .v1) (.b (.w [1]) (.d 2 (.w [0,1,1,1]) (.w [0,1,1]))) rfl
def Q104:=lin3 (.l .v3 .v4) (.l .v0 .v2) (.b 3 .v0 .v1) (.b 4 .v2 .v1) (.d 2 (.d 5 (.w [0, -1,0,1,1,1]) (.w [1, -1,0,1,1,1])) (.w [0,1,1])) rfl
def Q105:=lin1 (.q .v0 .k0) (.l .v0 .k0) (.b (.w [1]) (.w [1,1])) rfl
def Q106:=lin2 (.Q (.s (.c .v0) .k1) (.c .v1)) (.n (.q .v0 .k0)) (.b 1 .v0 .k1) (.b (.d 2 (.w [0,1,1]) (.w [0,1,1,1])) (.d 2 (.w [0, -1,1]) (.w [1, -1,1]))) rfl
def Q107:=lin1 (.n (.T (.c .v0) (.c .v1))) (.n (.t .v0 .v1)) (.w [1,1]) rfl
def Q108:=lin0 (.n (.t .k0 .k0)) (.w [1]) rfl
def Q109:=lin1 (.n (.l (.a .v0 .k1) .k1)) (.n (.q .v0 .k0)) (.w [1,1]) rfl
def Q110:=lin3 (.t (.a .v0 .v3) (.k 90000)) (.t (.a .v0 .v4) (.k 90000)) (.b 3 .v1 (.a .v2 (.k 2))) (.b 4 .v1 .v2) (.d 2 (.d 5 (.w [0, -1,0,1,1,1]) (.w [1,0,1])) (.w [0,1,1,1])) rfl
def Q111:=lin1 (.l .v0 (.a .v1 .k1)) (.n (.t (.a .v1 .k1) .v0)) (.w [1,1]) rfl
def Q112:=lin1 (.l .v0 (.a (.a .v1 .k1) .k1)) (.l .v0 (.a .v1 .k1)) (.w [1,1]) rfl
def Q113:=lin1 (.l .v0 (.k 65536)) (.l .v0 (.k 60000)) (.w [1,1]) rfl
def Q114:=lin2 (.n (.q .v0 .v1)) (.t .v0 .v2) (.q .v1 .v2) (.w [-1,1, -1]) rfl
def Q115:=lin1 (.L .k0 (.a (.g .k1) (.c .v0))) (.t .k0 .v0) (.w [1,1]) rfl
def Q116:=lin0 (.T (.a (.g .k1) (.c .v0)) (.c .v0)) (.w [1]) rfl
def Q117:=lin2 (.q .v1 .v2) (.b 2 .v0 .k1) (.N 1 (.a (.g .k1) (.c .v0))) (.b (.d 1 (.d 4 (.w [0, -1,0,1,1]) (.w [1, -1,0,1,1])) (.w [0,1,1])) (.d 2 (.d 3 (.w [0, -1,0,1,1]) (.w [1, -1,0,1,1])) (.w [0,1,1]))) rfl
def Q118:=lin1 (.t .v0 (.k 1048576)) (.t .v0 (.k 300000)) (.w [1,1]) rfl
def Q119:=lin1 (.T (.s (.c .v0) .k1) (.c .v1)) (.l .v0 .v1) (.w [1,1]) rfl
def Q120:=lin4 (.l (.a (.a .v0 .k1) (.m 2 .v3)) (.k 200000)) (.t .v2 .v1) (.l (.a .v0 (.m 2 .v4)) (.k 200000)) (.b 3 .v1 (.a .v2 .k1)) (.b 4 .v1 .v2) (.d 3 (.d 6 (.w [0, -2,0,2,1,0,1]) (.w [1,0,1])) (.d 6 (.w [0, -2,0,2,1,2,1]) (.w [1,0,0,0,0,1]))) rfl
def Q121:=lin0 (.L .k0 (.a (.g .k1) (.a (.c .v0) .k1))) (.w [1]) rfl
def Q122:=lin0 (.T (.a (.g .k1) (.a (.c .v0) .k1)) (.a (.c .v0) .k1)) (.w [1]) rfl
def Q123:=lin1 (.q .v1 .v0) (.N 1 (.a (.g .k1) (.a (.c .v0) .k1))) (.b (.d 1 (.w [0, -1,1]) (.w [1, -1,1])) (.d 1 (.w [0,1,1]) (.w [0,1,1]))) rfl
def Q124:=lin1 (.l (.a (.k 2) .v0) (.a (.a .v1 .k1) .k1)) (.l .v0 .v1) (.w [1,1]) rfl
def Q125:=lin1 (.l (.a .k1 .v0) (.a .v1 .k1)) (.l .v0 .v1) (.w [1,1]) rfl
def Q126:=lin1 (.L (.c .v0) (.c .v1)) (.t .v0 .v1) (.w [1,1]) rfl
def Q127:=lin3 (.q .v2 .v3) (.t .v1 .v0) (.b 3 .v0 .v1) (.N 2 (.s (.c .v0) (.c .v1))) (.b (.d 2 (.d 5 (.w [0, -1,0,1,1]) (.w [1, -1,0,1,1])) (.w [1,0,0,1])) (.d 3 (.d 4 (.w [0, -1,0,1,1]) (.w [1, -1,0,1,1])) (.w [1,0,0,1]))) rfl
def Q128:=lin2 (.t .v0 (.k 300000)) (.l (.a .v1 (.m 2 .v2)) (.k 200000)) (.q .v0 (.a .v1 .k1)) (.w [1,1,1]) rfl
def Q129:=lin0 (.t .v0 (.a .v0 (.k 2))) (.w [1]) rfl
def Q130:=lin0 (.l .v0 (.a .v0 .v1)) (.w [1]) rfl
def Q131:=lin1 (.l .v0 (.k 100000)) (.l (.a .v0 .v1) (.k 100000)) (.w [1,1]) rfl
def Q132:=lin1 (.l .v0 (.k 200000)) (.l (.a .v0 (.m 2 .v1)) (.k 200000)) (.w [1,1]) rfl
def Q133:=lin2 (.t .v0 .v1) (.t .v0 (.a .v1 .k1)) (.n (.q .v1 .v0)) (.d 2 (.w [1,0,1]) (.w [1,1])) rfl
def Q134:=lin1 (.q .v1 .k1) (.b 1 (.a .v0 .k1) .v0) (.b (.d 1 (.w [0, -1,1]) (.w [1])) (.d 1 (.w [0,1,1]) (.w [1]))) rfl
def Q135:=lin0 (.L (.g (.k 1000000000)) (.c .v0)) (.w [1]) rfl
def Q136:=lin1 (.n (.Q (.c .v0) .k0)) (.t .k0 .v0) (.w [1,1]) rfl
def Q137:=lin0 (.L (.c .v0) (.c .v0)) (.w [1]) rfl
def Q138:=lin1 (.l .v0 (.a .v1 .k1)) (.q .v0 (.a .v1 .k1)) (.w [1,1]) rfl
def Q139:=lin2 (.q .v2 .k0) (.q .v1 (.a .v0 .k1)) (.b 2 (.a .v0 .k1) .v1) (.b (.w [1]) (.d 2 (.w [0,1,1, -1]) (.w [0,1,1]))) rfl
def Q140:=lin1 (.t (.a .v0 (.k 2)) .v1) (.q .v1 (.a .v0 (.k 3))) (.w [1, -1]) rfl
def Q141:=lin1 (.n (.q .v0 (.k 32))) (.n (.q .v0 (.k 32))) (.d 1 (.w [1, -1]) (.w [1,1])) rfl
def Q142:=lin2 (.n (.q .v0 (.k 9))) (.n (.q .v0 (.k 32))) (.n (.q .v0 (.k 9))) (.d 1 (.d 3 (.w [1,0, -1]) (.w [1,0,1])) (.w [1,1])) rfl
def Q143:=lin1 (.l .v0 (.a .v1 .k1)) (.q (.a .v1 .k1) (.a .v0 (.a .v2 .k1))) (.w [1, -1]) rfl
def Q144:=lin2 (.l (.a .v0 .v1) (.k 60000)) (.l .v0 (.k 3)) (.l (.a .v1 (.a .v2 (.a .v3 .v4))) (.k 40)) (.w [1,1,1]) rfl
def Q145:=lin1 (.t .k0 .v0) (.q .v0 (.a .v1 .k1)) (.w [1, -1]) rfl
def Q146:=lin1 (.l .v0 (.k 1000)) (.l .v0 (.k 63)) (.w [1,1]) rfl
def Q147:=lin2 (.l (.a (.a .v0 .k1) .v1) (.k 1048576)) (.l .v0 (.k 2)) (.l .v1 (.k 63)) (.w [1,1,1]) rfl
end _M
end
section
open PySem PySem.W PySem.Calls PyProof.Rows
namespace _M
inductive PV where
 | none
 | bool (b:Bool)
 | int (i:Int)
 | str (l:List Nat)
 | cell (k:Nat)
 | inst (C:Addr) (k:Nat)
 | seq (tup:Bool) (xs:List PV)
 | mat (e:Int)
 | bm (k:Nat)
 | glob (v:Value)
 | other
 | unb
inductive PCell where
 | list (xs:List PV)
 | dct (id:Nat) (vals:List PV)
 | bk (id:Nat) (vals:List PV)
structure St where
 vars:List PV
 cells:List PCell
inductive Res (α:Type) where
 | ok (a:α) (σ:St)
 | exc (σ:St)
 | bad
noncomputable abbrev PM (α:Type):=St→Res α
theorem fc {β:Type}{P:β→Prop}{x:β}{l:List β} (h:P x) (h':∀p∈l,P p):∀p∈x::l,P p:=fun z_ hp=>match hp with
 | .head _=>h
 | .tail _ hp=>h' _ hp
theorem fp {β:Type}{P:β→Prop}{l l':List β} (h:∀p∈l,P p) (h':∀p∈l',P p):∀p∈l++l',P p:=fun z_ hp=>(List.mem_append.mp hp).elim (h _) (h' _)
theorem fn {β:Type}{P:β→Prop}:∀p∈([]:List β),P p:=fun z_ hp=>nomatch hp
noncomputable def bnd {α β:Type} (x:PM α) (f:α→PM β):PM β:=fun σ=>match x σ with
 | .ok a σ'=>f a σ'
 | .exc σ'=> .exc σ'
 | .bad=> .bad
noncomputable def aL {α:Type} (a:α):PM α:=fun σ=> .ok a σ
noncomputable def bI {α:Type}:PM α:=fun z_=> .bad
inductive BndOk {α β:Type} (x:PM α) (f:α→PM β) (σ:St) (b:β) (σ':St):Prop
 | mk (a:α) (σ₁:St) (h1:x σ= .ok a σ₁) (h2:f a σ₁= .ok b σ'):BndOk x f σ b σ'
theorem aG {α β:Type}{x:PM α}{f:α→PM β}{σ:St}{b:β}{σ':St} (h:bnd x f σ= .ok b σ'):BndOk x f σ b σ':=by
 unfold bnd at h
 split at h
 ·exact ⟨_,_,by assumption,h⟩
 ·cases h
 ·cases h
inductive Fl where
 | next | brk | cont
 | ret (v:PV)
inductive Rep (α:List Addr) (N:List (Addr×Obj)):PV→Value→Prop where
 | none:Rep α N .none .none
 | bool {b:Bool}:Rep α N (.bool b) (.bool b)
 | int {i:Int}{t:Tok}:Rep α N (.int i) (.int i t)
 | str {l:List Nat}{t:Tok}:Rep α N (.str l) (.str ⟨l.toArray⟩ t)
 | cell {k:Nat}{a:Addr}:α[k]? =some a→Rep α N (.cell k) (.ref a)
 | inst {k:Nat}{a dx C:Addr}:(a,instObj C dx)∈N→a∉α→α[k]? =some dx→Rep α N (.inst C k) (.ref a)
 | seq {tup:Bool}{xs:List PV}{a:Addr}{vs:List Value}{n:Nat}:(a,(⟨.type (if tup then "tuple" else "list"),Option.none, .seq vs.toArray n, #[]⟩:Obj))∈N→a∉α→
   xs.length=vs.length→(∀p∈xs.zip vs,Rep α N p.1 p.2)→Rep α N (.seq tup xs) (.ref a)
 | mat {st e:Int}{a tp:Addr}{x p:Value}{i j k:Int}{n:Nat}:(a,(⟨.type "re.Match",Option.none, .fields #[x,p,rawInt i,rawInt j,rawInt k, .ref tp], #[]⟩:Obj))∈N→a∉α→
   (tp,(⟨.type "tuple",Option.none, .seq #[rawInt st,rawInt e] n, #[]⟩:Obj))∈N→tp∉α→Rep α N (.mat e) (.ref a)
 | bm {k:Nat}{a b:Addr}:(a,(⟨.type "builtin_function_or_method",Option.none, .fields #[.builtin "list.append", .ref b], #[]⟩:Obj))∈N→a∉α→α[k]? =some b→Rep α N (.bm k) (.ref a)
 | glob {v:Value}:Rep α N (.glob v) v
 | other {v:Value}:Rep α N .other v
section
variable {i t:Nat}{α:List Addr}{N P:List (Addr×Obj)}{pv:PV}{v:Value}{a:Addr}
theorem eV {β:Type}{l:List β} (h:l.Nodup) {j:Nat}{x:β} (h1:l[i]? =some x) (h2:l[j]? =some x):i=j:=by
 obtain ⟨a1,b1⟩:=List.getElem?_eq_some_iff.mp h1
 obtain ⟨a2,b2⟩:=List.getElem?_eq_some_iff.mp h2
 have hp:=List.pairwise_iff_getElem.mp h
 rcases Nat.lt_trichotomy i j with hl | hl | hl
 ·exact absurd (b1.trans b2.symm) (hp i j a1 a2 hl)
 ·exact hl
 ·exact absurd (b2.trans b1.symm) (hp j i a2 a1 hl)
theorem Rep.mono {α':List Addr}{N':List (Addr×Obj)} (hN:∀p∈N,p.1∉α→p∈N'∧p.1∉α') (hα:∀(k:Nat) (a:Addr),α[k]? =some a→α'[k]? =some a)
  (h:Rep α N pv v):Rep α' N' pv v:=by
 induction h with
 | none=>exact .none
 | bool=>exact .bool
 | int=>exact .int
 | str=>exact .str
 | cell h=>exact .cell (hα _ _ h)
 | inst h1 h2 h3=>exact .inst (hN _ h1 h2).1 (hN _ h1 h2).2 (hα _ _ h3)
 | seq h1 h2 h3 _ ih=>exact .seq (hN _ h1 h2).1 (hN _ h1 h2).2 h3 ih
 | mat h1 h2 h3 h4=>exact .mat (hN _ h1 h2).1 (hN _ h1 h2).2 (hN _ h3 h4).1 (hN _ h3 h4).2
 | bm h1 h2 h3=>exact .bm (hN _ h1 h2).1 (hN _ h1 h2).2 (hα _ _ h3)
 | glob=>exact .glob
 | other=>exact .other
noncomputable def aN:PV→Bool
 | .unb=>true
 | _=>false
inductive Plain:PV→Value→Prop where
 | none:Plain .none .none
 | bool {b:Bool}:Plain (.bool b) (.bool b)
 | int {i:Int}{t:Tok}:Plain (.int i) (.int i t)
 | str {l:List Nat}{t:Tok}:Plain (.str l) (.str ⟨l.toArray⟩ t)
 | glob {v:Value}:Plain (.glob v) v
 | other {v:Value}:Plain .other v
structure Tabs where
 t:Nat→List Str
 isD:Obj→List (Str×Value)→Prop:=fun z_ z_=>False
noncomputable def fG (tabs:Tabs) (α:List Addr) (N:List (Addr×Obj)) (a:Addr):PCell→Prop
 | .list xs=>∃vs n,(a,(⟨.type "list",Option.none, .seq vs.toArray n, #[]⟩:Obj))∈N∧xs.length=vs.length∧(∀p∈xs.zip vs,Rep α N p.1 p.2)∧xs.length≤1048576
 | .dct id vals=>∃es n,(a,dictOf es n)∈N∧(tabs.t id).length=vals.length∧(tabs.t id).Nodup∧
   (∀(i:Nat) (x:Str) (pv:PV),(tabs.t id)[i]? =some x→vals[i]? =some pv→(pv= .unb∧getL x es=some Option.none)∨(aN pv=false∧∃v,getL x es=some (some v)∧Rep α N pv v))∧
   (∀e∈es,∃x t,e.key= .str x t∧x∈tabs.t id)∧es.length+(vals.filter aN).length≤(tabs.t id).length∧(tabs.t id).length≤100
 | .bk id vals=>∃o kvs,(a,o)∈N∧(a==sysModules)=false∧tabs.isD o kvs∧kvs.map (·.1)=tabs.t id∧kvs.length=vals.length∧(∀p∈vals.zip (kvs.map (·.2)),Plain p.1 p.2)∧kvs.length≤100
structure Glb where
 prog:Program
 w:World
 K:Frag
 p:Program
 loose:List Str
 mean:ExcName→Option Value
 mg:Str→Option Value
 mb:Str→Option Value
 tabs:Tabs
 pins:List (Addr×Obj):=[]
structure FI where
 qual:Str
 scope:Scope
 vnames:List Str
 lv:Nat
 cmp:Bool:=false
 base:List (Addr×List Int):=[]
 bind:List (Str×PV):=[]
 cbind:List (Str×PV):=[]
 top:Bool:=false
noncomputable def nm (fi:FI) (i:Nat):Option Str:=if fi.cmp then Option.none else fi.vnames[i]?
theorem kW {fi:FI}{x:Str} (h:nm fi i=some x):fi.cmp=false∧fi.vnames[i]? =some x:=by
 unfold nm at h
 split at h
 ·cases h
 ·rename_i hc;exact ⟨by simpa using hc,h⟩
structure FIok (fi:FI):Prop where
 kind:fi.scope.kind= .function
 nd:fi.vnames.Nodup
 loc:fi.cmp=false→∀x∈fi.vnames,fi.scope.names.lookup x=some .local
 nodbg:∀x∈fi.vnames,(x==("__debug__" :Str))=false
theorem Plain.rep (h:Plain pv v):Rep α N pv v:=by induction h <;> constructor
inductive Stab (P:List (Addr×Obj)):PV→Value→Prop where
 | plain {pv:PV}{v:Value}:Plain pv v→Stab P pv v
 | list {xs:List PV}{a:Addr}{ws:List Value}{n:Nat}:(a,(⟨.type "list",Option.none, .seq ws.toArray n, #[]⟩:Obj))∈P→xs.length=ws.length→(∀q∈xs.zip ws,Plain q.1 q.2)→Stab P (.seq false xs) (.ref a)
theorem Stab.rep (hp:∀p∈P,p∈N∧p.1∉α) (h:Stab P pv v):Rep α N pv v:=by
 induction h with
 | plain h=>exact h.rep
 | list h1 h2 h3=>exact .seq (tup:=false) (hp _ h1).1 (hp _ h1).2 h2 fun q hq=>(h3 q hq).rep
theorem Stab.mono {P':List (Addr×Obj)} (hp:∀p∈P,p∈P') (h:Stab P pv v):Stab P' pv v:=by
 induction h with
 | plain h=>exact .plain h
 | list h1 h2 h3=>exact .list (hp _ h1) h2 h3
structure Cx0 (G:Glb) (fi:FI) (A:Around) (h₀:Heap) (L:Addr) (env:Env):Prop where
 ok:FIok fi
 isenv:fi.cmp=false→∃f cd,env=envOfC fi.qual fi.scope L f cd
 sc:env.scope=fi.scope
 glo:env.globals=mainGlobals
 bui:env.builtins=builtinsNs
 X:G.K.In h₀
 T:Top G.p G.loose G.mean G.mg G.mb h₀
 B:∃A₀ base outer env₀,Below A₀ base outer h₀∧A.frames=some (env₀::outer)∧env₀.frame=some L∧env₀.scope.kind= .function
 hd:A.handled=none
 bs:∀p∈fi.base,∃vs:List Value,h₀.IsList p.1 vs.toArray∧IntsAre vs p.2∧p.2.length≤1000
 bd:∀p∈fi.bind,∃v o es ep,(env.locals,o)∈G.pins∧o.data= .dict es ep∧StrKeys es∧nsFind es p.1=some v∧Stab G.pins p.2 v
 cb:∀p∈fi.cbind,∃v c o,env.cells.lookup p.1=some c∧(c,o)∈G.pins∧o.data= .cell (some v)∧Stab G.pins p.2 v
 tp:fi.top=true→∃A₀ cn cs a ccd,Below A₀ h₀ [] h₀∧A.frames=some [envOf cn cs L a ccd]∧cs.kind= .function
structure Cx (G:Glb) (fi:FI) (A:Around) (h₀:Heap) (L:Addr) (env:Env):Prop extends Cx0 G fi A h₀ L env where
 dep:A.depth+2*fi.lv<900
 un:A.units+20*fi.lv<9000
structure RelAt (G:Glb) (fi:FI) (h₀:Heap) (L:Addr) (σ:St) (held:List (PV×Value)) (m:Str→Option Value) (α:List Addr) (N:List (Addr×Obj)) (s:Shared):Prop where
 fr:Fr h₀ L s.heap m
 nw:News h₀ L s.heap N
 nd:(N.map (·.1)).Nodup
 an:α.Nodup
 len:α.length=σ.cells.length
 cells:∀(k:Nat) (a:Addr) (c:PCell),α[k]? =some a→σ.cells[k]? =some c→fG G.tabs α N a c
 vars:∀(i:Nat) (x:Str) (pv:PV),fi.vnames[i]? =some x→σ.vars[i]? =some pv→pv= .unb∨(aN pv=false∧∃v,m x=some v∧Rep α N pv v)
 held:∀p∈held,Rep α N p.1 p.2
 tok:0<s.toks
 vlen:σ.vars.length=fi.vnames.length
 pin:∀p∈G.pins,p∈N∧p.1∉α
inductive Rel (G:Glb) (fi:FI) (h₀:Heap) (L:Addr) (σ:St) (held:List (PV×Value)) (s:Shared):Prop
 | mk (m:Str→Option Value) (α:List Addr) (N:List (Addr×Obj)) (h:RelAt G fi h₀ L σ held m α N s):Rel G fi h₀ L σ held s
section
variable {G:Glb}{fi:FI}{h₀:Heap}{L:Addr}{σ:St}{held held':List (PV×Value)}{m:Str→Option Value}{α:List Addr}{N:List (Addr×Obj)}{s:Shared}
theorem fG.mem {c:PCell}{tabs:Tabs} (h:fG tabs α N a c):∃o,(a,o)∈N:=by
 induction c with
 | list xs=>obtain ⟨vs,n,h,_⟩:=h;exact ⟨_,h⟩
 | dct ns vs=>obtain ⟨vs,n,h,_⟩:=h;exact ⟨_,h⟩
 | bk ns vs=>obtain ⟨o,kvs,h,_⟩:=h;exact ⟨_,h⟩
theorem RelAt.alpha (R:RelAt G fi h₀ L σ held m α N s) (h:a∈α):∃o,(a,o)∈N:=by
 obtain ⟨k,hk,rfl⟩:=List.mem_iff_getElem.mp h
 have e:α[k]? =some α[k]:=List.getElem?_eq_getElem hk
 have hk':k<σ.cells.length:=R.len▸hk
 exact (R.cells k _ _ e (List.getElem?_eq_getElem hk')).mem
theorem RelAt.drop (R:RelAt G fi h₀ L σ held m α N s) (hs:∀p∈held',p∈held):RelAt G fi h₀ L σ held' m α N s:=
 {R with held:=fun p hp=>R.held p (hs p hp)}
theorem RelAt.toks (R:RelAt G fi h₀ L σ held m α N s) (ht:0<t):RelAt G fi h₀ L σ held m α N {s with toks:=t}:=
 {R with fr:=R.fr,nw:=R.nw,tok:=ht}
theorem RelAt.hold (R:RelAt G fi h₀ L σ held m α N s) (h:Rep α N pv v):RelAt G fi h₀ L σ ((pv,v)::held) m α N s:=
 {R with held:=fun p hp=>(List.mem_cons.mp hp).elim (fun e=>by subst e;exact h) (fun hp=>R.held p hp)}
theorem Rel.drop (R:Rel G fi h₀ L σ held s) (hs:∀p∈held',p∈held):Rel G fi h₀ L σ held' s:=let ⟨m,α,N,R⟩:=R;⟨m,α,N,R.drop hs⟩
theorem Rel.tail {p:PV×Value} (R:Rel G fi h₀ L σ (p::held) s):Rel G fi h₀ L σ held s:=R.drop fun z_ h=> .tail _ h
theorem Rel.toks (R:Rel G fi h₀ L σ held s) (ht:0<t):Rel G fi h₀ L σ held {s with toks:=t}:=let ⟨m,α,N,R⟩:=R;⟨m,α,N,R.toks ht⟩
theorem Rel.tok (R:Rel G fi h₀ L σ held s):0<s.toks:=let ⟨_,_,_,R⟩:=R;R.tok
theorem Rel.holdP (R:Rel G fi h₀ L σ held s) (h:Plain pv v):Rel G fi h₀ L σ ((pv,v)::held) s:=let ⟨m,α,N,R⟩:=R;⟨m,α,N,R.hold h.rep⟩
theorem RelAt.lt (R:RelAt G fi h₀ L σ held m α N s) {p:Addr×Obj} (h:p∈N):p.1<s.heap.objs.size:=Heap.lt_size (R.nw p h).1
theorem RelAt.push (R:RelAt G fi h₀ L σ held m α N s) (o:Obj) (ho:o.isFreed=false):
  RelAt G fi h₀ L σ held m α ((s.heap.objs.size,o)::N) {s with heap:=s.heap.push o}:=by
 have mono:∀{pv v},Rep α N pv v→Rep α ((s.heap.objs.size,o)::N) pv v:=fun h=>h.mono (fun p hp q=>⟨.tail _ hp,q⟩) (fun z_ z_ e=>e)
 refine ⟨R.fr.push o,R.nw.push R.fr o ho, ?_,R.an,R.len, ?_, ?_,fun p hp=>mono (R.held p hp),R.tok,R.vlen,fun p hp=>⟨.tail _ (R.pin p hp).1,(R.pin p hp).2⟩⟩
 ·rw [List.map_cons,List.nodup_cons]
  refine ⟨fun hm=> ?_,R.nd⟩
  obtain ⟨p,hp,e⟩:=List.mem_map.mp hm
  have:=R.lt hp
  rw [e] at this
  exact Nat.lt_irrefl _ this
 ·intro k a c ha hc
  have h:=R.cells k a c ha hc
  induction c with
  | list xs=>obtain ⟨vs,n,h1,h2,h3,h4⟩:=h;exact ⟨vs,n, .tail _ h1,h2,fun p hp=>mono (h3 p hp),h4⟩
  | bk ns vs=>obtain ⟨o',kvs,h1,h2⟩:=h;exact ⟨o',kvs, .tail _ h1,h2⟩
  | dct ns vs=>
   obtain ⟨es,n,h1,h2,h3,h4,h5⟩:=h
   exact ⟨es,n, .tail _ h1,h2,h3,fun i x pv e1 e2=>(h4 i x pv e1 e2).imp id fun ⟨q,v,e3,e4⟩=>⟨q,v,e3,mono e4⟩,h5⟩
 ·intro i x pv e1 e2
  exact (R.vars i x pv e1 e2).imp id fun ⟨q,v,e3,e4⟩=>⟨q,v,e3,mono e4⟩
theorem RelAt.fresh (R:RelAt G fi h₀ L σ held m α N s):s.heap.objs.size∉α:=fun h=>by
 obtain ⟨o,ho⟩:=R.alpha h
 exact Nat.lt_irrefl _ (R.lt ho)
theorem RelAt.store (R:RelAt G fi h₀ L σ held m α N s) (ok:FIok fi) {x:Str}{h':Heap} (hx:fi.vnames[i]? =some x) (hv:Rep α N pv v)
  (hu:aN pv=false) (F':Fr h₀ L h' (fun y=>if y=x then some v else m y)) (N':News h₀ L h' N) (ht:0<t):
  RelAt G fi h₀ L {σ with vars:=σ.vars.set i pv} held (fun y=>if y=x then some v else m y) α N {s with heap:=h',toks:=t}:=by
 refine ⟨F',N',R.nd,R.an,R.len,R.cells, ?_,R.held,ht,by rw [List.length_set];exact R.vlen,R.pin⟩
 intro j y qv e1 e2
 by_cases hj:j=i
 ·subst hj
  rw [hx] at e1
  cases e1
  right
  have:qv=pv:=by
   have e2':(σ.vars.set j pv)[j]? =some qv:=e2
   rw [List.getElem?_set] at e2'
   simp only [if_true] at e2'
   split at e2'
   ·exact (Option.some.inj e2').symm
   ·cases e2'
  subst this
  exact ⟨hu,v,if_pos rfl,hv⟩
 ·have hne:y≠x:=fun e=>by
   subst e
   exact hj (eV ok.nd e1 hx)
  have e2':(σ.vars.set i pv)[j]? =some qv:=e2
  rw [List.getElem?_set_ne (Ne.symm hj)] at e2'
  rcases R.vars j y qv e1 e2' with h | ⟨q,w,h1,h2⟩
  ·exact .inl h
  ·exact .inr ⟨q,w,by rw [if_neg hne];exact h1,h2⟩
end
end
section
variable {p:Pos}{s s':Shared}
theorem mB {M:Model}{Γ:Ctx}{t:Sem Fin}{fs:List Frame}{e:End} (h:Runs M Γ p t fs s e s'):s.toks≤s'.toks:=by
 induction h with
 | done=>exact Nat.le_refl _
 | raise=>exact Nat.le_refl _
 | yield=>exact Nat.le_refl _
 | fresh _ ih=>exact Nat.le_trans (Nat.le_succ _) ih
 | again _ _ ih=>exact ih
 | rule _ ih=>exact ih
 | «at» _ ih=>exact ih
 | load _ _ ih=>exact ih
 | update _ _ ih=>exact ih
 | loadIfAlive _ ih=>exact ih
 | point _ ih=>exact ih
 | alloc _ ih=>exact ih
 | ask _ ih=>exact ih
 | choose _ _ ih=>exact ih
 | os _ ih=>exact ih
 | handled _ ih=>exact ih
 | genState _ _ ih=>exact ih
 | stack _ ih=>exact ih
 | thread _ ih=>exact ih
 | newGen _ ih=>exact ih
 | call _ _ ih1 ih2=>exact Nat.le_trans ih1 ih2
 | callSusp _ ih=>exact ih
 | resumeFresh _ _ _ _ ih1 ih2=>exact Nat.le_trans ih1 ih2
 | resumeSuspended _ _ _ _ ih1 ih2=>exact Nat.le_trans ih1 ih2
 | resumeJustStarted _ _ _ ih=>exact ih
 | resumeThrowFresh _ _ ih=>exact ih
 | resumeRunning _ _ ih=>exact ih
 | resumeFinished _ _ ih=>exact ih
 | segRet _ _ ih1 ih2=>exact Nat.le_trans ih1 ih2
 | segGen _ _ ih1 ih2=>exact Nat.le_trans ih1 ih2
 | segSuspOut _ _ ih=>exact ih
 | segSuspGen _ _ _ _ ih1 ih2=>exact Nat.le_trans ih1 ih2
theorem wM {M:Model}{Γ:Ctx}{g:Nat}{r:Resume}{res:GenResult} (h:Wakes M Γ p g r s res s'):s.toks≤s'.toks:=by
 unfold Wakes at h
 repeat' split at h
 all_goals first
  | exact h.elim
  | (obtain ⟨e₁,s₁,h1,_,_,e⟩:=h;rw [e];exact mB h1)
  | (obtain ⟨e₁,s₁,h1,_,_,e⟩:=h;rw [e];have q:=mB h1;cases s;cases s₁;exact q)
  | (obtain ⟨_,rfl⟩:=h;exact Nat.le_refl _)
  | (have:=h.2;subst this;exact Nat.le_refl _)
  | skip
theorem aR2 {β:Type} (M:Model) (Γ:Ctx) (t:Sem β) (Q:β→Pos→Shared→Prop) (E:Value→Pos→Shared→Prop) (p:Pos) (s:Shared) (n:Nat) (hn:n≤s.toks)
  (h:Sem.wp M Γ t (fun a p' s'=>n≤s'.toks→Q a p' s') (fun e p' s'=>n≤s'.toks→E e p' s') p s):Sem.wp M Γ t Q E p s:=by
 induction t generalizing p s with
 | pure a=>exact h hn
 | raise e=>exact h hn
 | unsupported _=>exact h.elim
 | finish _=>exact h.elim
 | rule _ k ih=>exact ih () p s hn h
 | «at» p' k ih=>exact ih () p' s hn h
 | load a _ k ih=>obtain ⟨o,ho,h⟩:=h;exact ⟨o,ho,ih o p s hn h⟩
 | update a _ f k ih=>exact ⟨h.1,ih () p _ hn h.2⟩
 | loadIfAlive a k ih=>exact ih _ p s hn h
 | point _ k ih=>exact ih () p s hn h
 | register _ _=>exact h.elim
 | alloc o k ih=>exact ih _ p _ hn h
 | fresh k ih=>exact ih _ p _ (Nat.le_succ_of_le hn) h
 | ask k ih=>exact ih _ p s hn h
 | choose src m k ih=>exact ⟨h.1,ih _ p _ hn h.2⟩
 | os q _ k ih=>exact ih _ p _ hn h
 | call c hd g l k ih=>obtain ⟨r,s',h1,h2⟩:=h;exact ⟨r,s',h1,ih r p s' (Nat.le_trans hn (mB h1)) h2⟩
 | handled own k ih=>exact ih _ p s hn h
 | genState g k ih=>obtain ⟨st,h1,h2⟩:=h;exact ⟨st,h1,ih _ p s hn h2⟩
 | newGen c k ih=>exact ih _ p _ hn h
 | resume g r _ k ih=>obtain ⟨r,s',h1,h2⟩:=h;exact ⟨r,s',h1,ih r p s' (Nat.le_trans hn (wM h1)) h2⟩
 | yield _ _ _ _=>exact h.elim
 | stack k ih=>exact ih _ p s hn h
 | fork _ _=>exact h.elim
 | thread k ih=>exact ih _ p s hn h
 | await _ _ _ _ _=>exact h.elim
theorem cO {β:Type}{M:Model}{A:Around}{t:Sem β}{Q:β→Shared→Prop}{E:Value→Shared→Prop}
  (h:wpAny M A t (fun a s'=>s.toks≤s'.toks→Q a s') (fun e s'=>s.toks≤s'.toks→E e s') s):wpAny M A t Q E s:=
 fun Γ p hΓ=>aR2 M Γ t _ _ p s s.toks (Nat.le_refl _) (h Γ p hΓ)
end
section
variable {b o:List Stmt}{σ σ':St}{i k:Nat}{pos:Pos}{e l r t:Expr}{pv:PV}{A:Around}{h₀:Heap}{L:Addr}{env:Env}{s:Shared}{m:Str→Option Value}{v:Value}{E Q:Value→Shared→Prop}{fl fr:PM PV}{es:List Expr}{fb fo:PM Fl}{st:Stmt}
noncomputable abbrev Sh (s:Shared) (h:Heap) (t:Tok):Shared:={s with heap:=h,toks:=t}
def EvR (G:Glb) (fi:FI) (e:Expr) (f:PM PV):Prop:=
 ∀(A:Around) (h₀:Heap) (L:Addr) (env:Env),Cx G fi A h₀ L env→∀(held:List (PV×Value)) (s:Shared) (σ:St) (pv:PV) (σ':St) (Q:Value→Shared→Prop) (E:Value→Shared→Prop),
  f σ= .ok pv σ'→Rel G fi h₀ L σ held s→(∀v h' t',Rel G fi h₀ L σ' ((pv,v)::held) (Sh s h' t')→Q v (Sh s h' t'))→wpAny (model G.prog G.w) A (eval e env) Q E s
def TrR (G:Glb) (fi:FI) (e:Expr) (f:PM Bool):Prop:=
 ∀(A:Around) (h₀:Heap) (L:Addr) (env:Env),Cx G fi A h₀ L env→∀(held:List (PV×Value)) (s:Shared) (σ:St) (b:Bool) (σ':St) (Q:Bool→Shared→Prop) (E:Value→Shared→Prop),
  f σ= .ok b σ'→Rel G fi h₀ L σ held s→(∀h' t',Rel G fi h₀ L σ' held (Sh s h' t')→Q b (Sh s h' t'))→wpAny (model G.prog G.w) A (isTrue e env (eval e env)) Q E s
def wC (G:Glb) (fi:FI) (op:BoolOp) (es:List Expr) (f:PM Bool):Prop:=
 ∀(A:Around) (h₀:Heap) (L:Addr) (env:Env),Cx G fi A h₀ L env→∀(held:List (PV×Value)) (s:Shared) (σ:St) (b:Bool) (σ':St) (Q:Bool→Shared→Prop) (E:Value→Shared→Prop),
  f σ= .ok b σ'→Rel G fi h₀ L σ held s→(∀h' t',Rel G fi h₀ L σ' held (Sh s h' t')→Q b (Sh s h' t'))→wpAny (model G.prog G.w) A (allTrue op es env) Q E s
noncomputable def tQ (G:Glb) (fi:FI) (h₀:Heap) (L:Addr) (σ:St) (held:List (PV×Value)) (s:Shared):Fl→Flow→Prop
 | .next, .next=>Rel G fi h₀ L σ held s
 | .brk, .brk=>Rel G fi h₀ L σ held s
 | .cont, .cont=>Rel G fi h₀ L σ held s
 | .ret pv, .ret v=>Rel G fi h₀ L σ ((pv,v)::held) s
 | _,_=>False
def ExR (G:Glb) (fi:FI) (st:Stmt) (f:PM Fl):Prop:=
 ∀(A:Around) (h₀:Heap) (L:Addr) (env:Env),Cx G fi A h₀ L env→∀(held:List (PV×Value)) (s:Shared) (σ:St) (fl:Fl) (σ':St) (Q:Flow→Shared→Prop) (E:Value→Shared→Prop),
  f σ= .ok fl σ'→Rel G fi h₀ L σ held s→(∀flow h' t',tQ G fi h₀ L σ' held (Sh s h' t') fl flow→Q flow (Sh s h' t'))→wpAny (model G.prog G.w) A (exec st env) Q E s
def dN (G:Glb) (fi:FI) (ss:List Stmt) (f:PM Fl):Prop:=
 ∀(A:Around) (h₀:Heap) (L:Addr) (env:Env),Cx G fi A h₀ L env→∀(held:List (PV×Value)) (s:Shared) (σ:St) (fl:Fl) (σ':St) (Q:Flow→Shared→Prop) (E:Value→Shared→Prop),
  f σ= .ok fl σ'→Rel G fi h₀ L σ held s→(∀flow h' t',tQ G fi h₀ L σ' held (Sh s h' t') fl flow→Q flow (Sh s h' t'))→wpAny (model G.prog G.w) A (execs ss env) Q E s
noncomputable def aI (pv:PV):PM PV:=fun σ=> .ok pv σ
noncomputable def vr (i:Nat):PM PV:=fun σ=>match σ.vars[i]? with
 | some pv=>if aN pv then .bad else .ok pv σ
 | none=> .bad
noncomputable def xA {β:Type} (o:Option β):PM β:=fun σ=>match o with
 | some c=> .ok c σ
 | none=> .bad
noncomputable def fL {β:Type} (g:PV→Option β) (x:PM PV):PM β:=bnd x fun a=>xA (g a)
noncomputable def aA {β:Type} (g:PV→PV→Option β) (x y:PM PV):PM β:=bnd x fun a=>bnd y fun b=>xA (g a b)
noncomputable def ofB (x:PM Bool):PM PV:=bnd x fun b=>aL (.bool b)
noncomputable def aP {β:Type} (c:PM Bool) (x y:PM β):PM β:=bnd c fun b=>if b then x else y
noncomputable def sV (c:PM Bool):PM Bool:=bnd c fun b=>aL (!b)
noncomputable def cX (x y:PM Bool):PM Bool:=bnd x fun b=>if b then y else aL false
noncomputable def orM (x y:PM Bool):PM Bool:=bnd x fun b=>if b then aL true else y
noncomputable def jW (x y:PM Fl):PM Fl:=bnd x fun f=>match f with
 | .next=>y
 | f=>aL f
noncomputable def aV:Nat→PM Bool→PM Fl→PM Fl→PM Fl
 | 0,_,_,_=>bI
 | N+1,t,b,e=>bnd t fun c=>if c then bnd b (fun f=>match f with
   | .next=>aV N t b e
   | .cont=>aV N t b e
   | .brk=>aL .next
   | .ret v=>aL (.ret v)) else e
theorem oD {N:Nat}{t:PM Bool}{b e:PM Fl}:aV (N+1) t b e=bnd t fun c=>if c then bnd b (fun f=>match f with
   | .next=>aV N t b e
   | .cont=>aV N t b e
   | .brk=>aL .next
   | .ret v=>aL (.ret v)) else e:=rfl
noncomputable def aF (i:Nat) (x:PM PV):PM Fl:=bnd x fun pv=>fun σ=>if aN pv then .bad else .ok .next {σ with vars:=σ.vars.set i pv}
noncomputable def mD (x:PM PV):PM Fl:=bnd x fun pv=>aL (.ret pv)
noncomputable def bD (c:PM Bool):PM Fl:=bnd c fun b=>fun σ=>if b then .ok .next σ else .exc σ
noncomputable def cC (x:PM PV):PM Fl:=bnd x fun pv=>fun σ=>match pv with
 | .none=> .ok .next σ
 | _=> .bad
theorem rZ {β:Type}{o:Option β}{c:β} (h:xA o σ= .ok c σ'):o=some c∧σ'=σ:=by
 unfold xA at h
 split at h
 ·cases h;exact ⟨rfl,rfl⟩
 ·cases h
theorem vA {β:Type}{g:PV→Option β}{x:PM PV}{c:β} (h:fL g x σ= .ok c σ'):∃a,x σ= .ok a σ'∧g a=some c:=by
 refine cps fun GC hGC=> ?_
 obtain ⟨a,σ₁,h1,h⟩:=aG h
 obtain ⟨h2,rfl⟩:=rZ h
 refine hGC ?_
 exact ⟨a,h1,h2⟩
inductive LiftOk {β:Type} (g:PV→PV→Option β) (x y:PM PV) (σ σ':St) (c:β):Prop
 | mk (a:PV) (σ₁:St) (b:PV) (h1:x σ= .ok a σ₁) (h2:y σ₁= .ok b σ') (h3:g a b=some c):LiftOk g x y σ σ' c
theorem lC {β:Type}{g:PV→PV→Option β}{x y:PM PV}{c:β} (h:aA g x y σ= .ok c σ'):LiftOk g x y σ σ' c:=by
 refine cps fun GC hGC=> ?_
 obtain ⟨a,σ₁,h1,h⟩:=aG h
 obtain ⟨b,σ₂,h2,h⟩:=aG h
 obtain ⟨h3,rfl⟩:=rZ h
 refine hGC ?_
 exact ⟨a,σ₁,b,h1,h2,h3⟩
theorem aJ {β:Type}{a b:β} (h:aL a σ= .ok b σ'):b=a∧σ'=σ:=by
 unfold aL at h;cases h;exact ⟨rfl,rfl⟩
section
variable {G:Glb}{fi:FI}
theorem R_int {i:Int}:EvR G fi (.Constant (.int i) k pos) (aI (.int i)):=by
 intro A h₀ L env C held s σ pv σ' Q E hf R hQ
 cases hf
 exact wpAny_Constant_int (hQ _ s.heap (s.toks+1) ((R.toks (Nat.succ_pos _)).holdP .int))
theorem R_str {x:Str}{l:List Nat} (hx:x=⟨l.toArray⟩):EvR G fi (.Constant (.str x) k pos) (aI (.str l)):=by
 intro A h₀ L env C held s σ pv σ' Q E hf R hQ
 cases hf
 subst hx
 skip
 exact fun z_ z_ z_=>hQ (.str _ s.toks) s.heap (s.toks+1) ((R.toks (Nat.succ_pos _)).holdP .str)
theorem R_none:EvR G fi (.Constant .none k pos) (aI .none):=by
 intro A h₀ L env C held s σ pv σ' Q E hf R hQ
 cases hf
 show wpAny _ A (Pure.pure Value.none) Q E s
 exact wpAny_pure (hQ .none s.heap s.toks (R.holdP .none))
theorem R_bool {b:Bool}:EvR G fi (.Constant (.bool b) k pos) (aI (.bool b)):=by
 intro A h₀ L env C held s σ pv σ' Q E hf R hQ
 cases hf
 skip
 exact wpAny_pure (hQ (.bool b) s.heap s.toks (R.holdP .bool))
set_option tactic.hygienic true in
theorem bB9 (h:vr i σ= .ok pv σ'):σ'=σ∧σ.vars[i]? =some pv∧aN pv=false:=by
 unfold vr at h
 split at h
 ·rename_i pv' e
  split at h
  ·cases h
  ·rename_i hu
   cases h
   exact ⟨rfl,e,by simpa using hu⟩
 ·cases h
theorem vJ (C:Cx G fi A h₀ L env) (F:Fr h₀ L s.heap m) {x:Str}
  (hk:fi.scope.names.lookup x=some .globalImplicit) (hd:(x==("__debug__" :Str))=false) (e:nsIn G.K mainGlobals x=some (some v)) (h:Q v s):wpAny (model G.prog G.w) A (eval (.Name x pos) env) Q E s:=
 Name_function_global (by rw [C.sc];exact C.ok.kind) (by unfold Env.kindOf;rw [C.sc];exact hk) (loadGlobal_global (by rw [C.glo];exact (topRead_of C.T).g.keeps F.keep) (mg_of C.X (topRead_of C.T).g e) h) hd
theorem aZ4 (C:Cx G fi A h₀ L env) (F:Fr h₀ L s.heap m) {x:Str}
  (hk:fi.scope.names.lookup x=some .globalImplicit) (hd:(x==("__debug__" :Str))=false) (e:nsIn G.K mainGlobals x=some Option.none) (hv:bootBuiltins x=some v) (hn:x≠("__name__" :Str)) (h:Q v s):
  wpAny (model G.prog G.w) A (eval (.Name x pos) env) Q E s:=
 Name_function_global (by rw [C.sc];exact C.ok.kind) (by unfold Env.kindOf;rw [C.sc];exact hk) (loadGlobal_builtin (by rw [C.glo];exact (topRead_of C.T).g.keeps F.keep) (mg_none_of C.X (topRead_of C.T).g e) (by rw [C.bui];exact (topRead_of C.T).b.keeps F.keep) (((topRead_of C.T).builtins x hn).trans hv) h) hd
theorem R_bind {x:Str} (hx:(x,pv)∈fi.bind) (hk:fi.scope.names.lookup x=some .local) (hd:(x==("__debug__" :Str))=false):EvR G fi (.Name x pos) (aI pv):=by
 intro A h₀ L env C held s σ pv' σ' Q E hf R hQ
 cases hf
 refine cps fun GC hGC=> ?_
 obtain ⟨v,o,es,ep,h1,h2,h3,h4,h5⟩:=C.bd _ hx
 obtain ⟨m,α,N,R'⟩:=id R
 refine hGC ?_
 exact wpAny_Name (wpAny_loadName_local (by rw [C.sc];exact C.ok.kind) (by unfold Env.kindOf;rw [C.sc];exact hk) ⟨o,es,ep,(R'.nw _ (R'.pin _ h1).1).1,h2,h3,fun z_=>rfl⟩ h4 (hQ v s.heap s.toks ⟨m,α,N,R'.hold (h5.rep R'.pin)⟩)) hd
theorem R_name {x:Str} (hx:nm fi i=some x):EvR G fi (.Name x pos) (vr i):=by
 obtain ⟨hc,hx⟩:=kW hx
 intro A h₀ L env C held s σ pv σ' Q E hf R hQ
 obtain ⟨rfl,e,hu⟩:=bB9 hf
 obtain ⟨m,α,N,R⟩:=R
 obtain ⟨f,cd,rfl⟩:=C.isenv hc
 have hm:x∈fi.vnames:=List.mem_of_getElem? hx
 rcases R.vars i x pv hx e with rfl | ⟨_,v,hv,hr⟩
 ·cases hu
 ·exact ldLoc R.fr hv (hQ v s.heap s.toks ⟨m,α,N,R.hold hr⟩) C.ok.kind (C.ok.loc hc x hm) (C.ok.nodbg x hm)
theorem fX {x:Str} (hk:fi.scope.names.lookup x=some .globalImplicit) (hd:(x==("__debug__" :Str))=false) (e:nsIn G.K mainGlobals x=some (some v)):
  EvR G fi (.Name x pos) (aI (.glob v)):=by
 intro A h₀ L env C held s σ pv σ' Q E hf R hQ
 cases hf
 obtain ⟨m,α,N,R'⟩:=id R
 exact vJ C R'.fr hk hd e (hQ v s.heap s.toks (R.holdP .glob))
theorem bB5 {x:Str}{i:Int}{t:Tok} (hk:fi.scope.names.lookup x=some .globalImplicit) (hd:(x==("__debug__" :Str))=false) (e:nsIn G.K mainGlobals x=some (some (.int i t))):
  EvR G fi (.Name x pos) (aI (.int i)):=by
 intro A h₀ L env C held s σ pv σ' Q E hf R hQ
 cases hf
 obtain ⟨m,α,N,R'⟩:=id R
 exact vJ C R'.fr hk hd e (hQ _ s.heap s.toks (R.holdP .int))
theorem wG {x:Str} (hk:fi.scope.names.lookup x=some .globalImplicit) (hd:(x==("__debug__" :Str))=false) (e:nsIn G.K mainGlobals x=some Option.none)
  (hv:bootBuiltins x=some v) (hn:x≠("__name__" :Str)):EvR G fi (.Name x pos) (aI (.glob v)):=by
 intro A h₀ L env C held s σ pv σ' Q E hf R hQ
 cases hf
 obtain ⟨m,α,N,R'⟩:=id R
 exact aZ4 C R'.fr hk hd e hv hn (hQ v s.heap s.toks (R.holdP .glob))
def Op1 (G:Glb) (t:Value→Sem Value) (g:PV→Option PV):Prop:=
 ∀(fi:FI) (A:Around) (h₀:Heap) (L:Addr) (env:Env),Cx G fi A h₀ L env→∀(held:List (PV×Value)) (s:Shared) (σ:St) (a:PV) (va:Value) (c:PV) (Q:Value→Shared→Prop) (E:Value→Shared→Prop),
  g a=some c→Rel G fi h₀ L σ ((a,va)::held) s→(∀v h' t',Rel G fi h₀ L σ ((c,v)::held) (Sh s h' t')→Q v (Sh s h' t'))→wpAny (model G.prog G.w) A (t va) Q E s
def Op2 (G:Glb) (t:Value→Value→Sem Value) (g:PV→PV→Option PV):Prop:=
 ∀(fi:FI) (A:Around) (h₀:Heap) (L:Addr) (env:Env),Cx G fi A h₀ L env→∀(held:List (PV×Value)) (s:Shared) (σ:St) (a b:PV) (va vb:Value) (c:PV) (Q:Value→Shared→Prop) (E:Value→Shared→Prop),
  g a b=some c→Rel G fi h₀ L σ ((b,vb)::(a,va)::held) s→(∀v h' t',Rel G fi h₀ L σ ((c,v)::held) (Sh s h' t')→Q v (Sh s h' t'))→wpAny (model G.prog G.w) A (t va vb) Q E s
def qE (G:Glb) (t:Value→Value→Sem Value) (g:PV→PV→Option Bool):Prop:=
 ∀(fi:FI) (A:Around) (h₀:Heap) (L:Addr) (env:Env),Cx G fi A h₀ L env→∀(held:List (PV×Value)) (s:Shared) (σ:St) (a b:PV) (va vb:Value) (c:Bool) (Q:Value→Shared→Prop) (E:Value→Shared→Prop),
  g a b=some c→Rel G fi h₀ L σ ((b,vb)::(a,va)::held) s→(∀h' t',Rel G fi h₀ L σ held (Sh s h' t')→Q (.bool c) (Sh s h' t'))→wpAny (model G.prog G.w) A (t va vb) Q E s
theorem wH {op:Operator}{g:PV→PV→Option PV} (hop:Op2 G (binaryOp op) g) (hl:EvR G fi l fl) (hr:EvR G fi r fr):EvR G fi (.BinOp l op r pos) (aA g fl fr):=by
 intro A h₀ L env C held s σ pv σ' Q E hf R hQ
 refine cps fun GC hGC=> ?_
 obtain ⟨a,σ₁,b,h1,h2,h3⟩:=lC hf
 refine hGC ?_
 refine wpAny_BinOp (hl A h₀ L env C held s σ a σ₁ _ _ h1 R fun va h' t' R1=> ?_)
 refine hr A h₀ L env C _ _ σ₁ b σ' _ _ h2 R1 fun vb h'' t'' R2=> ?_
 exact hop fi A h₀ L env C held _ σ' a b va vb pv _ _ h3 R2 fun v h3 t3 R3=>hQ v h3 t3 R3
theorem R_una {op:UnaryOp}{g:PV→Option PV} (hop:Op1 G (unaryOp op) g) (hl:EvR G fi l fl):EvR G fi (.UnaryOp op l pos) (fL g fl):=by
 intro A h₀ L env C held s σ pv σ' Q E hf R hQ
 obtain ⟨a,h1,h3⟩:=vA hf
 show wpAny _ A (do let v ←eval l env;standAt pos;holding [v] (unaryOp op v)) Q E s
 refine wpAny_bind (hl A h₀ L env C held s σ a σ' _ _ h1 R fun va h' t' R1=> ?_)
 refine wpAny_bind (wpAny_standAt (wpAny_holding ?_))
 exact hop fi A h₀ L env C held _ σ' a va pv _ _ h3 R1 fun v h3 t3 R3=>hQ v h3 t3 R3
theorem bE0 {op:CmpOp}{g:PV→PV→Option Bool} (hop:qE G (compareOp op) g) (hl:EvR G fi l fl) (hr:EvR G fi r fr) (hm:behindInMarks op r=false):
  EvR G fi (.Compare l [op] [r] pos) (ofB (aA g fl fr)):=by
 intro A h₀ L env C held s σ pv σ' Q E hf R hQ
 refine cps fun GC hGC=> ?_
 obtain ⟨c,σ₂,h0,h4⟩:=aG hf
 obtain ⟨rfl,rfl⟩:=aJ h4
 obtain ⟨a,σ₁,b,h1,h2,h3⟩:=lC h0
 refine hGC ?_
 refine wpAny_Compare1 (hl A h₀ L env C held s σ a σ₁ _ _ h1 R fun va h' t' R1=> ?_) hm
 refine hr A h₀ L env C _ _ σ₁ b _ _ _ h2 R1 fun vb h'' t'' R2=> ?_
 exact hop fi A h₀ L env C held _ _ a b va vb c _ _ h3 R2 fun h3 t3 R3=>hQ _ h3 t3 (R3.holdP .bool)
theorem nE {op:CmpOp}{g:PV→PV→Option Bool} (hop:qE G (compareOp op) g) (hl:EvR G fi l fl) (hr:EvR G fi r fr) (hm:behindInMarks op r=false):
  TrR G fi (.Compare l [op] [r] pos) (aA g fl fr):=by
 intro A h₀ L env C held s σ c σ' Q E hf R hQ
 refine cps fun GC hGC=> ?_
 obtain ⟨a,σ₁,b,h1,h2,h3⟩:=lC hf
 refine hGC ?_
 refine wpAny_isTrue_Compare1 (hl A h₀ L env C held s σ a σ₁ _ _ h1 R fun va h' t' R1=> ?_) hm
 refine hr A h₀ L env C _ _ σ₁ b _ _ _ h2 R1 fun vb h'' t'' R2=> ?_
 exact hop fi A h₀ L env C held _ _ a b va vb c _ _ h3 R2 fun h3 t3 R3=>wpAny_truthy_bool (hQ h3 t3 R3)
theorem T_not {fl:PM Bool} (hl:TrR G fi l fl):TrR G fi (.UnaryOp .Not l pos) (sV fl):=by
 intro A h₀ L env C held s σ c σ' Q E hf R hQ
 refine cps fun GC hGC=> ?_
 obtain ⟨b,σ₁,h1,h2⟩:=aG hf
 obtain ⟨rfl,rfl⟩:=aJ h2
 refine hGC ?_
 exact isTrue_not (hl A h₀ L env C held s σ b _ _ _ h1 R hQ)
theorem T_bool {op:BoolOp}{f:PM Bool} (h:wC G fi op es f):TrR G fi (.BoolOp op es pos) f:=h
theorem bA9 {f:PM Bool} (h:TrR G fi e f):wC G fi .And [e] f:=by
 intro A h₀ L env C held s σ c σ' Q E hf R hQ
 show wpAny _ A (do match BoolOp.And, ←isTrue e env (eval e env) with
  | .And,false=>pure false
  | .Or,true=>pure true
  | _,_=>allTrue .And [] env) Q E s
 refine wpAny_bind (h A h₀ L env C held s σ c σ' _ _ hf R fun h' t' R'=> ?_)
 induction c <;> exact wpAny_pure (hQ h' t' R')
theorem Ts_or1 {f:PM Bool} (h:TrR G fi e f):wC G fi .Or [e] f:=by
 intro A h₀ L env C held s σ c σ' Q E hf R hQ
 show wpAny _ A (do match BoolOp.Or, ←isTrue e env (eval e env) with
  | .And,false=>pure false
  | .Or,true=>pure true
  | _,_=>allTrue .Or [] env) Q E s
 refine wpAny_bind (h A h₀ L env C held s σ c σ' _ _ hf R fun h' t' R'=> ?_)
 induction c <;> exact wpAny_pure (hQ h' t' R')
theorem Ts_and {f g:PM Bool} (h:TrR G fi e f) (hs:wC G fi .And es g):wC G fi .And (e::es) (cX f g):=by
 intro A h₀ L env C held s σ c σ' Q E hf R hQ
 obtain ⟨b,σ₁,h1,h2⟩:=aG hf
 show wpAny _ A (do match BoolOp.And, ←isTrue e env (eval e env) with
  | .And,false=>pure false
  | .Or,true=>pure true
  | _,_=>allTrue .And es env) Q E s
 refine wpAny_bind (h A h₀ L env C held s σ b σ₁ _ _ h1 R fun h' t' R'=> ?_)
 induction b
 ·obtain ⟨rfl,rfl⟩:=aJ h2
  exact wpAny_pure (hQ h' t' R')
 ·exact hs A h₀ L env C held _ σ₁ c σ' _ _ h2 R' hQ
theorem Ts_or {f g:PM Bool} (h:TrR G fi e f) (hs:wC G fi .Or es g):wC G fi .Or (e::es) (orM f g):=by
 intro A h₀ L env C held s σ c σ' Q E hf R hQ
 obtain ⟨b,σ₁,h1,h2⟩:=aG hf
 show wpAny _ A (do match BoolOp.Or, ←isTrue e env (eval e env) with
  | .And,false=>pure false
  | .Or,true=>pure true
  | _,_=>allTrue .Or es env) Q E s
 refine wpAny_bind (h A h₀ L env C held s σ b σ₁ _ _ h1 R fun h' t' R'=> ?_)
 induction b
 ·exact hs A h₀ L env C held _ σ₁ c σ' _ _ h2 R' hQ
 ·obtain ⟨rfl,rfl⟩:=aJ h2
  exact wpAny_pure (hQ h' t' R')
theorem R_ite {b o:Expr}{ft:PM Bool}{fb fo:PM PV} (ht:TrR G fi t ft) (hb:EvR G fi b fb) (ho:EvR G fi o fo):EvR G fi (.IfExp t b o pos) (aP ft fb fo):=by
 intro A h₀ L env C held s σ pv σ' Q E hf R hQ
 obtain ⟨c,σ₁,h1,h2⟩:=aG hf
 skip
 refine wpAny_bind (ht A h₀ L env C held s σ c σ₁ _ _ h1 R fun h' t' R'=> ?_)
 induction c
 ·exact ho A h₀ L env C held _ σ₁ pv σ' _ _ h2 R' hQ
 ·exact hb A h₀ L env C held _ σ₁ pv σ' _ _ h2 R' hQ
theorem X_nil:dN G fi [] (aL .next):=by
 intro A h₀ L env C held s σ fl σ' Q E hf R hQ
 obtain ⟨rfl,rfl⟩:=aJ hf
 exact wpAny_execs_nil (hQ .next s.heap s.toks R)
theorem aQ5 {ss:List Stmt}{f g:PM Fl} (h:ExR G fi st f) (hs:dN G fi ss g):dN G fi (st::ss) (jW f g):=by
 intro A h₀ L env C held s σ fl σ' Q E hf R hQ
 obtain ⟨f1,σ₁,h1,h2⟩:=aG hf
 refine wpAny_execs_cons (h A h₀ L env C held s σ f1 σ₁ _ _ h1 R fun flow h' t' R'=> ?_)
 induction f1 <;> induction flow <;> first | exact R'.elim | skip
 ·exact hs A h₀ L env C held _ σ₁ fl σ' _ _ h2 R' hQ
 ·obtain ⟨rfl,rfl⟩:=aJ h2
  exact hQ _ h' t' R'
 ·obtain ⟨rfl,rfl⟩:=aJ h2
  exact hQ _ h' t' R'
 ·obtain ⟨rfl,rfl⟩:=aJ h2
  exact hQ _ h' t' R'
theorem bD8 {f:PM Fl} (h:ExR G fi st f):dN G fi [st] f:=by
 intro A h₀ L env C held s σ fl σ' Q E hf R hQ
 refine wpAny_execs_cons (h A h₀ L env C held s σ fl σ' _ _ hf R fun flow h' t' R'=> ?_)
 induction fl <;> induction flow <;> first | exact R'.elim | exact hQ _ h' t' R' | exact wpAny_execs_nil (hQ _ h' t' R')
theorem X_if {ft:PM Bool} (ht:TrR G fi t ft) (hb:dN G fi b fb) (ho:dN G fi o fo):ExR G fi (.If t b o pos) (aP ft fb fo):=by
 intro A h₀ L env C held s σ fl σ' Q E hf R hQ
 obtain ⟨c,σ₁,h1,h2⟩:=aG hf
 refine wpAny_If (ht A h₀ L env C held s σ c σ₁ _ _ h1 R fun h' t' R'=> ?_)
 induction c
 ·exact ho A h₀ L env C held _ σ₁ fl σ' _ _ h2 R' hQ
 ·exact hb A h₀ L env C held _ σ₁ fl σ' _ _ h2 R' hQ
theorem X_cont:ExR G fi (.Continue pos) (aL .cont):=by
 intro A h₀ L env C held s σ fl σ' Q E hf R hQ
 obtain ⟨rfl,rfl⟩:=aJ hf
 exact fun z_ z_ z_=>hQ .cont s.heap s.toks R
theorem X_brk:ExR G fi (.Break pos) (aL .brk):=by
 intro A h₀ L env C held s σ fl σ' Q E hf R hQ
 obtain ⟨rfl,rfl⟩:=aJ hf
 exact fun z_ z_ z_=>hQ .brk s.heap s.toks R
theorem X_ret {f:PM PV} (h:EvR G fi e f):ExR G fi (.Return (some e) pos) (mD f):=by
 intro A h₀ L env C held s σ fl σ' Q E hf R hQ
 refine cps fun GC hGC=> ?_
 obtain ⟨pv,σ₁,h1,h2⟩:=aG hf
 obtain ⟨rfl,rfl⟩:=aJ h2
 refine hGC ?_
 exact wpAny_Return_some (h A h₀ L env C held s σ pv _ _ _ h1 R fun v h' t' R'=>hQ (.ret v) h' t' R')
theorem X_ret0:ExR G fi (.Return none pos) (aL (.ret .none)):=by
 intro A h₀ L env C held s σ fl σ' Q E hf R hQ
 obtain ⟨rfl,rfl⟩:=aJ hf
 exact wpAny_Return_none (hQ (.ret .none) s.heap s.toks (R.holdP .none))
theorem X_expr {f:PM PV} (h:EvR G fi e f) (hs:∀env,swapsWith e none pos.line env=pure false):ExR G fi (.Expr e pos) (cC f):=by
 intro A h₀ L env C held s σ fl σ' Q E hf R hQ
 obtain ⟨pv,σ₁,h1,h2⟩:=aG hf
 cases pv <;> first | (cases h2;done) | skip
 cases h2
 refine wpAny_Expr (h A h₀ L _ C held s σ _ _ _ _ h1 R fun v h' t' R'=> ?_) (by unfold interactive;rw [C.sc,C.ok.kind];rfl) (hs _)
 obtain ⟨α,N,r⟩:∃α N,Rep α N .none v:=let ⟨_,α,N,R⟩:=R';⟨α,N,R.held _ (.head _)⟩
 cases r
 exact hQ .next h' t' R'.tail
theorem aQ6 {f:PM Bool} (h:TrR G fi t f):ExR G fi (.Assert t none pos) (bD f):=by
 intro A h₀ L env C held s σ fl σ' Q E hf R hQ
 obtain ⟨b,σ₁,h1,h2⟩:=aG hf
 induction b
 ·cases h2
 ·cases h2
  exact wpAny_Assert_new C.hd (h A h₀ L env C held s σ true _ _ _ h1 R fun h' t' R'=>hQ .next h' t' R')
theorem fY (C:Cx G fi A h₀ L env) {held:List (PV×Value)}{x:Str}{Q:Unit→Shared→Prop}
  (hx:nm fi i=some x) (hu:aN pv=false) (R:Rel G fi h₀ L σ ((pv,v)::held) s)
  (hQ:∀h' t',Rel G fi h₀ L {σ with vars:=σ.vars.set i pv} ((pv,v)::held) (Sh s h' t')→Q () (Sh s h' t')):wpAny (model G.prog G.w) A (storeName env x v) Q E s:=by
 obtain ⟨hc,hx⟩:=kW hx
 obtain ⟨m,α,N,R⟩:=R
 obtain ⟨f,cd,rfl⟩:=C.isenv hc
 have hm:x∈fi.vnames:=List.mem_of_getElem? hx
 refine storeX_L R.fr R.nw (fun h' F' N'=> ?_) C.ok.kind (C.ok.loc hc x hm)
 exact hQ h' (s.toks+1) ⟨_,α,N,R.store C.ok hx (R.held _ (.head _)) hu F' N' (Nat.succ_pos _)⟩
theorem X_set {x:Str}{p1:Pos}{f:PM PV} (hx:nm fi i=some x) (h:EvR G fi e f) (hs:∀env,swapsWith e (some (.Name x p1)) pos.line env=pure false):
  ExR G fi (.Assign [.Name x p1] e pos) (aF i f):=by
 intro A h₀ L env C held s σ fl σ' Q E hf R hQ
 obtain ⟨pv,σ₁,h1,h2⟩:=aG hf
 split at h2
 ·cases h2
 ·rename_i hu
  cases h2
  refine wpAny_Assign_Name (h A h₀ L env C held s σ _ _ _ _ h1 R fun v h' t' R'=> ?_) (hs _)
  exact fY C hx (by simpa using hu) R' fun h'' t'' R''=>hQ .next h'' t'' R''.tail
theorem bA6 {N:Nat}{ft:PM Bool} (ht:TrR G fi t ft) (hb:dN G fi b fb) (ho:dN G fi o fo):ExR G fi (.While t b o pos) (aV N ft fb fo):=by
 intro A h₀ L env C held s σ fl σ' Q E hf R hQ
 refine wpAny_While (codeAny_whileLoop (fun n s₁=>∃σ₁ h' t',s₁=Sh s h' t'∧aV n ft fb fo σ₁= .ok fl σ'∧Rel G fi h₀ L σ₁ held s₁) ?_ N ⟨σ,s.heap,s.toks,rfl,hf,R⟩)
 rintro n s₁ ⟨σ₁,h',t',rfl,hw,R1⟩
 cases n with
 | zero=>cases hw
 | succ n=>
  obtain ⟨c,σ₂,h1,h2⟩:=aG hw
  refine ht A h₀ L env C held _ σ₁ c σ₂ _ _ h1 R1 fun h2' t2' R2=> ?_
  cases c
  ·simp only [Bool.false_eq_true,if_false] at h2 ⊢
   exact ho A h₀ L env C held _ σ₂ fl σ' _ _ h2 R2 fun flow h3 t3 R3=>hQ flow h3 t3 R3
  ·simp only [if_true] at h2 ⊢
   obtain ⟨f1,σ₃,h3,h4⟩:=aG h2
   refine hb A h₀ L env C held _ σ₂ f1 σ₃ _ _ h3 R2 fun flow h3' t3 R3=> ?_
   cases f1 <;> cases flow <;> first | exact R3.elim | skip
   ·exact ⟨n,Nat.lt_succ_self n,σ₃,_,_,rfl,h4,R3⟩
   ·obtain ⟨rfl,rfl⟩:=aJ h4
    exact hQ .next _ _ R3
   ·exact ⟨n,Nat.lt_succ_self n,σ₃,_,_,rfl,h4,R3⟩
   ·obtain ⟨rfl,rfl⟩:=aJ h4
    exact hQ (.ret _) _ _ R3
end
end
end _M
end
section
open PySem PySem.W PySem.Calls PyProof.Rows Builtin Builtin.Str
namespace _M
section
variable {l:List Nat}{a c:Nat}
noncomputable def nB (n:Nat) (i:Int):Nat:=(max 0 (min (if i<0 then i+n else i) n)).toNat
noncomputable def eL (l:List Nat) (a b:Option Int):List Nat:=
 let lo:=match a with | none=>0 | some i=>nB l.length i
 let hi:=match b with | none=>l.length | some i=>nB l.length i
 (l.drop lo).take (hi-lo)
noncomputable def clI (n:Int) (v:Option Int) (d:Int):Int:=match v with
 | none=>d
 | some i=>max 0 (min (if i<0 then i+n else i) n)
theorem vU (n:Nat) (i:Int):nB n i≤n:=Int.toNat_le.mpr (Int.max_le.mpr ⟨Int.natCast_nonneg n,Int.min_le_right _ _⟩)
theorem zA (n:Nat) (i:Int):max 0 (min (if i<0 then i+n else i) n)=(nB n i:Int):=(Int.toNat_of_nonneg (Int.le_max_left _ _)).symm
theorem aE7 (l:List Nat) (a b:Option Int):Txt.slice ⟨l.toArray⟩ a b=⟨(eL l a b).toArray⟩:=by
 have hlen:(⟨l.toArray⟩:Str).length=l.length:=by simp [Str.length]
 have hlo:∃lo:Nat,lo=(match a with | none=>0 | some i=>nB l.length i)∧lo≤l.length:=⟨_,rfl,by induction a with | none=>exact Nat.zero_le _ | some i=>exact vU _ i⟩
 have hhi:∃hi:Nat,hi=(match b with | none=>l.length | some i=>nB l.length i)∧hi≤l.length:=⟨_,rfl,by induction b with | none=>exact Nat.le_refl _ | some i=>exact vU _ i⟩
 obtain ⟨lo,elo,hlo⟩:=hlo
 obtain ⟨hi,ehi,hhi⟩:=hhi
 have es:eL l a b=(l.drop lo).take (hi-lo):=by simp only [eL];rw [←elo, ←ehi]
 have ei:strSliceIndices a b 1 l.length=(List.range (hi-lo)).map (lo + ·):=by
  have e1:strSliceIndices a b 1 l.length=sliceRange lo hi 1:=by
   have e0:strSliceIndices a b 1 l.length=sliceRange (clI l.length a 0) (clI l.length b l.length) 1:=by induction a <;> induction b <;> rfl
   rw [e0]
   have a1:clI l.length a 0=(lo:Int):=by
    induction a with
    | none=>simp only [elo,clI];rfl
    | some i=>rw [elo];exact zA _ i
   have b1:clI l.length b l.length=(hi:Int):=by
    induction b with
    | none=>simp only [ehi,clI]
    | some i=>rw [ehi];exact zA _ i
   rw [a1,b1]
  rw [e1,sliceRange_one]
 unfold Txt.slice
 rw [hlen,ei,es]
 have epick:((List.range (hi-lo)).map (lo + ·)).filterMap ((⟨l.toArray⟩:Str).cps[·]?)=(l.drop lo).take (hi-lo):=by
  by_cases h:lo≤hi
  ·have:=StrLaws.picks l (hi-lo) lo (lin3 (.l (.a .v0 .v3) .v2) (.l .v0 .v2) (.l .v1 .v2) (.b 3 .v1 .v0) (.d 3 (.w [0,1,1,0,1]) (.w [0,1,1,1])) rfl (.n4 _ _ _ _) hlo hhi rfl)
   simpa using this
  ·have:hi-lo=0:=by exact lin2 (.q .v2 .k0) (.n (.l .v1 .v0)) (.b 2 .v0 .v1) (.b (.w [1]) (.d 2 (.w [0,1,1,1]) (.w [0,1,1]))) rfl (.n3 _ _ _) h rfl
   simp [this]
 split
 ·rename_i h
  simp at h
  have:hi-lo=l.length:=h
  have h0:lo=0:=by exact lin4 (.q .v0 .k0) (.l .v0 .v1) (.l .v2 .v1) (.q .v3 .v1) (.b 3 .v2 .v0) (.b (.w [1]) (.d 4 (.w [0,1,1,0,1, -1]) (.w [0,1,1,1,0, -1]))) rfl (.n4 _ _ _ _) hlo hhi h rfl
  have h1:hi=l.length:=by exact lin4 (.q .v0 .v1) (.l .v0 .v1) (.q .v3 .v1) (.q .v2 .k0) (.b 3 .v0 .v2) (.b (.d 4 (.w [0,1,1,0, -1, -1]) (.w [0,1,1,0, -1])) (.w [1,1])) rfl (.n4 _ _ _ _) hhi h h0 rfl
  subst h0;subst h1
  simp
 ·rw [epick]
noncomputable def dT (l:List Nat) (c:Nat):Nat→Nat→Option Nat
 | _,0=>none
 | lo,n+1=>if l[lo]? =some c then some lo else dT l c (lo+1) n
theorem tF {l:List Nat}{c lo n:Nat}:dT l c lo (n+1)=if l[lo]? =some c then some lo else dT l c (lo+1) n:=rfl
theorem pS:∀{n lo:Nat},dT l c lo n=none→∀j,lo≤j→j<lo+n→l[j]? ≠some c
 | 0,lo,_,j,h1,h2=>by exact (show False from lin2 .f (.l .v0 .v1) (.t .v1 (.a .v0 .k0)) (.w [0,1,1]) rfl (.n2 _ _) h1 h2).elim
 | n+1,lo,h,j,h1,h2=>by
  rw [tF] at h
  split at h
  ·cases h
  ·rename_i hc
   by_cases e:j=lo
   ·subst e;exact hc
   ·exact pS h j (Q27 (.n2 _ _) h1 e) (Q53 (.n3 _ _ _) h2)
theorem kC:∀{n lo:Nat},dT l c lo n=some a→lo≤a∧a<lo+n∧l[a]? =some c∧∀j,lo≤j→j<a→l[j]? ≠some c
 | 0,lo,h=>by cases h
 | n+1,lo,h=>by
  rw [tF] at h
  split at h
  ·rename_i hc
   cases h
   exact ⟨Nat.le_refl _,by exact lin0 (.t .v0 (.a .v0 (.a .v1 .k1))) (.w [1]) rfl (.n2 _ _),hc,fun j h1 h2=>by exact (show False from lin2 .f (.l .v0 .v1) (.t .v1 .v0) (.w [0,1,1]) rfl (.n2 _ _) h1 h2).elim⟩
  ·rename_i hc
   obtain ⟨h1,h2,h3,h4⟩:=kC h
   refine ⟨by exact Q3 (.n2 _ _) h1,by exact lin1 (.t .v0 (.a .v1 (.a .v2 .k1))) (.t .v0 (.a (.a .v1 .k1) .v2)) (.w [1,1]) rfl (.n3 _ _ _) h2,h3,fun j q1 q2=> ?_⟩
   by_cases e:j=lo
   ·subst e;exact hc
   ·exact h4 j (Q27 (.n2 _ _) q1 e) q2
theorem mU {hi i:Nat}:StrLaws.At ⟨l.toArray⟩ ⟨#[c]⟩ hi i↔i<hi∧l[i]? =some c:=by
 unfold StrLaws.At
 rw [StrLaws.subAt_eq]
 show (i+1≤hi∧((l.drop i).take 1==[c])=true)↔_
 rw [StrLaws.take1_drop]
 exact ⟨fun h=>⟨by exact lin1 (.t .v0 .v1) (.l (.a .v0 .k1) .v1) (.w [1,1]) rfl (.n2 _ _) h.1,h.2⟩,fun h=>⟨by exact lin1 (.l (.a .v0 .k1) .v1) (.t .v0 .v1) (.w [1,1]) rfl (.n2 _ _) h.1,h.2⟩⟩
theorem yS (l:List Nat) (c lo hi:Nat):(match occurrences ⟨l.toArray⟩ ⟨#[c]⟩ lo hi 1 with | i::_=>some i | []=>none)=dT l c lo (hi-lo):=by
 rw [StrLaws.occ_eq]
 rcases StrLaws.occ_first ⟨l.toArray⟩ ⟨#[c]⟩ hi 1 (Nat.le_refl _) (List.range' lo (hi+1-lo)) lo (fun i hi=>by simp [List.mem_range'] at hi;lia) with ⟨h0,hn⟩ | ⟨pre,a,post,e,h0,ha,hn⟩
 ·rw [h0]
  cases q:dT l c lo (hi-lo) with
  | none=>rfl
  | some a=>
   obtain ⟨h1,h2,h3,h4⟩:=kC q
   exact absurd (mU.mpr ⟨by exact lin3 (.t .v0 .v1) (.l .v2 .v0) (.t .v0 (.a .v2 .v3)) (.b 3 .v1 .v2) (.d 3 (.w [0,1,1,0,1]) (.w [0,1,0,1,1])) rfl (.n4 _ _ _ _) h1 h2 rfl,h3⟩) (hn a (List.mem_range'_1.mpr (by exact ⟨Q54 (.n2 _ _) h1,lin3 (.t .v1 (.a .v0 .v3)) (.t .v1 (.a .v0 .v4)) (.b 3 (.a .v2 .k1) .v0) (.b 4 .v2 .v0) (.d 2 (.d 5 (.w [0,1,0, -1,1,1]) (.w [0,1,1, -1,1,1])) (.d 5 (.w [1,0,1]) (.w [0,1,0, -1,1,1]))) rfl (.n5 _ _ _ _ _) h2 rfl rfl⟩)))
 ·generalize (forIn (List.range' lo (hi+1-lo)) ((#[]:Array Nat),lo) (StrLaws.occBody ⟨l.toArray⟩ ⟨#[c]⟩ hi 1)).run.fst=arr at h0
  have h1:arr.toList[0]? =some a:=by simpa using h0
  obtain ⟨q1,q2⟩:=mU.mp ha
  have hlo:=StrLaws.range'_split_from e
  cases hL:arr.toList with
  | nil=>rw [hL] at h1;cases h1
  | cons b t=>
   rw [hL] at h1
   simp at h1
   subst h1
   show some b=_
   cases q:dT l c lo (hi-lo) with
   | none=>exact absurd q2 (pS q b hlo.1 (lin2 (.t .v0 (.a .v1 .v3)) (.t .v0 .v2) (.b 3 .v2 .v1) (.d 2 (.w [0, -1,1,1]) (.w [1, -1,1,1])) rfl (.n4 _ _ _ _) q1 rfl))
   | some d=>
    obtain ⟨r1,r2,r3,r4⟩:=kC q
    congr 1
    rcases Nat.lt_trichotomy b d with h | h | h
    ·exact absurd q2 (r4 b hlo.1 h)
    ·exact h
    ·exact absurd (mU.mpr ⟨by exact lin2 (.t .v0 .v1) (.t .v2 .v1) (.t .v0 .v2) (.w [1,1,1]) rfl (.n3 _ _ _) q1 h,r3⟩) (hn d (hlo.2 d r1 h))
noncomputable def dI (l:List Nat) (c:Nat):Nat→Option Nat
 | 0=>none
 | n+1=>if l[n]? =some c then some n else dI l c n
theorem kP {l:List Nat}{c n:Nat}:dI l c (n+1)=if l[n]? =some c then some n else dI l c n:=rfl
theorem mY:∀{n:Nat},dI l c n=none→∀j,j<n→l[j]? ≠some c
 | 0,_,j,h=>by exact (show False from Q1 (.n1 _) h).elim
 | n+1,h,j,h2=>by
  rw [kP] at h
  split at h
  ·cases h
  ·rename_i hc
   by_cases e:j=n
   ·subst e;exact hc
   ·exact mY h j (Q55 (.n2 _ _) h2 e)
theorem iG:∀{n:Nat},dI l c n=some a→a<n∧l[a]? =some c∧∀j,a<j→j<n→l[j]? ≠some c
 | 0,h=>by cases h
 | n+1,h=>by
  rw [kP] at h
  split at h
  ·rename_i hc
   cases h
   exact ⟨by exact Q28 (.n1 _),hc,fun j h1 h2=>by exact (show False from lin2 .f (.t .v0 .v1) (.t .v1 (.a .v0 .k1)) (.w [0,1,1]) rfl (.n2 _ _) h1 h2).elim⟩
  ·rename_i hc
   obtain ⟨h1,h2,h3⟩:=iG h
   refine ⟨by exact Q29 (.n2 _ _) h1,h2,fun j q1 q2=> ?_⟩
   by_cases e:j=n
   ·subst e;exact hc
   ·exact h3 j q1 (Q55 (.n2 _ _) q2 e)
theorem aK8 (l:List Nat) (c hi:Nat):lastOccurrence ⟨l.toArray⟩ ⟨#[c]⟩ 0 hi=dI l c hi:=by
 rw [StrLaws.last_eq]
 have h:=StrLaws.last_run ⟨l.toArray⟩ ⟨#[c]⟩ hi (List.range' 0 (hi+1-0)) [] none (fun z_ h=>nomatch h) (fun z_ h=>nomatch h) (List.pairwise_lt_range')
 generalize (forIn (List.range' 0 (hi+1-0)) none (StrLaws.lastBody ⟨l.toArray⟩ ⟨#[c]⟩ hi)).run=r at h
 rw [List.nil_append] at h
 induction r with
 | none=>
  cases q:dI l c hi with
  | none=>rfl
  | some a=>
   obtain ⟨h1,h2,h3⟩:=iG q
   exact absurd (mU.mpr ⟨h1,h2⟩) (h a (List.mem_range'_1.mpr (by exact ⟨Q2 (.n1 _),Q56 (.n3 _ _ _) h1 rfl⟩)))
 | some b=>
  obtain ⟨ha,hn⟩:=h
  obtain ⟨q1,q2⟩:=mU.mp ha
  cases q:dI l c hi with
  | none=>exact absurd q2 (mY q b q1)
  | some d=>
   obtain ⟨r1,r2,r3⟩:=iG q
   congr 1
   rcases Nat.lt_trichotomy b d with h | h | h
   ·exact absurd (mU.mpr ⟨r1,r2⟩) (hn d (List.mem_range'_1.mpr (by exact ⟨Q2 (.n1 _),Q56 (.n3 _ _ _) r1 rfl⟩)) h)
   ·exact h
   ·exact absurd q2 (r3 b h q1)
noncomputable def toI:Option Nat→Int
 | some n=>n
 | none=> -1
noncomputable def bE (n:Nat) (i:Int):Nat:=(max 0 (if i<0 then i+n else i)).toNat
theorem vL (l:List Nat) (c:Nat) (i:Int) (t u v:Tok):Gives («str.find» ⟨[.str ⟨l.toArray⟩ t, .str ⟨#[c]⟩ u, .int i v],[]⟩) (.int (toI (dT l c (bE l.length i) (l.length-bE l.length i)))):=by
 have h:=gives_str_find_from ⟨l.toArray⟩ ⟨#[c]⟩ i t u v
 have e:fromIndex (⟨l.toArray⟩:Str).length i=bE l.length i:=by simp [fromIndex,bE,Str.length]
 have e2:(⟨l.toArray⟩:Str).length=l.length:=by simp [Str.length]
 rw [e,e2] at h
 have o:=yS l c (bE l.length i) l.length
 rw [←o]
 cases q:occurrences ⟨l.toArray⟩ ⟨#[c]⟩ (bE l.length i) l.length 1 with
 | nil=>rw [q] at h;exact h
 | cons a r=>rw [q] at h;exact h
theorem vK (l:List Nat) (c:Nat) (i j:Int) (t u v z:Tok):Gives («str.find» ⟨[.str ⟨l.toArray⟩ t, .str ⟨#[c]⟩ u, .int i v, .int j z],[]⟩)
  (.int (toI (dT l c (bE l.length i) (min (bE l.length j) l.length-bE l.length i)))):=by
 have e2:(⟨l.toArray⟩:Str).length=l.length:=by simp [Str.length]
 have o:=yS l c (bE l.length i) (min (bE l.length j) l.length)
 rw [←o]
 show Gives (match occurrences ⟨l.toArray⟩ ⟨#[c]⟩ (max 0 (if i<0 then i+(⟨l.toArray⟩:Str).length else i)).toNat (min (max 0 (if j<0 then j+(⟨l.toArray⟩:Str).length else j)).toNat (⟨l.toArray⟩:Str).length) 1 with
  | k::_=>retInt k | []=>(do rule "str.find.not-found";retInt (-1))) _
 rw [e2]
 show Gives (match occurrences ⟨l.toArray⟩ ⟨#[c]⟩ (bE l.length i) (min (bE l.length j) l.length) 1 with
  | k::_=>retInt k | []=>(do rule "str.find.not-found";retInt (-1))) _
 cases occurrences ⟨l.toArray⟩ ⟨#[c]⟩ (bE l.length i) (min (bE l.length j) l.length) 1 with
 | nil=>exact .rule (.of_eq rfl)
 | cons k _=>exact .of_eq rfl
theorem tD (l:List Nat) (c:Nat) (j:Int) (t u v z:Tok):Gives («str.rfind» ⟨[.str ⟨l.toArray⟩ t, .str ⟨#[c]⟩ u, .int 0 v, .int j z],[]⟩)
  (.int (toI (dI l c (min (bE l.length j) l.length)))):=by
 have e2:(⟨l.toArray⟩:Str).length=l.length:=by simp [Str.length]
 rw [←aK8]
 show Gives (match lastOccurrence ⟨l.toArray⟩ ⟨#[c]⟩ (max (0:Int) (if (0:Int)<0 then (0:Int)+(⟨l.toArray⟩:Str).length else (0:Int))).toNat (min (max 0 (if j<0 then j+(⟨l.toArray⟩:Str).length else j)).toNat (⟨l.toArray⟩:Str).length) with
  | some k=>retInt k | none=>(do rule "str.rfind.not-found";retInt (-1))) _
 rw [e2]
 show Gives (match lastOccurrence ⟨l.toArray⟩ ⟨#[c]⟩ 0 (min (bE l.length j) l.length) with
  | some k=>retInt k | none=>(do rule "str.rfind.not-found";retInt (-1))) _
 cases lastOccurrence ⟨l.toArray⟩ ⟨#[c]⟩ 0 (min (bE l.length j) l.length) with
 | none=>exact .rule (.of_eq rfl)
 | some k=>exact .of_eq rfl
end
section
variable {α:List Addr}{N:List (Addr×Obj)}{u v:Value}{k:Nat}{h₀:Heap}{L:Addr}{σ:St}{held:List (PV×Value)}{s:Shared}{pv:PV}
inductive CellInv (α:List Addr) (k:Nat) (v:Value):Prop
 | mk (a:Addr) (h:α[k]? =some a) (e:v= .ref a):CellInv α k v
theorem Rep.int_inv {i:Int} (h:Rep α N (.int i) v):∃t,v= .int i t:=by cases h;exact ⟨_,rfl⟩
theorem Rep.str_inv {l:List Nat} (h:Rep α N (.str l) v):∃t,v= .str ⟨l.toArray⟩ t:=by cases h;exact ⟨_,rfl⟩
theorem Rep.bool_inv {i:Bool} (h:Rep α N (.bool i) v):v= .bool i:=by cases h;rfl
theorem Rep.none_inv (h:Rep α N .none v):v= .none:=by cases h;rfl
theorem Rep.glob_inv (h:Rep α N (.glob u) v):v=u:=by cases h;rfl
theorem Rep.cell_inv (h:Rep α N (.cell k) v):CellInv α k v:=by cases h with | cell h=>exact ⟨_,h,rfl⟩
inductive InstInv (α:List Addr) (N:List (Addr×Obj)) (C:Addr) (k:Nat) (v:Value):Prop
 | mk (a dx:Addr) (e:v= .ref a) (h1:(a,instObj C dx)∈N) (h2:a∉α) (h3:α[k]? =some dx):InstInv α N C k v
inductive SeqInv (α:List Addr) (N:List (Addr×Obj)) (tup:Bool) (xs:List PV) (v:Value):Prop
 | mk (a:Addr) (vs:List Value) (n:Nat) (e:v= .ref a) (h1:(a,(⟨.type (if tup then "tuple" else "list"),Option.none, .seq vs.toArray n, #[]⟩:Obj))∈N) (h2:a∉α) (h3:xs.length=vs.length) (h4:∀p∈xs.zip vs,Rep α N p.1 p.2):SeqInv α N tup xs v
theorem Rep.bm_inv (h:Rep α N (.bm k) v):
  ∃a b,v= .ref a∧(a,(⟨.type "builtin_function_or_method",Option.none, .fields #[.builtin "list.append", .ref b], #[]⟩:Obj))∈N∧a∉α∧α[k]? =some b:=by
 cases h with | bm h1 h2 h3=>exact ⟨_,_,rfl,h1,h2,h3⟩
theorem Rep.inst_inv {C:Addr} (h:Rep α N (.inst C k) v):InstInv α N C k v:=by
 cases h with | inst h1 h2 h3=>exact ⟨_,_,rfl,h1,h2,h3⟩
theorem Rep.seq_inv {tup:Bool}{xs:List PV} (h:Rep α N (.seq tup xs) v):SeqInv α N tup xs v:=by
 cases h with | seq h1 h2 h3 h4=>exact ⟨_,_,_,rfl,h1,h2,h3,h4⟩
noncomputable def aD:Nat:=1048576
theorem bY {n:Nat} (h:n≤aD):n≤sizeLine:=Nat.le_trans h (by rw [sizeLine_eq];decide)
theorem bP (l:List Nat):(⟨l.toArray⟩:PySem.Str).length=l.length:=by simp [PySem.Str.length]
theorem mk_app (a b:List Nat):(⟨a.toArray⟩:PySem.Str)++⟨b.toArray⟩=⟨(a++b).toArray⟩:=by
 show PySem.Str.mk (a.toArray++b.toArray)=_
 simp
theorem xF (a b:List Nat):((⟨a.toArray⟩:PySem.Str)==⟨b.toArray⟩)=(a==b):=by
 have h:((⟨a.toArray⟩:PySem.Str)=⟨b.toArray⟩)↔a=b:=by
  constructor
  ·intro h;injection h with h;simpa using h
  ·intro h;rw [h]
 by_cases e:a=b
 ·subst e;simp
 ·have h':¬((⟨a.toArray⟩:PySem.Str)=⟨b.toArray⟩):=fun q=>e (h.mp q)
  rw [beq_eq_false_iff_ne.mpr h',beq_eq_false_iff_ne.mpr e]
theorem RelAt.reheap {G:Glb}{fi:FI}{m:PySem.Str→Option Value} (R:RelAt G fi h₀ L σ held m α N s)
  {h':Heap}{t':Tok} (F:Fr h₀ L h' m) (N':News h₀ L h' N) (ht:0<t'):RelAt G fi h₀ L σ held m α N {s with heap:=h',toks:=t'}:=
 ⟨F,N',R.nd,R.an,R.len,R.cells,R.vars,R.held,ht,R.vlen,R.pin⟩
section
variable {G:Glb}{fi:FI}
inductive Inv2 (pv qv:PV) (v u:Value):Prop
 | mk (α:List Addr) (N:List (Addr×Obj)) (h1:Rep α N pv v) (h2:Rep α N qv u):Inv2 pv qv v u
theorem lH (R:Rel G fi h₀ L σ ((pv,v)::held) s):∃α N,Rep α N pv v:=let ⟨_,α,N,R⟩:=R;⟨α,N,R.held _ (.head _)⟩
theorem qK {qv:PV} (R:Rel G fi h₀ L σ ((qv,u)::(pv,v)::held) s):Inv2 pv qv v u:=
 let ⟨_,α,N,R⟩:=R;⟨α,N,R.held _ (.tail _ (.head _)),R.held _ (.head _)⟩
noncomputable def on2 {β:Type} (fi:Int→Int→Option β) (fs:List Nat→List Nat→Option β) (fb:Bool→Bool→Option β):PV→PV→Option β
 | .int a, .int b=>fi a b
 | .str x, .str y=>fs x y
 | .bool a, .bool b=>fb a b
 | _,_=>none
noncomputable abbrev nn {α β:Type}:α→α→Option β:=fun z_ z_=>none
inductive On2 {β:Type} (fi:Int→Int→Option β) (fs:List Nat→List Nat→Option β) (fb:Bool→Bool→Option β) (c:β):PV→PV→Prop
 | int {a b:Int} (h:fi a b=some c):On2 fi fs fb c (.int a) (.int b)
 | str {x y:List Nat} (h:fs x y=some c):On2 fi fs fb c (.str x) (.str y)
 | bool {a b:Bool} (h:fb a b=some c):On2 fi fs fb c (.bool a) (.bool b)
set_option tactic.hygienic true in
theorem aH1 {β:Type}{fi:Int→Int→Option β}{fs:List Nat→List Nat→Option β}{fb:Bool→Bool→Option β}{c:β}{a b:PV} (h:on2 fi fs fb a b=some c):On2 fi fs fb c a b:=by
 unfold on2 at h
 split at h
 ·exact .int h
 ·exact .str h
 ·exact .bool h
 ·cases h
theorem pK {β:Type}{p:Prop} [Decidable p] {a c:β} (h:(if p then some a else none)=some c):p∧c=a:=by
 by_cases hp:p
 ·rw [if_pos hp] at h;exact ⟨hp,(Option.some.inj h).symm⟩
 ·rw [if_neg hp] at h;cases h
noncomputable def bA:PV→PV→Option PV:=on2 (fun a b=>some (.int (a+b))) (fun x y=>if x.length+y.length≤aD then some (.str (x++y)) else none) nn
noncomputable def bH:PV→PV→Option PV:=on2 (fun a b=>some (.int (a-b))) nn nn
noncomputable def eR:PV→PV→Option PV:=on2 (fun a b=>if b≠0 then some (.int (Int.fmod a b)) else none) nn nn
noncomputable def negP:PV→Option PV
 | .int a=>some (.int (-a))
 | _=>none
theorem oZ {f:Value→Value→Sem Value}{fi:Int→Int→Option PV}{fs:List Nat→List Nat→Option PV}
  (hi:∀{A:Around}{s:Shared}{Q E:Value→Shared→Prop}{a b:Int}{t u:Tok}{c:PV},fi a b=some c→(∀v k,Plain c v→0<k→Q v (Sh s s.heap k))→wpAny (model G.prog G.w) A (f (.int a t) (.int b u)) Q E s)
  (hs:∀{A:Around}{s:Shared}{Q E:Value→Shared→Prop}{x y:List Nat}{t u:Tok}{c:PV},0<s.toks→fs x y=some c→(∀v k,Plain c v→0<k→Q v (Sh s s.heap k))→wpAny (model G.prog G.w) A (f (.str ⟨x.toArray⟩ t) (.str ⟨y.toArray⟩ u)) Q E s):Op2 G f (on2 fi fs nn):=by
 intro fi A h₀ L env C held s σ a b va vb c Q E hg R hQ
 obtain ⟨α,N,ra,rb⟩:=qK R
 have hq:∀v k,Plain c v→0<k→Q v (Sh s s.heap k):=fun v k hp hk=>hQ v s.heap k ((R.tail.tail.toks hk).holdP hp)
 have q:=aH1 hg
 clear hg
 induction q with
 | int h=>obtain ⟨t,rfl⟩:=ra.int_inv;obtain ⟨u,rfl⟩:=rb.int_inv;exact hi h hq
 | str h=>obtain ⟨t,rfl⟩:=ra.str_inv;obtain ⟨u,rfl⟩:=rb.str_inv;exact hs R.tok h hq
 | bool h=>cases h
theorem yO {f:Value→Value→Sem Value} (hi:∀{A:Around}{s:Shared}{Q E:Value→Shared→Prop}{a b:Int}{t u:Tok},(∀tk,Q (.int (a+b) tk) (Sh s s.heap (s.toks+1)))→wpAny (model G.prog G.w) A (f (.int a t) (.int b u)) Q E s)
  (hs:∀{A:Around}{s:Shared}{Q E:Value→Shared→Prop}{a b:PySem.Str}{t u:Tok},a.length+b.length≤sizeLine→(∀t' k,Q (.str (a++b) t') (Sh s s.heap k))→wpAny (model G.prog G.w) A (f (.str a t) (.str b u)) Q E s):Op2 G f bA:=
 oZ (fun h hq=>by cases h;exact hi fun z_=>hq _ _ .int (Nat.succ_pos _)) fun ht h hq=>by
  obtain ⟨hsz,rfl⟩:=pK h
  refine cO (hs (bY (by rw [bP,bP];exact hsz)) fun t' k hk=> ?_)
  rw [mk_app]
  exact hq _ _ .str (Nat.lt_of_lt_of_le ht hk)
theorem op_add:Op2 G (binaryOp .Add) bA:=yO (fun h=>add_int (h _)) fun hz h=>SB.add h hz
theorem op_sub:Op2 G (binaryOp .Sub) bH:=oZ (fun h hq=>by cases h;exact sub_int (hq _ _ .int (Nat.succ_pos _))) fun z_ h=>nomatch h
theorem op_mod:Op2 G (binaryOp .Mod) eR:=oZ (fun h hq=>by obtain ⟨hne,rfl⟩:=pK h;exact mod_int' hne (hq _ _ .int (Nat.succ_pos _))) fun z_ h=>nomatch h
theorem op_neg:Op1 G (unaryOp .USub) negP:=by
 intro fi A h₀ L env C held s σ a va c Q E hg R hQ
 obtain ⟨α,N,ra⟩:=lH R
 have R':Rel G fi h₀ L σ held s:=R.tail
 unfold negP at hg
 split at hg
 ·cases hg
  obtain ⟨t,rfl⟩:=ra.int_inv
  exact neg_int (hQ _ s.heap (s.toks+1) ((R'.toks (Nat.succ_pos _)).holdP .int))
 ·cases hg
noncomputable def one1 {β:Type} (f:Nat→β):List Nat→Option β
 | [c]=>some (f c)
 | _=>none
noncomputable def eqP:PV→PV→Option Bool:=on2 (fun a b=>some (a==b)) (fun x y=>some (x==y)) fun a b=>some (a==b)
noncomputable def neP:PV→PV→Option Bool:=on2 (fun a b=>some (a != b)) (fun x y=>some (x != y)) nn
noncomputable def ltP:PV→PV→Option Bool:=on2 (fun a b=>some (decide (a<b))) nn nn
noncomputable def gtP:PV→PV→Option Bool:=on2 (fun a b=>some (decide (b<a))) nn nn
noncomputable def geP:PV→PV→Option Bool:=on2 (fun a b=>some (decide (b≤a))) nn nn
noncomputable def inP:PV→PV→Option Bool:=on2 nn (fun x l=>one1 (fun c=>l.contains c) x) nn
noncomputable def uW:PV→PV→Option Bool:=on2 nn (fun x l=>one1 (fun c=> !l.contains c) x) nn
theorem gX {f:Value→Value→Sem Value}{fi:Int→Int→Option Bool}{fs:List Nat→List Nat→Option Bool}{fb:Bool→Bool→Option Bool}
  (hi:∀{A:Around}{s:Shared}{Q E:Value→Shared→Prop}{a b:Int}{t u:Tok}{c:Bool},fi a b=some c→Q (.bool c) s→wpAny (model G.prog G.w) A (f (.int a t) (.int b u)) Q E s)
  (hs:∀{A:Around}{s:Shared}{Q E:Value→Shared→Prop}{x y:List Nat}{t u:Tok}{c:Bool},fs x y=some c→Q (.bool c) s→wpAny (model G.prog G.w) A (f (.str ⟨x.toArray⟩ t) (.str ⟨y.toArray⟩ u)) Q E s)
  (hb:∀{A:Around}{s:Shared}{Q E:Value→Shared→Prop}{a b:Bool}{c:Bool},fb a b=some c→Q (.bool c) s→wpAny (model G.prog G.w) A (f (.bool a) (.bool b)) Q E s):qE G f (on2 fi fs fb):=by
 intro fi A h₀ L env C held s σ a b va vb c Q E hg R hQ
 obtain ⟨α,N,ra,rb⟩:=qK R
 have hq:=hQ s.heap s.toks R.tail.tail
 have q:=aH1 hg
 clear hg
 induction q with
 | int h=>obtain ⟨t,rfl⟩:=ra.int_inv;obtain ⟨u,rfl⟩:=rb.int_inv;exact hi h hq
 | str h=>obtain ⟨t,rfl⟩:=ra.str_inv;obtain ⟨u,rfl⟩:=rb.str_inv;exact hs h hq
 | bool h=>have:=ra.bool_inv;subst this;have:=rb.bool_inv;subst this;exact hb h hq
theorem bD4:qE G (compareOp .Eq) eqP:=gX (fun h hq=>by cases h;exact eq_int hq) (fun h hq=>by cases h;exact eq_str (by rw [xF];exact hq)) fun h hq=>by cases h;exact eq_bool hq
theorem cm_ne:qE G (compareOp .NotEq) neP:=gX (fun h hq=>by cases h;exact ne_int hq) (fun h hq=>by cases h;exact ne_str (by unfold bne;rw [xF];exact hq)) fun h=>nomatch h
theorem cm_lt:qE G (compareOp .Lt) ltP:=gX (fun h hq=>by cases h;exact lt_int hq) (fun h=>nomatch h) fun h=>nomatch h
theorem cm_gt:qE G (compareOp .Gt) gtP:=gX (fun h hq=>by cases h;exact gt_int hq) (fun h=>nomatch h) fun h=>nomatch h
theorem cm_ge:qE G (compareOp .GtE) geP:=gX (fun h hq=>by cases h;exact ge_int hq) (fun h=>nomatch h) fun h=>nomatch h
theorem yP {β:Type}{f:Nat→β}{x:List Nat}{c:β} (h:one1 f x=some c):∃k,x=[k]∧c=f k:=by
 match x,h with
 | [k],h=>exact ⟨k,rfl,(Option.some.inj h).symm⟩
theorem lQ (l:List Nat) (c:Nat):PySem.Txt.contains ⟨l.toArray⟩ ⟨#[c]⟩=l.contains c:=by
 unfold PySem.Txt.contains
 rw [StrLaws.found_one]
 show decide (c∈l)=l.contains c
 rw [List.contains_eq_mem]
theorem cm_in:qE G (compareOp .In) inP:=gX (fun h=>nomatch h) (fun h hq=>by obtain ⟨k,rfl,rfl⟩:=yP h;exact SB.contains (by rw [lQ];exact hq)) fun h=>nomatch h
theorem cm_nin:qE G (compareOp .NotIn) uW:=gX (fun h=>nomatch h) (fun h hq=>by obtain ⟨k,rfl,rfl⟩:=yP h;exact SB.notContains (by rw [lQ];exact hq)) fun h=>nomatch h
end
end
section
variable {j:Nat}{t:Tok}{Q:Value→Shared→Prop}{slice v value:Expr}{h₀:Heap}{L:Addr}{m:PySem.Str→Option Value}{α:List Addr}{N:List (Addr×Obj)}{s:Shared}{p pos:Pos}{fv:PM PV}
def Op2M (G:Glb) (t:Value→Value→Sem Value) (g:PV→PV→PM PV):Prop:=
 ∀(fi:FI) (A:Around) (h₀:Heap) (L:Addr) (env:Env),Cx G fi A h₀ L env→∀(held:List (PV×Value)) (s:Shared) (σ:St) (a b:PV) (va vb:Value) (c:PV) (σ':St) (Q:Value→Shared→Prop) (E:Value→Shared→Prop),
  g a b σ= .ok c σ'→Rel G fi h₀ L σ ((b,vb)::(a,va)::held) s→(∀v h' t',Rel G fi h₀ L σ' ((c,v)::held) (Sh s h' t')→Q v (Sh s h' t'))→wpAny (model G.prog G.w) A (t va vb) Q E s
noncomputable def dM (g:PV→PV→PM PV) (x y:PM PV):PM PV:=bnd x fun a=>bnd y fun b=>g a b
noncomputable def bJ (k:Nat) (σ:St):Option (List PV):=match σ.cells[k]? with
 | some (.list xs)=>some xs
 | _=>none
noncomputable def bG (o i:PV):PM PV:=fun σ=>match o,i with
 | .str l, .int i=>if l.length≤aD then (match seqIndex? i l.length with | some j=> .ok (.str [l.getD j 0]) σ | none=> .bad) else .bad
 | .cell k, .int i=>match bJ k σ with
  | some xs=>(match seqIndex? i xs.length with | some j=> .ok (xs.getD j .other) σ | none=> .bad)
  | none=> .bad
 | .seq _ xs, .int i=>if xs.length≤aD then (match seqIndex? i xs.length with | some j=> .ok (xs.getD j .other) σ | none=> .bad) else .bad
 | _,_=> .bad
theorem bZ {i:Int}{n:Nat} (h:seqIndex? i n=some j):j<n∧((0≤i∧j=i.toNat)∨(i<0∧ -(n:Int)≤i∧j=(i+n).toNat)):=by
 unfold seqIndex? at h
 by_cases h0:i<0
 ·simp only [h0,if_true,Bool.and_eq_true,decide_eq_true_eq,Option.ite_none_right_eq_some,Option.some.injEq] at h
  obtain ⟨h1,h2⟩:=h
  exact ⟨by exact lin4 (.t .v0 .v1) (.T .v2 .k0) (.L .k0 (.a .v2 (.c .v1))) (.q .v3 .v0) (.N 3 (.a .v2 (.c .v1))) (.d 4 (.w [0,1,1,1,0, -1]) (.w [0,1,1,1,1, -1])) rfl (.n _ (.n _ (.z _ (.n1 _)))) h0 h1.1 h2 rfl, .inr ⟨h0,by exact lin1 (.L (.g (.c .v0)) .v1) (.L .k0 (.a .v1 (.c .v0))) (.w [1,1]) rfl (.n _ (.z _ .o)) h1.1,h2.symm⟩⟩
 ·simp only [h0,if_false,Bool.and_eq_true,decide_eq_true_eq,Option.ite_none_right_eq_some,Option.some.injEq] at h
  obtain ⟨h1,h2⟩:=h
  exact ⟨by exact lin4 (.t .v0 .v1) (.n (.T .v2 .k0)) (.T .v2 (.c .v1)) (.q .v3 .v0) (.N 3 .v2) (.d 4 (.w [0,1,1,0,1, -1]) (.w [0,1,1,1,1, -1])) rfl (.n _ (.n _ (.z _ (.n1 _)))) h0 h1.2 h2 rfl, .inl ⟨by exact lin1 (.L .k0 .v0) (.n (.T .v0 .k0)) (.w [1,1]) rfl (.z _ .o) h0,h2.symm⟩⟩
section
variable {prog:Program}{w:World}{A:Around}{E:Value→Shared→Prop}{s:Shared}
theorem eB {l:Addr}{vs:List Value}{k:Int}{x:Value} (hl:s.heap.IsList l vs.toArray) (hz:vs.length≤aD)
  (hj:seqIndex? k vs.length=some j) (hx:vs[j]? =some x) (h:Q x s):wpAny (model prog w) A (getItem (.ref l) (.int k t)) Q E s:=by
 obtain ⟨h1,h2 | h2⟩:=bZ hj
 ·obtain ⟨h2,rfl⟩:=h2
  unfold aD at hz
  exact wpAny_getItem_list hl h2 (lin3 (.T .v0 (.k 9223372036854775808)) (.l .v1 (.k 1048576)) (.t .v2 .v1) (.N 2 .v0) (.d 3 (.w [0, -1,1,1,1]) (.w [1,0,1])) rfl (.z _ (.n2 _ _)) hz h1 rfl) (by simpa using hx) h
 ·obtain ⟨h2,h3,rfl⟩:=h2
  unfold aD at hz
  exact wpAny_getItem_list_neg hl h2 (by simpa using h3) (lin2 (.L (.g (.k 9223372036854775808)) .v0) (.l .v1 (.k 1048576)) (.L (.g (.c .v1)) .v0) (.w [1,1,1]) rfl (.z _ (.n1 _)) hz h3) (by simpa using hx) h
end
noncomputable def kU:Expr→Bool
 | .Slice .. =>false
 | _=>true
theorem bV {o i:Value} (h:kU slice=true):subscripted slice false o i=operate [o,i] (getItem o i):=by
 cases slice <;> first | rfl | cases h
theorem gG {x:PySem.Str} (r:Value):letTemporaryGo value (.str x t) r=pure ():=by
 cases value <;> rfl
section
variable {G:Glb}{fi:FI}
theorem kI {α' β':Type}{xs:List α'}{ys:List β'}{a:α'}{b:β'} (h1:xs[j]? =some a) (h2:ys[j]? =some b):(a,b)∈xs.zip ys:=by
 have:(xs.zip ys)[j]? =some (a,b):=by rw [List.getElem?_zip_eq_some];exact ⟨h1,h2⟩
 exact List.mem_of_getElem? this
inductive ListAt (s:Shared) (α:List Addr) (N:List (Addr×Obj)) (xs:List PV) (a:Addr):Prop
 | mk (vs:List Value) (n:Nat) (h1:(a,(⟨.type "list",Option.none, .seq vs.toArray n, #[]⟩:Obj))∈N) (h2:xs.length=vs.length) (h3:∀p∈xs.zip vs,Rep α N p.1 p.2) (h4:xs.length≤1048576) (h5:s.heap.IsList a vs.toArray):ListAt s α N xs a
set_option tactic.hygienic true in
theorem RelAt.listAt {σ:St}{held:List (PV×Value)} (R:RelAt G fi h₀ L σ held m α N s) {k:Nat}{xs:List PV}
  (h:bJ k σ=some xs) {a:Addr} (ha:α[k]? =some a):ListAt s α N xs a:=by
 unfold bJ at h
 split at h
 ·rename_i ys e
  cases h
  refine cps fun GC hGC=> ?_
  obtain ⟨vs,n,h1,h2,h3,h4⟩:=R.cells k a _ ha e
  refine hGC ?_
  exact ⟨vs,n,h1,h2,h3,h4,⟨_,(R.nw _ h1).1,rfl,n,rfl⟩⟩
 ·cases h
set_option tactic.hygienic true in
theorem aU4 (hs:kU slice=true):Op2M G (subscriptTail value slice) bG:=by
 intro fi A h₀ L env C held s σ a b va vb c σ' Q E hg R hQ
 unfold bG at hg
 split at hg
 ·rename_i l i
  obtain ⟨α,N,ra,rb⟩:=qK R
  obtain ⟨t,e9⟩:=ra.str_inv;obtain ⟨u,rfl⟩:=rb.int_inv;rw [e9];clear e9
  split at hg
  ·rename_i hz
   split at hg
   ·rename_i j hj
    cases hg
    have hch:PySem.Txt.charAt ⟨l.toArray⟩ i=some (l.getD j 0):=by
     unfold PySem.Txt.charAt
     rw [bP,hj]
     skip
     have:=(bZ hj).1
     simp [this]
    have hit:PySem.Txt.item ⟨l.toArray⟩ i=⟨#[l.getD j 0]⟩:=by unfold PySem.Txt.item;rw [hch];rfl
    refine tail_of_ItemOn (SB.item (by
     have h:=bZ hj
     unfold aD at hz
     unfold fitsSsize
     rw [Bool.not_eq_true',Bool.or_eq_false_iff]
     constructor
     ·exact decide_eq_false (by lia)
     ·exact decide_eq_false (by lia)) (by rw [hch];rfl) ?_) (bV hs) gG
    rw [hit]
    exact hQ _ s.heap (s.toks+1) ((R.tail.tail.toks (Nat.succ_pos _)).holdP (.str (l:=[l.getD j 0])))
   ·cases hg
  ·cases hg
 ·rename_i k i
  split at hg
  ·rename_i xs hk
   split at hg
   ·rename_i j hj
    cases hg
    obtain ⟨m,α,N,R'⟩:=R
    obtain ⟨d,hd,rfl⟩:=(R'.held (_,va) (.tail _ (.head _))).cell_inv
    obtain ⟨u,rfl⟩:=(R'.held (_,vb) (.head _)).int_inv
    obtain ⟨vs,n,h1,h2,h3,h4,h5⟩:=R'.listAt hk hd
    have hjl:=(bZ hj).1
    have e1:xs[j]? =some xs[j]:=List.getElem?_eq_getElem hjl
    have hjl2:j<vs.length:=h2▸hjl
    have e2:vs[j]? =some vs[j]:=List.getElem?_eq_getElem hjl2
    refine tail_any h5.typeIs slot_list_getitem.lookup (eB h5 (h2▸h4) (h2▸hj) e2 ?_) (bV hs)
    have hr:Rep α N xs[j] vs[j]:=h3 _ (kI e1 e2)
    have hgd:xs.getD j .other=xs[j]:=by simp [List.getD,e1]
    rw [hgd] at hQ
    exact hQ _ s.heap s.toks ⟨m,α,N,(R'.drop fun p hp=> .tail _ (.tail _ hp)).hold hr⟩
   ·cases hg
  ·cases hg
 ·rename_i tup xs i
  split at hg
  ·rename_i hz
   split at hg
   ·rename_i j hj
    cases hg
    obtain ⟨m,α,N,R'⟩:=R
    obtain ⟨d,vs,n,rfl,h1,hda,h2,h3⟩:=(R'.held (_,va) (.tail _ (.head _))).seq_inv
    obtain ⟨u,rfl⟩:=(R'.held (_,vb) (.head _)).int_inv
    have hjl:=(bZ hj).1
    have e1:xs[j]? =some xs[j]:=List.getElem?_eq_getElem hjl
    have hjl2:j<vs.length:=h2▸hjl
    have e2:vs[j]? =some vs[j]:=List.getElem?_eq_getElem hjl2
    have hr:Rep α N xs[j] vs[j]:=h3 _ (kI e1 e2)
    have hgd:xs.getD j .other=xs[j]:=by simp [List.getD,e1]
    rw [hgd] at hQ
    have hq:=hQ vs[j] s.heap s.toks ⟨m,α,N,(R'.drop fun p hp=> .tail _ (.tail _ hp)).hold hr⟩
    induction tup
    ·have h5:s.heap.IsList d vs.toArray:=⟨_,(R'.nw _ h1).1,rfl,n,rfl⟩
     exact tail_any h5.typeIs slot_list_getitem.lookup (eB h5 (h2▸hz) (h2▸hj) e2 hq) (bV hs)
    ·have h5:IsTup s.heap d vs.toArray:=⟨_,(R'.nw _ h1).1,rfl,n,rfl⟩
     have h:=bZ hj
     unfold aD at hz
     exact item_tupleT h5 (by lia) (by lia) (h2▸hj) e2 hq (bV hs)
   ·cases hg
  ·cases hg
 ·cases hg
theorem R_item {sl:Expr}{fs:PM PV} (hv:EvR G fi v fv) (hs:EvR G fi sl fs) (hn:kU sl=true):EvR G fi (.Subscript v sl pos) (dM bG fv fs):=by
 intro A h₀ L env C held s σ pv σ' Q E hf R hQ
 refine cps fun GC hGC=> ?_
 obtain ⟨a,σ₁,h1,hf⟩:=aG hf
 obtain ⟨b,σ₂,h2,h3⟩:=aG hf
 refine hGC ?_
 refine Subscript_ (hv A h₀ L env C held s σ a σ₁ _ _ h1 R fun va h' t' R1=> ?_)
 refine hs A h₀ L env C _ _ σ₁ b σ₂ _ _ h2 R1 fun vb h'' t'' R2=> ?_
 exact aU4 hn fi A h₀ L env C held _ σ₂ a b va vb pv σ' _ _ h3 R2 fun v h3 t3 R3=>hQ v h3 t3 R3
def rP (G:Glb) (fi:FI) (e:Option Expr) (f:PM PV):Prop:=
 ∀(A:Around) (h₀:Heap) (L:Addr) (env:Env),Cx G fi A h₀ L env→∀(held:List (PV×Value)) (s:Shared) (σ:St) (pv:PV) (σ':St) (Q:Value→Shared→Prop) (E:Value→Shared→Prop),
  f σ= .ok pv σ'→Rel G fi h₀ L σ held s→(∀v h' t',Rel G fi h₀ L σ' ((pv,v)::held) (Sh s h' t')→Q v (Sh s h' t'))→wpAny (model G.prog G.w) A (evalPart e env) Q E s
theorem P_some {e:Expr}{f:PM PV} (h:EvR G fi e f):rP G fi (some e) f:=h
theorem P_none:rP G fi none (aI .none):=by
 intro A h₀ L env C held s σ pv σ' Q E hf R hQ
 cases hf
 exact wpAny_pure (hQ .none s.heap s.toks (R.holdP .none))
noncomputable def sB:PV→Option (Option Int)
 | .none=>some none
 | .int i=>some (some i)
 | _=>none
noncomputable def oN (o a b:PV):Option PV:=match o,sB a,sB b with
 | .str l,some a,some b=>if l.length≤aD then some (.str (eL l a b)) else none
 | _,_,_=>none
noncomputable def aU (x a b:PM PV):PM PV:=bnd x fun o=>bnd a fun a=>bnd b fun b=>xA (oN o a b)
theorem kS {a:PV}{i:Option Int} (h:sB a=some i) {v:Value} (r:Rep α N a v):(i=none∧v= .none)∨∃k t,i=some k∧v= .int k t:=by
 unfold sB at h
 split at h
 ·cases h;exact .inl ⟨rfl,r.none_inv⟩
 ·cases h;obtain ⟨t,rfl⟩:=r.int_inv;exact .inr ⟨_,t,rfl,rfl⟩
 ·cases h
theorem wR {A:Around}{E:Value→Shared→Prop}{lo up:Option Expr}{l:List Nat}
  {a b:Option Int}{va vb:Value} (ha:(a=none∧va= .none)∨∃k t,a=some k∧va= .int k t) (hb:(b=none∧vb= .none)∨∃k t,b=some k∧vb= .int k t)
  (F:Fr h₀ L s.heap m) (N':News h₀ L s.heap N) (hz:l.length≤aD) (h:∀h' t' k,Fr h₀ L h' m→News h₀ L h' N→Q (.str ⟨(eL l a b).toArray⟩ t') {s with heap:=h',toks:=k}):
  wpAny (model G.prog G.w) A (subscriptTail value (.Slice lo up none p) (.str ⟨l.toArray⟩ t) (.ref s.heap.objs.size)) Q E {s with heap:=s.heap.push {cls:= .type "slice",data:= .fields #[va,vb, .none]}}:=by
 have hz':(⟨l.toArray⟩:PySem.Str).length≤sizeLine:=by rw [bP];exact bY hz
 rw [←aE7] at h
 rcases ha with ⟨rfl,rfl⟩ | ⟨i,ti,rfl,rfl⟩ <;> rcases hb with ⟨rfl,rfl⟩ | ⟨j,tj,rfl,rfl⟩
 ·exact slice_strN_nn F N' h rfl gG hz'
 ·exact slice_strN_ns F N' h rfl gG hz'
 ·exact slice_strN_sn F N' h rfl gG hz'
 ·exact slice_strN_ss F N' h rfl gG hz'
set_option tactic.hygienic true in
theorem bB2 {lo up:Option Expr}{fa fb:PM PV} (hv:EvR G fi v fv) (ha:rP G fi lo fa) (hb:rP G fi up fb):EvR G fi (.Subscript v (.Slice lo up none p) pos) (aU fv fa fb):=by
 intro A h₀ L env C held s σ pv σ' Q E hf R hQ
 obtain ⟨o,σ₁,h1,hf1⟩:=aG hf
 obtain ⟨a,σ₂,h2,hf2⟩:=aG hf1
 obtain ⟨b,σ₃,h3,hf3⟩:=aG hf2
 obtain ⟨h4,e4⟩:=rZ hf3
 subst e4
 refine Subscript_ (hv A h₀ L env C held s σ o σ₁ _ _ h1 R fun vo h' t' R1=> ?_)
 refine wpAny_Slice (ha A h₀ L env C _ _ σ₁ a σ₂ _ _ h2 R1 fun va h'' t'' R2=> ?_)
 refine hb A h₀ L env C _ _ σ₂ b _ _ _ h3 R2 fun vb h3' t3 R3=> ?_
 rw [evalPart_none]
 refine wpAny_pure ?_
 obtain ⟨m,α,N,R3⟩:=R3
 unfold oN at h4
 split at h4
 ·rename_i l a' b' ea eb
  split at h4
  ·rename_i hz
   cases h4
   obtain ⟨t,rfl⟩:=(R3.held (_,vo) (.tail _ (.tail _ (.head _)))).str_inv
   have ia:=kS ea (R3.held (_,va) (.tail _ (.head _)))
   have ib:=kS eb (R3.held (_,vb) (.head _))
   refine cO (wR (s:=Sh s h3' t3) ia ib R3.fr R3.nw hz fun h4 t4 k F4 N4 hk=> ?_)
   exact hQ _ h4 k ⟨m,α,N,((R3.reheap F4 N4 (Nat.lt_of_lt_of_le R3.tok hk)).drop fun p hp=> .tail _ (.tail _ (.tail _ hp))).hold .str⟩
  ·cases h4
 ·cases h4
end
end
section
variable {N:List (Addr×Obj)}{d:Addr}{o o':Obj}{h':Heap}{pv:PV}{v:Value}{t:Tok}{name:PySem.Str}{hsh:Int}{vals:List PV}{j:Nat}
noncomputable def eP (N:List (Addr×Obj)) (d:Addr) (o':Obj):List (Addr×Obj):=N.map fun p=>if p.1=d then (d,o') else p
theorem lW (N:List (Addr×Obj)) (d:Addr) (o':Obj):(eP N d o').map (·.1)=N.map (·.1):=by
 unfold eP
 rw [List.map_map]
 refine List.map_congr_left fun p z_=> ?_
 show (if p.1=d then (d,o') else p).1=p.1
 split
 ·rename_i h;exact h.symm
 ·rfl
theorem dG {p:Addr×Obj} (h:p∈N) (hd:p.1≠d):p∈eP N d o':=
 List.mem_map.mpr ⟨p,h,if_neg hd⟩
theorem iV (h:(d,o)∈N):(d,o')∈eP N d o':=
 List.mem_map.mpr ⟨(d,o),h,if_pos rfl⟩
theorem aR5 (h:∀p∈N,p.1≠d):eP N d o'=N:=by
 unfold eP
 conv=>rhs;rw [←List.map_id N]
 exact List.map_congr_left fun p hp=>if_neg (h p hp)
theorem aD7:∀{N:List (Addr×Obj)},(N.map (·.1)).Nodup→(d,o)∈N→Upd d o o' N (eP N d o')
 | p::r,nd,h=>by
  rw [List.map_cons,List.nodup_cons] at nd
  by_cases hp:p.1=d
  ·have e:p=(d,o):=by
    rcases List.mem_cons.mp h with e | h
    ·exact e.symm
    ·exact absurd (List.mem_map.mpr ⟨(d,o),h,hp.symm⟩) nd.1
   have hr:∀q∈r,q.1≠d:=fun q hq e'=>nd.1 (List.mem_map.mpr ⟨q,hq,e'.trans hp.symm⟩)
   have e2:eP (p::r) d o'=(d,o')::r:=by
    show (if p.1=d then (d,o') else p)::eP r d o'=_
    rw [if_pos hp,aR5 hr]
   rw [e2,e]
   exact .head hr
  ·have e2:eP (p::r) d o'=p::eP r d o':=by
    show (if p.1=d then (d,o') else p)::eP r d o'=_
    rw [if_neg hp]
   rw [e2]
   refine .tail hp (aD7 nd.2 ?_)
   rcases List.mem_cons.mp h with e | h
   ·exact absurd (by rw [←e]) hp
   ·exact h
section
variable {G:Glb}{fi:FI}{h₀:Heap}{L:Addr}{σ:St}{held:List (PV×Value)}{m:PySem.Str→Option Value}{α:List Addr}{N:List (Addr×Obj)}{s:Shared}
theorem RelAt.notL (R:RelAt G fi h₀ L σ held m α N s) (h:(d,o)∈N):d≠L∧h₀.get? d=none:=⟨(R.nw _ h).2.1,(R.nw _ h).2.2⟩
theorem News.upd {h:Heap} (N':News h₀ L h N) (hs:Heap.SameBut d h h') (ho:h'.get? d=some o'):News h₀ L h' (eP N d o'):=by
 intro p hp
 obtain ⟨q,hq,e⟩:=List.mem_map.mp hp
 have hq':=N' q hq
 by_cases hd:q.1=d
 ·rw [if_pos hd] at e;subst e
  exact ⟨ho,hd▸hq'.2.1,hd▸hq'.2.2⟩
 ·rw [if_neg hd] at e;subst e
  exact ⟨(hs.2 q.1 hd).trans hq'.1,hq'.2⟩
theorem fG.mono {tabs:Tabs}{α':List Addr}{N':List (Addr×Obj)}{a:Addr}{c:PCell} (hm:∀o,(a,o)∈N→(a,o)∈N') (hr:∀{pv v},Rep α N pv v→Rep α' N' pv v) (h:fG tabs α N a c):fG tabs α' N' a c:=by
 induction c with
 | list xs=>obtain ⟨vs,n,h1,h2,h3,h4⟩:=h;exact ⟨vs,n,hm _ h1,h2,fun p hp=>hr (h3 p hp),h4⟩
 | bk id vs=>obtain ⟨o,kvs,h1,h2⟩:=h;exact ⟨o,kvs,hm _ h1,h2⟩
 | dct id vs=>
  obtain ⟨es,n,h1,h2,h3,h4,h5⟩:=h
  exact ⟨es,n,hm _ h1,h2,h3,fun i x pv e1 e2=>(h4 i x pv e1 e2).imp (fun z=>z) fun ⟨q,v,e3,e4⟩=>⟨q,v,e3,hr e4⟩,h5⟩
theorem fJ (hd:d∈α) (h:Rep α N pv v):Rep α (eP N d o') pv v:=
 h.mono (fun p hp q=>⟨dG hp fun e=>q (e▸hd),q⟩) (fun z_ z_ e=>e)
theorem RelAt.setCell (R:RelAt G fi h₀ L σ held m α N s) {k:Nat}{c':PCell}{t':Tok} (hk:α[k]? =some d) (ho:(d,o)∈N)
  (hc:fG G.tabs α (eP N d o') d c') (F:Fr h₀ L h' m) (N':News h₀ L h' (eP N d o')) (ht:0<t'):
  RelAt G fi h₀ L {σ with cells:=σ.cells.set k c'} held m α (eP N d o') (Sh s h' t'):=by
 have hd:d∈α:=List.mem_of_getElem? hk
 refine ⟨F,N',by rw [lW];exact R.nd,R.an,by rw [List.length_set];exact R.len, ?_, ?_,fun p hp=>fJ hd (R.held p hp),ht,R.vlen,fun p hp=>⟨dG (R.pin p hp).1 fun e=>(R.pin p hp).2 (e▸hd),(R.pin p hp).2⟩⟩
 ·intro j a c ha hcj
  by_cases hj:j=k
  ·subst hj
   rw [hk] at ha;cases ha
   have e2:(σ.cells.set j c')[j]? =some c:=hcj
   rw [List.getElem?_set] at e2
   simp only [if_true] at e2
   split at e2
   ·cases e2;exact hc
   ·cases e2
  ·have e2:(σ.cells.set k c')[j]? =some c:=hcj
   rw [List.getElem?_set_ne (Ne.symm hj)] at e2
   have hne:a≠d:=fun e=>hj (eV R.an (e▸ha) hk)
   exact (R.cells j a c ha e2).mono (fun o h=>dG h hne) (fJ hd)
 ·intro i x pv e1 e2
  exact (R.vars i x pv e1 e2).imp id fun ⟨q,v,e3,e4⟩=>⟨q,v,e3,fJ hd e4⟩
theorem gE (hfr:∀p∈N,p.1≠d) (h:Rep α N pv v) (o:Obj):Rep (α++[d]) ((d,o)::N) pv v:=by
 refine h.mono (fun p hp q=>⟨.tail _ hp,fun hm=> ?_⟩) (fun k a e=> ?_)
 ·rcases List.mem_append.mp hm with hm | hm
  ·exact q hm
  ·exact hfr p hp (List.mem_singleton.mp hm)
 ·have hk:k<α.length:=(List.getElem?_eq_some_iff.mp e).1
  rw [List.getElem?_append_left hk];exact e
theorem RelAt.pushCell (R:RelAt G fi h₀ L σ held m α N s) {c:PCell} (ho:o.isFreed=false)
  (hc:fG G.tabs (α++[s.heap.objs.size]) ((s.heap.objs.size,o)::N) s.heap.objs.size c):
  RelAt G fi h₀ L {σ with cells:=σ.cells++[c]} held m (α++[s.heap.objs.size]) ((s.heap.objs.size,o)::N) {s with heap:=s.heap.push o}:=by
 have hfr:∀p∈N,p.1≠s.heap.objs.size:=fun p hp=>Nat.ne_of_lt (R.lt hp)
 have P:=R.push o ho
 have hd:s.heap.objs.size∉α:=R.fresh
 refine ⟨P.fr,P.nw,P.nd, ?_,by rw [List.length_append,List.length_append,R.len];rfl, ?_, ?_,fun p hp=>gE hfr (R.held p hp) o,R.tok,R.vlen,fun p hp=>⟨.tail _ (R.pin p hp).1,fun q=>(List.mem_append.mp q).elim (R.pin p hp).2 fun q=>hfr p (R.pin p hp).1 (List.mem_singleton.mp q)⟩⟩
 ·rw [List.nodup_append]
  exact ⟨R.an,by simp,fun a ha b hb=>by rw [List.mem_singleton] at hb;subst hb;exact fun e=>hd (e▸ha)⟩
 ·intro j a cj ha hcj
  have hcj':(σ.cells++[c])[j]? =some cj:=hcj
  by_cases hj:j<α.length
  ·rw [List.getElem?_append_left hj] at ha
   rw [List.getElem?_append_left (R.len▸hj)] at hcj'
   exact (R.cells j a cj ha hcj').mono (fun z_ h=> .tail _ h) (fun h=>gE hfr h o)
  ·rw [List.getElem?_append_right (Nat.le_of_not_lt hj)] at ha
   rw [List.getElem?_append_right (R.len▸Nat.le_of_not_lt hj)] at hcj'
   have hj0:j-α.length=0:=by
    cases q:j-α.length with
    | zero=>rfl
    | succ n=>rw [q] at ha;simp at ha
   rw [hj0] at ha
   rw [←R.len,hj0] at hcj'
   simp at ha hcj'
   subst ha;subst hcj'
   exact hc
 ·intro i x qv e1 e2
  exact (R.vars i x qv e1 e2).imp id fun ⟨q,v,e3,e4⟩=>⟨q,v,e3,gE hfr e4 o⟩
end
def jK (es:List DictEntry):Prop:=∀e∈es,∃x t,e.key= .str x t
theorem cW (x:PySem.Str) (e:DictEntry) (es:List DictEntry) (hk:jK (e::es)):getL x (e::es)=if e.key.isStr x then some (some e.val) else getL x es:=by
 unfold getL
 rw [List.find?_cons]
 cases h:e.key.isStr x with
 | true=>simp
 | false=>
  simp only [Bool.false_eq_true,if_false]
  cases q:List.find? (fun d=>d.key.isStr x) es with
  | some e'=>rfl
  | none=>
   obtain ⟨y,t,hy⟩:=hk e (.head _)
   have hr:e.refKey=false:=by simp [DictEntry.refKey,hy]
   simp [List.any_cons,hr]
theorem rB (x:PySem.Str):∀{es:List DictEntry},jK es→(getL x es).isSome=true
 | [],_=>rfl
 | e::es,hk=>by
  rw [cW x e es hk]
  split
  ·rfl
  ·exact rB x fun e' h=>hk e' (.tail _ h)
theorem fD {x y:PySem.Str}:(Value.str x t).isStr y=true↔x=y:=by
 show (x==y)=true↔_
 exact beq_iff_eq
theorem jK.put:∀{es:List DictEntry},jK es→jK (putL name hsh (.str name t) v es)
 | [],_=>fun e he=>by
  rcases List.mem_cons.mp he with rfl | he
  ·exact ⟨name,t,rfl⟩
  ·cases he
 | e::es,hk=>by
  unfold putL
  split
  ·intro e' he
   rcases List.mem_cons.mp he with rfl | he
   ·obtain ⟨y,u,hy⟩:=hk e (.head _);exact ⟨y,u,hy⟩
   ·exact hk e' (.tail _ he)
  ·intro e' he
   rcases List.mem_cons.mp he with rfl | he
   ·exact hk _ (.head _)
   ·exact jK.put (fun e'' h=>hk e'' (.tail _ h)) e' he
theorem vM (name:PySem.Str) (hsh:Int) (t:Tok) (v:Value) (x:PySem.Str):∀{es:List DictEntry},jK es→getL x (putL name hsh (.str name t) v es)=if x=name then some (some v) else getL x es
 | [],_=>by
  have hk:jK [⟨hsh, .str name t,v⟩]:=jK.put (es:=[]) fun z_ h=>nomatch h
  show getL x [⟨hsh, .str name t,v⟩]=_
  rw [cW x _ _ hk]
  by_cases h:x=name
  ·subst h;simp [Value.isStr]
  ·have:(Value.str name t).isStr x=false:=by
    rw [←Bool.not_eq_true,fD];exact fun e=>h e.symm
   rw [if_neg h];simp only [this,Bool.false_eq_true,if_false]
 | e::es,hk=>by
  have hk':jK es:=fun e' h=>hk e' (.tail _ h)
  unfold putL
  obtain ⟨y,u,hy⟩:=hk e (.head _)
  split
  ·rename_i hn
   have hk2:jK (⟨e.hash,e.key,v⟩::es):=fun e' he=>by
    rcases List.mem_cons.mp he with rfl | he
    ·exact ⟨y,u,hy⟩
    ·exact hk' e' he
   rw [cW x _ _ hk2,cW x e es hk]
   have hyn:y=name:=fD.mp (hy▸hn)
   by_cases h:x=name
   ·have:e.key.isStr x=true:=by rw [hy];exact fD.mpr (hyn.trans h.symm)
    rw [if_pos this,if_pos h]
   ·have:e.key.isStr x=false:=by rw [hy, ←Bool.not_eq_true,fD];exact fun e=>h (e.symm.trans hyn)
    simp only [this,Bool.false_eq_true,if_false,h]
  ·rename_i hn
   have hk2:jK (e::putL name hsh (.str name t) v es):=fun e' he=>by
    rcases List.mem_cons.mp he with rfl | he
    ·exact ⟨y,u,hy⟩
    ·exact jK.put hk' e' he
   rw [cW x _ _ hk2,cW x e es hk,vM name hsh t v x hk']
   by_cases h:e.key.isStr x=true
   ·have hx:y=x:=fD.mp (hy▸h)
    have:x≠name:=fun q=>hn (by rw [hy];exact fD.mpr (hx.trans q))
    simp only [h,if_true,this,if_false]
   ·simp only [h,if_false];simp
theorem iM (name:PySem.Str) (hsh:Int) (key v:Value):∀{es:List DictEntry},jK es→getL name es=some none→(putL name hsh key v es).length=es.length+1
 | [],_,_=>rfl
 | e::es,hk,h=>by
  rw [cW name e es hk] at h
  unfold putL
  split at h
  ·cases h
  ·rename_i hn
   rw [if_neg hn,List.length_cons,iM name hsh key v (fun e' h=>hk e' (.tail _ h)) h,List.length_cons]
theorem iK (name:PySem.Str) (hsh:Int) (key v:Value) {u:Value}:∀{es:List DictEntry},jK es→getL name es=some (some u)→(putL name hsh key v es).length=es.length
 | [],_,h=>by cases h
 | e::es,hk,h=>by
  rw [cW name e es hk] at h
  unfold putL
  split at h
  ·rename_i hn;rw [if_pos hn];rfl
  ·rename_i hn
   rw [if_neg hn,List.length_cons,iK name hsh key v (fun e' h=>hk e' (.tail _ h)) h,List.length_cons]
theorem pU (hj:vals[j]? =some .unb) (hu:aN pv=false):((vals.set j pv).filter aN).length+1=(vals.filter aN).length:=by
 induction vals generalizing j with
 | nil=>cases hj
 | cons a vals ih=>
  induction j with
  | zero=>
   simp at hj;subst hj
   rw [List.set_cons_zero,List.filter_cons_of_neg (by simp [hu]),List.filter_cons_of_pos (by rfl),List.length_cons]
  | succ j=>
   simp at hj
   rw [List.set_cons_succ]
   cases h:aN a with
   | true=>rw [List.filter_cons_of_pos h,List.filter_cons_of_pos h,List.length_cons,List.length_cons, ←ih hj]
   | false=>rw [List.filter_cons_of_neg (by simp [h]),List.filter_cons_of_neg (by simp [h]),ih hj]
theorem pT {qv:PV} (hj:vals[j]? =some qv) (hq:aN qv=false) (hu:aN pv=false):((vals.set j pv).filter aN).length=(vals.filter aN).length:=by
 induction vals generalizing j with
 | nil=>cases hj
 | cons a vals ih=>
  induction j with
  | zero=>
   simp at hj;subst hj
   rw [List.set_cons_zero,List.filter_cons_of_neg (by simp [hu]),List.filter_cons_of_neg (by simp [hq])]
  | succ j=>
   simp at hj
   rw [List.set_cons_succ]
   cases h:aN a with
   | true=>rw [List.filter_cons_of_pos h,List.filter_cons_of_pos h,List.length_cons,List.length_cons,ih hj]
   | false=>rw [List.filter_cons_of_neg (by simp [h]),List.filter_cons_of_neg (by simp [h]),ih hj]
theorem uE (name:PySem.Str) (hsh:Int) (t:Tok) (v:Value):∀{es:List DictEntry}{e:DictEntry},e∈putL name hsh (.str name t) v es→(∃e'∈es,e'.key=e.key)∨e.key= .str name t
 | [],e,h=>by
  rcases List.mem_cons.mp h with rfl | h
  ·exact .inr rfl
  ·cases h
 | a::es,e,h=>by
  unfold putL at h
  split at h
  ·rcases List.mem_cons.mp h with rfl | h
   ·exact .inl ⟨a, .head _,rfl⟩
   ·exact .inl ⟨e, .tail _ h,rfl⟩
  ·rcases List.mem_cons.mp h with rfl | h
   ·exact .inl ⟨_, .head _,rfl⟩
   ·rcases uE name hsh t v h with ⟨e',h1,h2⟩ | h
    ·exact .inl ⟨e', .tail _ h1,h2⟩
    ·exact .inr h
def kG (tab:List PySem.Str) (es:List DictEntry):Prop:=∀e∈es,∃x t,e.key= .str x t∧x∈tab
theorem kG.str {tab:List PySem.Str}{es:List DictEntry} (h:kG tab es):jK es:=fun e he=>let ⟨x,t,e1,_⟩:=h e he;⟨x,t,e1⟩
theorem kG.put {tab:List PySem.Str}{es:List DictEntry} (h:kG tab es) (hn:name∈tab):kG tab (putL name hsh (.str name t) v es):=fun e he=>by
 rcases uE name hsh t v he with ⟨e',h1,h2⟩ | h1
 ·rw [←h2];exact h e' h1
 ·exact ⟨name,t,h1,hn⟩
theorem kG.none {tab:List PySem.Str} (hn:name∉tab):∀{es:List DictEntry},kG tab es→getL name es=some none
 | [],_=>rfl
 | e::es,h=>by
  rw [cW name e es h.str]
  obtain ⟨x,t,hx,hm⟩:=h e (.head _)
  have:e.key.isStr name=false:=by rw [hx, ←Bool.not_eq_true,fD];exact fun q=>hn (q▸hm)
  rw [if_neg (by rw [this];simp)]
  exact kG.none hn fun e' h'=>h e' (.tail _ h')
theorem aY9 {tabs:Tabs}{α:List Addr}{id:Nat}{es:List DictEntry}{n:Nat}{n':Nat}
  (hd:d∈α) (hj:(tabs.t id)[j]? =some name) (hu:aN pv=false) (hr:Rep α N pv v) (h1:(d,dictOf es n)∈N) (h2:(tabs.t id).length=vals.length) (h3:(tabs.t id).Nodup)
  (h4:∀(i:Nat) (x:PySem.Str) (pv:PV),(tabs.t id)[i]? =some x→vals[i]? =some pv→(pv= .unb∧getL x es=some Option.none)∨(aN pv=false∧∃v,getL x es=some (some v)∧Rep α N pv v))
  (h5:kG (tabs.t id) es) (h6:es.length+(vals.filter aN).length≤(tabs.t id).length) (h7:(tabs.t id).length≤100):
  fG tabs α (eP N d (dictOf (putL name hsh (.str name t) v es) n')) d (.dct id (vals.set j pv)):=by
 refine ⟨_,n',iV h1,by rw [List.length_set];exact h2,h3, ?_,kG.put h5 (List.mem_of_getElem? hj), ?_,h7⟩
 ·intro i x qv e1 e2
  rw [vM name hsh t v x h5.str]
  by_cases hi:i=j
  ·subst hi
   rw [hj] at e1;cases e1
   rw [if_pos rfl]
   right
   have e2':=e2
   rw [List.getElem?_set] at e2'
   simp only [if_true] at e2'
   split at e2'
   ·cases e2';exact ⟨hu,v,rfl,fJ hd hr⟩
   ·cases e2'
  ·have hne:x≠name:=fun e=>hi (eV h3 (e▸e1) hj)
   rw [List.getElem?_set_ne (Ne.symm hi)] at e2
   rw [if_neg hne]
   exact (h4 i x qv e1 e2).imp (fun z=>z) fun ⟨q,w,e3,e4⟩=>⟨q,w,e3,fJ hd e4⟩
 ·have hjl:j<vals.length:=h2▸(List.getElem?_eq_some_iff.mp hj).1
  have ej:vals[j]? =some vals[j]:=List.getElem?_eq_getElem hjl
  rcases h4 j name _ hj ej with ⟨hunb,hg⟩ | ⟨hq,w,hg,_⟩
  ·have a1:=iM name hsh (.str name t) v h5.str hg
   have a2:=pU (vals:=vals) (j:=j) (pv:=pv) (by rw [ej,hunb]) hu
   exact lin3 (.l (.a .v0 .v1) .v2) (.l (.a .v3 .v4) .v2) (.q .v0 (.a .v3 .k1)) (.q (.a .v1 .k1) .v4) (.w [1,1,1,1]) rfl (.n5 _ _ _ _ _) h6 a1 a2
  ·have a1:=iK name hsh (.str name t) v h5.str hg
   have a2:=pT (vals:=vals) (j:=j) (pv:=pv) ej hq hu
   exact lin3 (.l (.a .v0 .v1) .v2) (.l (.a .v3 .v4) .v2) (.q .v0 .v3) (.q .v1 .v4) (.w [1,1,1,1]) rfl (.n5 _ _ _ _ _) h6 a1 a2
end
section
variable {o pv:PV}{α:List Addr}{N:List (Addr×Obj)}{v:Value}{C L:Addr}{id j k:Nat}{σ σ':St}{name:PySem.Str}{pos:Pos}{A:Around}{h₀:Heap}{env:Env}{held:List (PV×Value)}{s:Shared}{E:Value→Shared→Prop}{m:PySem.Str→Option Value}{fs:List (PM PV)}{elts:List Expr}
noncomputable def hand:PV→Bool
 | .glob _=>false
 | .other=>false
 | .unb=>false
 | _=>true
theorem vI (h:hand pv=true) (r:Rep α N pv v):handedIn v=true:=by
 induction r <;> first | rfl | cases h
noncomputable def nA (k id:Nat) (σ:St):Option (List PV):=match σ.cells[k]? with
 | some (.dct id' vals)=>if id'=id then some vals else none
 | _=>none
noncomputable def hM (C:Addr):PV→Option Nat
 | .inst C' k=>if C'=C then some k else none
 | _=>none
noncomputable def aP4 (C:Addr) (id j:Nat) (o:PV):PM PV:=fun σ=>match hM C o with
 | some k=>(match nA k id σ with
  | some vals=>(match vals[j]? with
   | some pv=>if hand pv then .ok pv σ else .bad
   | none=> .bad)
  | none=> .bad)
 | none=> .bad
noncomputable def aX (C:Addr) (id j:Nat) (x:PM PV):PM PV:=bnd x (aP4 C id j)
noncomputable def lS (C:Addr) (id j:Nat) (o v:PV):PM Fl:=fun σ=>match hM C o with
 | some k=>(match nA k id σ with
  | some vals=>if aN v then .bad else .ok .next {σ with cells:=σ.cells.set k (.dct id (vals.set j v))}
  | none=> .bad)
 | none=> .bad
noncomputable def aW (C:Addr) (id j:Nat) (e o:PM PV):PM Fl:=bnd e fun v=>bnd o fun o=>lS C id j o v
theorem gT (h:hM C o=some k):o= .inst C k:=by
 unfold hM at h
 split at h
 ·split at h
  ·rename_i hC;cases h;rw [hC]
  ·cases h
 ·cases h
theorem gW {vals:List PV} (h:nA k id σ=some vals):σ.cells[k]? =some (.dct id vals):=by
 unfold nA at h
 split at h
 ·rename_i e
  split at h
  ·rename_i hi;cases h;rw [←hi];exact e
  ·cases h
 ·cases h
theorem sY {h:Heap}{a dx:Addr}{es:List DictEntry}{n:Nat} (h1:h.get? a=some (instObj C dx)) (h2:h.get? dx=some (dictOf es n)):W.InstAt h a (instObj C dx) C (some (dictOf es n)):=⟨h1,rfl,rfl,h2⟩
section
variable {G:Glb}{fi:FI}
set_option tactic.hygienic true in
theorem R_attr {x:PySem.Str}{xp:Pos}{fx:PM PV}{attr:Option Value} (hx:EvR G fi (.Name x xp) fx)
  (hj:(G.tabs.t id)[j]? =some name) (hg:plainGet G.K C name=true) (hh:hasDictIn G.K C=true) (ha:findIn G.K (.ref C) name=some attr) (hn:noGet G.K attr=true)
  (hbase:∀env,eval (.Attribute (.Name x xp) name pos) env=(do let o ←eval (.Name x xp) env;standAt pos.atName;let r ←holding [o] (getAttr o name true);letTemporaryGo (.Name x xp) o r;pure r)):
  EvR G fi (.Attribute (.Name x xp) name pos) (aX C id j fx):=by
 intro A h₀ L env Cx held s σ pv σ' Q E hf R hQ
 refine cps fun GC hGC=> ?_
 obtain ⟨o,σ₁,h1,hf1⟩:=aG hf
 refine hGC ?_
 refine Attribute_Name_ (hx A h₀ L env Cx held s σ o σ₁ _ _ h1 R fun vo h' t' R1=> ?_) (hbase env)
 unfold aP4 at hf1
 split at hf1
 ·rename_i k hk
  split at hf1
  ·rename_i vals hv
   split at hf1
   ·rename_i qv hqv
    split at hf1
    ·rename_i hhand
     cases hf1
     have ek:=gT hk
     subst ek
     refine cps fun GC hGC=> ?_
     obtain ⟨m,α,N,R1⟩:=R1
     obtain ⟨a,dx,rfl,hi1,hi2,hi3⟩:=(R1.held (_,vo) (.head _)).inst_inv
     obtain ⟨es,n,c1,c2,c3,c4,c5,c6,c7⟩:=R1.cells _ _ _ hi3 (gW hv)
     refine hGC ?_
     rcases c4 j name _ hj hqv with ⟨e,_⟩ | ⟨_,v,hl,hr⟩
     ·rw [e] at hhand;cases hhand
     ·exact get_own R1.fr Cx.X (sY (R1.nw _ hi1).1 (R1.nw _ c1).1) hg hh ha hn hl (vI hhand hr)
       (hQ v h' (t'+1) ⟨m,α,N,((R1.toks (Nat.succ_pos _)).drop fun p hp=> .tail _ hp).hold hr⟩)
    ·cases hf1
   ·cases hf1
  ·cases hf1
 ·cases hf1
set_option tactic.hygienic true in
theorem vZ (Cx:Cx G fi A h₀ L env) {vo:Value}{fl:Fl}
  {Q:Unit→Shared→Prop}
  (hj:(G.tabs.t id)[j]? =some name) (hs:findIn G.K (.ref C) "__setattr__" =some (some (.builtin "object.__setattr__"))) (hp:plainOver G.K C=true) (ht:takerIn G.K C name=some none) (hh:hasDictIn G.K C=true)
  (hf:lS C id j o pv σ= .ok fl σ') (R:Rel G fi h₀ L σ ((o,vo)::(pv,v)::held) s) (hQ:∀h' t',fl= .next→Rel G fi h₀ L σ' ((pv,v)::held) (Sh s h' t')→Q () (Sh s h' t')):
  wpAny (model G.prog G.w) A (setAttr vo name v) Q E s:=by
 unfold lS at hf
 split at hf
 ·rename_i k hk
  split at hf
  ·rename_i vals hv
   split at hf
   ·cases hf
   ·rename_i hu
    cases hf
    have ek:=gT hk
    subst ek
    refine cps fun GC hGC=> ?_
    obtain ⟨m,α,N,R1⟩:=R
    obtain ⟨a,dx,rfl,hi1,hi2,hi3⟩:=(R1.held (_,vo) (.head _)).inst_inv
    obtain ⟨es,n,c1,c2,c3,c4,c5,c6,c7⟩:=R1.cells _ _ _ hi3 (gW hv)
    refine hGC ?_
    have hr:Rep α N pv v:=R1.held (_,v) (.tail _ (.head _))
    have hd:dx∈α:=List.mem_of_getElem? hi3
    have hu':aN pv=false:=by simpa using hu
    have hcell:=aY9 (tabs:=G.tabs) (hsh:=PyData.keyHash G.w.params name) (t:=s.toks+1) (n':=putN name es n) hd hj hu' hr c1 c2 c3 c4 c5 c6 c7
    refine set_dict (prog:=G.prog) (w:=G.w) R1.fr Cx.X R1.nw (sY (R1.nw _ hi1).1 (R1.nw _ c1).1) rfl hs hp ht hh (rB _ (kG.str c5)) rfl (aD7 R1.nd c1) ?_ fun h' F' N'=> ?_
    ·refine cps fun GC hGC=> ?_
     obtain ⟨es',n1,d1,d2,d3,d4,d5,d6,d7⟩:=hcell
     refine hGC ?_
     have hnd:((eP N dx (dictOf (putL name (PyData.keyHash G.w.params name) (.str name (s.toks+1)) v es) (putN name es n))).map (·.1)).Nodup:=by rw [lW];exact R1.nd
     have hjl:j<vals.length:=c2▸(List.getElem?_eq_some_iff.mp hj).1
     have ej:vals[j]? =some vals[j]:=List.getElem?_eq_getElem hjl
     rcases c4 j name _ hj ej with ⟨_,hg⟩ | ⟨_,w,hg,_⟩
     ·rw [iM name _ _ v (kG.str c5) hg];exact lin2 (.l (.a .v0 .k1) (.k 1000)) (.l (.a .v0 .v1) .v2) (.l .v2 (.k 100)) (.w [1,1,1]) rfl (.n3 _ _ _) c6 c7
     ·rw [iK name _ _ v (kG.str c5) hg];exact lin2 (.l .v0 (.k 1000)) (.l (.a .v0 .v1) .v2) (.l .v2 (.k 100)) (.w [1,1,1]) rfl (.n3 _ _ _) c6 c7
    ·exact hQ h' (s.toks+2) rfl ⟨m,α,_,(R1.setCell hi3 c1 hcell F' N' (Nat.succ_pos _)).drop fun p hp=> .tail _ hp⟩
  ·cases hf
 ·cases hf
theorem aC6 {o e:Expr}{pos':Pos}{fo fe:PM PV} (ho:EvR G fi o fo) (he:EvR G fi e fe)
  (hj:(G.tabs.t id)[j]? =some name) (hs:findIn G.K (.ref C) "__setattr__" =some (some (.builtin "object.__setattr__"))) (hp:plainOver G.K C=true) (ht:takerIn G.K C name=some none) (hh:hasDictIn G.K C=true)
  (hsw:∀env,swapsWith e (some (.Attribute o name pos')) pos.line env=pure false):ExR G fi (.Assign [.Attribute o name pos'] e pos) (aW C id j fe fo):=by
 intro A h₀ L env Cx held s σ fl σ' Q E hf R hQ
 refine cps fun GC hGC=> ?_
 obtain ⟨pv,σ₁,h1,hf1⟩:=aG hf
 obtain ⟨qo,σ₂,h2,hf2⟩:=aG hf1
 refine hGC ?_
 refine plainObj_wpAny_Assign_Attribute (he A h₀ L env Cx held s σ pv σ₁ _ _ h1 R fun v h' t' R1=> ?_) (hsw env)
 refine ho A h₀ L env Cx _ _ σ₁ qo σ₂ _ _ h2 R1 fun vo h'' t'' R2=> ?_
 exact vZ Cx hj hs hp ht hh hf2 R2 fun h3 t3 e3 R3=>by subst e3;exact hQ .next h3 t3 R3.tail
noncomputable def qA (k:Nat) (x:PV):PM PV:=fun σ=>match bJ k σ with
 | some xs=>if xs.length<aD then (if aN x then .bad else .ok .none {σ with cells:=σ.cells.set k (.list (xs++[x]))}) else .bad
 | none=> .bad
theorem aC8 {α' β':Type}{xs:List α'}{ys:List β'} (h:xs.length=ys.length) (a:α') (b:β'):(xs++[a]).zip (ys++[b])=xs.zip ys++[(a,b)]:=by
 rw [List.zip_append h];rfl
set_option tactic.hygienic true in
theorem rM {x c:PV}{vx:Value}{d:Addr}
  {Q:Value→Shared→Prop}
  (hf:qA k x σ= .ok c σ') (R:RelAt G fi h₀ L σ held m α N s) (hk:α[k]? =some d) (hx:Rep α N x vx) (hQ:∀h' N',c= .none→RelAt G fi h₀ L σ' held m α N' (Sh s h' s.toks)→Q .none {s with heap:=h'}):
  ∃vs n,s.heap.get? d=some {cls:= .type "list",data:= .seq vs n}∧vs.size≤sizeLine∧
   ∀h',Heap.SameBut d s.heap h'→h'.get? d=some {cls:= .type "list",data:= .seq (vs.push vx) (n+1)}→Q .none {s with heap:=h'}:=by
 unfold qA at hf
 split at hf
 ·rename_i xs hxs
  split at hf
  ·rename_i hz
   split at hf
   ·cases hf
   ·rename_i hu
    cases hf
    refine cps fun GC hGC=> ?_
    obtain ⟨vs,n,h1,h2,h3,h4,_⟩:=R.listAt hxs hk
    refine hGC ?_
    refine ⟨vs.toArray,n,(R.nw _ h1).1,by rw [List.size_toArray, ←h2];exact bY (Nat.le_of_lt hz),fun h' hs ho=> ?_⟩
    have e:vs.toArray.push vx=(vs++[vx]).toArray:=by simp
    rw [e] at ho
    have hd:d∈α:=List.mem_of_getElem? hk
    refine hQ h' (eP N d ⟨.type "list",none, .seq (vs++[vx]).toArray (n+1), #[]⟩) rfl (R.setCell hk h1 ?_ (R.fr.change hs (R.notL h1).1 (R.notL h1).2) (_M.News.upd R.nw hs ho) R.tok)
    refine ⟨vs++[vx],n+1,iV h1,by simp [h2], ?_,by rw [List.length_append];exact hz⟩
    intro p hp
    rw [aC8 h2] at hp
    rcases List.mem_append.mp hp with hp | hp
    ·exact fJ hd (h3 p hp)
    ·rw [List.mem_singleton.mp hp];exact fJ hd hx
  ·cases hf
 ·cases hf
noncomputable def evL (fs:List (PM PV)):PM (List PV):=match fs with
 | []=>aL []
 | f::fs=>bnd f fun a=>bnd (evL fs) fun as=>aL (a::as)
inductive EvsR (G:Glb) (fi:FI):List Expr→List (PM PV)→Prop where
 | nil:EvsR G fi [] []
 | cons {e:Expr}{es:List Expr}{f:PM PV}{fs:List (PM PV)}:EvR G fi e f→(∀env,starEach (e::es) env=(false,eval e env)::starEach es env)→EvsR G fi es fs→EvsR G fi (e::es) (f::fs)
theorem oM {es:List Expr} (H:EvsR G fi es fs) (C:Cx G fi A h₀ L env):
  ∀{held:List (PV×Value)}{s:Shared}{σ σ':St}{pvs:List PV}{Q:List Value→Shared→Prop},
   evL fs σ= .ok pvs σ'→Rel G fi h₀ L σ held s→(∀vs h' t',pvs.length=vs.length→Rel G fi h₀ L σ' (pvs.zip vs++held) (Sh s h' t')→Q vs (Sh s h' t'))→
   wpAny (model G.prog G.w) A (spliced (backTo pos (starEach es env))) Q E s:=by
 induction H with
 | nil=>
  intro held s σ σ' pvs Q hf R hQ
  obtain ⟨rfl,rfl⟩:=aJ hf
  exact Calls.spliced_nil (hQ [] s.heap s.toks rfl R)
 | cons he hst _ ih=>
  intro held s σ σ' pvs Q hf R hQ
  refine cps fun GC hGC=> ?_
  obtain ⟨a,σ₁,h1,hf1⟩:=aG hf
  obtain ⟨as,σ₂,h2,hf2⟩:=aG hf1
  obtain ⟨rfl,rfl⟩:=aJ hf2
  refine hGC ?_
  rw [hst env]
  refine Calls.spliced_cons (he A h₀ L env C held s σ a σ₁ _ _ h1 R fun v h' t' R1=> ?_)
  refine ih h2 R1 fun vs h'' t'' hl R2=>hQ (v::vs) h'' t'' (by simp [hl]) (R2.drop fun p hp=> ?_)
  rw [List.zip_cons_cons,List.cons_append] at hp
  rcases List.mem_cons.mp hp with rfl | hp
  ·exact List.mem_append_right _ (.head _)
  ·rcases List.mem_append.mp hp with hp | hp
   ·exact List.mem_append_left _ hp
   ·exact List.mem_append_right _ (.tail _ hp)
noncomputable def cP (tup:Bool) (fs:List (PM PV)):PM PV:=bnd (evL fs) fun pvs=>if pvs.length≤aD then aL (.seq tup pvs) else bI
theorem RelAt.pushSeq (R:RelAt G fi h₀ L σ held m α N s) {tup:Bool}{xs:List PV}{vs:List Value}
  (hl:xs.length=vs.length) (hr:∀p∈xs.zip vs,Rep α N p.1 p.2):
  RelAt G fi h₀ L σ ((.seq tup xs, .ref s.heap.objs.size)::held) m α ((s.heap.objs.size,(⟨.type (if tup then "tuple" else "list"),Option.none, .seq vs.toArray 0, #[]⟩:Obj))::N)
   {s with heap:=s.heap.push ⟨.type (if tup then "tuple" else "list"),Option.none, .seq vs.toArray 0, #[]⟩}:=by
 have P:=R.push ⟨.type (if tup then "tuple" else "list"),Option.none, .seq vs.toArray 0, #[]⟩ rfl
 exact P.hold (.seq (.head _) R.fresh hl fun p hp=>(hr p hp).mono (fun q hq z=>⟨.tail _ hq,z⟩) (fun z_ z_ e=>e))
theorem aQ8 (H:EvsR G fi elts fs):EvR G fi (.Tuple elts k pos) (cP true fs):=by
 intro A h₀ L env C held s σ pv σ' Q E hf R hQ
 obtain ⟨pvs,σ₁,h1,hf1⟩:=aG hf
 split at hf1
 ·rename_i hz
  obtain ⟨rfl,rfl⟩:=aJ hf1
  refine Tuple_ (oM H C h1 R fun vs h' t' hl R1=> ?_)
  obtain ⟨m,α,N,R1⟩:=R1
  refine wpAny_newObj_type (hQ _ _ t' ⟨m,α,_,(R1.drop fun p hp=>List.mem_append_right _ hp).pushSeq (tup:=true) hl fun p hp=>R1.held p (List.mem_append_left _ hp)⟩) ?_
  show vs.toArray.size≤sizeLine
  rw [List.size_toArray, ←hl];exact bY hz
 ·cases hf1
theorem R_lst (H:EvsR G fi elts fs):EvR G fi (.List elts pos) (cP false fs):=by
 intro A h₀ L env C held s σ pv σ' Q E hf R hQ
 refine cps fun GC hGC=> ?_
 obtain ⟨pvs,σ₁,h1,hf1⟩:=aG hf
 refine hGC ?_
 split at hf1
 ·rename_i hz
  obtain ⟨rfl,rfl⟩:=aJ hf1
  refine List_ (oM H C h1 R fun vs h' t' hl R1=> ?_)
  refine cps fun GC hGC=> ?_
  obtain ⟨m,α,N,R1⟩:=R1
  refine hGC ?_
  refine wpAny_newObj_type (hQ _ _ t' ⟨m,α,_,(R1.drop fun p hp=>List.mem_append_right _ hp).pushSeq (tup:=false) hl fun p hp=>R1.held p (List.mem_append_left _ hp)⟩) ?_
  show vs.toArray.size≤sizeLine
  rw [List.size_toArray, ←hl];exact bY hz
 ·cases hf1
noncomputable def jS (fs:List (PM PV)):PM PV:=bnd (evL fs) fun pvs=>fun σ=>if pvs.length≤aD then .ok (.cell σ.cells.length) {σ with cells:=σ.cells++[.list pvs]} else .bad
theorem R_cell (H:EvsR G fi elts fs):EvR G fi (.List elts pos) (jS fs):=by
 intro A h₀ L env C held s σ pv σ' Q E hf R hQ
 obtain ⟨pvs,σ₁,h1,hf1⟩:=aG hf
 split at hf1
 ·rename_i hz
  cases hf1
  refine List_ (oM H C h1 R fun vs h' t' hl R1=> ?_)
  obtain ⟨m,α,N,R1⟩:=R1
  have hfr:∀p∈N,p.1≠h'.objs.size:=fun p hp=>Nat.ne_of_lt (R1.lt hp)
  have P:=(R1.drop (held':=held) fun p hp=>List.mem_append_right _ hp).pushCell (o:=⟨.type "list",Option.none, .seq vs.toArray 0, #[]⟩) (c:= .list pvs) rfl
   ⟨vs,0, .head _,hl,fun p hp=>gE hfr (R1.held p (List.mem_append_left _ hp)) _,hz⟩
  refine wpAny_newObj_type (hQ _ _ t' ⟨m,_,_,P.hold (.cell ?_)⟩) ?_
  ·rw [←R1.len];simp
  ·show vs.toArray.size≤sizeLine
   rw [List.size_toArray, ←hl];exact bY hz
 ·cases hf1
end
end
end _M
end
section
open PySem PySem.W PySem.Calls PyProof.Rows
namespace _M
section
variable {L f:Addr}{σ:St}{m:PySem.Str→Option Value}{i:Nat}{pv:PV}{h₀:Heap}{held:List (PV×Value)}{α:List Addr}{N:List (Addr×Obj)}{s:Shared}{pvs:List PV}{vs:List Value}
structure FnAt (G:Glb) (fi:FI) (f:Addr) (params:List PySem.Str) (body:List Stmt):Prop where
 ok:FIok fi
 gen:fi.scope.isGenerator=false
 co:fi.scope.isCoroutine=false
 nocell:∀x∈fi.scope.names,x.2≠ .cell
 bare:fi.cmp=false∧fi.base=[]∧fi.bind=[]∧fi.cbind=[]∧fi.top=false
 pre:fi.vnames.take params.length=params
 at_:∃oc od name ps dV kV doc pm an cdv ct osl,G.K.lookup f=some ⟨oc,od, .func (fnOf name fi.qual ps body fi.scope dV kV doc pm an cdv ct),osl⟩∧codeIn G.K cdv fi.qual=true∧
  ∀vs:List Value,vs.length=params.length→bindArgs (fnOf name fi.qual ps body fi.scope dV kV doc pm an cdv ct) ⟨vs,[]⟩=pure (params.zip vs)
theorem jR:∀(names:List (PySem.Str×NameKind)) (n:Nat) (acc:List (PySem.Str×Addr)),(∀x∈names,x.2≠ .cell)→cellsFrom n names acc=acc
 | [],_,_,_=>rfl
 | (y,k)::r,n,acc,h=>by
  unfold cellsFrom
  have hk:(k==NameKind.cell)=false:=by have:=h (y,k) (.head _);simpa using this
  rw [hk]
  exact jR r _ _ fun x hx=>h x (.tail _ hx)
theorem vS {q:PySem.Str}{sc:Scope}{cd:Value} (h:∀x∈sc.names,x.2≠ .cell):envOf q sc L f cd=envOfC q sc L f cd:=by
 unfold envOf envOfC
 rw [jR _ _ _ h]
noncomputable def cY (nv:Nat) (args:List PV):List PV:=args++List.replicate (nv-args.length) .unb
noncomputable def lZ:PV→Bool
 | .none=>true
 | .bool _=>true
 | .int _=>true
 | .str _=>true
 | _=>false
noncomputable def aF2 (n:Nat):PV→Bool
 | .none=>true
 | .bool _=>true
 | .int _=>true
 | .str _=>true
 | .cell k=>decide (k<n)
 | .inst _ k=>decide (k<n)
 | .seq _ xs=>xs.all lZ
 | .unb=>true
 | _=>false
noncomputable def forget (n:Nat) (p:PV):PV:=if aF2 n p then p else .other
noncomputable def eG (n:Nat):PCell→PCell
 | .list xs=> .list (xs.map (forget n))
 | .dct id vals=> .dct id (vals.map (forget n))
 | .bk id vals=> .bk id vals
noncomputable def fE (n:Nat) (cells:List PCell) (p:PV):Option PV:=
 if aF2 n p then some p else match p with
  | .cell k=>(match cells[k]? with
   | some (.list xs)=>if xs.all lZ then some (.seq false xs) else none
   | _=>none)
  | _=>none
noncomputable def aQ (nv:Nat) (F:PM Fl) (args:List PV):PM PV:=fun σ=>match F ⟨cY nv args,σ.cells⟩ with
 | .ok (.ret pv) σ'=> .ok pv ⟨σ.vars,σ'.cells⟩
 | .ok .next σ'=> .ok .none ⟨σ.vars,σ'.cells⟩
 | .ok _ _=> .bad
 | .exc σ'=> .exc ⟨σ.vars,σ'.cells⟩
 | .bad=> .bad
noncomputable def cE (nv:Nat) (F:PM Fl) (args:List PV):PM PV:=fun σ=>match aQ nv F args σ with
 | .ok pv σ'=>(match fE σ.cells.length σ'.cells pv with
  | some qv=> .ok qv ⟨σ.vars,(σ'.cells.take σ.cells.length).map (eG σ.cells.length)⟩
  | none=> .bad)
 | .exc σ'=> .exc ⟨σ.vars,(σ'.cells.take σ.cells.length).map (eG σ.cells.length)⟩
 | .bad=> .bad
section
variable {G:Glb}{fi:FI}
theorem pE {β:Type}:∀{ps:List PySem.Str}{vs:List β}{i:Nat}{x:PySem.Str}{v:β},ps.Nodup→ps[i]? =some x→vs[i]? =some v→(ps.zip vs).reverse.lookup x=some v
 | [],_,_,_,_,_,h,_=>by cases h
 | p::ps,[],_,_,_,_,_,h=>by cases h
 | p::ps,w::vs,0,x,v,nd,h1,h2=>by
  simp at h1 h2
  subst h1;subst h2
  rw [List.zip_cons_cons,List.reverse_cons,List.lookup_append]
  have:(ps.zip vs).reverse.lookup p=none:=by
   rw [List.lookup_eq_none_iff]
   intro q hq
   rw [List.mem_reverse] at hq
   have hq':q.1∈ps:=(List.of_mem_zip hq).1
   have hne:¬p=q.1:=fun e=>(List.nodup_cons.mp nd).1 (e▸hq')
   simpa using hne
  rw [this];simp [List.lookup]
 | p::ps,w::vs,i+1,x,v,nd,h1,h2=>by
  simp at h1 h2
  rw [List.zip_cons_cons,List.reverse_cons,List.lookup_append,pE (List.nodup_cons.mp nd).2 h1 h2]
  rfl
noncomputable def aO3 (fi:FI) (σ:St) (m:PySem.Str→Option Value):List (PV×Value):=(fi.vnames.zip σ.vars).filterMap fun p=>if aN p.2 then none else (m p.1).map fun v=>(p.2,v)
theorem aB3 {x:PySem.Str}{v:Value} (h1:fi.vnames[i]? =some x) (h2:σ.vars[i]? =some pv) (hu:aN pv=false) (hm:m x=some v):(pv,v)∈aO3 fi σ m:=
 List.mem_filterMap.mpr ⟨(x,pv),kI h1 h2,by rw [hu];simp [hm]⟩
theorem aB2 (R:RelAt G fi h₀ L σ held m α N s):∀p∈aO3 fi σ m,Rep α N p.1 p.2:=by
 intro p hp
 obtain ⟨q,hq,e⟩:=List.mem_filterMap.mp hp
 obtain ⟨i,hi⟩:=List.mem_iff_getElem?.mp hq
 rw [List.getElem?_zip_eq_some] at hi
 rcases R.vars i q.1 q.2 hi.1 hi.2 with h | ⟨hu,v,hv,hr⟩
 ·rw [h] at e;cases e
 ·rw [hu,hv] at e
  simp at e
  subst e
  exact hr
theorem gR (h:pvs.length=vs.length) (h1:pvs[i]? =some pv):∃v,vs[i]? =some v∧(pv,v)∈pvs.zip vs:=by
 have hi:i<vs.length:=h▸(List.getElem?_eq_some_iff.mp h1).1
 exact ⟨vs[i],List.getElem?_eq_getElem hi,kI h1 (List.getElem?_eq_getElem hi)⟩
section
variable {fj:FI}{L':Addr}{σ₂:St}{m2:PySem.Str→Option Value}{g:Heap}{H:List (PV×Value)}{α2:List Addr}{N2:List (Addr×Obj)}{s':Shared}
set_option tactic.hygienic true
noncomputable def mkOf (α:List Addr):List (PV×Value):=(List.range α.length).filterMap fun j=>(α[j]?).map fun a=>(.cell j, .ref a)
noncomputable def aA7 (fi:FI) (σ:St) (m:PySem.Str→Option Value) (α:List Addr) (held:List (PV×Value)):List (PV×Value):=mkOf α++(aO3 fi σ m++held)
theorem hc_rep (R0:RelAt G fi h₀ L σ held m α N s):∀p∈aA7 fi σ m α held,Rep α N p.1 p.2:=by
 refine fp (fun p hp=> ?_) (fp (aB2 R0) R0.held)
 obtain ⟨j,_,e⟩:=List.mem_filterMap.mp hp
 cases q:α[j]? with
 | none=>rw [q] at e;cases e
 | some a=>rw [q] at e;simp at e;subst e;exact .cell q
theorem mQ {params:List PySem.Str}{body:List Stmt}{h₁:Heap} (HF:FnAt G fj f params body) (hn:pvs.length=params.length) (hv:pvs.length=vs.length) (hu:∀p∈pvs,aN p=false) (hr:∀p∈pvs.zip vs,Rep α N p.1 p.2)
  (R0:RelAt G fi h₀ L σ held m α N s) (F':Fr g L' h₁ (fun y=>List.lookup y (params.zip vs).reverse)) (N':News g L' h₁ N):
  RelAt G fj g L' ⟨cY fj.vnames.length pvs,σ.cells⟩ (aA7 fi σ m α held) (fun y=>List.lookup y (params.zip vs).reverse) α N {s with heap:=h₁,toks:=s.toks+(params.zip vs).length}:=by
 have hpn:params.Nodup:=by rw [←HF.pre];exact HF.ok.nd.sublist (List.take_sublist _ _)
 refine ⟨F',N',R0.nd,R0.an,R0.len,R0.cells, ?_,hc_rep R0,Nat.lt_of_lt_of_le R0.tok (Nat.le_add_right _ _), ?_,R0.pin⟩
 rotate_left
 ·have:params.length≤fj.vnames.length:=by rw [←HF.pre];simp;exact lin1 (.l .v2 .v1) (.M 2 .v0 .v1) (.d 1 (.w [1,1,1]) (.w [0,1,1])) rfl (.n3 _ _ _) rfl
  simp [cY];exact lin3 (.q (.a .v0 .v3) .v1) (.q .v0 .v2) (.l .v2 .v1) (.b 3 .v1 .v0) (.b (.d 3 (.w [0, -1,1]) (.w [1, -1,1])) (.d 3 (.w [0,1,1]) (.w [0,1,1,1,1]))) rfl (.n4 _ _ _ _) hn this rfl
 intro i x qv e1 e2
 have e2':(cY fj.vnames.length pvs)[i]? =some qv:=e2
 unfold cY at e2'
 by_cases hi:i<pvs.length
 ·rw [List.getElem?_append_left hi] at e2'
  right
  obtain ⟨v,hv1,hv2⟩:=gR hv e2'
  have e3:params[i]? =some x:=by rw [←HF.pre,List.getElem?_take_of_lt (by exact lin2 (.t .v0 .v1) (.q .v2 .v1) (.t .v0 .v2) (.w [1,1,1]) rfl (.n3 _ _ _) hn hi)];exact e1
  exact ⟨hu qv (List.mem_of_getElem? e2'),v,pE hpn e3 hv1,hr _ hv2⟩
 ·rw [List.getElem?_append_right (Nat.le_of_not_lt hi)] at e2'
  exact .inl (List.mem_replicate.mp (List.mem_of_getElem? e2')).2
theorem pW {params:List PySem.Str}{body:List Stmt} (HF:FnAt G fj f params body) {A:Around}{env env0:Env}{outer:List Env}{base:Heap}{cdv:Value} (C:Cx0 G fi A h₀ L env) (hA:A.frames=some (env0::outer))
  (hdep:A.depth+1+2*fj.lv<900) (hun:A.units+3+20*fj.lv<9000) (B':Below A base (env0::outer) g) (X':G.K.In g) (T':Top G.p G.loose G.mean G.mg G.mb g):
  Cx G fj (A.deeper (envOf fj.qual fj.scope L' f cdv)) g L' (envOf fj.qual fj.scope L' f cdv):=by
 refine ⟨⟨HF.ok,fun z_=>⟨f,cdv,vS HF.nocell⟩,rfl,rfl,rfl,X',T',⟨A,base,env0::outer,envOf fj.qual fj.scope L' f cdv,B', ?_,rfl,HF.ok.kind⟩,C.hd, ?_, ?_, ?_,fun e=>by rw [HF.bare.2.2.2.2] at e;cases e⟩,hdep,hun⟩
 ·exact Around.frames_deeper hA
 ·rw [HF.bare.2.1];intro p hp;cases hp
 ·rw [HF.bare.2.2.1];intro p hp;cases hp
 ·rw [HF.bare.2.2.2.1];intro p hp;cases hp
theorem mL (R0:RelAt G fi h₀ L σ held m α N s) {s₂:Shared}{h₁:Heap} (R2:RelAt G fj g L' σ₂ H m2 α2 N2 s₂) (hH:∀p∈aA7 fi σ m α held,p∈H) (F3:Fr h₁ L s'.heap m) (N3:News h₁ L s'.heap N2) (ht:0<s'.toks):
  RelAt G fi h₁ L ⟨σ.vars,σ₂.cells⟩ held m α2 N2 s':=by
 refine ⟨F3,N3,R2.nd,R2.an,R2.len,R2.cells,fun i x qv e1 e2=> ?_,fun p hp=>R2.held p (hH p (List.mem_append_right _ (List.mem_append_right _ hp))),ht,R0.vlen,R2.pin⟩
 rcases R0.vars i x qv e1 e2 with h | ⟨hu',w,hw,_⟩
 ·exact .inl h
 ·exact .inr ⟨hu',w,hw,R2.held (qv,w) (hH _ (List.mem_append_right _ (List.mem_append_left _ (aB3 e1 e2 hu' hw))))⟩
theorem aL6 {s₂:Shared} (R2:RelAt G fj g L' σ₂ H m2 α2 N2 s₂) (hH:∀p∈aA7 fi σ m α held,p∈H):∀(j:Nat) (a:Addr),α[j]? =some a→α2[j]? =some a:=by
 intro j a hj
 have hm:((.cell j, .ref a):PV×Value)∈mkOf α:=List.mem_filterMap.mpr ⟨j,List.mem_range.mpr (List.getElem?_eq_some_iff.mp hj).1,by rw [hj];rfl⟩
 obtain ⟨b,hb1,hb2⟩:=(R2.held (.cell j, .ref a) (hH _ (List.mem_append_left _ hm))).cell_inv
 cases hb2;exact hb1
end
set_option tactic.hygienic true in
theorem oA {fj:FI}{params:List PySem.Str}{body:List Stmt}{F:PM Fl} (HF:FnAt G fj f params body) (HB:dN G fj body F)
  {A:Around}{env:Env} (C:Cx0 G fi A h₀ L env) (hdep:A.depth+1+2*fj.lv<900) (hun:A.units+3+20*fj.lv<9000)
  {σ':St}{R:Result→Shared→Prop}
  (hf:aQ fj.vnames.length F pvs σ= .ok pv σ') (hn:pvs.length=params.length) (hv:pvs.length=vs.length) (hu:∀p∈pvs,aN p=false) (hr:∀p∈pvs.zip vs,Rep α N p.1 p.2) (R0:RelAt G fi h₀ L σ held m α N s)
  (hQ:∀v h' t' α' N',RelAt G fi h₀ L σ' ((pv,v)::held) m α' N' (Sh s h' t')→(∀(j:Nat) (a:Addr),α[j]? =some a→α'[j]? =some a)→R (.ok (.ret v)) (Sh s h' t')):
  codeAny (model G.prog G.w) A (.call (.ref f) ⟨vs,[]⟩) R s:=by
 refine cps fun GC hGC=> ?_
 obtain ⟨oc,od,name,ps,dV,kV,doc,pm,an,cdv,ct,osl,hl,hcd,hb⟩:=HF.at_
 obtain ⟨A₀,base,outer,env0,B,hA,hfr,hek⟩:=C.B
 refine hGC ?_
 have hparams:∀p∈params,p∈fj.vnames:=fun p hp=>by rw [←HF.pre] at hp;exact List.mem_of_mem_take hp
 refine code_def B R0.fr C.X R0.nw C.T hA hfr hek hl hcd (by unfold recursionLimit;exact Q57 (.n2 _ _) hdep) (BindsTo.of_eq (hb vs (Q30 (.n3 _ _ _) hn hv)))
  (fun y hy=>HF.ok.loc HF.bare.1 y.1 (hparams y.1 (List.of_mem_zip hy).1)) (fun g L' h₁ FG F' N' B' X' T'=> ?_) HF.co HF.gen HF.ok.kind HF.nocell
 have Cj:=pW (L':=L') (cdv:=cdv) HF C hA hdep hun B' X' T'
 have Rj:=mQ HF hn hv hu hr R0 F' N'
 have key:∀(fl:Fl) (σ₂:St) (rv:PV),F ⟨cY fj.vnames.length pvs,σ.cells⟩= .ok fl σ₂→(fl= .ret rv∨(fl= .next∧rv= .none))→pv=rv→σ'=⟨σ.vars,σ₂.cells⟩→
   wpAny (model G.prog G.w) (A.deeper (envOf fj.qual fj.scope L' f cdv)) (execs body (envOf fj.qual fj.scope L' f cdv))
    (fun fl s'=>LeaveK h₀ L m g R (match fl with | .ret v=>v | _=> .none) s')
    (fun e s'=>wpAny (model G.prog G.w) (A.deeper (envOf fj.qual fj.scope L' f cdv)) (leaving (envOf fj.qual fj.scope L' f cdv) e) (fun z_ s''=>R (.error e) s'') (fun e' s''=>R (.error e') s'') s')
    {s with heap:=h₁,toks:=s.toks+(params.zip vs).length}:=by
  intro fl σ₂ rv hF hfl hpv hσ
  subst hpv;subst hσ
  refine HB _ g L' _ Cj _ _ _ fl σ₂ _ _ hF ⟨_,α,N,Rj⟩ fun flow h' t' FR=> ?_
  have fin:∀v,Rel G fj g L' σ₂ ((pv,v)::aA7 fi σ m α held) (Sh s h' t')→LeaveK h₀ L m g R v (Sh s h' t'):=by
   intro v R2
   obtain ⟨m2,α2,N2,R2⟩:=R2
   exact ⟨L',m2,N2,R2.fr,R2.nw,fun F3 N3=>hQ v h' t' α2 N2 ((mL R0 R2 (fun p hp=> .tail _ hp) F3 N3 R2.tok).hold (R2.held _ (.head _))) (aL6 R2 fun p hp=> .tail _ hp)⟩
  rcases hfl with rfl | ⟨rfl,rfl⟩
  ·induction flow with
   | ret v=>exact fin v FR
   | _=>exact FR.elim
  ·induction flow with
   | next=>exact fin .none (let ⟨m2,α2,N2,R2⟩:=FR;⟨m2,α2,N2,R2.hold .none⟩)
   | _=>exact FR.elim
 unfold aQ at hf
 split at hf
 ·rename_i rv σ₂ e;cases hf;exact key _ _ _ e (.inl rfl) rfl rfl
 ·rename_i σ₂ e;cases hf;exact key _ _ _ e (.inr ⟨rfl,rfl⟩) rfl rfl
 ·cases hf
 ·cases hf
 ·cases hf
end
end
section
variable {α:List Addr}{N:List (Addr×Obj)}{p pv:PV}{v:Value}{n:Nat}{vs:List Value}{h₀:Heap}{L:Addr}{held:List (PV×Value)}{m:PySem.Str→Option Value}{s:Shared}{A:Around}{env:Env}
inductive Bel (n:Nat):PV→Prop where
 | none:Bel n .none
 | bool {b:Bool}:Bel n (.bool b)
 | int {i:Int}:Bel n (.int i)
 | str {l:List Nat}:Bel n (.str l)
 | cell {k:Nat}:k<n→Bel n (.cell k)
 | inst {C:Addr}{k:Nat}:k<n→Bel n (.inst C k)
 | seq {tup:Bool}{xs:List PV}:(∀x∈xs,Bel n x)→Bel n (.seq tup xs)
 | mat {e:Int}:Bel n (.mat e)
 | bm {k:Nat}:k<n→Bel n (.bm k)
 | glob {v:Value}:Bel n (.glob v)
 | other:Bel n .other
theorem aM {β:Type}{l:List β}{k:Nat}{a:β} (h:l[k]? =some a):k<l.length:=(List.getElem?_eq_some_iff.mp h).1
theorem Rep.bel (h:Rep α N pv v):Bel α.length pv:=by
 induction h with
 | none=>exact .none
 | bool=>exact .bool
 | int=>exact .int
 | str=>exact .str
 | cell h=>exact .cell (aM h)
 | inst _ _ h=>exact .inst (aM h)
 | seq _ _ hl _ ih=>
  refine .seq fun x hx=> ?_
  obtain ⟨i,hi⟩:=List.mem_iff_getElem?.mp hx
  obtain ⟨w,_,hm⟩:=gR hl hi
  exact ih _ hm
 | mat=>exact .mat
 | bm _ _ h=>exact .bm (aM h)
 | glob=>exact .glob
 | other=>exact .other
theorem Rep.cut (h:Rep α N pv v):Bel n pv→Rep (α.take n) N pv v:=by
 have sub:∀{a:Addr},a∉α→a∉α.take n:=fun h q=>h (List.mem_of_mem_take q)
 have get:∀{k:Nat}{a:Addr},k<n→α[k]? =some a→(α.take n)[k]? =some a:=fun hk e=>by rw [List.getElem?_take_of_lt hk];exact e
 induction h with
 | none=>exact fun z_=> .none
 | bool=>exact fun z_=> .bool
 | int=>exact fun z_=> .int
 | str=>exact fun z_=> .str
 | cell h=>intro b;cases b;exact .cell (get (by assumption) h)
 | inst h1 h2 h3=>intro b;cases b;exact .inst h1 (sub h2) (get (by assumption) h3)
 | seq h1 h2 hl _ ih=>intro b;cases b;exact .seq h1 (sub h2) hl fun p hp=>ih p hp ((by assumption:∀x∈_,Bel n x) p.1 (List.of_mem_zip hp).1)
 | mat h1 h2 h3 h4=>exact fun z_=> .mat h1 (sub h2) h3 (sub h4)
 | bm h1 h2 h3=>intro b;cases b;exact .bm h1 (sub h2) (get (by assumption) h3)
 | glob=>exact fun z_=> .glob
 | other=>exact fun z_=> .other
theorem oT (h:lZ p=true):Bel n p:=by cases p <;> first | (cases h;done) | constructor
theorem oU (h:aF2 n p=true) (hu:aN p=false):Bel n p:=by
 cases p with
 | none=>exact .none
 | bool b=>exact .bool
 | int i=>exact .int
 | str l=>exact .str
 | cell k=>exact .cell (of_decide_eq_true h)
 | inst C k=>exact .inst (of_decide_eq_true h)
 | seq t xs=>exact .seq fun x hx=>oT (List.all_eq_true.mp h x hx)
 | mat e=>cases h
 | bm k=>cases h
 | glob v=>cases h
 | other=>cases h
 | unb=>cases hu
theorem kB (n:Nat) (p:PV):aN (forget n p)=aN p:=by
 unfold forget
 split
 ·rfl
 ·rename_i h
  cases p <;> first | rfl | exact absurd rfl h
theorem pQ (h:Rep α N pv v) (hu:aN pv=false):Rep (α.take n) N (forget n pv) v:=by
 unfold forget
 split
 ·rename_i hs;exact h.cut (oU hs hu)
 ·exact .other
theorem nU (h:Rep α N pv v):aN pv=false:=by induction h <;> rfl
theorem qM (n:Nat) (l:List PV):((l.map (forget n)).filter aN).length=(l.filter aN).length:=by
 induction l with
 | nil=>rfl
 | cons a l ih=>
  rw [List.map_cons]
  cases h:aN a with
  | true=>rw [List.filter_cons_of_pos (by rw [kB];exact h),List.filter_cons_of_pos h,List.length_cons,List.length_cons,ih]
  | false=>rw [List.filter_cons_of_neg (by rw [kB];simp [h]),List.filter_cons_of_neg (by simp [h]),ih]
theorem tT {xs:List PV}{f:PV→PV}{p:PV×Value} (h:p∈(xs.map f).zip vs):∃x,(x,p.2)∈xs.zip vs∧p.1=f x:=by
 rw [List.zip_map_left] at h
 obtain ⟨q,hq,rfl⟩:=List.mem_map.mp h
 exact ⟨q.1,hq,rfl⟩
theorem xK {tabs:Tabs}{a:Addr}{c:PCell} (h:fG tabs α N a c):fG tabs (α.take n) N a (eG n c):=by
 induction c with
 | list xs=>
  refine cps fun GC hGC=> ?_
  obtain ⟨vs,m,h1,h2,h3,h4⟩:=h
  refine hGC ?_
  refine ⟨vs,m,h1,by rw [List.length_map];exact h2,fun p hp=> ?_,by rw [List.length_map];exact h4⟩
  refine cps fun GC hGC=> ?_
  obtain ⟨x,hx,e⟩:=tT hp
  refine hGC ?_
  rw [e]
  exact pQ (h3 _ hx) (nU (h3 _ hx))
 | bk id vals=>exact h
 | dct id vals=>
  refine cps fun GC hGC=> ?_
  obtain ⟨es,m,h1,h2,h3,h4,h5,h6,h7⟩:=h
  refine hGC ?_
  refine ⟨es,m,h1,by rw [List.length_map];exact h2,h3, ?_,h5,by rw [qM];exact h6,h7⟩
  intro i x pv e1 e2
  rw [List.getElem?_map] at e2
  cases q:vals[i]? with
  | none=>rw [q] at e2;cases e2
  | some qv=>
   rw [q] at e2
   simp at e2
   subst e2
   rcases h4 i x qv e1 q with ⟨rfl,hg⟩ | ⟨hu,v,hg,hr⟩
   ·exact .inl ⟨rfl,hg⟩
   ·exact .inr ⟨by rw [kB];exact hu,v,hg,pQ hr hu⟩
section
variable {G:Glb}{fi:FI}
theorem RelAt.trunc {vars:List PV}{cells:List PCell} (hn:n≤α.length)
  (R:RelAt G fi h₀ L ⟨vars,cells⟩ held m α N s) (hv:∀pv∈vars,aN pv=false→Bel n pv) (hh:∀p∈held,Bel n p.1):
  RelAt G fi h₀ L ⟨vars,(cells.take n).map (eG n)⟩ held m (α.take n) N s:=by
 refine ⟨R.fr,R.nw,R.nd,R.an.sublist (List.take_sublist _ _), ?_, ?_, ?_,fun p hp=>(R.held p hp).cut (hh p hp),R.tok,R.vlen,fun p hp=>⟨(R.pin p hp).1,fun q=>(R.pin p hp).2 (List.mem_of_mem_take q)⟩⟩
 ·have:=R.len
  skip
  have hl:α.length=cells.length:=R.len
  simp [hl]
 ·intro k a c ha hc
  have hc':((cells.take n).map (eG n))[k]? =some c:=hc
  rw [List.getElem?_map] at hc'
  have hk:k<n:=by have:=aM ha;simp at this;exact Q31 (.n4 _ _ _ _) this rfl
  rw [List.getElem?_take_of_lt hk] at ha hc'
  cases q:cells[k]? with
  | none=>rw [q] at hc';cases hc'
  | some c0=>
   rw [q] at hc'
   simp at hc'
   subst hc'
   exact xK (R.cells k a c0 ha q)
 ·intro i x pv e1 e2
  rcases R.vars i x pv e1 e2 with h | ⟨hu,v,hv1,hr⟩
  ·exact .inl h
  ·exact .inr ⟨hu,v,hv1,hr.cut (hv pv (List.mem_of_getElem? e2) hu)⟩
set_option tactic.hygienic true in
theorem vV {fj:FI}{f:Addr}{params:List PySem.Str}{body:List Stmt}{F:PM Fl} (HF:FnAt G fj f params body) (HB:dN G fj body F)
  (C:Cx G fi A h₀ L env) (hlv:fj.lv<fi.lv)
  {σ σ':St}{pvs:List PV}{R:Result→Shared→Prop}
  (hf:cE fj.vnames.length F pvs σ= .ok pv σ') (hn:pvs.length=params.length) (hv:pvs.length=vs.length) (hu:∀p∈pvs,aN p=false) (hr:∀p∈pvs.zip vs,Rep α N p.1 p.2) (R0:RelAt G fi h₀ L σ held m α N s)
  (hQ:∀v h' t',Rel G fi h₀ L σ' ((pv,v)::held) (Sh s h' t')→R (.ok (.ret v)) (Sh s h' t')):
  codeAny (model G.prog G.w) A (.call (.ref f) ⟨vs,[]⟩) R s:=by
 unfold cE at hf
 split at hf
 ·rename_i rv σ₁ e1
  split at hf
  ·rename_i qv hb
   cases hf
   refine oA HF HB C.toCx0 (by have:=C.dep;exact Q6 (.n3 _ _ _) hlv this) (by have:=C.un;exact Q7 (.n3 _ _ _) hlv this) e1 hn hv hu hr R0 fun v h' t' α' N' R1 hα=>hQ v h' t' ?_
   have e1v:σ₁.vars=σ.vars:=by
    unfold aQ at e1
    split at e1 <;> cases e1 <;> rfl
   obtain ⟨vars1,cells1⟩:=σ₁
   simp only at e1v
   subst e1v
   have hln:α.length=σ.cells.length:=R0.len
   have hle:σ.cells.length≤α'.length:=by
    rw [←hln]
    by_cases h0:α.length=0
    ·exact Q58 (.n2 _ _) h0
    ·have hlt:α.length-1<α.length:=by exact Q59 (.n2 _ _) h0 rfl
     have:=hα (α.length-1) _ (List.getElem?_eq_getElem hlt)
     have:=aM this
     exact Q32 (.n3 _ _ _) this rfl
   have hvb:∀pv∈σ.vars,aN pv=false→Bel σ.cells.length pv:=by
    intro qv hq hqu
    obtain ⟨i,hi⟩:=List.mem_iff_getElem?.mp hq
    have hil:i<fi.vnames.length:=by have:=aM hi;have:=R0.vlen;exact Q60 (.n3 _ _ _) (by assumption) this
    rcases R0.vars i _ qv (List.getElem?_eq_getElem hil) hi with h | ⟨_,w,_,hr'⟩
    ·rw [h] at hqu;cases hqu
    ·rw [←hln];exact hr'.bel
   have hhb:∀p∈held,Bel σ.cells.length p.1:=fun p hp=>by rw [←hln];exact (R0.held p hp).bel
   have T:=(R1.drop (held':=held) fun p hp=> .tail _ hp).trunc hle hvb hhb
   refine ⟨m,α'.take σ.cells.length,N',T.hold ?_⟩
   have hrep:=R1.held (rv,v) (.head _)
   unfold fE at hb
   split at hb
   ·rename_i hs
    cases hb
    exact hrep.cut (oU hs (nU hrep))
   ·rename_i hs
    split at hb
    ·rename_i k
     split at hb
     ·rename_i xs hk
      split at hb
      ·rename_i hsc
       cases hb
       refine cps fun GC hGC=> ?_
       obtain ⟨a,ha,rfl⟩:=hrep.cell_inv
       obtain ⟨ws,n,c1,c2,c3,c4⟩:=R1.cells k a _ ha hk
       refine hGC ?_
       have hkn:¬k<σ.cells.length:=fun h=>hs (decide_eq_true h)
       refine .seq (tup:=false) (n:=n) c1 (fun hm=> ?_) c2 fun p hp=>(c3 p hp).cut (oT (List.all_eq_true.mp hsc _ (List.of_mem_zip hp).1))
       obtain ⟨i,hi⟩:=List.mem_iff_getElem?.mp hm
       have hin:i<σ.cells.length:=by have:=aM hi;simp at this;exact Q31 (.n4 _ _ _ _) this rfl
       rw [List.getElem?_take_of_lt hin] at hi
       have:=eV R1.an hi ha
       exact Q61 (.n3 _ _ _) hkn hin this
      ·cases hb
     ·cases hb
    ·cases hb
  ·cases hf
 ·cases hf
 ·cases hf
theorem lV {E:Value→Shared→Prop}{M:Model}{o:Expr}{name:PySem.Str}{apos pos:Pos}{args:List Expr}{Q:Value→Shared→Prop}
  (hbase:attributeBase o name env (eval o env)=eval o env)
  (hform:methodCallForm args.length (backTo pos (starEach args env)) []=true) (hline:(apos.endLine==pos.line)=true)
  (h:wpAny M A (eval o env) (fun ov s₁=>∀pl,wpAny M A (getMethod ov name pl) (fun r s₂=>wpAny M A (callWith pos r.1 r.2 (backTo pos (starEach args env)) []) Q E s₂) E s₁) E s):
  wpAny M A (eval (.Call (.Attribute o name apos) args [] pos) env) Q E s:=by
 rw [arm_eval_Call,hbase]
 refine wpAny_bind (wpAny_mono h (fun ov s₁ h₁=> ?_) fun z_ z_ e=>e)
 refine wpAny_bind (wpAny_standAt ?_)
 have hform':methodCallForm (args.length+([]:List Keyword).length) (backTo pos (starEach args env)) (backToKw pos (keywordEach [] env))=true:=hform
 have hpos:methodCallPos true o env apos pos=pure pos:=by unfold methodCallPos;simp [hline]
 unfold methodCall
 rw [hform']
 refine wpAny_bind (wpAny_holding (wpAny_mono (h₁ _) (fun r s₂ h₂=> ?_) fun z_ z_ e=>e))
 exact wpAny_bind (wpAny_of_eq hpos h₂)
end
end
section
variable {fs:List (PM PV)}{args es:List Expr}{h₀:Heap}{C L f:Addr}{np pos:Pos}{held:List (PV×Value)}{s:Shared}{σ:St}{pvs:List PV}{m:PySem.Str→Option Value}{α:List Addr}{N:List (Addr×Obj)}{fj:FI}{body:List Stmt}{F:PM Fl}{x:PySem.Str}{id na:Nat}
section
variable {G:Glb}{fi:FI}
theorem lO:∀{σ σ':St}{pvs:List PV},evL fs σ= .ok pvs σ'→pvs.length=fs.length:=by
 induction fs with
 | nil=>intro σ σ' pvs h;obtain ⟨rfl,_⟩:=aJ h;rfl
 | cons f fs ih=>
  intro σ σ' pvs h
  obtain ⟨a,σ₁,_,h1⟩:=aG h
  obtain ⟨as,σ₂,h2,h3⟩:=aG h1
  obtain ⟨rfl,_⟩:=aJ h3
  rw [List.length_cons,List.length_cons,ih h2]
theorem EvsR.plain (H:EvsR G fi es fs) (pos:Pos) (env:Env):(backTo pos (starEach es env)).any (·.1)=false:=by
 induction H with
 | nil=>rfl
 | cons _ hst _ ih=>rw [hst env];exact ih
theorem EvsR.all (H:EvsR G fi es fs) (pos:Pos) (env:Env):(backTo pos (starEach es env)).all (!·.1)=true:=by
 induction H with
 | nil=>rfl
 | cons _ hst _ ih=>rw [hst env];exact ih
theorem EvsR.lens (H:EvsR G fi es fs):es.length=fs.length:=by
 induction H with
 | nil=>rfl
 | cons _ _ _ ih=>rw [List.length_cons,List.length_cons,ih]
theorem dL (H:EvsR G fi es fs) {A:Around}{env:Env} (C:Cx G fi A h₀ L env) {f:Value} (hk:keepIn G.K f=true) {first:List Value}{E:Value→Shared→Prop}
  {σ':St}{Q:Value→Shared→Prop} (hf:evL fs σ= .ok pvs σ') (R:Rel G fi h₀ L σ held s)
  (hQ:∀vs h' t',pvs.length=vs.length→Rel G fi h₀ L σ' (pvs.zip vs++held) (Sh s h' t')→wpAny (model G.prog G.w) A (call f (first++vs)) Q E (Sh s h' t')):
  wpAny (model G.prog G.w) A (callWith pos f first (backTo pos (starEach es env)) []) Q E s:=by
 have kin:∀{σ:St}{held:List (PV×Value)}{s:Shared},Rel G fi h₀ L σ held s→G.K.In s.heap:=fun R=>let ⟨_,_,_,R⟩:=R;C.X.keeps R.fr.keep
 have key:=oM H C (pos:=pos) (E:=E) (Q:=fun vs s₁=>G.K.In s₁.heap∧wpAny (model G.prog G.w) A (call f (first++vs)) Q E s₁) hf R fun vs h' t' hl R1=>⟨kin R1,hQ vs h' t' hl R1⟩
 induction H with
 | nil=>
  obtain ⟨rfl,rfl⟩:=aJ hf
  exact callWith_K0 (kin R) hk (hQ [] s.heap s.toks rfl R)
 | cons he hst Hr=>exact callWith_K C.X hk key (hst env) (Hr.plain pos env)
theorem kH {vs:List Value} (hl:pvs.length=vs.length)
  (R:RelAt G fi h₀ L σ (pvs.zip vs++held) m α N s):(∀p∈pvs.zip vs,Rep α N p.1 p.2)∧∀p∈pvs,aN p=false:=by
 have h1:∀p∈pvs.zip vs,Rep α N p.1 p.2:=fun p hp=>R.held p (List.mem_append_left _ hp)
 refine ⟨h1,fun p hp=> ?_⟩
 obtain ⟨i,hi⟩:=List.mem_iff_getElem?.mp hp
 obtain ⟨v,_,hm⟩:=gR hl hi
 exact nU (h1 _ hm)
theorem bB6 {params:List PySem.Str} (hx:EvR G fi (.Name x np) (aI (.glob (.ref f))))
  (H:EvsR G fi args fs) (hk:keepIn G.K (.ref f)=true) (HF:FnAt G fj f params body) (HB:dN G fj body F) (hlv:fj.lv<fi.lv) (hn:fs.length=params.length):
  EvR G fi (.Call (.Name x np) args [] pos) (bnd (evL fs) (cE fj.vnames.length F)):=by
 intro A h₀ L env C held s σ pv σ' Q E hf R hQ
 obtain ⟨pvs,σ₁,h1,h2⟩:=aG hf
 skip
 refine wpAny_bind (hx A h₀ L env C held s σ _ σ _ _ rfl R fun fv h' t' R1=> ?_)
 obtain ⟨α,N,r⟩:=lH R1
 have:=r.glob_inv
 subst this
 refine dL H C hk h1 R1.tail fun vs h'' t'' hl R2=> ?_
 obtain ⟨m,α,N,R2⟩:=R2
 obtain ⟨z1,z2⟩:=kH hl R2
 refine wpAny_call (vV HF HB C hlv h2 (by rw [lO h1,hn]) hl z2 z1 (R2.drop (held':=held) fun p hp=>List.mem_append_right _ hp) fun v h3 t3 R3=>hQ v h3 t3 R3)
noncomputable def cG (C:Addr) (id:Nat) (fo:PM PV) (fs:List (PM PV)) (g:List PV→PM PV):PM PV:=bnd fo fun o=>fun σ=>match hM C o with
 | some k=>(match nA k id σ with
  | some _=>bnd (evL fs) (fun as=>g (o::as)) σ
  | none=> .bad)
 | none=> .bad
set_option tactic.hygienic true in
theorem aR0 {params:List PySem.Str}{name:PySem.Str}{o:Expr}{apos:Pos}{fo:PM PV}{T:Bool}
  (ho:EvR G fi o fo) (hbase:∀env,attributeBase o name env (eval o env)=eval o env) (hline:(apos.endLine==pos.line)=true) (hlen:fs.length<29)
  (hg:plainGet G.K C name=true) (hf:findIn G.K (.ref C) name=some (some (.ref f))) (hfn:isFn G.K (.ref f)=true) (hk:keepIn G.K (.ref f)=true) (hnot:name∉G.tabs.t id)
  (H:EvsR G fi args fs) (HF:FnAt G fj f params body) (HB:dN G fj body F) (hlv:fj.lv<fi.lv) (hn:fs.length+1=params.length):
  EvR G fi (.Call (.Attribute o name apos) args [] pos) (cG C id fo fs (if T then cE fj.vnames.length F else aQ fj.vnames.length F)):=by
 intro A h₀ L env Cx held s σ pv σ' Q E hf' R hQ
 refine cps fun GC hGC=> ?_
 obtain ⟨qo,σ₁,h1,h2⟩:=aG hf'
 refine hGC ?_
 refine lV (hbase env) ?_ hline (ho A h₀ L env Cx held s σ qo σ₁ _ _ h1 R fun vo h' t' R1=> ?_)
 ·unfold methodCallForm
  rw [H.all pos env,H.lens]
  simp;exact Q62 (.n1 _) hlen
 ·intro pl
  split at h2
  ·rename_i k hk1
   split at h2
   ·rename_i vals hv
    refine cps fun GC hGC=> ?_
    obtain ⟨pvs,σ₂,h3,h4⟩:=aG h2
    refine hGC ?_
    have ek:=gT hk1
    subst ek
    refine cps fun GC hGC=> ?_
    obtain ⟨m,α,N,R1'⟩:=(fun z=>z) R1
    obtain ⟨a,dx,rfl,hi1,hi2,hi3⟩:=(R1'.held (_,vo) (.head _)).inst_inv
    obtain ⟨es,n,c1,c2,c3,c4,c5,c6,c7⟩:=R1'.cells _ _ _ hi3 (gW hv)
    refine hGC ?_
    refine method_inst R1'.fr Cx.X (sY (R1'.nw _ hi1).1 (R1'.nw _ c1).1) hg hf hfn (kG.none hnot c5) ?_
    refine dL H Cx hk h3 R1 fun vs h'' t'' hl R2=> ?_
    refine cps fun GC hGC=> ?_
    obtain ⟨m,α,N,R2⟩:=R2
    obtain ⟨z1,z2⟩:=kH hl R2
    refine hGC ?_
    have hself:Rep α N (.inst C k) (.ref a):=R2.held _ (List.mem_append_right _ (.head _))
    have q1:((PV.inst C k)::pvs).length=params.length:=by rw [List.length_cons,lO h3,hn]
    have q2:((PV.inst C k)::pvs).length=([Value.ref a]++vs).length:=by simp [hl]
    have q3:∀p∈(PV.inst C k)::pvs,aN p=false:=fun p hp=>by
     rcases List.mem_cons.mp hp with rfl | hp
     ·rfl
     ·exact z2 p hp
    have q4:∀p∈((PV.inst C k)::pvs).zip ([Value.ref a]++vs),Rep α N p.1 p.2:=fun p hp=>by
     rcases List.mem_cons.mp hp with rfl | hp
     ·exact hself
     ·exact z1 p hp
    have R3:=R2.drop (held':=held) fun p hp=>List.mem_append_right _ (.tail _ hp)
    induction T
    ·exact wpAny_call (oA HF HB Cx.toCx0 (by have:=Cx.dep;exact Q6 (.n3 _ _ _) hlv this) (by have:=Cx.un;exact Q7 (.n3 _ _ _) hlv this) h4 q1 q2 q3 q4 R3 fun v h3 t3 α' N' R4 z_=>hQ v h3 t3 ⟨m,α',N',R4⟩)
    ·exact wpAny_call (vV HF HB Cx hlv h4 q1 q2 q3 q4 R3 fun v h3 t3 R4=>hQ v h3 t3 R4)
   ·cases h2
  ·cases h2
theorem lK (A:Around) (C:Addr) (vs:List Value) (kw:List (PySem.Str×Value)):(A.under (.builtin "type.__call__" ⟨.ref C::vs,kw⟩)).frames=A.frames:=by
 obtain ⟨a,b,c,d,e⟩:=A
 induction c <;> rfl
noncomputable def aA2 (C:Addr) (id na nv:Nat) (F:PM Fl) (fs:List (PM PV)):PM PV:=bnd (evL fs) fun as=>fun σ=>
 match aQ nv F (.inst C σ.cells.length::as) ⟨σ.vars,σ.cells++[.dct id (List.replicate na .unb)]⟩ with
 | .ok .none σ'=> .ok (.inst C σ.cells.length) σ'
 | _=> .bad
theorem RelAt.pushInst (R:RelAt G fi h₀ L σ held m α N s) {x dx:Addr}{h':Heap}
  (F:Fr h₀ L h' m) (N':News h₀ L h' ((x,instObj C dx)::(dx,dictOf [] 0)::N)) (l1:∀p∈N,p.1<dx) (l2:dx<x) (ht:(G.tabs.t id).length=na) (hnd:(G.tabs.t id).Nodup) (hna:na≤100):
  RelAt G fi h₀ L {σ with cells:=σ.cells++[.dct id (List.replicate na .unb)]} ((.inst C σ.cells.length, .ref x)::held) m (α++[dx]) ((x,instObj C dx)::(dx,dictOf [] 0)::N) {s with heap:=h'}:=by
 have hfr:∀p∈N,p.1≠dx:=fun p hp=>Nat.ne_of_lt (l1 p hp)
 have hfx:∀p∈(dx,dictOf [] 0)::N,p.1≠x:=fun p hp=>by
  rcases List.mem_cons.mp hp with rfl | hp
  ·exact Nat.ne_of_lt l2
  ·exact Nat.ne_of_lt (Nat.lt_trans (l1 p hp) l2)
 have hd:dx∉α:=fun h=>by obtain ⟨o,ho⟩:=R.alpha h;exact hfr _ ho rfl
 have hx:x∉α++[dx]:=fun h=>by
  rcases List.mem_append.mp h with h | h
  ·obtain ⟨o,ho⟩:=R.alpha h;exact hfx _ (.tail _ ho) rfl
  ·rw [List.mem_singleton] at h;exact Nat.ne_of_lt l2 h.symm
 have up:∀{pv v},Rep α N pv v→Rep (α++[dx]) ((x,instObj C dx)::(dx,dictOf [] 0)::N) pv v:=fun h=>
  (gE hfr h (dictOf [] 0)).mono (fun p hp q=>⟨.tail _ hp,q⟩) (fun z_ z_ e=>e)
 refine ⟨F,N', ?_, ?_,by rw [List.length_append,List.length_append,R.len];rfl, ?_, ?_, ?_,R.tok,R.vlen,fun p hp=>⟨.tail _ (.tail _ (R.pin p hp).1),fun q=>(List.mem_append.mp q).elim (R.pin p hp).2 fun q=>hfr p (R.pin p hp).1 (List.mem_singleton.mp q)⟩⟩
 ·rw [List.map_cons,List.map_cons,List.nodup_cons,List.nodup_cons]
  refine ⟨fun hm=> ?_,fun hm=> ?_,R.nd⟩
  ·have hm':x∈((dx,dictOf [] 0)::N).map (·.1):=hm
   obtain ⟨p,hp,e⟩:=List.mem_map.mp hm'
   exact hfx p hp e
  ·obtain ⟨p,hp,e⟩:=List.mem_map.mp hm
   exact hfr p hp e
 ·rw [List.nodup_append]
  exact ⟨R.an,by simp,fun a ha b hb=>by rw [List.mem_singleton] at hb;subst hb;exact fun e=>hd (e▸ha)⟩
 ·intro j a cj ha hcj
  have hcj':(σ.cells++[.dct id (List.replicate na .unb)])[j]? =some cj:=hcj
  by_cases hj:j<α.length
  ·rw [List.getElem?_append_left hj] at ha
   rw [List.getElem?_append_left (R.len▸hj)] at hcj'
   exact (R.cells j a cj ha hcj').mono (fun z_ h=> .tail _ (.tail _ h)) up
  ·rw [List.getElem?_append_right (Nat.le_of_not_lt hj)] at ha
   rw [List.getElem?_append_right (R.len▸Nat.le_of_not_lt hj)] at hcj'
   have hj0:j-α.length=0:=by
    cases q:j-α.length with
    | zero=>rfl
    | succ n=>rw [q] at ha;simp at ha
   rw [hj0] at ha
   rw [←R.len,hj0] at hcj'
   simp at ha hcj'
   subst ha;subst hcj'
   refine ⟨[],0, .tail _ (.head _),by simp [ht],hnd, ?_,(fun e he=>nomatch he), ?_,by exact lin2 (.l .v0 (.k 100)) (.q .v0 .v1) (.l .v1 (.k 100)) (.w [1,1,1]) rfl (.n2 _ _) ht hna⟩
   ·intro i y pv e1 e2
    exact .inl ⟨(List.mem_replicate.mp (List.mem_of_getElem? e2)).2,rfl⟩
   ·rw [ht,List.filter_replicate]
    simp [aN]
 ·intro i y qv e1 e2
  exact (R.vars i y qv e1 e2).imp (fun z=>z) fun ⟨q,v,e3,e4⟩=>⟨q,v,e3,up e4⟩
 ·intro p hp
  rcases List.mem_cons.mp hp with rfl | hp
  ·exact .inst (.head _) hx (by rw [←R.len];simp)
  ·exact up (R.held p hp)
theorem R_new {params:List PySem.Str} (hx:EvR G fi (.Name x np) (aI (.glob (.ref C))))
  (H:EvsR G fi args fs) (hk:keepIn G.K (.ref C)=true) (hm:makesIn G.K C=true) (hi:findIn G.K (.ref C) "__init__" =some (some (.ref f))) (hfn:isFn G.K (.ref f)=true)
  (HF:FnAt G fj f params body) (HB:dN G fj body F) (hlv:fj.lv+1<fi.lv) (hn:fs.length+1=params.length) (ht:(G.tabs.t id).length=na) (hnd:(G.tabs.t id).Nodup) (hna:na≤100):
  EvR G fi (.Call (.Name x np) args [] pos) (aA2 C id na fj.vnames.length F fs):=by
 intro A h₀ L env Cx' held s σ pv σ' Q E hf R hQ
 refine cps fun GC hGC=> ?_
 obtain ⟨pvs,σ₁,h1,h2⟩:=aG hf
 refine hGC ?_
 skip
 refine wpAny_bind (hx A h₀ L env Cx' held s σ _ σ _ _ rfl R fun fv h' t' R1=> ?_)
 refine cps fun GC hGC=> ?_
 obtain ⟨α,N,r⟩:=lH R1
 refine hGC ?_
 have:=r.glob_inv
 subst this
 refine dL H Cx' hk h1 R1.tail fun vs h'' t'' hl R2=> ?_
 refine cps fun GC hGC=> ?_
 obtain ⟨m,α,N,R2⟩:=R2
 refine hGC ?_
 refine call_cls R2.fr Cx'.X R2.nw hm hi hfn fun y dx h3 F3 N3 l1 l2=> ?_
 have R3:=R2.pushInst F3 N3 l1 l2 ht hnd hna
 refine cps fun GC hGC=> ?_
 obtain ⟨A₀,base,outer,env0,B,hA,hfr,hek⟩:=Cx'.B
 have Cu:Cx0 G fi (A.under (.builtin "type.__call__" ⟨.ref C::([]++vs),[]⟩)) h₀ L env:=
  ⟨Cx'.ok,Cx'.isenv,Cx'.sc,Cx'.glo,Cx'.bui,Cx'.X,Cx'.T,⟨A₀,base,outer,env0,B,by rw [lK];exact hA,hfr,hek⟩,Cx'.hd,Cx'.bs,Cx'.bd,Cx'.cb,fun e=>by rw [lK];exact Cx'.tp e⟩
 obtain ⟨z1,z2⟩:=kH hl R2
 refine hGC ?_
 have up:∀{pv v},Rep α N pv v→Rep (α++[dx]) ((y,instObj C dx)::(dx,dictOf [] 0)::N) pv v:=fun h=>
  (gE (fun p hp=>Nat.ne_of_lt (l1 p hp)) h (dictOf [] 0)).mono (fun p hp q=>⟨.tail _ hp,q⟩) (fun z_ z_ e=>e)
 split at h2
 ·rename_i σ₂ e2
  cases h2
  refine oA HF HB Cu (by rw [depth_under_make];have:=Cx'.dep;exact lin2 (.t (.a (.a (.a .v0 .k1) .k1) (.m 2 .v1)) (.k 900)) (.t (.a .v1 .k1) .v2) (.t (.a .v0 (.m 2 .v2)) (.k 900)) (.w [1,2,1]) rfl (.n3 _ _ _) hlv this) (by rw [units_under_make];have:=Cx'.un;exact lin2 (.t (.a (.a (.a .v0 .k1) (.k 3)) (.m 20 .v1)) (.k 9000)) (.t (.a .v1 .k1) .v2) (.t (.a .v0 (.m 20 .v2)) (.k 9000)) (.w [1,20,1]) rfl (.n3 _ _ _) hlv this) e2 (by rw [List.length_cons,lO h1,hn]) (by simp [hl]) ?_ ?_ R3 ?_
  ·intro p hp
   rcases List.mem_cons.mp hp with rfl | hp
   ·rfl
   ·exact z2 p hp
  ·intro p hp
   rcases List.mem_cons.mp hp with rfl | hp
   ·exact R3.held _ (.head _)
   ·exact up (z1 p hp)
  ·intro v h4 t4 α' N' R4 _
   have:=(R4.held (_,v) (.head _)).none_inv
   subst this
   refine ⟨rfl,hQ _ h4 t4 ⟨m,α',N',R4.drop fun p hp=> ?_⟩⟩
   rcases List.mem_cons.mp hp with rfl | hp
   ·exact .tail _ (.head _)
   ·exact .tail _ (.tail _ (List.mem_append_right _ hp))
 ·cases h2
end
end
section
variable {v:Value}{fs:List (PM PV)}{pos:Pos}{σ σ':St}{pvs:List PV}{args:List Expr}{l:List Nat}{vs:List Value}{a b:PV}
def wJ (G:Glb) (v:Value):Prop:=
 ∀(fi:FI) (A:Around) (h₀:Heap) (L:Addr) (env:Env),Cx G fi A h₀ L env→∀(es:List Expr) (fs:List (PM PV)),EvsR G fi es fs→∀(first:List Value) (pos:Pos) (E:Value→Shared→Prop)
  (held:List (PV×Value)) (s:Shared) (σ σ':St) (pvs:List PV) (Q:Value→Shared→Prop),evL fs σ= .ok pvs σ'→Rel G fi h₀ L σ held s→
  (∀vs h' t',pvs.length=vs.length→Rel G fi h₀ L σ' (pvs.zip vs++held) (Sh s h' t')→wpAny (model G.prog G.w) A (call v (first++vs)) Q E (Sh s h' t'))→
  wpAny (model G.prog G.w) A (callWith pos v first (backTo pos (starEach es env)) []) Q E s
def dX (G:Glb) (v:Value) (g:List PV→PM PV):Prop:=
 ∀(fi:FI) (A:Around) (h₀:Heap) (L:Addr) (env:Env),Cx G fi A h₀ L env→∀(held:List (PV×Value)) (s:Shared) (σ σ':St) (pvs:List PV) (vs:List Value) (c:PV) (Q:Value→Shared→Prop) (E:Value→Shared→Prop),
  g pvs σ= .ok c σ'→pvs.length=vs.length→Rel G fi h₀ L σ (pvs.zip vs++held) s→(∀v h' t',Rel G fi h₀ L σ' ((c,v)::held) (Sh s h' t')→Q v (Sh s h' t'))→wpAny (model G.prog G.w) A (call v vs) Q E s
section
variable {G:Glb}{fi:FI}
theorem eT {A:Around}{h₀:Heap}{L:Addr}{env:Env} (C:Cx G fi A h₀ L env) {es:List Expr} (H:EvsR G fi es fs) {E:Value→Shared→Prop}{f:Value}
  {held:List (PV×Value)}{s:Shared}{Q:Args→Shared→Prop} (hf:evL fs σ= .ok pvs σ') (R:Rel G fi h₀ L σ held s)
  (hQ:∀vs h' t',pvs.length=vs.length→Rel G fi h₀ L σ' (pvs.zip vs++held) (Sh s h' t')→Q {pos:=vs} (Sh s h' t')):
  wpAny (model G.prog G.w) A (evalArgs f true (backTo pos (starEach es env)) []) Q E s:=by
 have key:=oM H C (pos:=pos) (E:=E) (Q:=fun vs s₁=>Q {pos:=vs} s₁) hf R hQ
 induction H with
 | nil=>
  obtain ⟨rfl,rfl⟩:=aJ hf
  exact evalArgs_nil3 (hQ [] s.heap s.toks rfl R)
 | cons he hst Hr=>
  rw [hst env] at key ⊢
  exact Calls.evalArgs_plain key
theorem cw_builtin {id:String}:wJ G (.builtin id):=fun z_ z_ z_ z_ env C z_ z_ H z_ pos z_ z_ z_ z_ z_ z_ z_ hf R hQ=>
 Calls.callWith_builtin (H.plain pos env) (eT C H hf R fun vs h' t' hl R1=>hQ vs h' t' hl R1)
theorem cw_type {T:String}:wJ G (.type T):=fun z_ z_ z_ z_ env C z_ z_ H z_ pos z_ z_ z_ z_ z_ z_ z_ hf R hQ=>
 PySem.callWith_type (H.plain pos env) (eT C H hf R fun vs h' t' hl R1=>hQ vs h' t' hl R1)
theorem jI {x:PySem.Str}{np:Pos}{g:List PV→PM PV} (hx:EvR G fi (.Name x np) (aI (.glob v))) (H:EvsR G fi args fs) (cw:wJ G v) (hb:dX G v g):
  EvR G fi (.Call (.Name x np) args [] pos) (bnd (evL fs) g):=by
 intro A h₀ L env C held s σ pv σ' Q E hf R hQ
 obtain ⟨pvs,σ₁,h1,h2⟩:=aG hf
 skip
 refine wpAny_bind (hx A h₀ L env C held s σ _ σ _ _ rfl R fun fv h' t' R1=> ?_)
 obtain ⟨α,N,r⟩:=lH R1
 have:=r.glob_inv
 subst this
 exact cw fi A h₀ L env C args fs H [] pos E held _ σ σ₁ pvs Q h1 R1.tail fun vs h'' t'' hl R2=>hb fi A h₀ L env C held _ σ₁ σ' pvs vs pv Q E h2 hl R2 hQ
def qB (G:Glb) (T:String) (ok:PV→St→Bool):Prop:=
 ∀(fi:FI) (A:Around) (h₀:Heap) (L:Addr) (env:Env),Cx G fi A h₀ L env→∀(held:List (PV×Value)) (s:Shared) (σ:St) (pv:PV) (v:Value),ok pv σ=true→Rel G fi h₀ L σ ((pv,v)::held) s→
  s.TypeIs v T∧∀a,v= .ref a→∃o,s.heap.get? a=some o∧o.dict=none
noncomputable def aH (ok:PV→St→Bool) (fo:PM PV) (fs:List (PM PV)) (g:List PV→PM PV):PM PV:=bnd fo fun o=>fun σ=>if ok o σ then bnd (evL fs) (fun as=>g (o::as)) σ else .bad
theorem dW {T:String}{ok:PV→St→Bool}{name:PySem.Str}{id:String}{o:Expr}{apos:Pos}{fo:PM PV}{g:List PV→PM PV} (hs:qB G T ok) (pa:PlainAttrs T) (slot:Slot T name id)
  (hty:typeOf (.builtin id)=pure (.type "method_descriptor")) (ho:EvR G fi o fo) (hbase:∀env,attributeBase o name env (eval o env)=eval o env) (hline:(apos.endLine==pos.line)=true) (hlen:fs.length<29)
  (H:EvsR G fi args fs) (hb:dX G (.builtin id) g):EvR G fi (.Call (.Attribute o name apos) args [] pos) (aH ok fo fs g):=by
 intro A h₀ L env C held s σ pv σ' Q E hf R hQ
 refine cps fun GC hGC=> ?_
 obtain ⟨qo,σ₁,h1,h2⟩:=aG hf
 refine hGC ?_
 refine lV (hbase env) ?_ hline (ho A h₀ L env C held s σ qo σ₁ _ _ h1 R fun vo h' t' R1=> ?_)
 ·unfold methodCallForm
  rw [H.all pos env,H.lens]
  simp;exact Q62 (.n1 _) hlen
 ·intro pl
  split at h2
  ·rename_i hok
   refine cps fun GC hGC=> ?_
   obtain ⟨pvs,σ₂,h3,h4⟩:=aG h2
   obtain ⟨ht,hd⟩:=hs fi A h₀ L env C held _ σ₁ qo vo hok R1
   refine hGC ?_
   refine getMethod_builtin ht pa slot hty hd ?_
   refine cw_builtin fi A h₀ L env C args fs H [vo] pos E _ _ σ₁ σ₂ pvs Q h3 R1 fun vs h'' t'' hl R2=> ?_
   refine hb fi A h₀ L env C held _ σ₂ σ' (qo::pvs) ([vo]++vs) pv Q E h4 (by simp [hl]) (R2.drop fun p hp=> ?_) hQ
   rcases List.mem_cons.mp hp with rfl | hp
   ·exact List.mem_append_right _ (.head _)
   ·rcases List.mem_append.mp hp with hp | hp
    ·exact List.mem_append_left _ hp
    ·exact List.mem_append_right _ (.tail _ hp)
  ·cases h2
noncomputable def okStr:PV→St→Bool
 | .str _,_=>true
 | _,_=>false
noncomputable def okList:PV→St→Bool
 | .cell k,σ=>(bJ k σ).isSome
 | _,_=>false
theorem eH:qB G "str" okStr:=by
 intro fi A h₀ L env C held s σ pv v ok R
 cases pv <;> first | (cases ok;done) | skip
 obtain ⟨α,N,r⟩:=lH R
 obtain ⟨t,e9⟩:=r.str_inv;rw [e9];clear e9
 exact ⟨typeIs_str _ _ _,fun z_ e=>nomatch e⟩
theorem zS:qB G "list" okList:=by
 intro fi A h₀ L env C held s σ pv v ok R
 cases pv <;> first | (cases ok;done) | skip
 refine cps fun GC hGC=> ?_
 obtain ⟨xs,hx⟩:=Option.isSome_iff_exists.mp ok
 obtain ⟨m,α,N,R⟩:=R
 obtain ⟨a,ha,rfl⟩:=(R.held (_,v) (.head _)).cell_inv
 obtain ⟨vs,n,h1,h2,h3,h4,h5⟩:=R.listAt hx ha
 refine hGC ?_
 exact ⟨h5.typeIs,fun b e=>by cases e;exact ⟨_,(R.nw _ h1).1,rfl⟩⟩
theorem aK6 {β:Type}{l:List β}{n:Nat} (h:l.length=n+1):∃a r,l=a::r∧r.length=n:=by
 induction l with
 | nil=>cases h
 | cons a r=>exact ⟨a,r,rfl,Nat.succ.inj h⟩
theorem mI (h:vs.length=1):∃a,vs=[a]:=List.length_eq_one_iff.mp h
theorem mH (h:vs.length=2):∃a b,vs=[a,b]:=by
 obtain ⟨a,r,rfl,h'⟩:=aK6 h
 obtain ⟨b,rfl⟩:=mI h'
 exact ⟨a,b,rfl⟩
theorem kY (h:vs.length=3):∃a b c,vs=[a,b,c]:=by
 obtain ⟨a,r,rfl,h'⟩:=aK6 h
 obtain ⟨b,c,rfl⟩:=mH h'
 exact ⟨a,b,c,rfl⟩
theorem aW7 (h:vs.length=4):∃a b c d,vs=[a,b,c,d]:=by
 obtain ⟨a,r,rfl,h'⟩:=aK6 h
 obtain ⟨b,c,d,rfl⟩:=kY h'
 exact ⟨a,b,c,d,rfl⟩
noncomputable def g1 {α:Type} (f:PV→PM α):List PV→PM α
 | [a]=>f a
 | _=>bI
noncomputable def g2 {α:Type} (f:PV→PV→PM α):List PV→PM α
 | a::r=>g1 (f a) r
 | _=>bI
noncomputable def g3 {α:Type} (f:PV→PV→PV→PM α):List PV→PM α
 | a::r=>g2 (f a) r
 | _=>bI
noncomputable def g4 {α:Type} (f:PV→PV→PV→PV→PM α):List PV→PM α
 | a::r=>g3 (f a) r
 | _=>bI
inductive G1 {α:Type} (f:PV→PM α) (σ:St) (c:α) (σ':St):List PV→Prop
 | mk (a:PV) (h:f a σ= .ok c σ'):G1 f σ c σ' [a]
inductive G2 {α:Type} (f:PV→PV→PM α) (σ:St) (c:α) (σ':St):List PV→Prop
 | mk (a b:PV) (h:f a b σ= .ok c σ'):G2 f σ c σ' [a,b]
inductive G3 {α:Type} (f:PV→PV→PV→PM α) (σ:St) (c:α) (σ':St):List PV→Prop
 | mk (a b d:PV) (h:f a b d σ= .ok c σ'):G3 f σ c σ' [a,b,d]
inductive G4 {α:Type} (f:PV→PV→PV→PV→PM α) (σ:St) (c:α) (σ':St):List PV→Prop
 | mk (a b d e:PV) (h:f a b d e σ= .ok c σ'):G4 f σ c σ' [a,b,d,e]
theorem rE {α:Type}{f:PV→PM α}{c:α} (h:g1 f pvs σ= .ok c σ'):G1 f σ c σ' pvs:=by
 cases pvs with
 | nil=>cases h
 | cons a r=>cases r with
  | nil=>exact .mk a h
  | cons b r=>cases h
theorem jN {α:Type}{f:PV→PV→PM α}{c:α} (h:g2 f pvs σ= .ok c σ'):G2 f σ c σ' pvs:=by
 cases pvs with
 | nil=>cases h
 | cons a r=>cases rE (f:=f a) h with | mk b h=>exact .mk a b h
theorem aM0 {α:Type}{f:PV→PV→PV→PM α}{c:α} (h:g3 f pvs σ= .ok c σ'):G3 f σ c σ' pvs:=by
 cases pvs with
 | nil=>cases h
 | cons a r=>cases jN (f:=f a) h with | mk b d h=>exact .mk a b d h
theorem bD2 {α:Type}{f:PV→PV→PV→PV→PM α}{c:α} (h:g4 f pvs σ= .ok c σ'):G4 f σ c σ' pvs:=by
 cases pvs with
 | nil=>cases h
 | cons a r=>cases aM0 (f:=f a) h with | mk b d e h=>exact .mk a b d e h
noncomputable def onS {α:Type} (f:List Nat→PM α):PV→PM α
 | .str l=>f l
 | _=>bI
noncomputable def onI {α:Type} (f:Int→PM α):PV→PM α
 | .int i=>f i
 | _=>bI
noncomputable def on1 {α:Type} (f:Nat→PM α):List Nat→PM α
 | [c]=>f c
 | _=>bI
inductive OnS {α:Type} (f:List Nat→PM α) (σ:St) (c:α) (σ':St):PV→Prop
 | mk (l:List Nat) (h:f l σ= .ok c σ'):OnS f σ c σ' (.str l)
inductive OnI {α:Type} (f:Int→PM α) (σ:St) (c:α) (σ':St):PV→Prop
 | mk (i:Int) (h:f i σ= .ok c σ'):OnI f σ c σ' (.int i)
inductive On1 {α:Type} (f:Nat→PM α) (σ:St) (c:α) (σ':St):List Nat→Prop
 | mk (k:Nat) (h:f k σ= .ok c σ'):On1 f σ c σ' [k]
theorem cN {α:Type}{f:List Nat→PM α}{c:α} (h:onS f a σ= .ok c σ'):OnS f σ c σ' a:=by
 cases a <;> first | exact .mk _ h | cases h
theorem fQ {α:Type}{f:Int→PM α}{c:α} (h:onI f a σ= .ok c σ'):OnI f σ c σ' a:=by
 cases a <;> first | exact .mk _ h | cases h
theorem xB {α:Type}{f:Nat→PM α}{c:α} (h:on1 f l σ= .ok c σ'):On1 f σ c σ' l:=by
 cases l with
 | nil=>cases h
 | cons a r=>cases r with
  | nil=>exact .mk a h
  | cons b r=>cases h
noncomputable def mK:List PV→PM PV:=g1 fun a=>match a with
 | .str l=>fun σ=>if l.length≤aD then .ok (.int l.length) σ else .bad
 | .cell k=>fun σ=>match bJ k σ with
  | some xs=> .ok (.int xs.length) σ
  | none=> .bad
 | .seq tup xs=>fun σ=>if tup=false∧xs.length≤aD then .ok (.int xs.length) σ else .bad
 | _=>bI
theorem iO (h:l.length≤aD):mK [.str l] σ= .ok (.int l.length) σ:=if_pos h
theorem qY {k:Nat}{l:List PV} (h:bJ k σ=some l):mK [.cell k] σ= .ok (.int l.length) σ:=by
 show (match bJ k σ with
  | some xs=>(Res.ok (PV.int xs.length) σ:Res PV)
  | none=> .bad)=_
 rw [h]
theorem iY (h:pvs.length=vs.length) (e:pvs=[a]):∃v,vs=[v]:=mI (by rw [←h,e];rfl)
set_option tactic.hygienic true in
theorem b_len:dX G (.builtin "len") mK:=by
 intro fi A h₀ L env C held s σ σ' pvs vs c Q E hf hl R hQ
 replace q:=rE hf;clear hf;obtain ⟨a,hf⟩:=q
 obtain ⟨v,rfl⟩:=iY hl rfl
 replace R:Rel G fi h₀ L σ ((a,v)::held) s:=R
 cases a with
 | str l=>
  obtain ⟨α,N,r⟩:=lH R
  obtain ⟨t,e9⟩:=r.str_inv;rw [e9];clear e9
  replace hf:(if l.length≤aD then .ok (.int l.length) σ else .bad)=Res.ok c σ':=hf
  split at hf
  ·rename_i hz
   cases hf
   unfold aD at hz
   refine SBL.len (by rw [bP];exact Q12 (.n1 _) hz) ?_
   rw [bP]
   exact hQ _ s.heap (s.toks+2) ((R.tail.toks (Nat.succ_pos _)).holdP .int)
  ·cases hf
 | cell k=>
  replace hf:(match bJ k σ with
   | some xs=> .ok (.int xs.length) σ
   | none=> .bad)=Res.ok c σ':=hf
  split at hf
  ·rename_i xs hx
   cases hf
   refine cps fun GC hGC=> ?_
   obtain ⟨m,α,N,R'⟩:=R
   obtain ⟨a,ha,rfl⟩:=(R'.held (_,v) (.head _)).cell_inv
   obtain ⟨ws,n,h1,h2,h3,h4,h5⟩:=R'.listAt hx ha
   refine hGC ?_
   refine len_list h5 (by rw [List.size_toArray, ←h2];exact Q12 (.n1 _) h4) ?_
   rw [List.size_toArray, ←h2]
   exact hQ _ s.heap (s.toks+2) ⟨m,α,N,((R'.drop fun p hp=> .tail _ hp).toks (Nat.succ_pos _)).hold .int⟩
  ·cases hf
 | seq tup xs=>
  replace hf:(if tup=false∧xs.length≤aD then .ok (.int xs.length) σ else .bad)=Res.ok c σ':=hf
  split at hf
  ·rename_i hz
   obtain ⟨e,hz⟩:=hz
   cases hf
   subst e
   refine cps fun GC hGC=> ?_
   obtain ⟨m,α,N,R'⟩:=R
   obtain ⟨a,ws,n,rfl,h1,_,h2,h3⟩:=(R'.held (_,v) (.head _)).seq_inv
   refine hGC ?_
   unfold aD at hz
   refine len_list (items:=ws.toArray) ⟨_,(R'.nw _ h1).1,rfl,n,rfl⟩ (by rw [List.size_toArray, ←h2];exact Q12 (.n1 _) hz) ?_
   rw [List.size_toArray, ←h2]
   exact hQ _ s.heap (s.toks+2) ⟨m,α,N,((R'.drop fun p hp=> .tail _ hp).toks (Nat.succ_pos _)).hold .int⟩
  ·cases hf
 | _=>cases hf
noncomputable def jH:List PV→PM PV:=g2 fun a x=>match a with
 | .cell k=>qA k x
 | _=>bI
theorem dC (h:pvs.length=vs.length) (e:pvs=[a,b]):∃v w,vs=[v,w]:=mH (by rw [←h,e];rfl)
theorem vX:dX G (.builtin "list.append") jH:=by
 intro fi A h₀ L env C held s σ σ' pvs vs c Q E hf hl R hQ
 replace q:=jN hf;clear hf;obtain ⟨a,x,hf⟩:=q
 cases a with
 | cell k=>
  refine cps fun GC hGC=> ?_
  obtain ⟨v,u,rfl⟩:=dC hl rfl
  replace R:Rel G fi h₀ L σ ((.cell k,v)::(x,u)::held) s:=R
  obtain ⟨m,α,N,R'⟩:=R
  obtain ⟨a,ha,rfl⟩:=(R'.held (_,v) (.head _)).cell_inv
  obtain ⟨ws,n,w1,w2,w3⟩:=rM (Q:=Q) hf R' ha (R'.held (_,u) (.tail _ (.head _))) fun h' N' e R2=>by
   subst e;exact hQ .none h' s.toks ⟨m,α,N',(R2.drop fun p hp=> .tail _ (.tail _ hp)).hold .none⟩
  refine hGC ?_
  exact append_at (hsz:=w2) w1 fun h' hs ho=>w3 h' hs ho
 | _=>cases hf
noncomputable def isInt:PV→Bool
 | .glob (.type t)=>t == "int"
 | _=>false
noncomputable def isiG:List PV→PM PV:=g2 fun a b=>onI (fun z_=>fun σ=>bif isInt b then .ok (.bool true) σ else .bad) a
theorem aL3 (h:isInt b=true):b= .glob (.type "int"):=by
 cases b with
 | glob v=>induction v with
  | type t=>rw [eq_of_beq (show (t == "int")=true from h)]
  | _=>cases h
 | _=>cases h
theorem b_isi:dX G (.builtin "isinstance") isiG:=by
 intro fi A h₀ L env C held s σ σ' pvs vs c Q E hf hl R hQ
 replace q:=jN hf;clear hf;obtain ⟨a,b,hf⟩:=q
 replace q:=fQ hf;clear hf;obtain ⟨i,hf⟩:=q
 obtain ⟨v,u,rfl⟩:=dC hl rfl
 replace R:Rel G fi h₀ L σ ((.int i,v)::(b,u)::held) s:=R
 replace hf:(bif isInt b then Res.ok (.bool true) σ else .bad)=Res.ok c σ':=hf
 cases hb:isInt b with
 | true=>
  rw [hb] at hf
  cases hf
  rw [aL3 hb] at R
  obtain ⟨α,N,r1,r2⟩:=qK R
  have:=r1.glob_inv;subst this
  obtain ⟨t,e9⟩:=r2.int_inv;rw [e9];clear e9
  exact PySem.IsiPair.int_int (hQ _ s.heap s.toks (R.tail.tail.holdP .bool))
 | false=>rw [hb] at hf;cases hf
end
end
end _M
end
section
open PySem PySem.W PySem.Calls PyProof.Rows Builtin Builtin.Str
namespace _M
noncomputable def aZ (n:Nat):Nat→List Nat→List Nat
 | _,[]=>[]
 | col,c::r=>if c=9 then List.replicate (n-col%n) 32++aZ n (col+(n-col%n)) r else c::aZ n (if c==10||c==13 then 0 else col+1) r
theorem gK {n col c:Nat}{r:List Nat}:aZ n col (c::r)=if c=9 then List.replicate (n-col%n) 32++aZ n (col+(n-col%n)) r else c::aZ n (if c==10||c==13 then 0 else col+1) r:=rfl
theorem rG (n:Nat):∀(l:List Nat) (col:Nat),9∉l→aZ n col l=l
 | [],_,_=>rfl
 | c::r,col,h=>by
  rw [gK]
  have hc:c≠9:=fun e=>h (e▸ .head _)
  rw [if_neg hc,rG n r _ fun q=>h (.tail _ q)]
theorem gU (n:Nat):∀(l:List Nat) (col:Nat),(aZ n col l).length≤l.length*(n+1)
 | [],_=>by simp [aZ]
 | c::r,col=>by
  rw [gK]
  split
  ·have:=gU n r (col+(n-col%n))
   rw [List.length_append,List.length_replicate,List.length_cons,Nat.add_mul];exact lin2 (.l (.a .v4 .v2) (.a .v3 (.m 1 (.a .v0 .k1)))) (.l .v2 .v3) (.b 4 .v0 .v1) (.d 2 (.w [0,1,1,1]) (.w [0,1,1,1])) rfl (.n5 _ _ _ _ _) this rfl
  ·have:=gU n r (if c==10||c==13 then 0 else col+1)
   rw [List.length_cons,List.length_cons,Nat.add_mul];exact lin1 (.l (.a .v0 .k1) (.a .v1 (.m 1 (.a .v2 .k1)))) (.l .v0 .v1) (.w [1,1]) rfl (.n3 _ _ _) this
noncomputable def xO (n:Int) (c:Nat) (st:Array Nat×Nat):Sem (ForInStep (Array Nat×Nat)):=
 if (c==9)=true then
  (if tooLong (st.1.size+(if n>0 then n.toNat-st.2%n.toNat else 0))=true then (unsupported "str.expandtabs:memory" >>= fun (_:PUnit)=>pure (.yield (st.1++Array.replicate (if n>0 then n.toNat-st.2%n.toNat else 0) 32,st.2+(if n>0 then n.toNat-st.2%n.toNat else 0))))
  else pure (.yield (st.1++Array.replicate (if n>0 then n.toNat-st.2%n.toNat else 0) 32,st.2+(if n>0 then n.toNat-st.2%n.toNat else 0))))
 else pure (.yield (st.1.push c,if (c==10||c==13)=true then 0 else st.2+1))
theorem nJ (l:List Nat) (n:Int) (t u:Tok) (h0:0<n) (h1:n<2^31): «str.expandtabs» ⟨[.str ⟨l.toArray⟩ t, .int n u],[]⟩=
  (if (!l.toArray.contains 9)=true then (do rule "str.expandtabs.no-tab";ret (.str ⟨l.toArray⟩ t)) else (forIn l.toArray ((#[],0):Array Nat×Nat) (xO n) >>= fun r=>retStr ⟨r.1⟩)):=by
 have e1:(decide (n < -(2^31:Int))||decide (n≥2^31))=false:=by
  rw [Bool.or_eq_false_iff];exact ⟨decide_eq_false (lin1 (.n (.T .v0 (.g (.k 2147483648)))) (.T .k0 .v0) (.w [1,1]) rfl (.z _ .o) h0),decide_eq_false (lin1 (.n (.L (.k 2147483648) .v0)) (.T .v0 (.k 2147483648)) (.w [1,1]) rfl (.z _ .o) h1)⟩
 show (if (decide (n < -(2^31:Int))||decide (n≥2^31))=true then _ else
  (if (!l.toArray.contains 9)=true then (do rule "str.expandtabs.no-tab";ret (.str ⟨l.toArray⟩ t)) else (forIn l.toArray ((#[],0):Array Nat×Nat) (xO n) >>= fun r=>retStr ⟨r.1⟩)))=_
 rw [e1,if_neg Bool.false_ne_true]
theorem aN4 (n:Nat) (h0:0<n) (out:List Nat) (col:Nat) (ht:tooLong (out.length+(n-col%n))=false):
  xO n 9 (out.toArray,col)=pure (.yield ((out++List.replicate (n-col%n) 32).toArray,col+(n-col%n))):=by
 have hb':(if (n:Int)>0 then (n:Int).toNat-col%(n:Int).toNat else 0)=n-col%n:=by rw [if_pos (by exact Q33 (.n1 _) h0)];simp
 unfold xO
 rw [if_pos (by rfl)]
 simp only [hb',List.size_toArray,ht,Bool.false_eq_true,if_false]
 have e:out.toArray++Array.replicate (n-col%n) 32=(out++List.replicate (n-col%n) 32).toArray:=by simp
 rw [e]
theorem aB0 (n:Nat) (c:Nat) (hc:c≠9) (out:List Nat) (col:Nat):
  xO n c (out.toArray,col)=pure (.yield ((out++[c]).toArray,if (c==10||c==13)=true then 0 else col+1)):=by
 unfold xO
 rw [if_neg (by simp [hc])]
 have e:out.toArray.push c=(out++[c]).toArray:=by simp
 rw [e]
theorem mO (n:Nat) (h0:0<n) (hn:n≤64):∀(l:List Nat) (out:List Nat) (col:Nat),out.length+l.length*(n+1)≤2^24→
  (forIn l (out.toArray,col) (xO n):Sem (Array Nat×Nat)) >>= (fun r=>retStr ⟨r.1⟩)=retStr ⟨(out++aZ n col l).toArray⟩
 | [],out,col,_=>by simp [aZ]
 | c::r,out,col,hb=>by
  rw [List.forIn_cons]
  rw [List.length_cons,Nat.add_mul] at hb
  by_cases hc:c=9
  ·subst hc
   have hm:n-col%n≤n:=Nat.sub_le _ _
   have ht:tooLong (out.length+(n-col%n))=false:=by
    unfold tooLong sizeLine
    exact decide_eq_false (lin2 (.n (.t (.k 16777216) (.a .v0 .v3))) (.l (.a .v0 (.a .v2 (.m 1 (.a .v1 .k1)))) (.k 16777216)) (.l .v3 .v1) (.w [1,1,1]) rfl (.n4 _ _ _ _) hb hm)
   have ih:=mO n h0 hn r (out++List.replicate (n-col%n) 32) (col+(n-col%n)) (by rw [List.length_append,List.length_replicate];exact lin2 (.l (.a (.a .v0 .v3) .v2) (.k 16777216)) (.l (.a .v0 (.a .v2 (.m 1 (.a .v1 .k1)))) (.k 16777216)) (.l .v3 .v1) (.w [1,1,1]) rfl (.n4 _ _ _ _) hb hm)
   rw [aN4 n h0 out col ht]
   simp only [pure_bind]
   rw [ih]
   conv=>rhs;rw [gK]
   rw [if_pos rfl,List.append_assoc]
  ·have ih:=mO n h0 hn r (out++[c]) (if (c==10||c==13)=true then 0 else col+1) (by rw [List.length_append];simp;exact lin1 (.l (.a (.a .v0 .k1) .v1) (.k 16777216)) (.l (.a .v0 (.a .v1 (.m 1 (.a .v2 .k1)))) (.k 16777216)) (.w [1,1]) rfl (.n3 _ _ _) hb)
   rw [aB0 n c hc out col]
   simp only [pure_bind]
   rw [ih]
   conv=>rhs;rw [gK]
   rw [if_neg hc,List.append_assoc]
   rfl
theorem mN (l:List Nat) (n:Nat) (t u:Tok) (h0:0<n) (hn:n≤64) (hl:l.length≤65536):Gives («str.expandtabs» ⟨[.str ⟨l.toArray⟩ t, .int n u],[]⟩) (if l.contains 9 then .str ⟨(aZ n 0 l).toArray⟩ else .val (.str ⟨l.toArray⟩ t)):=by
 rw [nJ l n t u (Q33 (.n1 _) h0) (lin1 (.T (.c .v0) (.k 2147483648)) (.l .v0 (.k 64)) (.w [1,1]) rfl (.n1 _) hn)]
 have e:l.toArray.contains 9=l.contains 9:=by simp
 rw [e]
 cases h:l.contains 9 with
 | false=>exact .rule (.of_eq rfl)
 | true=>
  simp only [Bool.not_true,Bool.false_eq_true,if_false,if_true]
  rw [List.forIn_toArray]
  have:=mO n h0 hn l [] 0 (by
   have:l.length*(n+1)≤65536*65:=Nat.mul_le_mul hl (lin1 (.l (.a .v0 .k1) (.k 65)) (.l .v0 (.k 64)) (.w [1,1]) rfl (.n1 _) hn)
   simp;exact lin1 (.l .v0 (.k 16777216)) (.l .v0 (.m 65536 (.k 65))) (.w [1,1]) rfl (.n1 _) this)
  refine .of_eq ?_
  rw [show (#[]:Array Nat)=([]:List Nat).toArray from rfl,this]
  rfl
section
variable {c:Nat}{t:Tok}{Q:Value→Shared→Prop}
theorem tY:splitId "dict.__getitem__" =some ("dict","__getitem__"):=by kernel_rfl
theorem aS0:(Manifest.find? "dict").bind (·.attrs.lookup "__getitem__")=some .slot∨(Manifest.find? "dict").bind (·.attrs.lookup "__getitem__")=some .method:=by
 first | exact .inl (by decide +kernel) | exact .inr (by decide +kernel)
structure TransAt (K:Frag) (tab C:Addr) (f:Nat→Nat):Prop where
 typ:typeIn K (.ref tab)=some (.ref C)
 noseq:noSeq K C=true
 get:specialIn K (.ref tab) "__getitem__" =some (some (.builtin "dict.__getitem__"))
 ins:instIn K (.ref tab) (.type "dict")=some true
 at_:∃oc od es n sl,K.lookup tab=some ⟨oc,od, .dict es n,sl⟩∧IntKeys es∧∀c:Nat,c<128→∃i t e,es.findIdx? (fun e=>Value.isInt (c:Int) e.key)=some i∧es[i]? =some e∧e.val= .int (f c) t∧f c<128
section
variable {prog:Program}{w:World}{A:Around}{E:Value→Shared→Prop}{s:Shared}{K:Frag}{tab C:Addr}{f:Nat→Nat}
theorem aE2 (X:K.In s.heap) (T:TransAt K tab C f) (hc:c<128) (h:∀u k,Q (.int (f c) u) {s with toks:=k}):
  wpAny (model prog w) A («dict.__getitem__» ⟨[.ref tab, .int c t],[]⟩) (fun fin s'=>∃v,fin= .done (.ret v)∧Q v s') E s:=by
 refine cps fun GC hGC=> ?_
 obtain ⟨oc,od,es,n,sl,hl,hk,hv⟩:=T.at_
 obtain ⟨i,u,e,h1,h2,h3,_⟩:=hv c hc
 refine hGC ?_
 have ho:=X _ _ hl
 show wpAny _ A (do
  if let some v ←dictGet tab (.int c t) then return ←ret v
  match ←Builtin.Dict.missed tab (.int c t) with
  | some v=>ret v
  | none=>do
   if (←typeOf (.ref tab)) != .type "dict" then
    if let some r ←callSpecial? (.ref tab) "__missing__" [.int c t] then rule "dict.__getitem__.missing-hook";return ←ret r
   rule "dict.__getitem__.keyerror"
   raiseNew (←newExc (.type "KeyError") [.int c t])) _ E s
 refine wpAny_bind ?_
 unfold dictGet
 refine wpAny_holding ?_
 refine wpAny_bind (wpAny_pyHash_int (wpAny_bind (wpAny_dictFind_int (s:={s with toks:=s.toks+1}) ho rfl hk ?_)))
 rw [h1]
 refine wpAny_bind (wpAny_dictEntries (s:={s with toks:=s.toks+1}) ho rfl (wpAny_pure ?_))
 rw [h2]
 simp only [Option.map_some,h3]
 exact wpAny_pure ⟨_,rfl,h u (s.toks+1)⟩
theorem aE1 (X:K.In s.heap) (T:TransAt K tab C f) (hc:c<128)
  (h:∀u k,Q (.int (f c) u) {s with toks:=k}):wpAny (model prog w) A (getItem (.ref tab) (.int c t)) Q E s:=by
 unfold getItem
 refine wpAny_holding ?_
 have seq:∀{Q:Value→Shared→Prop},Q (.int c t) s→wpAny (model prog w) A (sequenceKey (.ref tab) (.int c t) "__getitem__") Q E s:=by
  intro Q q
  unfold sequenceKey
  refine wpAny_bind ((looks_typeIn X T.typ).here ?_)
  refine wpAny_bind ((anyM_none X T.noseq).here ?_)
  exact wpAny_pure q
 refine wpAny_bind (seq ?_)
 have bind:bindSpecial (.builtin "dict.__getitem__") (.ref tab)=pure (.builtin "dict.__getitem__",[.ref tab]):=slot_dict_getitem.bind _
 unfold callSpecial?
 refine wpAny_bind (wpAny_bind ((looks_specialIn X T.get).here ?_))
 refine wpAny_holding ?_
 rw [bind]
 refine wpAny_bind (wpAny_pure (wpAny_bind ?_))
 refine wpAny_call (codeAny_call_builtin slot_dict_getitem.plain entry_dict_getitem ?_)
 have hk:builtinKind "dict.__getitem__" =(Manifest.find? "dict").bind (·.attrs.lookup "__getitem__"):=by simp only [builtinKind,tY]
 have check:∀{Q:Unit→Shared→Prop}{E:Value→Shared→Prop},Q () s→wpAny (model prog w) A.in1 (checkBuiltinCall "dict.__getitem__" ⟨[.ref tab]++[.int c t],[]⟩) Q E s:=by
  intro Q E hQ
  have ha:=args_dict_getitem (.ref tab) (.int c t)
  rcases aS0 with h' | h' <;>
  ·simp only [checkBuiltinCall,hk,h',tY]
   refine wpAny_bind ((looks_instIn X T.ins).here ?_)
   simp only [Bool.not_true,Bool.false_eq_true,if_false]
   cases hsig:Manifest.signature? "dict.__getitem__" with
   | none=>exact wpAny_pure hQ
   | some sig=>
    simp only [argsOk,hsig] at ha
    have h2:Bind.checkArgs "dict.__getitem__" sig ⟨[.ref tab]++[.int c t],[]⟩=pure ():=ha
    show wpAny _ _ (Bind.checkArgs "dict.__getitem__" sig ⟨[.ref tab]++[.int c t],[]⟩) Q E s
    rw [h2];exact wpAny_pure hQ
 refine check ?_
 refine wpAny_mono (aE2 X T hc (Q:=fun v s'=>Q v s') h) (fun fin s' h'=> ?_) fun z_ z_ e=>e
 obtain ⟨v,rfl,hq⟩:=h'
 exact wpAny_pure (wpAny_pure hq)
end
end
section
section
variable {prog:Program}{w:World}{A:Around}{E:Value→Shared→Prop}{s:Shared}{K:Frag}{tab C:Addr}{f:Nat→Nat}
theorem wQ (X:K.In s.heap) (T:TransAt K tab C f) {c:Nat} (hc:c<128) {Q:Mapped→Shared→Prop} (h:∀k,Q (.char (f c)) {s with toks:=k}):
  wpAny (model prog w) A (tableLookup (.ref tab) c) Q E s:=by
 unfold tableLookup
 refine wpAny_bind (wpAny_attempt (wpAny_bind (wpAny_mkInt ?_)))
 refine aE1 (s:={s with toks:=s.toks+1}) X T hc fun u k=> ?_
 refine cps fun GC hGC=> ?_
 obtain ⟨_,_,_,_,_,_,_,hv⟩:=T.at_
 obtain ⟨_,_,_,_,_,_,hf⟩:=hv c hc
 refine hGC ?_
 refine wpAny_bind (wpAny_pure ?_)
 have e:((decide ((f c:Int)<0)||decide ((f c:Int)>0x10FFFF)))=false:=by
  rw [Bool.or_eq_false_iff];exact ⟨decide_eq_false (Q63 (.n1 _)),decide_eq_false (lin1 (.n (.T (.k 1114111) (.c .v0))) (.t .v0 (.k 128)) (.w [1,1]) rfl (.n1 _) hf)⟩
 show wpAny _ A (if (decide ((f c:Int)<0)||decide ((f c:Int)>0x10FFFF))=true then _ else pure (Mapped.char (f c:Int).toNat)) Q E _
 rw [e,if_neg Bool.false_ne_true]
 exact wpAny_pure (h k)
theorem joined (l:List Nat) (g:Nat→Nat):∀acc:Array Nat,(l.map fun c=>(⟨#[g c]⟩:PySem.Str)).foldl (fun acc p=>acc++p.cps) acc=acc++(l.map g).toArray:=by
 induction l with
 | nil=>intro acc;simp
 | cons a l ih=>intro acc;rw [List.map_cons,List.foldl_cons,ih];simp
set_option tactic.hygienic true in
inductive TrI (f:Nat→Nat) (L:List Nat) (s:Shared) (rest:List Nat):(List PySem.Str×Nat×Bool×List (Nat×Option Nat)×Bool)→Shared→Prop
 | mk (done:List Nat) (k:Nat) (known:List (Nat×Option Nat)) (e1:L=done++rest) (hk:∀c a,known.lookup c=some a→a=some (f c)):
  TrI f L s rest ((done.map fun c=>(⟨#[f c]⟩:PySem.Str)).reverse,done.length,true,known,false) {s with toks:=k}
theorem iv {f:Nat→Nat}{L rest:List Nat}{s:Shared}{P:(List PySem.Str×Nat×Bool×List (Nat×Option Nat)×Bool)→Shared→Prop}
  (h:∀(done:List Nat) (k:Nat) (known:List (Nat×Option Nat)),L=done++rest→(∀c a,known.lookup c=some a→a=some (f c))→P ((done.map fun c=>(⟨#[f c]⟩:PySem.Str)).reverse,done.length,true,known,false) {s with toks:=k}):
  ∀b s',TrI f L s rest b s'→P b s':=fun z_ z_ q=>match q with | .mk a b c d e=>h a b c d e
theorem aS1 (X:K.In s.heap) (T:TransAt K tab C f) {l:List Nat}{t:Tok} (hl:∀c∈l,c<128) (hz:l.length≤65536) {Q:Value→Shared→Prop} (h:∀u k,Q (.str ⟨(l.map f).toArray⟩ u) {s with toks:=k}):
  wpAny (model prog w) A («str.translate» ⟨[.str ⟨l.toArray⟩ t, .ref tab],[]⟩) (fun fin s'=>∃v,fin= .done (.ret v)∧Q v s') E s:=by
 unfold «str.translate»
 refine wpAny_bind (m:=strOneArg "translate" ⟨[.str ⟨l.toArray⟩ t, .ref tab],[]⟩) (wpAny_pure ?_)
 dsimp only
 induction l with
 | nil=>
  rw [if_pos (by rfl)]
  exact wpAny_bind (wpAny_rule (wpAny_bind (wpAny_pure (wpAny_bind (wpAny_pure (wpAny_pure ⟨_,rfl,h t s.toks⟩))))))
 | cons c0 l0=>
  generalize hL:c0::l0=L at *
  rw [if_neg (by rw [←hL];simp [PySem.Str.length])]
  refine wpAny_bind ?_
  have hall:(L.toArray.all fun x=>decide (x<128))=true:=by
   rw [List.all_toArray,List.all_eq_true];exact fun x hx=>decide_eq_true (hl x hx)
  rw [hall,List.forIn_toArray]
  have hf:∀c,c<128→f c<128:=fun c hc=>by
   obtain ⟨_,_,_,_,_,_,_,hv⟩:=T.at_
   obtain ⟨_,_,_,_,_,_,hf⟩:=hv c hc
   exact hf
  refine wpAny_forIn_list _ (TrI f L s) _ ?_ ?_ L _ (.mk [] s.toks [] rfl fun z_ z_ e=>by cases e)
  ·refine fun x rest=>iv fun done k known e1 hk=> ?_
   have hx:x<128:=hl x (by rw [e1];exact List.mem_append_right _ (.head _))
   have hlen:done.length<L.length:=by rw [e1];simp
   have ht:tooLong done.length=false:=by unfold tooLong sizeLine;exact decide_eq_false (lin2 (.n (.t (.k 16777216) .v0)) (.l .v1 (.k 65536)) (.t .v0 .v1) (.w [1,1,1]) rfl (.n2 _ _) hz hlen)
   skip
   rw [ht,if_neg Bool.false_ne_true,if_pos rfl]
   have next:∀(k':Nat) (known':List (Nat×Option Nat)),(∀c a,known'.lookup c=some a→a=some (f c))→
     TrI f L s rest ((⟨#[f x]⟩:PySem.Str)::(done.map fun c=>(⟨#[f c]⟩:PySem.Str)).reverse,done.length+1,true,known',false) {s with toks:=k'}:=fun k' known' hk'=>by
    have:=TrI.mk (s:=s) (done++[x]) k' known' (show L=(done++[x])++rest by rw [e1];simp) hk'
    rw [List.map_append,List.reverse_append,List.length_append] at this
    exact this
   split
   ·have:=hk x _ (by assumption)
    subst this
    refine wpAny_bind (wpAny_pure ?_)
    exact wpAny_pure (next k known hk)
   ·refine wpAny_bind (wQ (s:={s with toks:=k}) X T hx fun k2=> ?_)
    dsimp only
    rw [if_pos (hf x hx)]
    refine wpAny_bind (wpAny_pure ?_)
    refine wpAny_pure (next k2 ((x,some (f x))::known) fun c a e=> ?_)
    rw [List.lookup_cons] at e
    split at e
    ·rename_i hc
     have:c=x:=by simpa using hc
     subst this
     exact (Option.some.inj e).symm
    ·exact hk c a e
  ·refine iv fun done k known e1 hk=> ?_
   rw [List.append_nil] at e1
   subst e1
   skip
   have ht:tooLong L.length=false:=by unfold tooLong sizeLine;exact decide_eq_false (lin1 (.n (.t (.k 16777216) .v0)) (.l .v0 (.k 65536)) (.w [1,1]) rfl (.n1 _) hz)
   rw [ht,if_neg Bool.false_ne_true,List.reverse_reverse,joined]
   have e2:(#[]:Array Nat)++(L.map f).toArray=(L.map f).toArray:=by simp
   rw [e2]
   refine wpAny_bind (wpAny_mkStr (wpAny_pure ⟨_,rfl,h k (k+1)⟩) ?_)
   skip
   simp [PySem.Str.length,sizeLine_eq];exact lin1 (.l .v0 (.k 16777216)) (.l .v0 (.k 65536)) (.w [1,1]) rfl (.n1 _) hz
end
end
end _M
end
section
open PySem PySem.W PySem.Calls PyProof.Rows
namespace _M
section
variable {s:Shared}{x:PySem.Str}{pvs:List PV}{vs:List Value}{a b c:PV}{l:List Nat}{σ:St}{tab:Addr}
section
variable {G:Glb}{fi:FI}
theorem eX {t:Tok}:s.TypeIs (.str x t) "str" :=typeIs_str _ _ _
noncomputable def fM (pvs:List PV):PM PV:=if pvs.length=3
 then g3 (fun a b d=>onS (fun l=>onS (on1 fun c=>onI (fun i=>aL (.int (toI (dT l c (bE l.length i) (l.length-bE l.length i))))) d) b) a) pvs
 else g4 (fun a b d e=>onS (fun l=>onS (on1 fun c=>onI (fun i=>onI (fun j=>aL (.int (toI (dT l c (bE l.length i) (min (bE l.length j) l.length-bE l.length i))))) e) d) b) a) pvs
theorem oH (h:pvs.length=vs.length) (e:pvs=[a,b,c]):∃v w u,vs=[v,w,u]:=kY (by rw [←h,e];rfl)
theorem rF {d:PV} (h:pvs.length=vs.length) (e:pvs=[a,b,c,d]):∃v w u z,vs=[v,w,u,z]:=aW7 (by rw [←h,e];rfl)
theorem b_find:dX G (.builtin "str.find") fM:=by
 intro fi A h₀ L env C held s σ σ' pvs vs c Q E hf hl R hQ
 unfold fM at hf
 split at hf
 ·replace q:=aM0 hf;clear hf;obtain ⟨_,_,_,hf⟩:=q
  replace q:=cN hf;clear hf;obtain ⟨l,hf⟩:=q
  replace q:=cN hf;clear hf;obtain ⟨_,hf⟩:=q
  replace q:=xB hf;clear hf;obtain ⟨c,hf⟩:=q
  replace q:=fQ hf;clear hf;obtain ⟨i,hf⟩:=q
  obtain ⟨v1,v2,v3,rfl⟩:=oH hl rfl
  replace R:Rel G fi h₀ L σ ((.str l,v1)::(.str [c],v2)::(.int i,v3)::held) s:=R
  obtain ⟨rfl,rfl⟩:=aJ hf
  obtain ⟨m,α,N,R'⟩:=(fun z=>z) R
  obtain ⟨t1,rfl⟩:=(R'.held (_,v1) (.head _)).str_inv
  obtain ⟨t2,rfl⟩:=(R'.held (_,v2) (.tail _ (.head _))).str_inv
  obtain ⟨t3,rfl⟩:=(R'.held (_,v3) (.tail _ (.tail _ (.head _)))).int_inv
  exact call_gives F.slot_str_find eX F.entry_str_find (F.args_str_find_3 _ _ _) (vL l c i t1 t2 t3) (hQ _ s.heap (s.toks+1) ((R.tail.tail.tail.toks (Nat.succ_pos _)).holdP .int))
 ·replace q:=bD2 hf;clear hf;obtain ⟨_,_,_,_,hf⟩:=q
  replace q:=cN hf;clear hf;obtain ⟨l,hf⟩:=q
  replace q:=cN hf;clear hf;obtain ⟨_,hf⟩:=q
  replace q:=xB hf;clear hf;obtain ⟨c,hf⟩:=q
  replace q:=fQ hf;clear hf;obtain ⟨i,hf⟩:=q
  replace q:=fQ hf;clear hf;obtain ⟨j,hf⟩:=q
  obtain ⟨v1,v2,v3,v4,rfl⟩:=rF hl rfl
  replace R:Rel G fi h₀ L σ ((.str l,v1)::(.str [c],v2)::(.int i,v3)::(.int j,v4)::held) s:=R
  obtain ⟨rfl,rfl⟩:=aJ hf
  obtain ⟨m,α,N,R'⟩:=(fun z=>z) R
  obtain ⟨t1,rfl⟩:=(R'.held (_,v1) (.head _)).str_inv
  obtain ⟨t2,rfl⟩:=(R'.held (_,v2) (.tail _ (.head _))).str_inv
  obtain ⟨t3,rfl⟩:=(R'.held (_,v3) (.tail _ (.tail _ (.head _)))).int_inv
  obtain ⟨t4,rfl⟩:=(R'.held (_,v4) (.tail _ (.tail _ (.tail _ (.head _))))).int_inv
  exact call_gives F.slot_str_find eX F.entry_str_find (F.args_str_find_4 _ _ _ _) (vK l c i j t1 t2 t3 t4) (hQ _ s.heap (s.toks+1) ((R.tail.tail.tail.tail.toks (Nat.succ_pos _)).holdP .int))
noncomputable def oW:List PV→PM PV:=g4 fun a b d e=>onS (fun l=>onS (on1 fun c=>onI (fun i=>onI (fun j=>if i=0 then aL (.int (toI (dI l c (min (bE l.length j) l.length)))) else bI) e) d) b) a
theorem aZ7:dX G (.builtin "str.rfind") oW:=by
 intro fi A h₀ L env C held s σ σ' pvs vs c Q E hf hl R hQ
 replace q:=bD2 hf;clear hf;obtain ⟨_,_,_,_,hf⟩:=q
 replace q:=cN hf;clear hf;obtain ⟨l,hf⟩:=q
 replace q:=cN hf;clear hf;obtain ⟨_,hf⟩:=q
 replace q:=xB hf;clear hf;obtain ⟨c,hf⟩:=q
 replace q:=fQ hf;clear hf;obtain ⟨i,hf⟩:=q
 replace q:=fQ hf;clear hf;obtain ⟨j,hf⟩:=q
 split at hf
 ·rename_i hi0
  subst hi0
  obtain ⟨v1,v2,v3,v4,rfl⟩:=rF hl rfl
  replace R:Rel G fi h₀ L σ ((.str l,v1)::(.str [c],v2)::(.int 0,v3)::(.int j,v4)::held) s:=R
  obtain ⟨rfl,rfl⟩:=aJ hf
  obtain ⟨m,α,N,R'⟩:=(fun z=>z) R
  obtain ⟨t1,rfl⟩:=(R'.held (_,v1) (.head _)).str_inv
  obtain ⟨t2,rfl⟩:=(R'.held (_,v2) (.tail _ (.head _))).str_inv
  obtain ⟨t3,rfl⟩:=(R'.held (_,v3) (.tail _ (.tail _ (.head _)))).int_inv
  obtain ⟨t4,rfl⟩:=(R'.held (_,v4) (.tail _ (.tail _ (.tail _ (.head _))))).int_inv
  exact call_gives F.slot_str_rfind eX F.entry_str_rfind (F.args_str_rfind_4 _ _ _ _) (tD l c j t1 t2 t3 t4) (hQ _ s.heap (s.toks+1) ((R.tail.tail.tail.tail.toks (Nat.succ_pos _)).holdP .int))
 ·cases hf
noncomputable def vR:List PV→PM PV:=g2 fun a b=>onS (fun l=>onI (fun n=>if 0<n∧n≤64∧l.length≤65536 then aL (.str (aZ n.toNat 0 l)) else bI) b) a
theorem aY5 {n:Int} (h:0<n∧n≤64∧l.length≤65536):vR [.str l, .int n] σ= .ok (.str (aZ n.toNat 0 l)) σ:=congrFun (if_pos h) σ
theorem b_exp:dX G (.builtin "str.expandtabs") vR:=by
 intro fi A h₀ L env C held s σ σ' pvs vs c Q E hf hl R hQ
 replace q:=jN hf;clear hf;obtain ⟨_,_,hf⟩:=q
 replace q:=cN hf;clear hf;obtain ⟨l,hf⟩:=q
 replace q:=fQ hf;clear hf;obtain ⟨n,hf⟩:=q
 ·split at hf
  ·rename_i hc
   obtain ⟨h0,h1,h2⟩:=hc
   obtain ⟨v1,v2,rfl⟩:=dC hl rfl
   replace R:Rel G fi h₀ L σ ((.str l,v1)::(.int n,v2)::held) s:=R
   obtain ⟨rfl,rfl⟩:=aJ hf
   obtain ⟨α,N,r2,r1⟩:=qK R
   obtain ⟨t1,e9⟩:=r1.str_inv;rw [e9];clear e9
   obtain ⟨t2,e9⟩:=r2.int_inv;rw [e9];clear e9
   obtain ⟨k,rfl⟩:∃k:Nat,n=k:=⟨n.toNat,by exact lin2 (.Q .v0 (.c .v1)) (.T .k0 .v0) (.N 1 .v0) (.b (.d 2 (.w [0,1,1]) (.w [1,0,0,1])) (.d 2 (.w [0, -1,1]) (.w [1, -1,1]))) rfl (.z _ (.n1 _)) h0 rfl⟩
   refine call_gives F.slot_str_expandtabs eX F.entry_str_expandtabs (F.args_str_expandtabs_2 _ _) (mN l k t1 t2 (lin1 (.t .k0 .v0) (.T .k0 (.c .v0)) (.w [1,1]) rfl (.n1 _) h0) (lin1 (.l .v0 (.k 64)) (.L (.c .v0) (.k 64)) (.w [1,1]) rfl (.n1 _) h1) h2) ?_
   cases hc9:l.contains 9 with
   | false=>
    have hn:9∉l:=by rw [List.contains_eq_mem] at hc9;exact of_decide_eq_false hc9
    simp only [Bool.false_eq_true,if_false]
    have e:aZ (k:Int).toNat 0 l=l:=by rw [Int.toNat_natCast];exact rG k l 0 hn
    rw [e] at hQ
    exact hQ _ s.heap s.toks (R.tail.tail.holdP .str)
   | true=>
    simp only [if_true]
    refine ⟨?_, ?_⟩
    ·rw [bP]
     have:=gU k l 0
     have:l.length*(k+1)≤65536*65:=Nat.mul_le_mul h2 (lin1 (.l (.a .v0 .k1) (.k 65)) (.L (.c .v0) (.k 64)) (.w [1,1]) rfl (.n1 _) h1)
     rw [sizeLine_eq];exact lin2 (.l .v0 (.k 16777216)) (.l .v0 .v1) (.l .v1 (.m 65536 (.k 65))) (.w [1,1,1]) rfl (.n2 _ _) (by assumption) this
    ·rw [Int.toNat_natCast] at hQ
     exact hQ _ s.heap (s.toks+1) ((R.tail.tail.toks (Nat.succ_pos _)).holdP .str)
  ·cases hf
noncomputable def aL2 (tab:Addr):PV→Bool
 | .glob (.ref a)=>a==tab
 | _=>false
theorem vF (h:aL2 tab b=true):b= .glob (.ref tab):=by
 cases b with
 | glob v=>induction v with
  | ref a=>rw [eq_of_beq (show (a==tab)=true from h)]
  | _=>cases h
 | _=>cases h
noncomputable def trG (tab:Addr) (f:Nat→Nat):List PV→PM PV:=g2 fun a b=>onS (fun l=>if aL2 tab b=true∧l.all (· < 128)∧l.length≤65536 then aL (.str (l.map f)) else bI) a
theorem trG_go {f:Nat→Nat} (h1:l.all (· < 128)=true) (h2:l.length≤65536):trG tab f [.str l, .glob (.ref tab)] σ= .ok (.str (l.map f)) σ:=congrFun (if_pos ⟨beq_self_eq_true tab,h1,h2⟩) σ
theorem b_tr {C':Addr}{f:Nat→Nat} (T:TransAt G.K tab C' f):dX G (.builtin "str.translate") (trG tab f):=by
 intro fi A h₀ L env C held s σ σ' pvs vs c Q E hf hl R hQ
 replace q:=jN hf;clear hf;obtain ⟨_,b,hf⟩:=q
 replace q:=cN hf;clear hf;obtain ⟨l,hf⟩:=q
 ·split at hf
  ·rename_i hc
   obtain ⟨h0,h1,h2⟩:=hc
   obtain ⟨v1,v2,rfl⟩:=dC hl rfl
   replace R:Rel G fi h₀ L σ ((.str l,v1)::(b,v2)::held) s:=R
   rw [vF h0] at R
   obtain ⟨rfl,rfl⟩:=aJ hf
   obtain ⟨m,α,N,R'⟩:=(fun z=>z) R
   obtain ⟨t1,rfl⟩:=(R'.held (_,v1) (.head _)).str_inv
   have:=(R'.held (_,v2) (.tail _ (.head _))).glob_inv
   subst this
   have X:G.K.In s.heap:=C.X.keeps R'.fr.keep
   refine wpAny_call (codeAny_call_builtin F.slot_str_translate.plain F.entry_str_translate ?_)
   refine F.slot_str_translate.check _ _ _ _ _ _ _ _ eX (F.args_str_translate_2 _ _) ?_
   refine cO (wpAny_mono (aS1 X T (fun c hc=>of_decide_eq_true (List.all_eq_true.mp h1 c hc)) h2 (Q:=fun v s'=>s.toks≤s'.toks→Q v s') fun u k hk=>hQ _ s.heap k ((R.tail.tail.toks (Nat.lt_of_lt_of_le R.tok hk)).holdP .str)) (fun fin s' h' hk=> ?_) fun z_ z_ e z_=>e)
   obtain ⟨v,rfl,hq⟩:=h'
   exact hq hk
  ·cases hf
theorem mT {M:Model}{A:Around}{E:Value→Shared→Prop}{env:Env}{k:Nat}{p:Pos}{Q:Value→Shared→Prop} (h:Q (.str x s.toks) {s with toks:=s.toks+1}):
  wpAny M A (eval (.Constant (.str x) k p) env) Q E s:=fun z_ z_ z_=>h
noncomputable def nH (y z:List Nat):PV→Option PV
 | .str l=>if l.length≤65536 then some (.str (PySem.Txt.replace ⟨l.toArray⟩ ⟨y.toArray⟩ ⟨z.toArray⟩).cps.toList) else none
 | _=>none
set_option tactic.hygienic true in
theorem aC7 {o:Expr}{apos pos p1 p2:Pos}{k1 k2:Nat}{y z:List Nat}{ys zs:PySem.Str}{fo:PM PV} (ho:EvR G fi o fo) (hbase:∀env,attributeBase o "replace" env (eval o env)=eval o env) (hline:(apos.endLine==pos.line)=true)
  (hy:ys=⟨y.toArray⟩) (hz:zs=⟨z.toArray⟩) (hyz:(y==z)=false) (hzl:z.length≤14):
  EvR G fi (.Call (.Attribute o "replace" apos) [.Constant (.str ys) k1 p1, .Constant (.str zs) k2 p2] [] pos) (fL (nH y z) fo):=by
 intro A h₀ L env C held s σ pv σ' Q E hf R hQ
 obtain ⟨a,h1,h2⟩:=vA hf
 subst hy;subst hz
 refine lV (hbase env) rfl hline (ho A h₀ L env C held s σ a σ' _ _ h1 R fun vo h' t' R1=> ?_)
 intro pl
 unfold nH at h2
 split at h2
 ·rename_i l
  split at h2
  ·rename_i hl
   cases h2
   obtain ⟨α,N,r⟩:=lH R1
   obtain ⟨t,e9⟩:=r.str_inv;rw [e9];clear e9
   refine getMethod_builtin eX F.plainAttrs_str F.slot_str_replace F.type_str_replace (fun z_ e=>nomatch e) ?_
   refine Calls.callWith_builtin rfl (Calls.evalArgs_plain (Calls.spliced_cons ?_))
   refine mT (k:=k1) (p:=p1) (env:=env) ?_
   refine Calls.spliced_cons (mT (k:=k2) (p:=p2) (env:=env) ?_)
   refine Calls.spliced_nil ?_
   have ht:=R1.tok
   refine cO (SC.replaceW (s:={Sh s h' t' with toks:=t'+1+1}) (Nat.ne_of_gt ht) (Nat.succ_ne_zero _) (Nat.ne_of_lt (Nat.lt_succ_self _)) (by rw [xF];exact hyz) (by rw [bP];exact lin1 (.l .v0 (.k 1048576)) (.l .v0 (.k 65536)) (.w [1,1]) rfl (.n1 _) hl) (by rw [bP];exact hzl) fun u k hk=> ?_)
   have e:PySem.Txt.replace ⟨l.toArray⟩ ⟨y.toArray⟩ ⟨z.toArray⟩=⟨((PySem.Txt.replace ⟨l.toArray⟩ ⟨y.toArray⟩ ⟨z.toArray⟩).cps.toList).toArray⟩:=by simp
   rw [e]
   exact hQ _ h' k ((R1.tail.toks (Nat.lt_of_lt_of_le (Nat.succ_pos _) hk)).holdP .str)
  ·cases h2
 ·cases h2
end
end
end _M
end
section
open PySem PySem.W PySem.Calls PyProof.Rows
namespace _M
open Sem (wp)
section
variable {A:Around}{E Q:Value→Shared→Prop}{s:Shared}{c expr:Bool}{n:Nat}{tk:Tok}{x:Value}
theorem tA {α:Type}{M:Model}{a b:Sem α}{Q:α→Shared→Prop} (hc:c=false) (h:wpAny M A b Q E s):wpAny M A (if c=true then a else b) Q E s:=by
 subst hc;exact h
theorem vH {α:Type}{M:Model}{a b:Sem α}{Q:α→Shared→Prop} (hc:c=true) (h:wpAny M A a Q E s):wpAny M A (if c=true then a else b) Q E s:=by
 subst hc;exact h
theorem pF:typeLookup (.type "list") "append" =pure (some (.builtin "list.append")):=by rw [typeLookup_type,builtinLookup_eq_fast];kernel_rfl
theorem dH:typeOf (.builtin "list.append")=pure (.type "method_descriptor"):=by kernel_rfl
theorem iD:Slot "method_descriptor" "__get__" "method_descriptor.__get__" :=
 .of (owner:= "method_descriptor") (n:= "__get__") (by rw [typeLookup_type,builtinLookup_eq_fast];kernel_rfl) (by decide +kernel) (by decide +kernel) (by decide +kernel)
  (by first | exact .inl (by decide +kernel) | exact .inr (by decide +kernel)) (by rw [isSubtype_type];kernel_rfl)
theorem md_set:typeLookup (.type "method_descriptor") "__set__" =pure none:=by rw [typeLookup_type,builtinLookup_eq_fast];kernel_rfl
theorem md_del:typeLookup (.type "method_descriptor") "__delete__" =pure none:=by rw [typeLookup_type,builtinLookup_eq_fast];kernel_rfl
theorem tK:entryFor table "method_descriptor.__get__" =some Builtin.«method_descriptor.__get__»:=entryFor_of_tree (by kernel_rfl)
theorem wA (a b c:Value):argsOk "method_descriptor.__get__" ⟨[a,b,c],[]⟩:=by unfold argsOk;kernel_rfl
theorem lY:Manifest.toldItsClass.contains "list.append" =false:=by first | decide +kernel | kernel_rfl
theorem kR:(".".intercalate ("list.append".cutAt '.').dropLast)= "list" :=by
 have e0: "list.append".cutAt '.'=["list","append"]:=by first | rfl | decide +kernel
 rw [e0];decide +kernel
section
variable {prog:Program}{w:World}{A:Around}{E:Value→Shared→Prop}{h:Heap}{g:Array GenState}{d:Drawn}{t:Nat}{os:OsState}{a:Addr}{o:Obj}
theorem aZ9 {R:Result→Shared→Prop} (hx:h.get? a=some o) (hc:o.cls= .type "list")
  (hq:R (.ok (.ret (.ref h.objs.size))) ⟨h.push {cls:= .type "builtin_function_or_method",data:= .fields #[.builtin "list.append", .ref a]},g,d,t,os⟩):
  codeAny (model prog w) A (.call (.builtin "method_descriptor.__get__") ⟨[.builtin "list.append", .ref a, .type "list"],[]⟩) R ⟨h,g,d,t,os⟩:=by
 have hT:(⟨h,g,d,t,os⟩:Shared).TypeIs (.ref a) "list" :=⟨_,hx,hc⟩
 have hT5:(⟨h,g,d,t,os⟩:Shared).TypeIs (.builtin "list.append") "method_descriptor" :=dH
 refine codeAny_call_builtin iD.plain tK (iD.check _ _ _ _ _ _ _ _ hT5 (wA _ _ _) ?_)
 unfold Builtin.«method_descriptor.__get__»
 refine wpAny_bind (wpAny_of_eq (a:=(Value.builtin "list.append",some (.ref a),some (.type "list"))) (by first | rfl | kernel_rfl) ?_)
 simp only [lY,Bool.false_eq_true,if_false]
 show wpAny _ _ (do
   (do if !(←isInstance (.ref a) (.type (".".intercalate ("list.append".cutAt '.').dropLast))) then
      rule "descr.get.wrong-instance"
      raiseError "TypeError" s!"descriptor '{(("list.append".cutAt '.').getLastD "" : Str).toString}' for '{← typeName (.type (".".intercalate ("list.append".cutAt '.').dropLast))}' objects doesn't apply to a '{← typeNameOf (.ref a)}' object" :Sem Unit)
   let v ←newFields "builtin_function_or_method" [.builtin "list.append", .ref a]
   ret v) _ _ _
 refine wpAny_bind (wpAny_bind (wpAny_isInstance (T:= "list") (b:=true) hT (by rw [kR];rw [isSubtype_type];kernel_rfl) ?_))
 refine wpAny_pure (wpAny_bind ?_)
 exact wpAny_newObj_type (wpAny_pure hq)
theorem aC1 {vs:Array Value}{Q:Fin→Shared→Prop} (hx:h.get? a=some {cls:= .type "list",data:= .seq vs n})
  (hq:Q (.done (.ret (.ref h.objs.size))) ⟨h.push {cls:= .type "builtin_function_or_method",data:= .fields #[.builtin "list.append", .ref a]},g,d,t,os⟩):
  wpAny (model prog w) A (Builtin.«object.__getattribute__» ⟨[.ref a, .str "append" tk],[]⟩) Q E ⟨h,g,d,t,os⟩:=by
 have hT:(⟨h,g,d,t,os⟩:Shared).TypeIs (.ref a) "list" :=⟨_,hx,rfl⟩
 have hT5:(⟨h,g,d,t,os⟩:Shared).TypeIs (.builtin "list.append") "method_descriptor" :=dH
 have f4:=pF
 have f5:=dH
 have f6:=iD.lookup
 have f7:=md_set
 have f8:=md_del
 repeat (any_goals (first | assumption | wp_step))
 refine aZ9 hx rfl ?_
 repeat (any_goals (first | assumption | wp_step))
theorem aP5 {vs:Array Value}{R:Result→Shared→Prop} (hx:h.get? a=some {cls:= .type "list",data:= .seq vs n})
  (hq:R (.ok (.ret (.ref h.objs.size))) ⟨h.push {cls:= .type "builtin_function_or_method",data:= .fields #[.builtin "list.append", .ref a]},g,d,t,os⟩):
  codeAny (model prog w) A (.call (.builtin "list.__getattribute__") ⟨[.ref a, .str "append" tk],[]⟩) R ⟨h,g,d,t,os⟩:=
 codeAny_call_builtin F.slot_list_getattribute.plain F.entry_list_ga (F.slot_list_getattribute.check _ _ _ _ _ _ _ _ (show (⟨h,g,d,t,os⟩:Shared).TypeIs (.ref a) "list" from ⟨_,hx,rfl⟩) (F.args_list_getattribute_2 _ _) (aC1 hx hq))
theorem app_by {vs:Array Value}{fill:Bool} (hx:h.get? a=some {cls:= .type "list",data:= .seq vs n})
  (hq:Q (.ref h.objs.size) ⟨h.push {cls:= .type "builtin_function_or_method",data:= .fields #[.builtin "list.append", .ref a]},g,d,t,os⟩):wpAny (model prog w) A (getAttrBy (.ref a) (.str "append" tk) fill expr) Q E ⟨h,g,d,t,os⟩:=by
 have hT:(⟨h,g,d,t,os⟩:Shared).TypeIs (.ref a) "list" :=⟨_,hx,rfl⟩
 have f2:=F.slot_list_getattribute.lookup
 have f3:=F.slot_list_getattribute.bind (.ref a)
 have hx0:(expr&&onTheHeap (Value.builtin "list.__getattribute__"))=false:=by induction expr <;> rfl
 repeat (any_goals (first | assumption | wp_step))
 refine aP5 hx ?_
 repeat (any_goals (first | assumption | wp_step))
theorem aP6 {vs:Array Value} (hx:h.get? a=some {cls:= .type "list",data:= .seq vs n})
  (hq:Q (.ref h.objs.size) ⟨h.push {cls:= .type "builtin_function_or_method",data:= .fields #[.builtin "list.append", .ref a]},g,d,t+1,os⟩):wpAny (model prog w) A (getAttr (.ref a) "append" expr) Q E ⟨h,g,d,t,os⟩:=by
 unfold getAttr
 repeat (any_goals (first | assumption | with_reducible apply app_by hx | wp_step))
theorem nG:isSubtype (.type "list") (.type "module")=pure false:=by rw [isSubtype_type];kernel_rfl
theorem qF:isSubtype (.type "list") (.type "type")=pure false:=by rw [isSubtype_type];kernel_rfl
noncomputable def oQ (id:String):Manifest.Signature:=(Manifest.signature? id).getD ⟨.hand,"","", .none,[]⟩
theorem aT0:Manifest.signature? "list.append" =some (oQ "list.append"):=by first | rfl | kernel_rfl
theorem aL0:builtinKind "list.append" =some .method:=by first | kernel_rfl | decide +kernel
theorem tX:Manifest.varargsMethods.contains "list.append" =false:=by first | decide +kernel | kernel_rfl
theorem ca_app (a b:Value):Bind.checkArgs "list.append" {oQ "list.append" with full:=toString (Bind.lastOf "list")++toString "." ++ toString (Bind.lastOf "list.append")} ⟨[a,b],[]⟩=pure ():=by kernel_rfl
theorem aB7 {b:Addr}{Q:Unit→Shared→Prop}{vs:Array Value} (hb:h.get? b=some {cls:= .type "list",data:= .seq vs n}) (hq:Q () ⟨h,g,d,t,os⟩):
  wpAny (model prog w) A (checkBoundCall "list.append" ⟨[.ref b,x],[]⟩) Q E ⟨h,g,d,t,os⟩:=by
 have hT:(⟨h,g,d,t,os⟩:Shared).TypeIs (.ref b) "list" :=⟨_,hb,rfl⟩
 have f1:=aL0
 have f2:=tX
 have f3:=nG
 have f4:=qF
 unfold checkBoundCall
 rw [aT0]
 skip
 rw [f1]
 refine tA (by decide) ?_
 refine wpAny_bind (wpAny_isInstance hT f3 ?_)
 refine tA (by rw [f2];decide) ?_
 refine wpAny_bind (m:=isType (.ref b)) ?_
 repeat (any_goals (first | assumption | with_reducible exact wpAny_of_eq (ca_app _ _) hq | wp_step))
theorem aZ3 {b:Addr}{R:Result→Shared→Prop}{vs:Array Value} (hx:h.get? a=some {cls:= .type "builtin_function_or_method",data:= .fields #[.builtin "list.append", .ref b]})
  (hb:h.get? b=some {cls:= .type "list",data:= .seq vs n})
  (hq:codeAny (model prog w) A (.builtin "list.append" ⟨[.ref b,x],[]⟩) R ⟨h,g,d,t,os⟩):codeAny (model prog w) A (.call (.ref a) ⟨[x],[]⟩) R ⟨h,g,d,t,os⟩:=by
 refine codeAny_of_tree ?_
 show wpAny _ A.in1 (callAny (.ref a) ⟨[x],[]⟩) _ _ _
 unfold callAny
 dsimp only
 refine wpAny_bind (wpAny_load hx ?_)
 dsimp only
 refine vH (by decide) ?_
 refine vH (by decide) ?_
 refine wpAny_bind (aB7 hb ?_)
 refine wpAny_bind (wpAny_pure (wpAny_pure ?_))
 exact ⟨Code.quiet_builtin _ (by decide +kernel),hq⟩
end
section
variable {M:Model}{A:Around}{E:Value→Shared→Prop}{s:Shared}
theorem nD {pos:Pos}{u:Addr}{first:List Value}{args:List (Bool×Sem Value)} (hplain:args.any (·.1)=false)
  (h:wpAny M A (evalArgs (.ref u) true args []) (fun x s₁=>(∃vs,s₁.heap.get? u=some {cls:= .type "builtin_function_or_method",data:= .fields vs})∧wpAny M A (call (.ref u) (first++x.pos) x.kw) Q E s₁) E s):wpAny M A (callWith pos (.ref u) first args []) Q E s:=by
 unfold callWith
 refine wpAny_bind (wpAny_holding (wpAny_mono h (fun x s₁ h₁=>wpAny_bind (wpAny_standAt ?_)) fun z_ z_ x=>x))
 refine cps fun GC hGC=> ?_
 obtain ⟨⟨vs,ho⟩,hcall⟩:=h₁
 refine hGC ?_
 rw [hplain]
 show wpAny _ _ (keeperOf (.ref u) >>= _) _ _ _
 refine wpAny_bind (m:=keeperOf (.ref u)) ?_
 unfold keeperOf
 refine wpAny_bind (wpAny_load ho ?_)
 dsimp only
 refine vH (by decide) ?_
 refine wpAny_pure ?_
 exact wpAny_bind (wpAny_mono hcall (fun r s₂ hr=>wpAny_bind (wpAny_holding (wpAny_point (wpAny_pure hr)))) fun z_ z_ x=>x)
end
end
end _M
end
section
open PySem PySem.W PySem.Calls PyProof.Rows
namespace _M
section
variable {x:PySem.Str}{pos:Pos}{fx:PM PV}
theorem aC0 {prog:Program}{w:World}{A:Around}{E:Value→Shared→Prop}{s:Shared}{a D:Addr}{its:Array Value}{n:Nat}{x:Value}{Q:Value→Shared→Prop}
  (hx:s.heap.get? a=some {cls:= .type "builtin_function_or_method",data:= .fields #[.builtin "list.append", .ref D]}) (ho:s.heap.get? D=some {cls:= .type "list",data:= .seq its n})
  (h:∀h',Heap.SameBut D s.heap h'→h'.get? D=some {cls:= .type "list",data:= .seq (its.push x) (n+1)}→Q .none {s with heap:=h'}) (hsz:its.size≤sizeLine):
  wpAny (model prog w) A (call (.ref a) [x]) Q E s:=by
 refine wpAny_call ?_
 refine aZ3 hx ho (codeAny_builtin PySem.F.entry_list_append ?_)
 show wpAny _ _ (updateSeq D (·.push x) >>= fun z_=>ret .none) _ _ s
 refine wpAny_bind ?_
 refine wpAny_updateSeq ho rfl (wpAny_pure (h _ (Heap.SameBut.update ..) ?_))
 rw [Heap.get?_update_self _ ho (by rw [mapSeq_push];rfl),mapSeq_push]
section
variable {G:Glb}{fi:FI}
noncomputable def bmG:PV→PM PV
 | .cell k=>fun σ=>if (bJ k σ).isSome then .ok (.bm k) σ else .bad
 | _=>bI
set_option tactic.hygienic true in
theorem R_bm {xp:Pos} (hx:EvR G fi (.Name x xp) fx)
  (hbase:∀env,eval (.Attribute (.Name x xp) "append" pos) env=(do let o ←eval (.Name x xp) env;standAt pos.atName;let r ←holding [o] (getAttr o "append" true);letTemporaryGo (.Name x xp) o r;pure r)):
  EvR G fi (.Attribute (.Name x xp) "append" pos) (bnd fx bmG):=by
 intro A h₀ L env C held s σ pv σ' Q E hf R hQ
 refine cps fun GC hGC=> ?_
 obtain ⟨o,σ₁,h1,hf1⟩:=aG hf
 refine hGC ?_
 refine Attribute_Name_ (hx A h₀ L env C held s σ o σ₁ _ _ h1 R fun vo h' t' R1=> ?_) (hbase env)
 unfold bmG at hf1
 split at hf1
 ·rename_i k
  split at hf1
  ·rename_i hs
   cases hf1
   refine cps fun GC hGC=> ?_
   obtain ⟨xs,hxs⟩:=Option.isSome_iff_exists.mp hs
   obtain ⟨m,α,N,R1⟩:=R1
   obtain ⟨a,ha,rfl⟩:=(R1.held (_,vo) (.head _)).cell_inv
   obtain ⟨vs,n,w1,w2,w3,w4,_⟩:=R1.listAt hxs ha
   refine hGC ?_
   have P:=(R1.drop (held':=held) fun p hp=> .tail _ hp).push ⟨.type "builtin_function_or_method",none, .fields #[.builtin "list.append", .ref a], #[]⟩ rfl
   refine aP6 (R1.nw _ w1).1 (hQ _ _ (t'+1) ⟨m,α,_,(P.toks (Nat.succ_pos _)).hold (.bm (.head _) R1.fresh ha)⟩)
  ·cases hf1
 ·cases hf1
noncomputable def fK (fx fa:PM PV):PM PV:=bnd fx fun o=>bnd fa fun x=>match o with
 | .bm k=>qA k x
 | _=>bI
set_option tactic.hygienic true in
theorem R_push {np:Pos}{e:Expr}{fa:PM PV} (hx:EvR G fi (.Name x np) fx) (ha:EvR G fi e fa) (hst:∀env,starEach [e] env=[(false,eval e env)]):
  EvR G fi (.Call (.Name x np) [e] [] pos) (fK fx fa):=by
 intro A h₀ L env C held s σ pv σ' Q E hf R hQ
 refine cps fun GC hGC=> ?_
 obtain ⟨qo,σ₁,h1,hf1⟩:=aG hf
 obtain ⟨qx,σ₂,h2,hf2⟩:=aG hf1
 refine hGC ?_
 split at hf2
 ·rename_i k
  show wpAny _ A (do callWith pos (←eval (.Name x np) env) [] (backTo pos (starEach [e] env)) (backToKw pos (keywordEach [] env))) Q E s
  refine wpAny_bind (hx A h₀ L env C held s σ _ σ₁ _ _ h1 R fun fv h' t' R1=> ?_)
  refine cps fun GC hGC=> ?_
  obtain ⟨α0,N0,r0⟩:=lH R1
  obtain ⟨u,b0,rfl, -, -, -⟩:=r0.bm_inv
  refine hGC ?_
  have H:EvsR G fi [e] [fa]:= .cons ha (fun env=>hst env) .nil
  refine nD (H.plain pos env) ?_
  have he:evL [fa] σ₁= .ok [qx] σ₂:=by
   unfold evL bnd;rw [h2];rfl
  refine eT C H (pvs:=[qx]) he R1 fun vs h'' t'' hl R2=> ?_
  refine cps fun GC hGC=> ?_
  obtain ⟨va,rfl⟩:=iY hl rfl
  have R2:Rel G fi h₀ L σ₂ ((qx,va)::(.bm k, .ref u)::held) (Sh s h'' t''):=R2
  obtain ⟨m,α,N,R'⟩:=R2
  obtain ⟨u2,b2,eu2,g1,g2,g3⟩:=(R'.held (_,Value.ref u) (.tail _ (.head _))).bm_inv
  refine hGC ?_
  cases eu2
  refine ⟨⟨_,(R'.nw _ g1).1⟩, ?_⟩
  refine cps fun GC hGC=> ?_
  obtain ⟨ws,n,w1,w2,w3⟩:=rM (Q:=Q) hf2 R' g3 (R'.held (_,va) (.head _)) fun h3 N' ee R3=>by
   subst ee;exact hQ .none h3 t'' ⟨m,α,N',(R3.drop fun p hp=> .tail _ (.tail _ hp)).hold .none⟩
  refine hGC ?_
  exact aC0 (R'.nw _ g1).1 w1 (fun h' hs ho=>w3 h' hs ho) w2
 ·cases hf2
end
end
section
variable {i j k k2:Nat}{x:PySem.Str}{pos tpos vpos:Pos}{e ea eb t₁ t₂:Expr}{fa fb:PM PV}
section
variable {G:Glb}{fi:FI}
def mW (G:Glb) (fi:FI) (t:Expr) (g:PV→PM Fl):Prop:=
 ∀(A:Around) (h₀:Heap) (L:Addr) (env:Env),Cx G fi A h₀ L env→∀(held:List (PV×Value)) (s:Shared) (σ:St) (pv:PV) (v:Value) (fl:Fl) (σ':St) (Q:Unit→Shared→Prop) (E:Value→Shared→Prop),
  g pv σ= .ok fl σ'→Rel G fi h₀ L σ ((pv,v)::held) s→(∀h' t',fl= .next→Rel G fi h₀ L σ' ((pv,v)::held) (Sh s h' t')→Q () (Sh s h' t'))→wpAny (model G.prog G.w) A (assign t env v) Q E s
noncomputable def bF (i:Nat) (pv:PV):PM Fl:=fun σ=>if aN pv then .bad else .ok .next {σ with vars:=σ.vars.set i pv}
theorem tS (hx:nm fi i=some x):mW G fi (.Name x pos) (bF i):=by
 intro A h₀ L env C held s σ pv v fl σ' Q E hf R hQ
 unfold bF at hf
 split at hf
 ·cases hf
 ·rename_i hu
  cases hf
  exact assign_Name (fY C hx (by simpa using hu) R fun h' t' R'=>hQ h' t' rfl R')
noncomputable def fW (C:Addr) (id j:Nat) (fo:PM PV) (pv:PV):PM Fl:=bnd fo fun o=>lS C id j o pv
theorem A_attr {C:Addr}{id:Nat}{name:PySem.Str}{o:Expr}{fo:PM PV} (ho:EvR G fi o fo)
  (hj:(G.tabs.t id)[j]? =some name) (hs:findIn G.K (.ref C) "__setattr__" =some (some (.builtin "object.__setattr__"))) (hp:plainOver G.K C=true) (ht:takerIn G.K C name=some none) (hh:hasDictIn G.K C=true):
  mW G fi (.Attribute o name pos) (fW C id j fo):=by
 intro A h₀ L env Cx held s σ pv v fl σ' Q E hf R hQ
 obtain ⟨qo,σ₁,h1,h2⟩:=aG hf
 show wpAny _ A (do
  let ov ←holding [v] (eval o env)
  standAt pos.atName
  holding [v,ov] (setAttr ov name v)
  release [v,ov] []) Q E s
 refine wpAny_bind (wpAny_holding (ho A h₀ L env Cx _ s σ qo σ₁ _ _ h1 R fun vo h' t' R1=> ?_))
 refine wpAny_bind (wpAny_standAt (wpAny_bind (wpAny_holding ?_)))
 exact vZ Cx hj hs hp ht hh h2 R1 fun h3 t3 e3 R3=>wpAny_release (hQ h3 t3 e3 R3)
noncomputable def mX (g₁ g₂:PV→PM Fl) (f:PM PV):PM Fl:=bnd f fun pv=>bnd (g₁ pv) fun z_=>g₂ pv
theorem X_set2 {g₁ g₂:PV→PM Fl}{f:PM PV} (h1:mW G fi t₁ g₁) (h2:mW G fi t₂ g₂) (h:EvR G fi e f)
  (he:∀env,(assignEach [t₁,t₂] env).map (·.2)=[assign t₁ env,assign t₂ env]) (hw:∀env,swappedStores [t₁,t₂] e env=pure none):
  ExR G fi (.Assign [t₁,t₂] e pos) (mX g₁ g₂ f):=by
 intro A h₀ L env C held s σ fl σ' Q E hf R hQ
 refine cps fun GC hGC=> ?_
 obtain ⟨pv,σ₁,k1,hf1⟩:=aG hf
 obtain ⟨f1,σ₂,k2,k3⟩:=aG hf1
 refine hGC ?_
 refine wpAny_Assign_two (h A h₀ L env C held s σ pv σ₁ _ _ k1 R fun v h' t' R1=> ?_) (he env) (hw env)
 refine h1 A h₀ L env C held _ σ₁ pv v f1 σ₂ _ _ k2 R1 fun h2' t2 e2 R2=> ?_
 refine h2 A h₀ L env C held _ σ₂ pv v fl σ' _ _ k3 R2 fun h3 t3 e3 R3=> ?_
 subst e3
 exact hQ .next h3 t3 R3.tail
theorem oG {β γ:Type}{a b:β}{ws:List γ} (h:[a,b].length=ws.length):∃v w,ws=[v,w]:=by
 match ws,h with
 | [v,w],_=>exact ⟨v,w,rfl⟩
noncomputable def fP (i j:Nat) (fa fb:PM PV):PM Fl:=bnd fa fun a=>bnd fb fun b=>bnd (bF j b) fun z_=>bF i a
theorem bA7 {y:PySem.Str}{p1 p2:Pos} (hx:nm fi i=some x) (hy:nm fi j=some y)
  (ha:EvR G fi ea fa) (hb:EvR G fi eb fb) (ha1:∀env,starEach [ea,eb] env=(false,eval ea env)::starEach [eb] env) (hb1:∀env,starEach [eb] env=(false,eval eb env)::starEach [] env)
  (hw:∀L f cd,swappedStores [.Tuple [.Name x p1, .Name y p2] k tpos] (.Tuple [ea,eb] k2 vpos) (envOfC fi.qual fi.scope L f cd)=pure (some [x,y])):
  ExR G fi (.Assign [.Tuple [.Name x p1, .Name y p2] k tpos] (.Tuple [ea,eb] k2 vpos) pos) (fP i j fa fb):=by
 intro A h₀ L env C held s σ fl σ' Q E hf R hQ
 refine cps fun GC hGC=> ?_
 obtain ⟨a,σ₁,k1,hf1⟩:=aG hf
 obtain ⟨b,σ₂,k2',hf2⟩:=aG hf1
 obtain ⟨f3,σ₃,k3,k4⟩:=aG hf2
 refine hGC ?_
 have T:EvR G fi (.Tuple [ea,eb] k2 vpos) (cP true [fa,fb]):=aQ8 (.cons ha ha1 (.cons hb hb1 .nil))
 have ht:cP true [fa,fb] σ= .ok (.seq true [a,b]) σ₂:=by
  have e:evL [fa,fb] σ= .ok [a,b] σ₂:=by
   simp only [evL,bnd,k1,k2',aL]
  unfold cP bnd
  rw [e]
  rfl
 have hh:=C.hd
 refine Assign_Tuple_swapped (names:=[x,y]) (T A h₀ L env C held s σ _ σ₂ _ _ ht R fun v h' t' R1=> ?_) rfl (by obtain ⟨f,cd,e⟩:=C.isenv (kW hx).1;rw [e];exact hw L f cd)
 refine cps fun GC hGC=> ?_
 obtain ⟨m,α,N,R1⟩:=R1
 obtain ⟨d,ws,n,rfl,h1,hda,h2,h3⟩:=(R1.held (_,v) (.head _)).seq_inv
 obtain ⟨va,vb,rfl⟩:=oG h2
 refine hGC ?_
 refine unpackItemsN_ (items:=[va,vb].toArray) R1.fr R1.nw (News.isTup R1.nw h1) C.hd rfl fun h4 F4 N4=> ?_
 have R2:=((R1.reheap F4 N4 R1.tok).drop (held':=held) fun p hp=> .tail _ hp).hold (h3 (a,va) (.head _)) |>.hold (h3 (b,vb) (.tail _ (.head _)))
 skip
 unfold bF at k3 k4
 split at k3
 ·cases k3
 ·rename_i hub
  cases k3
  split at k4
  ·cases k4
  ·rename_i hua
   cases k4
   refine assignInOrder_cons (bindName_ (fY C hy (by simpa using hub) ⟨m,α,N,R2⟩ fun h5 t5 R3=> ?_))
   refine assignInOrder_cons (bindName_ (fY C hx (by simpa using hua) R3.tail fun h6 t6 R4=> ?_))
   exact assignInOrder_nil (hQ .next h6 t6 R4.tail)
noncomputable def xX (g₁ g₂:PV→PM Fl) (fa fb:PM PV):PM Fl:=bnd fa fun a=>bnd fb fun b=>bnd (g₁ a) fun z_=>g₂ b
theorem X_unp2 {g₁ g₂:PV→PM Fl} (hvn:fi.cmp=false) (h1:mW G fi t₁ g₁) (h2:mW G fi t₂ g₂)
  (ha:EvR G fi ea fa) (hb:EvR G fi eb fb) (ha1:∀env,starEach [ea,eb] env=(false,eval ea env)::starEach [eb] env) (hb1:∀env,starEach [eb] env=(false,eval eb env)::starEach [] env)
  (he:∀env,assignEach [t₁,t₂] env=[(false,assign t₁ env),(false,assign t₂ env)])
  (hw:∀L f cd,swappedStores [.Tuple [t₁,t₂] k tpos] (.Tuple [ea,eb] k2 vpos) (envOfC fi.qual fi.scope L f cd)=pure none):
  ExR G fi (.Assign [.Tuple [t₁,t₂] k tpos] (.Tuple [ea,eb] k2 vpos) pos) (xX g₁ g₂ fa fb):=by
 intro A h₀ L env C held s σ fl σ' Q E hf R hQ
 refine cps fun GC hGC=> ?_
 obtain ⟨a,σ₁,k1,hf1⟩:=aG hf
 obtain ⟨b,σ₂,k2',hf2⟩:=aG hf1
 obtain ⟨f3,σ₃,k3,k4⟩:=aG hf2
 refine hGC ?_
 have T:EvR G fi (.Tuple [ea,eb] k2 vpos) (cP true [fa,fb]):=aQ8 (.cons ha ha1 (.cons hb hb1 .nil))
 have ht:cP true [fa,fb] σ= .ok (.seq true [a,b]) σ₂:=by
  have e:evL [fa,fb] σ= .ok [a,b] σ₂:=by
   simp only [evL,bnd,k1,k2',aL]
  unfold cP bnd
  rw [e]
  rfl
 refine Assign_Tuple (T A h₀ L env C held s σ _ σ₂ _ _ ht R fun v h' t' R1=> ?_) rfl (by obtain ⟨f,cd,e⟩:=C.isenv hvn;rw [e];exact hw L f cd)
 refine cps fun GC hGC=> ?_
 obtain ⟨m,α,N,R1⟩:=R1
 obtain ⟨d,ws,n,rfl,q1,hda,q2,q3⟩:=(R1.held (_,v) (.head _)).seq_inv
 obtain ⟨va,vb,rfl⟩:=oG q2
 refine hGC ?_
 refine unpackN_ (items:=[va,vb].toArray) R1.fr R1.nw (News.isTup R1.nw q1) C.hd (by rw [he env];rfl) (by rw [he env];rfl) fun h4 F4 N4=> ?_
 have R2:=((R1.reheap F4 N4 R1.tok).drop (held':=held) fun p hp=> .tail _ hp).hold (q3 (b,vb) (.tail _ (.head _))) |>.hold (q3 (a,va) (.head _))
 rw [he env]
 refine assignInOrder_cons (h1 A h₀ L env C _ _ σ₂ a va f3 σ₃ _ _ k3 ⟨m,α,N,R2⟩ fun h5 t5 e5 R3=> ?_)
 refine assignInOrder_cons (h2 A h₀ L env C _ _ σ₃ b vb fl σ' _ _ k4 R3.tail fun h6 t6 e6 R4=> ?_)
 subst e6
 exact assignInOrder_nil (hQ .next h6 t6 R4.tail)
noncomputable def vY (g:PV→PV→Option PV) (i:Nat) (fe:PM PV):PM Fl:=bnd (aA g (vr i) fe) (bF i)
theorem bD9 {op:Operator}{g:PV→PV→Option PV} (hop:Op2 G (inplaceOp op) g) {fe:PM PV} (hx:nm fi i=some x) (he:EvR G fi e fe):
  ExR G fi (.AugAssign (.Name x tpos) op e pos) (vY g i fe):=by
 have hx':=hx
 obtain ⟨hc,hx⟩:=kW hx
 intro A h₀ L env C held s σ fl σ' Q E hf R hQ
 refine cps fun GC hGC=> ?_
 obtain ⟨c,σ₁,h0,k4⟩:=aG hf
 obtain ⟨a,σ₂,b,h1,h2,h3⟩:=lC h0
 refine hGC ?_
 refine wpAny_AugAssign_Name ?_
 refine cps fun GC hGC=> ?_
 obtain ⟨rfl,e1,hu1⟩:=bB9 h1
 obtain ⟨m,α,N,R0⟩:=(fun z=>z) R
 obtain ⟨f0,cd,henv⟩:=C.isenv hc
 refine hGC ?_
 have hm:x∈fi.vnames:=List.mem_of_getElem? hx
 rcases R0.vars i x a hx e1 with rfl | ⟨_,va,hv,hr⟩
 ·cases hu1
 rw [henv]
 refine wpAny_loadName_local (m:=m) C.ok.kind (C.ok.loc hc x hm) R0.fr.ns hv ?_
 rw [←henv]
 have R1:Rel G fi h₀ L σ₂ ((a,va)::held) s:=⟨m,α,N,R0.hold hr⟩
 refine he A h₀ L env C _ _ σ₂ b σ₁ _ _ h2 R1 fun vb h'' t'' R2=> ?_
 refine hop fi A h₀ L env C held _ σ₁ a b va vb c _ _ h3 R2 fun v h3 t3 R3=> ?_
 unfold bF at k4
 split at k4
 ·cases k4
 ·rename_i hu
  cases k4
  exact fY C hx' (by simpa using hu) R3 fun h6 t6 R4=>hQ .next h6 t6 R4.tail
end
end
end _M
end
section
open PySem
namespace _M
namespace RX
open PySem.Sre PySem.Sre.M
section
variable {e:En}{k:Nat}{r:Option Nat}{c:Cf}
structure En where
 C:Array Nat
 T:Array Nat
 lim:Nat
 st:Nat
structure Cf where
 pc:Nat
 pos:Nat
 fr:List Sre.Frame
 lp:Array Loop
 inn:Option Nat
 hd:Nat
 om:Bool
 sn:Seen
noncomputable abbrev mk (e:En) (c:Cf):M:=
 {code:=e.C,text:=e.T,lim:=e.lim,start:=e.st,pc:=c.pc,pos:=c.pos,handed:=c.hd,outermost:=c.om,marks:= #[],loops:=c.lp,inner:=c.inn,frames:=c.fr,weight:=c.fr.length,seen:=c.sn}
noncomputable abbrev an (e:En) (c:Cf) (b:Bool):M:=
 {code:=e.C,text:=e.T,lim:=e.lim,start:=e.st,pc:=c.pc,pos:=c.pos,handed:=c.hd,outermost:=c.om,marks:= #[],loops:=c.lp,inner:=c.inn,frames:=c.fr,weight:=c.fr.length,seen:=c.sn,answer:=some b}
def Fin (e:En) (k:Nat) (m:M) (r:Option Nat):Prop:=∃n,n≤k∧match r with
 | some h=>(runFor n m).outcome=some .matched∧(runFor n m).handed=h∧(runFor n m).start=e.st
 | none=>(runFor n m).outcome=some .failed
theorem cM {m:M} (ho:m.outcome=none) (h:Fin e k m.step r):Fin e (k+1) m r:=by
 obtain ⟨n,hn,h⟩:=h
 refine ⟨n+1,Nat.succ_le_succ hn, ?_⟩
 have:runFor (n+1) m=runFor n m.step:=by
  show (if m.outcome.isSome then m else runFor n m.step)=_
  rw [ho];rfl
 rw [this];exact h
theorem Fin.mono {k':Nat}{m:M} (h:Fin e k m r) (hk:k≤k'):Fin e k' m r:=let ⟨n,hn,h⟩:=h;⟨n,Nat.le_trans hn hk,h⟩
def Acc (C:Array Nat) (i:Nat) (P:Nat→Bool):Prop:=∀c sn,∃sn',accepts C i c sn= .ok (P c,sn')
noncomputable def dB (C:Array Nat) (i:Nat):Option Op:=ops[C.getD i 0]?
noncomputable def aO7:Op→Bool
 | .ANY | .ANY_ALL | .LITERAL | .NOT_LITERAL | .IN=>true
 | _=>false
variable {e:En}{k:Nat}{r:Option Nat}
theorem cQ (h:c.pc<e.C.size):(mk e c).step=(mk e c).exec:=by
 unfold Sre.M.step
 simp only [Option.isSome_none,Bool.false_eq_true,if_false]
 rw [if_pos h]
theorem xN {op:Op}{P:Nat→Bool} (h:c.pc<e.C.size) (ho:dB e.C c.pc=some op) (hc:aO7 op=true) (hA:Acc e.C c.pc P) (hp:c.pos<e.lim) (hP:P (e.T.getD c.pos 0)=true)
  (hk:∀sn,Fin e k (mk e {c with pc:=c.pc+itemWidth e.C c.pc,pos:=c.pos+1,sn:=sn}) r):Fin e (k+1) (mk e c) r:=by
 refine cM rfl ?_
 rw [cQ h]
 obtain ⟨sn',ha⟩:=hA (e.T.getD c.pos 0) (c.sn.add (e.C.getD c.pc 0))
 have key:(mk e c).exec=mk e {c with pc:=c.pc+itemWidth e.C c.pc,pos:=c.pos+1,sn:=sn'}:=by
  unfold Sre.M.exec
  have hw:(mk e c).word 0=e.C.getD c.pc 0:=rfl
  rw [hw,show ops[e.C.getD c.pc 0]? =some op from ho]
  induction op <;> first | (cases hc;done) | skip
  all_goals
   simp only []
   rw [if_neg (by simpa using hp),ha,hP]
 rw [key];exact hk sn'
theorem jD {op:Op}{P:Nat→Bool} (h:c.pc<e.C.size) (ho:dB e.C c.pc=some op) (hc:aO7 op=true) (hA:Acc e.C c.pc P) (hp:c.pos<e.lim→P (e.T.getD c.pos 0)=false)
  (hk:∀sn,Fin e k (an e {c with sn:=sn} false) r):Fin e (k+1) (mk e c) r:=by
 refine cM rfl ?_
 rw [cQ h]
 obtain ⟨sn',ha⟩:=hA (e.T.getD c.pos 0) (c.sn.add (e.C.getD c.pc 0))
 have key:∃sn,(mk e c).exec=an e {c with sn:=sn} false:=by
  unfold Sre.M.exec
  have hw:(mk e c).word 0=e.C.getD c.pc 0:=rfl
  rw [hw,show ops[e.C.getD c.pc 0]? =some op from ho]
  by_cases hpos:c.pos<e.lim
  ·refine ⟨sn', ?_⟩
   induction op <;> first | (cases hc;done) | skip
   all_goals
    simp only []
    rw [if_neg (by simpa using hpos),ha,hp hpos]
    rfl
  ·refine ⟨c.sn.add (e.C.getD c.pc 0), ?_⟩
   induction op <;> first | (cases hc;done) | skip
   all_goals
    simp only []
    rw [if_pos (by simpa using hpos)]
    rfl
 obtain ⟨sn,key⟩:=key
 rw [key];exact hk sn
noncomputable def cnt (T:Array Nat) (P:Nat→Bool):Nat→Nat→Nat
 | 0,_=>0
 | n+1,p=>if P (T.getD p 0) then cnt T P n (p+1)+1 else 0
theorem yZ {T:Array Nat}{P:Nat→Bool}{n p:Nat}:cnt T P (n+1) p=if P (T.getD p 0)=true then cnt T P n (p+1)+1 else 0:=rfl
theorem wW {C T:Array Nat}{i:Nat}{P:Nat→Bool} (hA:Acc C i P):∀(n p f:Nat) (sn:Seen),∃sn',Sre.run C T i n p f sn= .ok (f+cnt T P n p,sn')
 | 0,p,f,sn=>⟨sn,rfl⟩
 | n+1,p,f,sn=>by
  obtain ⟨s1,h1⟩:=hA (T.getD p 0) sn
  show ∃sn',(accepts C i (T.getD p 0) sn >>= _)=_
  rw [h1]
  cases hP:P (T.getD p 0)
  ·refine ⟨s1, ?_⟩
   rw [yZ,hP]
   rfl
  ·obtain ⟨s2,h2⟩:=wW hA n (p+1) (f+1) s1
   refine ⟨s2, ?_⟩
   show Sre.run C T i n (p+1) (f+1) s1=_
   rw [h2]
   rw [yZ,hP,if_pos rfl]
   congr 2;exact Q34 (.n2 _ _)
noncomputable def fr0 (c:Cf) (w:Wait) (n:Int) (wh:Bool) (lpi:Nat:=0) (bg:Option Nat:=none):Sre.Frame:=
 {wait:=w,pc:=c.pc,pos:=c.pos,outermost:=c.om,count:=n,kept:={whole:=wh},loop:=lpi,began:=bg}
theorem gS {wh:Bool}:(mk e c).keep wh={whole:=wh}:=by
 unfold M.keep
 induction wh <;> simp
def small (c:Cf):Prop:=c.fr.length<16000000
theorem dJ {f:Sre.Frame}{t p:Nat}{om:Bool} (hf:f.kept.marks= #[]) (hs:small c):(mk e c).attempt f t p om=mk e {c with fr:=f::c.fr,pc:=t,pos:=p,hd:=p,om:=om}:=by
 unfold M.attempt
 rw [hf]
 unfold small at hs
 rw [if_neg (by show ¬(c.fr.length+1+0>16777216);exact lin1 (.n (.t (.k 16777216) (.a (.a .v0 .k1) .k0))) (.t .v0 (.k 16000000)) (.w [1,1]) rfl (.n1 _) hs)]
 rfl
theorem tH {P:Nat→Bool}{n:Nat} (h:c.pc<e.C.size) (ho:dB e.C c.pc=some .REPEAT_ONE) (hA:Acc e.C (c.pc+4) P) (hs:small c)
  (hn:n=cnt e.T P (min (e.C.getD (c.pc+3) 0) (e.lim-c.pos)) c.pos) (hle:e.C.getD (c.pc+2) 0≤n) (hpos:c.pos≤e.lim)
  (hroom:e.C.getD (c.pc+2) 0≤e.lim-c.pos)
  (hk:∀sn wh,Fin e k (mk e {c with pc:=c.pc+1+e.C.getD (c.pc+1) 0,pos:=c.pos+n,hd:=c.pos+n,fr:=fr0 {c with pos:=c.pos+n} .giveBack n wh::c.fr,sn:=sn}) r):Fin e (k+1) (mk e c) r:=by
 refine cM rfl ?_
 rw [cQ h]
 obtain ⟨sn',ha⟩:=wW (T:=e.T) hA (min (e.C.getD (c.pc+3) 0) (e.lim-c.pos)) c.pos 0 ((c.sn.add (e.C.getD c.pc 0)).add (e.C.getD (c.pc+4) 0))
 have key:(mk e c).exec=mk e {c with pc:=c.pc+1+e.C.getD (c.pc+1) 0,pos:=c.pos+n,hd:=c.pos+n,fr:=fr0 {c with pos:=c.pos+n} .giveBack n c.inn.isSome::c.fr,sn:=sn'}:=by
  unfold Sre.M.exec
  have hw:(mk e c).word 0=e.C.getD c.pc 0:=rfl
  rw [hw,show ops[e.C.getD c.pc 0]? =some .REPEAT_ONE from ho]
  simp only []
  have hr:((e.lim:Int)-(c.pos:Int)).toNat=e.lim-c.pos:=by exact Q13 (.n4 _ _ _ _) rfl rfl
  rw [if_neg (by show ¬((e.C.getD (c.pc+2) 0:Int)>_);exact lin3 (.n (.T (.s (.c .v0) (.c .v1)) (.c .v2))) (.l .v1 .v0) (.l .v2 .v3) (.b 3 .v0 .v1) (.d 3 (.w [0,1,1,0,1]) (.w [0,1,1,1,1])) rfl (.n4 _ _ _ _) hpos hroom rfl)]
  show (match Sre.run e.C e.T (c.pc+4) (min (e.C.getD (c.pc+3) 0) ((e.lim:Int)-(c.pos:Int)).toNat) c.pos 0 ((c.sn.add (e.C.getD c.pc 0)).add (e.C.getD (c.pc+4) 0)) with
   | .error why=>_
   | .ok (n,seen)=>_)=_
  rw [hr,ha,Nat.zero_add, ←hn]
  simp only []
  rw [if_neg (by show ¬(n<e.C.getD (c.pc+2) 0);exact lin1 (.n (.t .v0 .v1)) (.l .v1 .v0) (.w [1,1]) rfl (.n2 _ _) hle)]
  exact dJ (c:={c with pos:=c.pos+n,sn:=sn'}) (by show (M.keep (mk e {c with pos:=c.pos+n,sn:=sn'}) c.inn.isSome).marks= #[];rw [gS]) hs |>.trans (by
   show mk e _=mk e _
   congr 1
   show Cf.mk _ _ ({(mk e {c with pos:=c.pos+n,sn:=sn'}).frame .giveBack with count:=(n:Int),kept:=(mk e {c with pos:=c.pos+n,sn:=sn'}).keep c.inn.isSome}::c.fr) _ _ _ _ _=_
   rw [gS];rfl)
 rw [key];exact hk sn' _
theorem aY1 {P:Nat→Bool} (h:c.pc<e.C.size) (ho:dB e.C c.pc=some .REPEAT_ONE) (hA:Acc e.C (c.pc+4) P) (hpos:c.pos≤e.lim)
  (hn:cnt e.T P (min (e.C.getD (c.pc+3) 0) (e.lim-c.pos)) c.pos<e.C.getD (c.pc+2) 0)
  (hk:∀c',c'.fr=c.fr→c'.lp=c.lp→c'.inn=c.inn→Fin e k (an e c' false) r):Fin e (k+1) (mk e c) r:=by
 refine cM rfl ?_
 rw [cQ h]
 refine cps fun GC hGC=> ?_
 obtain ⟨sn',ha⟩:=wW (T:=e.T) hA (min (e.C.getD (c.pc+3) 0) (e.lim-c.pos)) c.pos 0 ((c.sn.add (e.C.getD c.pc 0)).add (e.C.getD (c.pc+4) 0))
 have key:∃sn,(mk e c).exec=an e {c with sn:=sn} false:=by
  unfold Sre.M.exec
  have hw:(mk e c).word 0=e.C.getD c.pc 0:=rfl
  rw [hw,show ops[e.C.getD c.pc 0]? =some .REPEAT_ONE from ho]
  simp only []
  have hr:((e.lim:Int)-(c.pos:Int)).toNat=e.lim-c.pos:=by exact Q13 (.n4 _ _ _ _) rfl rfl
  by_cases hroom:(e.C.getD (c.pc+2) 0:Int)>(e.lim:Int)-(c.pos:Int)
  ·exact ⟨c.sn.add (e.C.getD c.pc 0),by rw [if_pos (by exact hroom)];rfl⟩
  ·refine ⟨sn', ?_⟩
   rw [if_neg (by exact hroom)]
   show (match Sre.run e.C e.T (c.pc+4) (min (e.C.getD (c.pc+3) 0) ((e.lim:Int)-(c.pos:Int)).toNat) c.pos 0 ((c.sn.add (e.C.getD c.pc 0)).add (e.C.getD (c.pc+4) 0)) with
    | .error why=>_
    | .ok (n,seen)=>_)=_
   rw [hr,ha,Nat.zero_add]
   simp only []
   rw [if_pos (by exact hn)]
   rfl
 obtain ⟨sn,key⟩:=key
 refine hGC ?_
 rw [key];exact hk _ rfl rfl rfl
theorem f_jump {op:Op} (h:c.pc<e.C.size) (ho:dB e.C c.pc=some op) (hop:op= .JUMP∨op= .INFO) (hk:∀sn,Fin e k (mk e {c with pc:=c.pc+1+e.C.getD (c.pc+1) 0,sn:=sn}) r):Fin e (k+1) (mk e c) r:=by
 refine cM rfl ?_
 rw [cQ h]
 have key:(mk e c).exec=mk e {c with pc:=c.pc+1+e.C.getD (c.pc+1) 0,sn:=c.sn.add (e.C.getD c.pc 0)}:=by
  unfold Sre.M.exec
  have hw:(mk e c).word 0=e.C.getD c.pc 0:=rfl
  rw [hw,show ops[e.C.getD c.pc 0]? =some op from ho]
  rcases hop with rfl | rfl <;> rfl
 rw [key];exact hk _
theorem xL (h:c.pc<e.C.size) (ho:dB e.C c.pc=some .SUCCESS) (hk:∀sn,Fin e k (an e {c with hd:=c.pos,sn:=sn} true) r):Fin e (k+1) (mk e c) r:=by
 refine cM rfl ?_
 rw [cQ h]
 have key:(mk e c).exec=an e {c with hd:=c.pos,sn:=c.sn.add (e.C.getD c.pc 0)} true:=by
  unfold Sre.M.exec
  have hw:(mk e c).word 0=e.C.getD c.pc 0:=rfl
  rw [hw,show ops[e.C.getD c.pc 0]? =some .SUCCESS from ho]
  simp only []
  rw [if_neg (by simp)]
  rfl
 rw [key];exact hk _
end
section
variable {c:Cf}{alt i n:Nat}{fs:List Sre.Frame}
variable {e:En}{k:Nat}{r:Option Nat}
theorem eA {m:M}{f:Sre.Kept} (hm:m.marks= #[]) (h1:m.lastmark= -1) (h2:m.lastindex= -1) (hf:f.marks= #[]) (h3:f.lastmark= -1) (h4:f.lastindex= -1):m.putBack f=m:=by
 unfold M.putBack
 rw [hf,h3,h4,hm]
 induction m
 simp_all
def okK (f:Sre.Kept):Prop:=f.marks= #[]∧f.lastmark= -1∧f.lastindex= -1
theorem jY {wh:Bool}:okK {whole:=wh}:=⟨rfl,rfl,rfl⟩
theorem aP7 {kp:Sre.Kept} (hkp:okK kp) (hs:small c) (h0:(e.C.getD alt 0==0)=false):
  (mk e c).alternative alt kp=mk e {c with fr:={wait:= .nextBranch,pc:=alt,pos:=c.pos,outermost:=c.om,kept:=kp}::c.fr,pc:=alt+1,hd:=c.pos}:=by
 unfold M.alternative
 rw [if_neg (by show ¬((e.C.getD alt 0==0)=true);rw [h0];decide)]
 exact dJ hkp.1 hs
theorem bA0 {kp:Sre.Kept} (h0:(e.C.getD alt 0==0)=true):(mk e c).alternative alt kp=an e c false:=by
 unfold M.alternative
 rw [if_pos (by exact h0)]
 rfl
theorem aN3 (h:c.pc<e.C.size) (ho:dB e.C c.pc=some .BRANCH) (hs:small c) (h0:(e.C.getD (c.pc+1) 0==0)=false)
  (hk:∀sn kp,okK kp→Fin e k (mk e {c with fr:={wait:= .nextBranch,pc:=c.pc+1,pos:=c.pos,outermost:=c.om,kept:=kp}::c.fr,pc:=c.pc+2,hd:=c.pos,sn:=sn}) r):Fin e (k+1) (mk e c) r:=by
 refine cM rfl ?_
 rw [cQ h]
 have key:(mk e c).exec=(mk e {c with sn:=c.sn.add (e.C.getD c.pc 0)}).alternative (c.pc+1) ((mk e {c with sn:=c.sn.add (e.C.getD c.pc 0)}).keep c.inn.isSome):=by
  unfold Sre.M.exec
  have hw:(mk e c).word 0=e.C.getD c.pc 0:=rfl
  rw [hw,show ops[e.C.getD c.pc 0]? =some .BRANCH from ho]
 rw [key,gS,aP7 (c:={c with sn:=c.sn.add (e.C.getD c.pc 0)}) jY hs h0]
 exact hk _ _ jY
theorem jO {b:Bool}{f:Sre.Frame} (hf:c.fr=f::fs) (hkp:f.kept.marks= #[])
  (hk:Fin e k (M.resume (mk e {c with fr:=fs,pc:=f.pc,pos:=f.pos,om:=f.outermost}) f b) r):Fin e (k+1) (an e c b) r:=by
 obtain ⟨pc,pos,fr,lp,inn,hd,om,sn⟩:=c
 cases hf
 refine cM rfl ?_
 have key:(an e ⟨pc,pos,f::fs,lp,inn,hd,om,sn⟩ b).step=M.resume (mk e ⟨f.pc,f.pos,fs,lp,inn,hd,f.outermost,sn⟩) f b:=by
  unfold Sre.M.step
  simp only [Option.isSome_none,Bool.false_eq_true,if_false]
  rw [hkp]
  have hw:(f::fs).length-(1+(#[]:Array (Option Nat)).size)=fs.length:=by simp
  rw [hw]
 rw [key];exact hk
def good (f:Sre.Frame):Prop:=f.kept.marks= #[]∧(f.wait= .nextBranch∨f.wait= .giveBack∨f.wait= .closeLoop∨f.wait= .maxMore∨f.wait= .maxTail)
theorem yU {h:Nat}:∀(fs:List Sre.Frame) (c:Cf),c.fr=fs→(∀f∈fs,good f)→c.hd=h→Fin e (fs.length+1) (an e c true) (some h)
 | [],c,hf,_,hh=>by
  obtain ⟨pc,pos,fr,lp,inn,hd,om,sn⟩:=c
  cases hf;induction hh
  exact ⟨1,Nat.le_refl 1,rfl,rfl,rfl⟩
 | f::fs,c,hf,hg,hh=>by
  have hgf:=hg f (.head _)
  refine jO hf hgf.1 ?_
  have rest:=fun c' (h1:c'.fr=fs) (h2:c'.hd=h)=>yU (h:=h) fs c' h1 (fun g hg'=>hg g (.tail _ hg')) h2
  unfold M.resume
  rcases hgf.2 with e1 | e1 | e1 | e1 | e1 <;> rw [e1] <;> simp only [if_true]
  ·exact rest {c with fr:=fs,pc:=f.pc,pos:=f.pos,om:=f.outermost} rfl hh
  ·exact rest {c with fr:=fs,pc:=f.pc,pos:=f.pos,om:=f.outermost} rfl hh
  ·exact rest {c with fr:=fs,pc:=f.pc,pos:=f.pos,om:=f.outermost,inn:=_,lp:=_} rfl hh
  ·exact rest {c with fr:=fs,pc:=f.pc,pos:=f.pos,om:=f.outermost,lp:=_} rfl hh
  ·exact rest {c with fr:=fs,pc:=f.pc,pos:=f.pos,om:=f.outermost,inn:=_} rfl hh
theorem xM (hf:c.fr=[]):Fin e 1 (an e c false) none:=by
 obtain ⟨pc,pos,fr,lp,inn,hd,om,sn⟩:=c
 cases hf
 exact ⟨1,Nat.le_refl 1,rfl⟩
theorem aY2 {f:Sre.Frame} (hf:c.fr=f::fs) (hw:f.wait= .nextBranch) (hkp:okK f.kept) (hs:fs.length<16000000) (h0:(e.C.getD (f.pc+e.C.getD f.pc 0) 0==0)=false)
  (hk:∀om,Fin e k (mk e {c with fr:={wait:= .nextBranch,pc:=f.pc+e.C.getD f.pc 0,pos:=f.pos,outermost:=om,kept:=f.kept}::fs,pc:=f.pc+e.C.getD f.pc 0+1,pos:=f.pos,hd:=f.pos,om:=om}) r):
  Fin e (k+1) (an e c false) r:=by
 refine jO hf hkp.1 ?_
 unfold M.resume
 rw [hw]
 simp only [Bool.false_eq_true,if_false]
 rw [eA rfl rfl rfl hkp.1 hkp.2.1 hkp.2.2]
 rw [show (mk e {c with fr:=fs,pc:=f.pc,pos:=f.pos,om:=f.outermost}).code.getD f.pc 0=e.C.getD f.pc 0 from rfl]
 rw [aP7 (c:={c with fr:=fs,pc:=f.pc,pos:=f.pos,om:=f.outermost}) hkp hs h0]
 exact hk _
theorem aM9 {f:Sre.Frame} (hf:c.fr=f::fs) (hw:f.wait= .nextBranch) (hkp:okK f.kept) (h0:(e.C.getD (f.pc+e.C.getD f.pc 0) 0==0)=true)
  (hk:∀pc om,Fin e k (an e {c with fr:=fs,pc:=pc,pos:=f.pos,om:=om} false) r):Fin e (k+1) (an e c false) r:=by
 refine jO hf hkp.1 ?_
 unfold M.resume
 rw [hw]
 simp only [Bool.false_eq_true,if_false]
 rw [eA rfl rfl rfl hkp.1 hkp.2.1 hkp.2.2]
 rw [show (mk e {c with fr:=fs,pc:=f.pc,pos:=f.pos,om:=f.outermost}).code.getD f.pc 0=e.C.getD f.pc 0 from rfl]
 rw [bA0 (c:={c with fr:=fs,pc:=f.pc,pos:=f.pos,om:=f.outermost}) h0]
 exact hk _ _
theorem aN1 {f:Sre.Frame} (hf:c.fr=f::fs) (hw:f.wait= .giveBack) (hkp:okK f.kept) (hs:fs.length<16000000) (hn:f.count=(n+1:Nat)) (hle:e.C.getD (f.pc+2) 0≤n)
  (hk:∀om,Fin e k (mk e {c with fr:={wait:= .giveBack,pc:=f.pc,pos:=f.pos-1,outermost:=om,count:=(n:Int),kept:=f.kept}::fs,pc:=f.pc+1+e.C.getD (f.pc+1) 0,pos:=f.pos-1,hd:=f.pos-1,om:=om}) r):
  Fin e (k+1) (an e c false) r:=by
 refine jO hf hkp.1 ?_
 unfold M.resume
 rw [hw]
 simp only [Bool.false_eq_true,if_false]
 rw [eA rfl rfl rfl hkp.1 hkp.2.1 hkp.2.2]
 have e1:f.count-1=(n:Int):=by exact lin1 (.Q (.s .v0 .k1) (.c .v1)) (.Q .v0 (.c (.a .v1 .k1))) (.b (.w [1, -1]) (.w [1,1])) rfl (.z _ (.n1 _)) hn
 rw [e1,if_neg (by show ¬((n:Int)<(e.C.getD (f.pc+2) 0:Int));exact lin1 (.n (.T (.c .v0) (.c .v1))) (.l .v1 .v0) (.w [1,1]) rfl (.n2 _ _) hle)]
 unfold M.afterRun
 have:=dJ (e:=e) (c:={c with fr:=fs,pc:=f.pc,pos:=f.pos-1,om:=f.outermost}) (f:={wait:= .giveBack,pc:=f.pc,pos:=f.pos-1,outermost:=f.outermost,count:=(n:Int),kept:=f.kept}) (t:=f.pc+1+e.C.getD (f.pc+1) 0) (p:=f.pos-1) (om:=f.outermost) hkp.1 hs
 show Fin e k (M.attempt (mk e {c with fr:=fs,pc:=f.pc,pos:=f.pos-1,om:=f.outermost}) {wait:= .giveBack,pc:=f.pc,pos:=f.pos-1,outermost:=f.outermost,count:=(n:Int),kept:=f.kept} (f.pc+1+e.C.getD (f.pc+1) 0) (f.pos-1) f.outermost) r
 rw [this]
 exact hk _
theorem yV {f:Sre.Frame} (hf:c.fr=f::fs) (hw:f.wait= .giveBack) (hkp:okK f.kept) (hn:f.count=(n:Nat)) (hle:n<e.C.getD (f.pc+2) 0+1)
  (hk:∀pc om,Fin e k (an e {c with fr:=fs,pc:=pc,pos:=f.pos,om:=om} false) r):Fin e (k+1) (an e c false) r:=by
 refine jO hf hkp.1 ?_
 unfold M.resume
 rw [hw]
 simp only [Bool.false_eq_true,if_false]
 rw [eA rfl rfl rfl hkp.1 hkp.2.1 hkp.2.2]
 rw [if_pos (by show (f.count-1<(e.C.getD (f.pc+2) 0:Int));exact lin2 (.T (.s .v0 .k1) (.c .v1)) (.Q .v0 (.c .v2)) (.t .v2 (.a .v1 .k1)) (.w [1,1,1]) rfl (.z _ (.n2 _ _)) hn hle)]
 exact hk f.pc _
noncomputable def dl:Loop:={pc:=0,outer:=none}
theorem vQ (h:c.pc<e.C.size) (ho:dB e.C c.pc=some .REPEAT) (hs:small c)
  (hk:∀sn,Fin e k (mk e {c with pc:=c.pc+1+e.C.getD (c.pc+1) 0,hd:=c.pos,lp:=c.lp.push {pc:=c.pc,outer:=c.inn},inn:=some c.lp.size,fr:={wait:= .closeLoop,pc:=c.pc,pos:=c.pos,outermost:=c.om,loop:=c.lp.size}::c.fr,sn:=sn}) r):Fin e (k+1) (mk e c) r:=by
 refine cM rfl ?_
 rw [cQ h]
 have key:(mk e c).exec=mk e {c with pc:=c.pc+1+e.C.getD (c.pc+1) 0,hd:=c.pos,lp:=c.lp.push {pc:=c.pc,outer:=c.inn},inn:=some c.lp.size,fr:={wait:= .closeLoop,pc:=c.pc,pos:=c.pos,outermost:=c.om,loop:=c.lp.size}::c.fr,sn:=c.sn.add (e.C.getD c.pc 0)}:=by
  unfold Sre.M.exec
  have hw:(mk e c).word 0=e.C.getD c.pc 0:=rfl
  rw [hw,show ops[e.C.getD c.pc 0]? =some .REPEAT from ho]
  exact dJ (c:={c with lp:=c.lp.push {pc:=c.pc,outer:=c.inn},inn:=some c.lp.size,sn:=c.sn.add (e.C.getD c.pc 0)})
   (f:={wait:= .closeLoop,pc:=c.pc,pos:=c.pos,outermost:=c.om,loop:=c.lp.size}) rfl hs
 rw [key];exact hk _
theorem aN0 {l:Loop} (h:c.pc<e.C.size) (ho:dB e.C c.pc=some .MAX_UNTIL) (hs:small c) (hi:c.inn=some i) (hl:c.lp.getD i dl=l)
  (hleast:¬(l.count+1<(e.C.getD (l.pc+2) 0:Nat))) (hmost:l.count+1<(e.C.getD (l.pc+3) 0:Nat)∨e.C.getD (l.pc+3) 0=maxRepeat) (hb:l.began≠some c.pos)
  (hk:∀sn,Fin e k (mk e {c with pc:=l.pc+4,hd:=c.pos,lp:=c.lp.modify i fun l'=>{l' with count:=l.count+1,began:=some c.pos},fr:={wait:= .maxMore,pc:=c.pc+1,pos:=c.pos,outermost:=c.om,count:=l.count+1,kept:={whole:=true},loop:=i,began:=l.began}::c.fr,sn:=sn}) r):Fin e (k+1) (mk e c) r:=by
 refine cM rfl ?_
 rw [cQ h]
 have key:(mk e c).exec=mk e {c with pc:=l.pc+4,hd:=c.pos,lp:=c.lp.modify i fun l'=>{l' with count:=l.count+1,began:=some c.pos},fr:={wait:= .maxMore,pc:=c.pc+1,pos:=c.pos,outermost:=c.om,count:=l.count+1,kept:={whole:=true},loop:=i,began:=l.began}::c.fr,sn:=c.sn.add (e.C.getD c.pc 0)}:=by
  unfold Sre.M.exec
  have hw:(mk e c).word 0=e.C.getD c.pc 0:=rfl
  rw [hw,show ops[e.C.getD c.pc 0]? =some .MAX_UNTIL from ho]
  simp only []
  unfold M.until_
  show (match c.inn with
   | none=>_
   | some i=>_)=_
  rw [hi]
  simp only []
  rw [show M.loopAt {code:=e.C,text:=e.T,lim:=e.lim,start:=e.st,pc:=c.pc+1,pos:=c.pos,handed:=c.hd,outermost:=c.om,marks:= #[],loops:=c.lp,inner:=some i,frames:=c.fr,weight:=c.fr.length,seen:=c.sn.add (e.C.getD c.pc 0)} i=l from hl]
  rw [if_neg hleast]
  rw [if_neg (by decide),if_pos (by
   simp only [Bool.and_eq_true,Bool.or_eq_true,decide_eq_true_eq,beq_iff_eq,bne_iff_ne]
   exact ⟨hmost,hb⟩)]
  unfold M.round
  rw [show M.loopAt {code:=e.C,text:=e.T,lim:=e.lim,start:=e.st,pc:=c.pc+1,pos:=c.pos,handed:=c.hd,outermost:=c.om,marks:= #[],loops:=c.lp,inner:=some i,frames:=c.fr,weight:=c.fr.length,seen:=c.sn.add (e.C.getD c.pc 0)} i=l from hl]
  have hke:M.keep {code:=e.C,text:=e.T,lim:=e.lim,start:=e.st,pc:=c.pc+1,pos:=c.pos,handed:=c.hd,outermost:=c.om,marks:= #[],loops:=c.lp,inner:=some i,frames:=c.fr,weight:=c.fr.length,seen:=c.sn.add (e.C.getD c.pc 0)} true={whole:=true}:=
   gS (e:=e) (c:={c with pc:=c.pc+1,inn:=some i,sn:=c.sn.add (e.C.getD c.pc 0)})
  rw [hke]
  exact dJ (c:={c with pc:=c.pc+1,inn:=some i,lp:=c.lp.modify i fun l'=>{l' with count:=l.count+1,began:=some c.pos},sn:=c.sn.add (e.C.getD c.pc 0)})
   (f:={wait:= .maxMore,pc:=c.pc+1,pos:=c.pos,outermost:=c.om,count:=l.count+1,kept:={whole:=true},loop:=i,began:=l.began}) rfl hs
 rw [key];exact hk _
theorem lT {n:Int}{l:Loop} (hl:c.lp.getD i dl=l) (hs:small c):
  (mk e c).afterLoop .maxTail i n (fun z_=>false)=mk e {c with inn:=l.outer,hd:=c.pos,fr:={wait:= .maxTail,pc:=c.pc,pos:=c.pos,outermost:=c.om,count:=n,loop:=i}::c.fr}:=by
 unfold M.afterLoop
 rw [show (mk e c).loopAt i=l from hl]
 have hke:M.keep (mk e {c with inn:=l.outer}) false={}:=gS (e:=e) (c:={c with inn:=l.outer})
 show M.attempt (mk e {c with inn:=l.outer}) {wait:= .maxTail,pc:=c.pc,pos:=c.pos,outermost:=c.om,count:=n,kept:=M.keep (mk e {c with inn:=l.outer}) false,loop:=i} c.pc c.pos c.om=_
 rw [hke]
 exact dJ (c:={c with inn:=l.outer}) rfl hs
theorem pV {f:Sre.Frame}{l:Loop} (hf:c.fr=f::fs) (hw:f.wait= .maxMore) (hkp:okK f.kept) (hs:fs.length<16000000) (hl:c.lp.getD f.loop dl=l) (hi:f.loop<c.lp.size)
  (hk:∀om lp,lp.size=c.lp.size→Fin e k (mk e {c with pc:=f.pc,pos:=f.pos,om:=om,hd:=f.pos,inn:=l.outer,lp:=lp,fr:={wait:= .maxTail,pc:=f.pc,pos:=f.pos,outermost:=om,count:=f.count,loop:=f.loop}::fs}) r):
  Fin e (k+1) (an e c false) r:=by
 refine jO hf hkp.1 ?_
 unfold M.resume
 rw [hw]
 simp only [Bool.false_eq_true,if_false]
 have e1:(M.setLoop (mk e {c with fr:=fs,pc:=f.pc,pos:=f.pos,om:=f.outermost}) f.loop fun l=>{l with began:=f.began})=mk e {c with fr:=fs,pc:=f.pc,pos:=f.pos,om:=f.outermost,lp:=c.lp.modify f.loop fun l=>{l with began:=f.began}}:=rfl
 rw [e1,eA rfl rfl rfl hkp.1 hkp.2.1 hkp.2.2]
 have e2:(M.setLoop (mk e {c with fr:=fs,pc:=f.pc,pos:=f.pos,om:=f.outermost,lp:=c.lp.modify f.loop fun l=>{l with began:=f.began}}) f.loop fun l=>{l with count:=f.count-1})=
  mk e {c with fr:=fs,pc:=f.pc,pos:=f.pos,om:=f.outermost,lp:=(c.lp.modify f.loop fun l=>{l with began:=f.began}).modify f.loop fun l=>{l with count:=f.count-1}}:=rfl
 rw [e2]
 have e3:((c.lp.modify f.loop fun l=>{l with began:=f.began}).modify f.loop fun l=>{l with count:=f.count-1}).getD f.loop dl={l with began:=f.began,count:=f.count-1}:=by
  rw [←hl]
  simp [Array.getD,Array.getElem_modify,hi]
 rw [lT (c:={c with fr:=fs,pc:=f.pc,pos:=f.pos,om:=f.outermost,lp:=(c.lp.modify f.loop fun l=>{l with began:=f.began}).modify f.loop fun l=>{l with count:=f.count-1}}) e3 hs]
 exact hk _ _ (by simp)
theorem aA9 (h:c.pc<e.C.size) (ho:dB e.C c.pc=some .ASSERT_NOT) (hb:e.C.getD (c.pc+2) 0=0) (hs:small c)
  (hk:∀sn kp,okK kp→Fin e k (mk e {c with pc:=c.pc+3,hd:=c.pos,om:=false,fr:={wait:= .lookNot,pc:=c.pc,pos:=c.pos,outermost:=c.om,kept:=kp}::c.fr,sn:=sn}) r):Fin e (k+1) (mk e c) r:=by
 refine cM rfl ?_
 rw [cQ h]
 have key:∃kp,okK kp∧(mk e c).exec=mk e {c with pc:=c.pc+3,hd:=c.pos,om:=false,fr:={wait:= .lookNot,pc:=c.pc,pos:=c.pos,outermost:=c.om,kept:=kp}::c.fr,sn:=c.sn.add (e.C.getD c.pc 0)}:=by
  unfold Sre.M.exec
  have hw:(mk e c).word 0=e.C.getD c.pc 0:=rfl
  rw [hw,show ops[e.C.getD c.pc 0]? =some .ASSERT_NOT from ho]
  simp only []
  rw [show M.word {code:=e.C,text:=e.T,lim:=e.lim,start:=e.st,pc:=c.pc,pos:=c.pos,handed:=c.hd,outermost:=c.om,marks:= #[],loops:=c.lp,inner:=c.inn,frames:=c.fr,weight:=c.fr.length,seen:=c.sn.add (e.C.getD c.pc 0)} 2=e.C.getD (c.pc+2) 0 from rfl,hb]
  rw [if_neg (by exact Q14 (.n1 _))]
  refine ⟨M.keep (mk e {c with sn:=c.sn.add (e.C.getD c.pc 0)}) (true&&c.inn.isSome),by rw [gS];exact jY, ?_⟩
  exact dJ (c:={c with sn:=c.sn.add (e.C.getD c.pc 0)}) (f:={wait:= .lookNot,pc:=c.pc,pos:=c.pos,outermost:=c.om,kept:=M.keep (mk e {c with sn:=c.sn.add (e.C.getD c.pc 0)}) (true&&c.inn.isSome)}) (by rw [gS]) hs
 obtain ⟨kp,hkp,key⟩:=key
 rw [key];exact hk _ _ hkp
theorem aY3 {f:Sre.Frame} (hf:c.fr=f::fs) (hw:f.wait= .lookNot) (hkp:okK f.kept)
  (hk:∀pc pos om,Fin e k (an e {c with fr:=fs,pc:=pc,pos:=pos,om:=om} false) r):Fin e (k+1) (an e c true) r:=by
 refine jO hf hkp.1 ?_
 unfold M.resume
 rw [hw]
 simp only [if_true]
 exact hk f.pc f.pos f.outermost
theorem aY4 {f:Sre.Frame} (hf:c.fr=f::fs) (hw:f.wait= .lookNot) (hkp:okK f.kept)
  (hk:Fin e k (mk e {c with fr:=fs,pc:=f.pc+1+e.C.getD (f.pc+1) 0,pos:=f.pos,om:=f.outermost}) r):Fin e (k+1) (an e c false) r:=by
 refine jO hf hkp.1 ?_
 unfold M.resume
 rw [hw]
 simp only [Bool.false_eq_true,if_false]
 rw [eA rfl rfl rfl hkp.1 hkp.2.1 hkp.2.2]
 exact hk
theorem aY0 {f:Sre.Frame} (hf:c.fr=f::fs) (hw:f.wait= .maxTail) (hkp:f.kept.marks= #[])
  (hk:∀pc pos om inn,Fin e k (an e {c with fr:=fs,pc:=pc,pos:=pos,om:=om,inn:=inn} false) r):Fin e (k+1) (an e c false) r:=by
 refine jO hf hkp ?_
 unfold M.resume
 rw [hw]
 exact hk f.pc f.pos f.outermost _
theorem aN2 {f:Sre.Frame} (hf:c.fr=f::fs) (hw:f.wait= .closeLoop) (hkp:f.kept.marks= #[])
  (hk:∀pc pos om inn lp,Fin e k (an e {c with fr:=fs,pc:=pc,pos:=pos,om:=om,inn:=inn,lp:=lp} false) r):Fin e (k+1) (an e c false) r:=by
 refine jO hf hkp ?_
 unfold M.resume
 rw [hw]
 exact hk f.pc f.pos f.outermost _ _
end
section
variable {c f i p:Nat}{l:List Nat}{C:Array Nat}{yes:Bool}
variable {e:En}{k:Nat}{r:Option Nat}
theorem vP {c:Cf}{l:Loop} (h:c.pc<e.C.size) (ho:dB e.C c.pc=some .MAX_UNTIL) (hs:small c) (hi:c.inn=some i) (hl:c.lp.getD i dl=l)
  (hleast:¬(l.count+1<(e.C.getD (l.pc+2) 0:Nat))) (hmost:¬(l.count+1<(e.C.getD (l.pc+3) 0:Nat)∨e.C.getD (l.pc+3) 0=maxRepeat))
  (hk:∀sn,Fin e k (mk e {c with pc:=c.pc+1,hd:=c.pos,inn:=l.outer,fr:={wait:= .maxTail,pc:=c.pc+1,pos:=c.pos,outermost:=c.om,count:=l.count+1,loop:=i}::c.fr,sn:=sn}) r):Fin e (k+1) (mk e c) r:=by
 refine cM rfl ?_
 rw [cQ h]
 have key:(mk e c).exec=mk e {c with pc:=c.pc+1,hd:=c.pos,inn:=l.outer,fr:={wait:= .maxTail,pc:=c.pc+1,pos:=c.pos,outermost:=c.om,count:=l.count+1,loop:=i}::c.fr,sn:=c.sn.add (e.C.getD c.pc 0)}:=by
  unfold Sre.M.exec
  have hw:(mk e c).word 0=e.C.getD c.pc 0:=rfl
  rw [hw,show ops[e.C.getD c.pc 0]? =some .MAX_UNTIL from ho]
  simp only []
  unfold M.until_
  show (match c.inn with
   | none=>_
   | some i=>_)=_
  rw [hi]
  simp only []
  rw [show M.loopAt {code:=e.C,text:=e.T,lim:=e.lim,start:=e.st,pc:=c.pc+1,pos:=c.pos,handed:=c.hd,outermost:=c.om,marks:= #[],loops:=c.lp,inner:=some i,frames:=c.fr,weight:=c.fr.length,seen:=c.sn.add (e.C.getD c.pc 0)} i=l from hl]
  rw [if_neg hleast]
  rw [if_neg (by decide),if_neg (by
   simp only [Bool.and_eq_true,Bool.or_eq_true,decide_eq_true_eq,beq_iff_eq,bne_iff_ne]
   exact fun z=>hmost z.1)]
  exact lT (c:={c with pc:=c.pc+1,inn:=some i,sn:=c.sn.add (e.C.getD c.pc 0)}) hl hs
 rw [key];exact hk _
theorem eU (h:dB C i=some .LITERAL):Acc C i (fun c=>c==C.getD (i+1) 0):=fun c sn=>⟨sn,by
 unfold accepts
 dsimp only
 rw [show ops[C.getD i 0]? =_ from h]⟩
theorem zG (h:dB C i=some .ANY_ALL):Acc C i (fun z_=>true):=fun c sn=>⟨sn,by
 unfold accepts
 dsimp only
 rw [show ops[C.getD i 0]? =_ from h]⟩
def jT (C:Array Nat) (f i:Nat) (yes:Bool) (P:Nat→Bool):Prop:=∀c sn,∃sn',inSet C c f i yes sn= .ok (P c,sn')
section
set_option smartUnfolding false
variable {sn:Seen}{q:Bool}
theorem in_end (h:dB C i=some .FAILURE):inSet C c (f+1) i yes sn= .ok (!yes,sn.add (C.getD i 0)):=by
 conv=>lhs;whnf
 rw [show ops[(fun k=>C.getD (i+k) 0) 0]? =_ from h];rfl
theorem in_neg (h:dB C i=some .NEGATE):inSet C c (f+1) i yes sn=inSet C c f (i+1) (!yes) (sn.add (C.getD i 0)):=by
 conv=>lhs;whnf
 rw [show ops[(fun k=>C.getD (i+k) 0) 0]? =_ from h];rfl
theorem in_lit (h:dB C i=some .LITERAL):inSet C c (f+1) i yes sn=if (c==C.getD (i+1) 0)=true then .ok (yes,sn.add (C.getD i 0)) else inSet C c f (i+2) yes (sn.add (C.getD i 0)):=by
 conv=>lhs;whnf
 rw [show ops[(fun k=>C.getD (i+k) 0) 0]? =_ from h];rfl
theorem aL4 (h:dB C i=some .CHARSET):inSet C c (f+1) i yes sn=if (decide (c<256)&&(C.getD (i+(1+c/32)) 0).testBit (c%32))=true then .ok (yes,sn.add (C.getD i 0)) else inSet C c f (i+9) yes (sn.add (C.getD i 0)):=by
 conv=>lhs;whnf
 rw [show ops[(fun k=>C.getD (i+k) 0) 0]? =_ from h];rfl
theorem in_cat (h:dB C i=some .CATEGORY) (hq:category (C.getD (i+1) 0) c= .ok q):inSet C c (f+1) i yes sn=if q=true then .ok (yes,(sn.add (C.getD i 0)).add (55+C.getD (i+1) 0)) else inSet C c f (i+2) yes ((sn.add (C.getD i 0)).add (55+C.getD (i+1) 0)):=by
 conv=>lhs;whnf
 rw [show ops[(fun k=>C.getD (i+k) 0) 0]? =_ from h]
 show (category (C.getD (i+1) 0) c >>= _)=_
 rw [hq];rfl
end
theorem dO (h:dB C i=some .FAILURE):jT C (f+1) i yes (fun z_=> !yes):=fun c sn=>⟨sn.add (C.getD i 0),in_end h⟩
theorem eQ {P:Nat→Bool} (h:dB C i=some .NEGATE) (hs:jT C f (i+1) (!yes) P):jT C (f+1) i yes P:=fun c sn=>by
 obtain ⟨s1,h1⟩:=hs c (sn.add (C.getD i 0))
 exact ⟨s1,(in_neg h).trans h1⟩
theorem eE {P:Nat→Bool} (h:dB C i=some .LITERAL) (hs:jT C f (i+2) yes P):jT C (f+1) i yes (fun c=>if c==C.getD (i+1) 0 then yes else P c):=fun c sn=>by
 obtain ⟨s1,h1⟩:=hs c (sn.add (C.getD i 0))
 rw [in_lit h]
 dsimp only
 cases (c==C.getD (i+1) 0)
 ·exact ⟨s1,h1⟩
 ·exact ⟨_,rfl⟩
theorem gA {P:Nat→Bool} (h:dB C i=some .CHARSET) (hs:jT C f (i+9) yes P):
  jT C (f+1) i yes (fun c=>if (decide (c<256)&&(C.getD (i+(1+c/32)) 0).testBit (c%32))=true then yes else P c):=fun c sn=>by
 obtain ⟨s1,h1⟩:=hs c (sn.add (C.getD i 0))
 rw [aL4 h]
 dsimp only
 cases (decide (c<256)&&(C.getD (i+(1+c/32)) 0).testBit (c%32))
 ·exact ⟨s1,h1⟩
 ·exact ⟨_,rfl⟩
theorem aT1 {P q:Nat→Bool} (h:dB C i=some .CATEGORY) (hq:∀c,category (C.getD (i+1) 0) c= .ok (q c)) (hs:jT C f (i+2) yes P):
  jT C (f+1) i yes (fun c=>if q c then yes else P c):=fun c sn=>by
 obtain ⟨s1,h1⟩:=hs c ((sn.add (C.getD i 0)).add (55+C.getD (i+1) 0))
 rw [in_cat h (hq c)]
 dsimp only
 cases q c
 ·exact ⟨s1,h1⟩
 ·exact ⟨_,rfl⟩
theorem fF {P:Nat→Bool} (h:dB C i=some .IN) (hs:jT C C.size (i+2) true P):Acc C i P:=fun c sn=>by
 obtain ⟨s1,h1⟩:=hs c sn
 refine ⟨s1, ?_⟩
 unfold accepts
 dsimp only
 rw [show ops[C.getD i 0]? =_ from h]
 exact h1
theorem Acc.congr {P P':Nat→Bool} (h:Acc C i P) (e:∀c,P c=P' c):Acc C i P':=fun c sn=>by
 obtain ⟨s1,h1⟩:=h c sn
 exact ⟨s1,by rw [h1,e c]⟩
def dE (e:En) (p:Nat) (l:List Nat):Prop:=p+l.length=e.lim∧∀(i c:Nat),l[i]? =some c→e.T.getD (p+i) 0=c
theorem dE.head (h:dE e p (c::l)):e.T.getD p 0=c:=h.2 0 c rfl
theorem dE.tail (h:dE e p (c::l)):dE e (p+1) l:=⟨by have:=h.1;rw [List.length_cons] at this;exact Q15 (.n3 _ _ _) this,fun i d hd=>by rw [show p+1+i=p+(i+1) by exact Q34 (.n2 _ _)];exact h.2 (i+1) d hd⟩
theorem dE.lt (h:dE e p (c::l)):p<e.lim:=by have:=h.1;rw [List.length_cons] at this;exact lin1 (.t .v0 .v1) (.q (.a .v0 (.a .v2 .k1)) .v1) (.w [1,1]) rfl (.n3 _ _ _) this
theorem dE.nil (h:dE e p []):¬p<e.lim:=by have:=h.1;rw [List.length_nil] at this;exact lin1 (.n (.t .v0 .v1)) (.q (.a .v0 .k0) .v1) (.w [1, -1]) rfl (.n2 _ _) this
theorem dE.le (h:dE e p l):p≤e.lim:=by have:=h.1;exact lin1 (.l .v0 .v1) (.q (.a .v0 .v2) .v1) (.w [1,1]) rfl (.n3 _ _ _) this
theorem dE.len (h:dE e p l):e.lim-p=l.length:=by have:=h.1;exact lin2 (.q .v3 .v2) (.q (.a .v1 .v2) .v0) (.b 3 .v0 .v1) (.b (.d 2 (.w [0, -1,1,1]) (.w [1, -1,1,1])) (.d 2 (.w [0,1,1, -1]) (.w [0,1,1]))) rfl (.n4 _ _ _ _) this rfl
theorem dE.drop {p:Nat}{P:Nat→Bool}:∀{l:List Nat},dE e p l→dE e (p+(l.takeWhile P).length) (l.dropWhile P)
 | [],h=>h
 | c::l,h=>by
  cases hc:P c
  ·rw [List.takeWhile_cons,List.dropWhile_cons,hc];exact h
  ·rw [List.takeWhile_cons,List.dropWhile_cons,hc]
   have:=dE.drop (P:=P) h.tail
   simp only [if_true,List.length_cons]
   rw [show p+((l.takeWhile P).length+1)=p+1+(l.takeWhile P).length by exact lin0 (.q (.a .v0 (.a .v1 .k1)) (.a (.a .v0 .k1) .v1)) (.b (.w [1]) (.w [1])) rfl (.n2 _ _)]
   exact this
theorem aO6 {P:Nat→Bool}:∀{l:List Nat}{p:Nat},dE e p l→cnt e.T P l.length p=(l.takeWhile P).length
 | [],p,h=>rfl
 | c::l,p,h=>by
  rw [List.length_cons]
  rw [yZ,h.head,List.takeWhile_cons]
  cases hc:P c
  ·rfl
  ·simp only [if_true,List.length_cons]
   rw [aO6 h.tail]
theorem fO {P:Nat→Bool}{m:Nat} (h:dE e p l) (hm:l.length≤m):(l.takeWhile P).length=cnt e.T P (min m (e.lim-p)) p:=by
 rw [h.len,Nat.min_eq_right hm,aO6 h]
end
section
variable {C T:Array Nat}{lim p pc:Nat}{l:List Nat}
noncomputable def C6:Array Nat:= #[14,4,0,1,4294967295,24,17,1,4294967295,13,12,21,9,0,908,939524096,671088640,0,0,0,0,0,1,1]
noncomputable def C7:Array Nat:= #[14,4,0,1,4294967295,24,9,0,4294967295,13,4,8,12,0,1,16,92,1]
noncomputable def C2:Array Nat:= #[14,4,0,1,4294967295,24,11,0,4294967295,13,6,16,32,16,9,0,1,23,16,0,1,16,35,13,4,8,13,0,24,5,0,4294967295,2,1,18,16,10,1]
theorem pY {f g:Nat→Bool} (h:((List.range 256).all fun c=>f c==g c)=true):∀c,c<256→f c=g c:=fun c hc=>by
 have:=List.all_eq_true.mp h c (List.mem_range.mpr hc)
 simpa using this
noncomputable def cL (c:Nat):Bool:= !(c==34||c==35||c==39||c==40||c==41||c==91||c==92||c==93||c==123||c==125)
theorem acc6:Acc C6 9 cL:=by
 refine (fF (P:=fun c=>if (decide (c<256)&&(C6.getD (12+(1+c/32)) 0).testBit (c%32))=true then false else true) (by rfl) ?_).congr ?_
 ·exact eQ (f:=23) (by rfl) (gA (f:=22) (by rfl) (dO (f:=21) (by rfl)))
 ·intro c
  by_cases hc:c<256
  ·exact pY (f:=fun c=>if (decide (c<256)&&(C6.getD (12+(1+c/32)) 0).testBit (c%32))=true then false else true) (g:=cL) (by decide +kernel) c hc
  ·have h1:(if (decide (c<256)&&(C6.getD (12+(1+c/32)) 0).testBit (c%32))=true then false else true)=true:=by
    rw [show decide (c<256)=false from decide_eq_false hc];rfl
   rw [h1]
   have nb:∀k,k<256→(c==k)=false:=fun k hk=>beq_eq_false_iff_ne.mpr fun e=>hc (e▸hk)
   unfold cL
   simp only [nb 34 (by decide),nb 35 (by decide),nb 39 (by decide),nb 40 (by decide),nb 41 (by decide),nb 91 (by decide),nb 92 (by decide),nb 93 (by decide),nb 123 (by decide),nb 125 (by decide)]
   rfl
noncomputable def bS (c:Nat):Bool:=Unicode.isSpace c
theorem acc7:Acc C7 9 bS:=by
 refine (fF (P:=fun c=>if Unicode.isSpace c then true else false) (by rfl) ?_).congr ?_
 ·exact aT1 (f:=17) (q:=Unicode.isSpace) (by rfl) (fun c=>by
   show (Except.ok (Unicode.isSpace c)).map (· != (12%2==1))=_
   cases Unicode.isSpace c <;> rfl) (dO (f:=16) (by rfl))
 ·intro c;unfold bS;cases Unicode.isSpace c <;> rfl
noncomputable def bT (c:Nat):Bool:=c==32||c==9
theorem acc2:Acc C2 9 bT:=by
 refine (fF (P:=fun c=>if c==C2.getD (11+1) 0 then true else if c==C2.getD (13+1) 0 then true else false) (by rfl) ?_).congr ?_
 ·exact eE (f:=37) (by rfl) (eE (f:=36) (by rfl) (dO (f:=35) (by rfl)))
 ·intro c
  show (if (c==32)=true then true else if (c==9)=true then true else false)=_
  unfold bT
  cases c==32 <;> cases c==9 <;> rfl
noncomputable def at0 (T:Array Nat) (lim p pc:Nat) (sn:Seen):Cf:={pc:=pc,pos:=p,fr:=[],lp:= #[],inn:=none,hd:=p,om:=true,sn:=sn}
theorem kL (hh:header C=(1,pc)) (hp:p<lim):∃sn,forMatch C T 0 p lim false false=mk ⟨C,T,lim,p⟩ (at0 T lim p pc sn):=by
 unfold forMatch
 rw [hh]
 skip
 rw [if_neg (by simp;lia)]
 refine ⟨if (header C).2==0 then {} else ({}:Seen).add 14, ?_⟩
 have e:pc=(header C).2:=by rw [hh]
 rw [e]
 rfl
theorem jV (hh:header C=(1,pc)) (hp:lim=p) {e:En}:Fin e 1 (forMatch C T 0 p lim false false) none:=by
 subst hp
 unfold forMatch
 rw [hh]
 skip
 rw [if_pos (by simp)]
 exact ⟨1,Nat.le_refl 1,rfl⟩
theorem h6:header C6=(1,5):=by rfl
theorem h7:header C7=(1,5):=by rfl
theorem h2:header C2=(1,5):=by rfl
theorem chew (hR:dE ⟨C6,T,lim,p⟩ p l) (hl:l.length≤4294967295):
  Fin ⟨C6,T,lim,p⟩ 5 (forMatch C6 T 0 p lim false false) (if (l.takeWhile cL).length=0 then none else some (p+(l.takeWhile cL).length)):=by
 induction l with
 | nil=>exact (jV h6 (by have:=hR.1;simp at this;exact Q35 (.n2 _ _) this)).mono (lin0 (.l .k1 (.k 5)) (.w [1]) rfl .o)
 | cons c r=>
  obtain ⟨sn,hs⟩:=kL (T:=T) h6 hR.lt
  rw [hs]
  have hn:=fO (P:=cL) hR hl
  by_cases h0:((c::r).takeWhile cL).length=0
  ·rw [if_pos h0]
   refine aY1 (P:=cL) (k:=4) (by show 5<24;decide) (by rfl) acc6 hR.le ?_ fun c' h1 z_ z_=>(xM h1).mono (lin0 (.l .k1 (.k 4)) (.w [1]) rfl .o)
   show cnt T cL (min 4294967295 (lim-p)) p<1
   have:cnt T cL (min 4294967295 (lim-p)) p=0:=by rw [←hn,h0]
   exact lin2 (.t .v0 .k1) (.q .v1 .v0) (.q .v1 .k0) (.w [1, -1,1]) rfl (.n2 _ _) hn h0
  ·rw [if_neg h0]
   refine tH (P:=cL) (k:=4) (n:=((c::r).takeWhile cL).length) (by show 5<24;decide) (by rfl) acc6 (by show 0<16000000;decide) hn ?_ hR.le ?_ fun sn wh=> ?_
   ·show 1≤_;exact lin1 (.l .k1 .v0) (.n (.q .v0 .k0)) (.w [1,1]) rfl (.n1 _) h0
   ·show 1≤_;have:=hR.lt;have e1:(⟨C6,T,lim,p⟩:En).lim=lim:=rfl;simp only [at0] at *;exact lin2 (.l .k1 .v2) (.t .v1 .v0) (.b 2 .v0 .v1) (.d 2 (.w [0, -1,1,1]) (.w [1,0,0,1])) rfl (.n3 _ _ _) this rfl
   ·refine xL (k:=3) (by show 23<24;decide) (by rfl) fun sn=> ?_
    refine (yU _ _ rfl ?_ rfl).mono (by simp [at0])
    intro f hf
    rw [List.mem_singleton.mp hf]
    exact ⟨rfl, .inr (.inl rfl)⟩
theorem bD6:∀(j:Nat) (c:Cf) (om:Bool) (kp:Sre.Kept),okK kp→(∀i,i<j→(⟨C7,T,lim,p⟩:En).T.getD (p+i) 0≠92)→
  c.fr=[{wait:= .giveBack,pc:=5,pos:=p+j,outermost:=om,count:=(j:Int),kept:=kp}]→Fin ⟨C7,T,lim,p⟩ (2*j+3) (an ⟨C7,T,lim,p⟩ c false) none
 | 0,c,om,kp,hk,_,hf=>(yV (n:=0) hf rfl hk rfl (by show 0<0+1;decide) fun pc om=>(xM rfl).mono (k':=2) (Q64 .o))
 | j+1,c,om,kp,hk,hT,hf=>by
  refine aN1 (k:=2*j+4) (n:=j) hf rfl hk (by decide) rfl (Q2 (.n1 _)) fun om=> ?_
  refine jD (k:=2*j+3) (op:= .LITERAL) (P:=fun c=>c==92) (by show 15<18;decide) (by rfl) rfl (eU (C:=C7) (i:=15) (by rfl)) (fun z_=> ?_) fun sn=> ?_
  ·have:=hT j (Nat.lt_succ_self j)
   simpa using this
  ·exact bD6 j _ om kp hk (fun i hi=>hT i (Nat.lt_succ_of_lt hi)) (by simp)
theorem oJ {P:Nat→Bool}:∀{l:List Nat}{i:Nat},i<(l.takeWhile P).length→∃c,l[i]? =some c∧P c=true
 | [],i,h=>by simp at h
 | c::l,i,h=>by
  rw [List.takeWhile_cons] at h
  cases hc:P c
  ·rw [hc] at h;simp at h
  ·rw [hc] at h
   induction i with
   | zero=>exact ⟨c,rfl,hc⟩
   | succ i=>
    simp only [if_true,List.length_cons] at h
    exact oJ (l:=l) (Nat.lt_of_succ_lt_succ h)
theorem slash (hR:dE ⟨C7,T,lim,p⟩ p l) (hl:l.length≤4294967295):
  Fin ⟨C7,T,lim,p⟩ (2*l.length+9) (forMatch C7 T 0 p lim false false) (if (l.dropWhile bS).head? =some 92 then some (p+(l.takeWhile bS).length+1) else none):=by
 induction l with
 | nil=>exact (jV h7 (by have:=hR.1;simp at this;exact Q35 (.n2 _ _) this)).mono (lin0 (.l .k1 (.a (.m 2 .v0) (.k 9))) (.w [1]) rfl (.n1 _))
 | cons c r=>
  obtain ⟨sn,hs⟩:=kL (T:=T) h7 hR.lt
  rw [hs]
  have hn:=fO (P:=bS) hR hl
  have hD:=hR.drop (P:=bS)
  have hle:((c::r).takeWhile bS).length≤(c::r).length:=(List.takeWhile_sublist _).length_le
  refine tH (P:=bS) (k:=2*(c::r).length+8) (n:=((c::r).takeWhile bS).length) (by show 5<18;decide) (by rfl) acc7 (by show 0<16000000;decide) hn (Q2 (.n1 _)) hR.le (Q2 (.n1 _)) fun sn wh=> ?_
  by_cases hh:((c::r).dropWhile bS).head? =some 92
  ·rw [if_pos hh]
   obtain ⟨r',hr'⟩:∃r',(c::r).dropWhile bS=92::r':=by
    cases hd:(c::r).dropWhile bS with
    | nil=>rw [hd] at hh;cases hh
    | cons a b=>rw [hd] at hh;cases hh;exact ⟨b,rfl⟩
   rw [hr'] at hD
   refine xN (k:=2*(c::r).length+7) (op:= .LITERAL) (P:=fun c=>c==92) (by show 15<18;decide) (by rfl) rfl (eU (C:=C7) (i:=15) (by rfl)) hD.lt (by show (T.getD (p+((c::r).takeWhile bS).length) 0==92)=true;rw [show T.getD (p+((c::r).takeWhile bS).length) 0=92 from hD.head];rfl) fun sn=> ?_
   refine xL (k:=2*(c::r).length+6) (by show 17<18;decide) (by rfl) fun sn=> ?_
   refine (yU _ _ rfl ?_ rfl).mono (by simp [at0])
   intro f hf
   rw [List.mem_singleton.mp hf]
   exact ⟨rfl, .inr (.inl rfl)⟩
  ·rw [if_neg hh]
   refine jD (k:=2*(c::r).length+7) (op:= .LITERAL) (P:=fun c=>c==92) (by show 15<18;decide) (by rfl) rfl (eU (C:=C7) (i:=15) (by rfl)) (fun hp=> ?_) fun sn=> ?_
   ·cases hd:(c::r).dropWhile bS with
    | nil=>rw [hd] at hD;exact absurd hp hD.nil
    | cons a b=>
     rw [hd] at hD hh
     show (T.getD (p+((c::r).takeWhile bS).length) 0==92)=false
     rw [show T.getD (p+((c::r).takeWhile bS).length) 0=a from hD.head]
     simpa using hh
   ·refine (bD6 ((c::r).takeWhile bS).length _ true {whole:=wh} jY ?_ rfl).mono (lin1 (.l (.a (.m 2 .v0) (.k 3)) (.a (.m 2 .v1) (.k 7))) (.l .v0 .v1) (.w [1,2]) rfl (.n2 _ _) hle)
    intro i hi hx
    obtain ⟨d,hd,hP⟩:=oJ hi
    have h2:T.getD (p+i) 0=d:=hR.2 i d hd
    have h3:T.getD (p+i) 0=92:=hx
    rw [h2] at h3
    subst h3
    revert hP
    decide +kernel
theorem aF6 {q k:Nat} (c:Cf) (hpc:c.pc=17) (hpos:c.pos=q) (hs:c.fr.length<100) (h35:q<lim→T.getD q 0≠35) (h10:q<lim→T.getD q 0≠10)
  (hk:∀c':Cf,c'.fr=c.fr→Fin ⟨C2,T,lim,p⟩ k (an ⟨C2,T,lim,p⟩ c' false) none):Fin ⟨C2,T,lim,p⟩ (k+7) (mk ⟨C2,T,lim,p⟩ c) none:=by
 obtain ⟨pc,pos,fr,lp,inn,hd,om,sn⟩:=c
 subst hpc;subst hpos
 have hs':fr.length<100:=hs
 refine vQ (k:=k+6) (by show 17<38;decide) (by rfl) (by show fr.length<16000000;exact Q36 (.n1 _) hs) fun sn=> ?_
 have hl:(lp.push {pc:=17,outer:=inn}).getD lp.size dl={pc:=17,outer:=inn}:=by simp [Array.getD]
 refine aN0 (k:=k+5) (i:=lp.size) (l:={pc:=17,outer:=inn}) (by show 34<38;decide) (by rfl) (by show fr.length+1<16000000;exact Q16 (.n1 _) hs) rfl hl (by show ¬((-1:Int)+1<0);exact lin0 (.n (.T (.a (.g .k1) .k1) .k0)) (.w [1]) rfl .o) (.inl (by show (-1:Int)+1<1;exact Q65 .o)) (by simp) fun sn=> ?_
 refine jD (k:=k+4) (op:= .LITERAL) (P:=fun c=>c==35) (by show 21<38;decide) (by rfl) rfl (eU (C:=C2) (i:=21) (by rfl)) (fun hp=>by simpa using h35 hp) fun sn=> ?_
 refine pV (k:=k+3) (l:={pc:=17,count:=0,began:=some pos,outer:=inn}) rfl rfl jY (by show fr.length+1<16000000;exact Q16 (.n1 _) hs) ?_ ?_ fun om lp' hlp=> ?_
 ·simp [Array.getD,Array.getElem_modify]
 ·simp
 refine jD (k:=k+2) (op:= .LITERAL) (P:=fun c=>c==10) (by show 35<38;decide) (by rfl) rfl (eU (C:=C2) (i:=35) (by rfl)) (fun hp=>by simpa using h10 hp) fun sn=> ?_
 refine aY0 (k:=k+1) rfl rfl rfl fun z_ z_ z_ z_=> ?_
 refine aN2 (k:=k) rfl rfl rfl fun z_ z_ z_ z_ z_=> ?_
 exact hk _ rfl
theorem bD7:∀(j:Nat) (c:Cf) (om:Bool) (kp:Sre.Kept),okK kp→(∀i,i<j→T.getD (p+i) 0≠35∧T.getD (p+i) 0≠10)→
  c.fr=[{wait:= .giveBack,pc:=5,pos:=p+j,outermost:=om,count:=(j:Int),kept:=kp}]→Fin ⟨C2,T,lim,p⟩ (8*j+3) (an ⟨C2,T,lim,p⟩ c false) none
 | 0,c,om,kp,hk,_,hf=>(yV (n:=0) hf rfl hk rfl (by show 0<0+1;decide) fun pc om=>(xM rfl).mono (k':=2) (Q64 .o))
 | j+1,c,om,kp,hk,hT,hf=>by
  have hTj:=hT j (Nat.lt_succ_self j)
  refine aN1 (k:=8*j+10) (n:=j) hf rfl hk (by decide) rfl (Q2 (.n1 _)) fun om=> ?_
  refine aF6 (k:=8*j+3) (q:=p+j) _ (by rfl) (lin1 (.q .v2 (.a .v0 .v1)) (.b 2 (.a .v0 (.a .v1 .k1)) .k1) (.b (.d 1 (.w [0, -1,1]) (.w [1, -1,1])) (.d 1 (.w [0,1,1]) (.w [0,1,1]))) rfl (.n3 _ _ _) rfl) (by show 1<100;decide) (fun z_=>hTj.1) (fun z_=>hTj.2) fun c' hc'=> ?_
  exact bD7 j c' om kp hk (fun i hi=>hT i (Nat.lt_succ_of_lt hi)) (by rw [hc'];simp)
theorem junk (hR:dE ⟨C2,T,lim,p⟩ p l) (hl:l.length≤4294967295) (hh:∀d,(l.dropWhile bT).head? =some d→d≠35∧d≠10):
  Fin ⟨C2,T,lim,p⟩ (8*l.length+14) (forMatch C2 T 0 p lim false false) none:=by
 induction l with
 | nil=>exact (jV h2 (by have:=hR.1;simp at this;exact Q35 (.n2 _ _) this)).mono (lin0 (.l .k1 (.a (.m 8 .v0) (.k 14))) (.w [1]) rfl (.n1 _))
 | cons c r=>
  obtain ⟨sn,hs⟩:=kL (T:=T) h2 hR.lt
  rw [hs]
  have hn:=fO (P:=bT) hR hl
  have hD:=hR.drop (P:=bT)
  have hle:((c::r).takeWhile bT).length≤(c::r).length:=(List.takeWhile_sublist _).length_le
  refine tH (P:=bT) (k:=8*(c::r).length+13) (n:=((c::r).takeWhile bT).length) (by show 5<38;decide) (by rfl) acc2 (by show 0<16000000;decide) hn (Q2 (.n1 _)) hR.le (Q2 (.n1 _)) fun sn wh=> ?_
  have hx:∀x,p+((c::r).takeWhile bT).length<lim→(x=35∨x=10)→T.getD (p+((c::r).takeWhile bT).length) 0≠x:=by
   intro x hp hx hT
   cases hd:(c::r).dropWhile bT with
   | nil=>rw [hd] at hD;exact absurd hp hD.nil
   | cons a b=>
    rw [hd] at hD hh
    have h1:T.getD (p+((c::r).takeWhile bT).length) 0=a:=hD.head
    have h2:=hh a rfl
    rw [h1] at hT
    rcases hx with e | e
    ·exact h2.1 (hT.trans e)
    ·exact h2.2 (hT.trans e)
  refine (aF6 (k:=8*((c::r).takeWhile bT).length+3) (q:=p+((c::r).takeWhile bT).length) _ (by rfl) (by rfl) (by show 1<100;decide) (fun hp=>hx 35 hp (.inl rfl)) (fun hp=>hx 10 hp (.inr rfl)) fun c' hc'=> ?_).mono (lin1 (.l (.a (.a (.m 8 .v0) (.k 3)) (.k 7)) (.a (.m 8 .v1) (.k 13))) (.l .v0 .v1) (.w [1,8]) rfl (.n2 _ _) hle)
  refine bD7 ((c::r).takeWhile bT).length c' true {whole:=wh} jY (fun i hi=> ?_) hc'
  obtain ⟨d,hd,hP⟩:=oJ hi
  have h2:T.getD (p+i) 0=d:=hR.2 i d hd
  rw [h2]
  constructor <;> (rintro rfl;revert hP;decide)
end
section
variable {hi i lpc p pb pb' pl pu q:Nat}{om om':Bool}{n:Int}{b:Option Nat}
structure ILit (C:Array Nat) (pc q pc':Nat):Prop where
 lt:pc<C.size
 op:dB C pc=some .LITERAL
 w:C.getD (pc+1) 0=q
 nx:pc+itemWidth C pc=pc'
structure IAll (C:Array Nat) (pc pc':Nat):Prop where
 lt:pc<C.size
 op:dB C pc=some .ANY_ALL
 nx:pc+itemWidth C pc=pc'
structure IRun (C:Array Nat) (pc hi pc':Nat) (P:Nat→Bool):Prop where
 lt:pc<C.size
 op:dB C pc=some .REPEAT_ONE
 lo:C.getD (pc+2) 0=0
 hi:C.getD (pc+3) 0=hi
 nx:pc+1+C.getD (pc+1) 0=pc'
 acc:Acc C (pc+4) P
structure IJmp (C:Array Nat) (pc pc':Nat):Prop where
 lt:pc<C.size
 op:dB C pc=some .JUMP
 nx:pc+1+C.getD (pc+1) 0=pc'
structure ISuc (C:Array Nat) (pc:Nat):Prop where
 lt:pc<C.size
 op:dB C pc=some .SUCCESS
structure IRpt (C:Array Nat) (pc pu hi:Nat):Prop where
 lt:pc<C.size
 op:dB C pc=some .REPEAT
 lo:C.getD (pc+2) 0=0
 hi:C.getD (pc+3) 0=hi
 nx:pc+1+C.getD (pc+1) 0=pu
 ltu:pu<C.size
 opu:dB C pu=some .MAX_UNTIL
structure IBra (C:Array Nat) (pc pc2:Nat):Prop where
 lt:pc<C.size
 op:dB C pc=some .BRANCH
 nz:(C.getD (pc+1) 0==0)=false
 nx:pc+1+C.getD (pc+1) 0=pc2
structure INot (C:Array Nat) (pc pc':Nat):Prop where
 lt:pc<C.size
 op:dB C pc=some .ASSERT_NOT
 bk:C.getD (pc+2) 0=0
 nx:pc+1+C.getD (pc+1) 0=pc'
section
variable {e:En}{k:Nat}{r:Option Nat}{pc pc' pos hd:Nat}{fr:List Sre.Frame}{lp:Array Loop}{inn:Option Nat}{om:Bool}{sn:Seen}
theorem dY (h:ILit e.C pc q pc') (hp:pos<e.lim) (hc:e.T.getD pos 0=q) (hk:∀sn,Fin e k (mk e ⟨pc',pos+1,fr,lp,inn,hd,om,sn⟩) r):Fin e (k+1) (mk e ⟨pc,pos,fr,lp,inn,hd,om,sn⟩) r:=by
 refine xN (op:= .LITERAL) (P:=fun c=>c==e.C.getD (pc+1) 0) h.lt h.op rfl (eU h.op) hp ?_ fun sn=> ?_
 ·show (e.T.getD pos 0==e.C.getD (pc+1) 0)=true;rw [hc,h.w];simp
 ·have:=hk sn
  rw [←h.nx] at this;exact this
theorem bK (h:ILit e.C pc q pc') (hc:pos<e.lim→e.T.getD pos 0≠q) (hk:∀sn,Fin e k (an e ⟨pc,pos,fr,lp,inn,hd,om,sn⟩ false) r):Fin e (k+1) (mk e ⟨pc,pos,fr,lp,inn,hd,om,sn⟩) r:=by
 refine jD (op:= .LITERAL) (P:=fun c=>c==e.C.getD (pc+1) 0) h.lt h.op rfl (eU h.op) (fun hp=> ?_) hk
 show (e.T.getD pos 0==e.C.getD (pc+1) 0)=false
 rw [h.w];simpa using hc hp
theorem bD1 (h:IAll e.C pc pc') (hp:pos<e.lim) (hk:∀sn,Fin e k (mk e ⟨pc',pos+1,fr,lp,inn,hd,om,sn⟩) r):Fin e (k+1) (mk e ⟨pc,pos,fr,lp,inn,hd,om,sn⟩) r:=by
 refine xN (op:= .ANY_ALL) (P:=fun z_=>true) h.lt h.op rfl (zG h.op) hp rfl fun sn=> ?_
 have:=hk sn
 rw [←h.nx] at this;exact this
theorem aL9 (h:IAll e.C pc pc') (hp:¬pos<e.lim) (hk:∀sn,Fin e k (an e ⟨pc,pos,fr,lp,inn,hd,om,sn⟩ false) r):Fin e (k+1) (mk e ⟨pc,pos,fr,lp,inn,hd,om,sn⟩) r:=
 jD (op:= .ANY_ALL) (P:=fun z_=>true) h.lt h.op rfl (zG h.op) (fun hp'=>absurd hp' hp) hk
noncomputable def gb (pc pos:Nat) (om:Bool) (n:Nat) (wh:Bool):Sre.Frame:={wait:= .giveBack,pc:=pc,pos:=pos,outermost:=om,count:=(n:Int),kept:={whole:=wh}}
theorem jB {n:Nat}{wh:Bool}:good (gb pc pos om n wh):=⟨rfl, .inr (.inl rfl)⟩
theorem rC {P:Nat→Bool}{n:Nat} (h:IRun e.C pc hi pc' P) (hs:fr.length<16000000) (hn:n=cnt e.T P (min hi (e.lim-pos)) pos) (hpos:pos≤e.lim)
  (hk:∀sn wh,Fin e k (mk e ⟨pc',pos+n,gb pc (pos+n) om n wh::fr,lp,inn,pos+n,om,sn⟩) r):Fin e (k+1) (mk e ⟨pc,pos,fr,lp,inn,hd,om,sn⟩) r:=by
 refine tH (P:=P) (n:=n) h.lt h.op h.acc hs (by show n=cnt e.T P (min (e.C.getD (pc+3) 0) (e.lim-pos)) pos;rw [h.hi];exact hn) (by show e.C.getD (pc+2) 0≤n;rw [h.lo];exact Q2 (.n1 _)) hpos
  (by show e.C.getD (pc+2) 0≤e.lim-pos;rw [h.lo];exact Q2 (.n1 _)) fun sn wh=> ?_
 have:=hk sn wh
 rw [←h.nx] at this;exact this
theorem vO (h:IJmp e.C pc pc') (hk:∀sn,Fin e k (mk e ⟨pc',pos,fr,lp,inn,hd,om,sn⟩) r):Fin e (k+1) (mk e ⟨pc,pos,fr,lp,inn,hd,om,sn⟩) r:=by
 refine f_jump h.lt h.op (.inl rfl) fun sn=> ?_
 have:=hk sn
 rw [←h.nx] at this;exact this
theorem yT (h:ISuc e.C pc) (hk:∀sn,Fin e k (an e ⟨pc,pos,fr,lp,inn,pos,om,sn⟩ true) r):Fin e (k+1) (mk e ⟨pc,pos,fr,lp,inn,hd,om,sn⟩) r:=
 xL h.lt h.op hk
noncomputable def cl (pc pos:Nat) (om:Bool) (i:Nat):Sre.Frame:={wait:= .closeLoop,pc:=pc,pos:=pos,outermost:=om,loop:=i}
theorem nZ:good (cl pc pos om i):=⟨rfl, .inr (.inr (.inl rfl))⟩
theorem aL8 (h:IRpt e.C pc pu hi) (hs:fr.length<16000000) (hk:∀sn,Fin e k (mk e ⟨pu,pos,cl pc pos om lp.size::fr,lp.push {pc:=pc,outer:=inn},some lp.size,pos,om,sn⟩) r):
  Fin e (k+1) (mk e ⟨pc,pos,fr,lp,inn,hd,om,sn⟩) r:=by
 refine vQ h.lt h.op hs fun sn=> ?_
 have:=hk sn
 rw [←h.nx] at this;exact this
noncomputable def mm (pc pos:Nat) (om:Bool) (n:Int) (i:Nat) (b:Option Nat):Sre.Frame:={wait:= .maxMore,pc:=pc,pos:=pos,outermost:=om,count:=n,kept:={whole:=true},loop:=i,began:=b}
theorem nW:good (mm pc pos om n i b):=⟨rfl, .inr (.inr (.inr (.inl rfl)))⟩
structure LpIs (lp:Array Loop) (inn:Option Nat) (i lpc p:Nat):Prop where
 inn:inn=some i
 lt:i<lp.size
 pc:(lp.getD i dl).pc=lpc
 cnt: -1≤(lp.getD i dl).count
 beg:∀b,(lp.getD i dl).began=some b→b<p
theorem LpIs.ne (h:LpIs lp inn i lpc p):(lp.getD i dl).began≠some p:=fun e=>Nat.lt_irrefl _ (h.beg p e)
theorem gI {f:Loop→Loop} (h:i<lp.size):(lp.modify i f).getD i dl=f (lp.getD i dl):=by
 simp [Array.getD,Array.getElem_modify,h]
theorem eD {l:Loop}:(lp.push l).getD lp.size dl=l:=by simp [Array.getD]
theorem LpIs.new:LpIs (lp.push {pc:=pc,outer:=inn}) (some lp.size) lp.size pc p:=
 ⟨rfl,by simp,by rw [eD],by rw [eD];show (-1:Int)≤ -1;exact lin0 (.L (.g .k1) (.g .k1)) (.w [1]) rfl .o,fun b hb=>by rw [eD] at hb;cases hb⟩
theorem LpIs.next {p':Nat} (h:LpIs lp inn i lpc p) (hp:p<p'):LpIs (lp.modify i fun l'=>{l' with count:=(lp.getD i dl).count+1,began:=some p}) inn i lpc p':=
 ⟨h.inn,by simpa using h.lt,by rw [gI h.lt];exact h.pc,by rw [gI h.lt];show -1≤(lp.getD i dl).count+1;have:=h.cnt;exact lin1 (.L (.g .k1) (.a .v0 .k1)) (.L (.g .k1) .v0) (.w [1,1]) rfl (.z _ .o) this,fun b hb=>by rw [gI h.lt] at hb;cases hb;exact hp⟩
theorem fU (h:IRpt e.C lpc pu hi) (hs:fr.length<16000000) (hL:LpIs lp inn i lpc pos) (hhi:hi=maxRepeat∨(lp.getD i dl).count+1<(hi:Nat))
  (hk:∀sn n b,Fin e k (mk e ⟨lpc+4,pos,mm (pu+1) pos om n i b::fr,lp.modify i fun l'=>{l' with count:=(lp.getD i dl).count+1,began:=some pos},inn,pos,om,sn⟩) r):
  Fin e (k+1) (mk e ⟨pu,pos,fr,lp,inn,hd,om,sn⟩) r:=by
 refine aN0 (i:=i) (l:=lp.getD i dl) h.ltu h.opu hs hL.inn rfl (by rw [hL.pc,h.lo];have:=hL.cnt;exact Q66 (.z _ .o) this) ?_ hL.ne fun sn=> ?_
 ·show (lp.getD i dl).count+1<(e.C.getD ((lp.getD i dl).pc+3) 0:Nat)∨e.C.getD ((lp.getD i dl).pc+3) 0=maxRepeat
  rw [hL.pc,h.hi]
  exact hhi.symm
 ·have:=hk sn ((lp.getD i dl).count+1) (lp.getD i dl).began
  rw [←hL.pc] at this;exact this
noncomputable def mt (pc pos:Nat) (om:Bool) (n:Int) (i:Nat):Sre.Frame:={wait:= .maxTail,pc:=pc,pos:=pos,outermost:=om,count:=n,loop:=i}
theorem kX:good (mt pc pos om n i):=⟨rfl, .inr (.inr (.inr (.inr rfl)))⟩
theorem tE (hs:fr.length<16000000) (hi:i<lp.size)
  (hk:∀om lp inn,Fin e k (mk e ⟨pu,p,mt pu p om n i::fr,lp,inn,p,om,sn⟩) r):Fin e (k+1) (an e ⟨pc,pos,mm pu p om' n i b::fr,lp,inn,hd,om,sn⟩ false) r:=
 pV (f:=mm pu p om' n i b) rfl rfl jY hs rfl hi fun om lp' z_=>hk om lp' _
theorem g_tail (h:IRpt e.C lpc pu hi) (hs:fr.length<16000000) (hinn:inn=some i) (hpc:(lp.getD i dl).pc=lpc) (hcnt: -1≤(lp.getD i dl).count) (hhi:hi≠maxRepeat) (hge:(hi:Int)≤(lp.getD i dl).count+1)
  (hk:∀sn n inn',Fin e k (mk e ⟨pu+1,pos,mt (pu+1) pos om n i::fr,lp,inn',pos,om,sn⟩) r):Fin e (k+1) (mk e ⟨pu,pos,fr,lp,inn,hd,om,sn⟩) r:=by
 refine vP (i:=i) (l:=lp.getD i dl) h.ltu h.opu hs hinn rfl (by rw [hpc,h.lo];exact Q66 (.z _ .o) hcnt) ?_ fun sn=>hk sn _ _
 rw [hpc,h.hi]
 rintro (h1 | h1)
 ·exact lin2 .f (.L (.c .v0) (.a .v1 .k1)) (.T (.a .v1 .k1) (.c .v0)) (.w [0,1,1]) rfl (.n _ (.z _ .o)) hge h1
 ·exact hhi h1
noncomputable def nb (pc pos:Nat) (om:Bool) (kp:Sre.Kept):Sre.Frame:={wait:= .nextBranch,pc:=pc,pos:=pos,outermost:=om,kept:=kp}
theorem iZ {kp:Sre.Kept} (h:okK kp):good (nb pc pos om kp):=⟨h.1, .inl rfl⟩
theorem rD {pc2:Nat} (h:IBra e.C pc pc2) (hs:fr.length<16000000) (hk:∀sn kp,okK kp→Fin e k (mk e ⟨pc+2,pos,nb (pc+1) pos om kp::fr,lp,inn,pos,om,sn⟩) r):Fin e (k+1) (mk e ⟨pc,pos,fr,lp,inn,hd,om,sn⟩) r:=
 aN3 h.lt h.op hs h.nz hk
theorem eF {kp:Sre.Kept} (hkp:okK kp) (hs:fr.length<16000000) (hn:pb+e.C.getD pb 0=pb') (h0:(e.C.getD pb' 0==0)=false)
  (hk:∀om,Fin e k (mk e ⟨pb'+1,p,nb pb' p om kp::fr,lp,inn,p,om,sn⟩) r):Fin e (k+1) (an e ⟨pc,pos,nb pb p om' kp::fr,lp,inn,hd,om,sn⟩ false) r:=by
 refine aY2 (f:=nb pb p om' kp) rfl rfl hkp hs (by show (e.C.getD (pb+e.C.getD pb 0) 0==0)=false;rw [hn];exact h0) fun om=> ?_
 have:=hk om
 rw [←hn] at this;exact this
theorem pP {kp:Sre.Kept} (hkp:okK kp) (hn:pb+e.C.getD pb 0=pb') (h0:(e.C.getD pb' 0==0)=true)
  (hk:∀pc om,Fin e k (an e ⟨pc,p,fr,lp,inn,hd,om,sn⟩ false) r):Fin e (k+1) (an e ⟨pc,pos,nb pb p om' kp::fr,lp,inn,hd,om,sn⟩ false) r:=
 aM9 (f:=nb pb p om' kp) rfl rfl hkp (by show (e.C.getD (pb+e.C.getD pb 0) 0==0)=true;rw [hn];exact h0) hk
noncomputable def ln (pc pos:Nat) (om:Bool) (kp:Sre.Kept):Sre.Frame:={wait:= .lookNot,pc:=pc,pos:=pos,outermost:=om,kept:=kp}
theorem bD0 (h:INot e.C pc pc') (hs:fr.length<16000000) (hk:∀sn kp,okK kp→Fin e k (mk e ⟨pc+3,pos,ln pc pos om kp::fr,lp,inn,pos,false,sn⟩) r):Fin e (k+1) (mk e ⟨pc,pos,fr,lp,inn,hd,om,sn⟩) r:=
 aA9 h.lt h.op h.bk hs hk
theorem aX7 {kp:Sre.Kept} (hkp:okK kp) (hk:∀pc pos om,Fin e k (an e ⟨pc,pos,fr,lp,inn,hd,om,sn⟩ false) r):Fin e (k+1) (an e ⟨pc,pos,ln pl p om' kp::fr,lp,inn,hd,om,sn⟩ true) r:=
 aY3 (f:=ln pl p om' kp) rfl rfl hkp hk
theorem aX8 {kp:Sre.Kept} (h:INot e.C pl pc') (hkp:okK kp) (hk:Fin e k (mk e ⟨pc',p,fr,lp,inn,hd,om',sn⟩) r):Fin e (k+1) (an e ⟨pc,pos,ln pl p om' kp::fr,lp,inn,hd,om,sn⟩ false) r:=by
 refine aY4 (f:=ln pl p om' kp) rfl rfl hkp ?_
 rw [←h.nx] at hk
 exact hk
theorem aL7 (hg:∀g∈fr,good g):Fin e (fr.length+1) (an e ⟨pc,pos,fr,lp,inn,hd,om,sn⟩ true) (some hd):=yU fr _ rfl hg rfl
end
theorem aS {f:Sre.Frame}{fs:List Sre.Frame} (h:good f) (hs:∀g∈fs,good g):∀g∈f::fs,good g:=fun g hg=>(List.mem_cons.mp hg).elim (fun e=>e▸h) (hs g)
end
section
noncomputable def C3:Array Nat:= #[14,9,4,1,4294967295,16,34,16,39,0,7,72,16,34,16,34,16,34,24,12,0,4294967295,13,7,21,16,34,16,92,0,1,23,37,0,4294967295,7,6,16,92,3,15,15,13,16,34,5,7,0,16,34,16,34,1,15,2,0,24,12,0,4294967295,13,7,21,16,34,16,92,0,1,18,23,9,0,1,16,34,16,34,16,34,18,15,186,56,16,34,24,17,0,4294967295,13,12,21,9,1024,4,268435456,0,0,0,0,0,0,1,23,24,0,4294967295,16,92,3,24,17,0,4294967295,13,12,21,9,1024,4,268435456,0,0,0,0,0,0,1,18,24,6,0,1,16,34,1,15,130,72,16,39,16,39,16,39,24,12,0,4294967295,13,7,21,16,39,16,92,0,1,23,37,0,4294967295,7,6,16,92,3,15,15,13,16,39,5,7,0,16,39,16,39,1,15,2,0,24,12,0,4294967295,13,7,21,16,39,16,92,0,1,18,23,9,0,1,16,39,16,39,16,39,18,15,58,56,16,39,24,17,0,4294967295,13,12,21,9,1024,128,268435456,0,0,0,0,0,0,1,23,24,0,4294967295,16,92,3,24,17,0,4294967295,13,12,21,9,1024,128,268435456,0,0,0,0,0,0,1,18,24,6,0,1,16,39,1,15,2,0,1]
noncomputable def cB (q:Nat):List Nat→Nat
 | []=>0
 | c::r=>if c=92 then (match r with
   | []=>0
   | _::r'=>2+cB q r')
  else if c=q then 1 else if c=10 then 0 else 1+cB q r
theorem iX {q c:Nat}{r:List Nat}:cB q (c::r)=if c=92 then (match r with
   | []=>0
   | _::r'=>2+cB q r')
  else if c=q then 1 else if c=10 then 0 else 1+cB q r:=by cases r <;> rfl
noncomputable def bN (q:Nat):List Nat→Nat
 | []=>0
 | c::r=>if c=92 then (match r with
   | []=>0
   | _::r'=>2+bN q r')
  else if c=q∧r.take 2=[q,q] then 3 else 1+bN q r
theorem kN {q c:Nat}{r:List Nat}:bN q (c::r)=if c=92 then (match r with
   | []=>0
   | _::r'=>2+bN q r')
  else if c=q∧r.take 2=[q,q] then 3 else 1+bN q r:=by cases r <;> rfl
noncomputable def eK (q:Nat) (l:List Nat):Nat:=if l.take 3=[q,q,q] then 3+bN q (l.drop 3) else 1+cB q (l.drop 1)
noncomputable def aR (q c:Nat):Bool:= !(c==10||c==q||c==92)
noncomputable def aK (q c:Nat):Bool:= !(c==q||c==92)
theorem jX {q:Nat}:∀l:List Nat,cB q l=(l.takeWhile (aR q)).length+cB q (l.dropWhile (aR q))
 | []=>rfl
 | c::r=>by
  cases hc:aR q c
  ·rw [List.takeWhile_cons,List.dropWhile_cons,hc];simp
  ·rw [List.takeWhile_cons,List.dropWhile_cons,hc]
   simp only [if_true,List.length_cons]
   have h:=jX (q:=q) r
   unfold aR at hc
   simp at hc
   conv=>lhs;rw [iX]
   rw [if_neg hc.2,if_neg hc.1.2,if_neg hc.1.1,h];exact Q67 (.n2 _ _)
theorem gQ {q:Nat}:∀l:List Nat,bN q l=(l.takeWhile (aK q)).length+bN q (l.dropWhile (aK q))
 | []=>rfl
 | c::r=>by
  cases hc:aK q c
  ·rw [List.takeWhile_cons,List.dropWhile_cons,hc];simp
  ·rw [List.takeWhile_cons,List.dropWhile_cons,hc]
   simp only [if_true,List.length_cons]
   have h:=gQ (q:=q) r
   unfold aK at hc
   simp at hc
   conv=>lhs;rw [kN]
   rw [if_neg hc.2,if_neg (fun z=>hc.1 z.1),h];exact Q67 (.n2 _ _)
theorem eZ {P:Nat→Bool}{l:List Nat}{d:Nat}:(l.dropWhile P).head? =some d→P d=false:=by
 induction l with
 | nil=>intro h;cases h
 | cons c l ih=>
  intro h
  rw [List.dropWhile_cons] at h
  cases hc:P c
  ·rw [hc] at h;cases h;exact hc
  ·rw [hc] at h;exact ih h
theorem dD {P:Nat→Bool} (l:List Nat):(l.takeWhile P).length+(l.dropWhile P).length=l.length:=by
 induction l with
 | nil=>rfl
 | cons c l ih=>
  rw [List.takeWhile_cons,List.dropWhile_cons]
  cases hc:P c
  ·simp
  ·simp only [if_true,List.length_cons];exact lin1 (.q (.a (.a .v0 .k1) .v1) (.a .v2 .k1)) (.q (.a .v0 .v1) .v2) (.b (.w [1, -1]) (.w [1,1])) rfl (.n3 _ _ _) ih
theorem i268:ISuc C3 268:=(⟨by show 268<269;decide,by kernel_rfl⟩:ISuc C3 268)
section
structure SgP where
 b:Nat
 q:Nat
 n92:q≠92
 n10:q≠10
 iL:ILit C3 b q (b+2)
 iR:IRun C3 (b+2) 4294967295 (b+20) (aR q)
 iP:IRpt C3 (b+20) (b+45) 4294967295
 iB:ILit C3 (b+24) 92 (b+26)
 iA:IAll C3 (b+26) (b+27)
 iR2:IRun C3 (b+27) 4294967295 (b+45) (aR q)
 iT:IRun C3 (b+46) 1 (b+53) (fun c=>c==q)
 iJ:IJmp C3 (b+53) 268
variable (h:SgP)
theorem aN6 {T:Array Nat}{lim st p pc pos hd i:Nat}{l:List Nat}{fs:List Sre.Frame}{lp:Array Loop}{inn:Option Nat}{om om':Bool}{sn:Seen}{n:Int}{b:Option Nat} (hR:dE ⟨C3,T,lim,st⟩ p l)
  (hi:i<lp.size) (hs:fs.length+5<16000000) (hg:∀g∈fs,good g):Fin ⟨C3,T,lim,st⟩ (fs.length+7) (an ⟨C3,T,lim,st⟩ ⟨pc,pos,mm (h.b+46) p om' n i b::fs,lp,inn,hd,om,sn⟩ false) (some (p+if l.head? =some h.q then 1 else 0)):=by
 refine tE (k:=fs.length+6) (Q68 (.n1 _) hs) hi fun om lp' inn'=> ?_
 have hn:(if l.head? =some h.q then 1 else 0)=cnt T (fun c=>c==h.q) (min 1 (lim-p)) p:=by
  induction l with
  | nil=>
   have h0:lim-p=0:=hR.len
   rw [h0];rfl
  | cons a r=>
   have h0:lim-p=r.length+1:=hR.len
   rw [show min 1 (lim-p)=1 by exact lin2 (.q .v2 .k1) (.q .v1 (.a .v0 .k1)) (.M 2 .k1 .v1) (.b (.d 2 (.w [0, -1,1]) (.w [0, -1,1, -1])) (.d 2 (.w [0,1,1]) (.w [1,1,1]))) rfl (.n3 _ _ _) h0 rfl]
   rw [yZ,show T.getD p 0=a from hR.head]
   by_cases ha:a=h.q
   ·rw [if_pos (by simpa using ha),if_pos (by simpa using ha)];rfl
   ·rw [if_neg (by simpa using ha),if_neg (by simpa using ha)]
 refine rC (k:=fs.length+5) h.iT (by simp only [List.length_cons];exact Q69 (.n1 _) hs) hn hR.le fun sn wh=> ?_
 refine vO (k:=fs.length+4) h.iJ fun sn=> ?_
 refine yT (k:=fs.length+3) i268 fun sn=> ?_
 exact aL7 (aS jB (aS kX hg))
theorem loop1 {T:Array Nat}{lim st:Nat} (hlim:lim≤4000000):∀(n:Nat) (l:List Nat) (p i hd:Nat) (fr:List Sre.Frame) (lp:Array Loop) (inn:Option Nat) (om:Bool) (sn:Seen),l.length≤n→dE ⟨C3,T,lim,st⟩ p l→(∀d,l.head? =some d→aR h.q d=false)→
  LpIs lp inn i (h.b+20) p→(∀g∈fr,good g)→fr.length+3*l.length+10<16000000→Fin ⟨C3,T,lim,st⟩ (7*l.length+fr.length+12) (mk ⟨C3,T,lim,st⟩ ⟨(h.b+45),p,fr,lp,inn,hd,om,sn⟩) (some (p+cB h.q l)):=by
 intro n
 induction n with
 | zero=>
  intro l p i hd fr lp inn om sn hl hR hh hL hg hs
  cases l with
  | cons _ _=>simp at hl
  | nil=>
   refine Fin.mono (k:=(fr.length+7)+2) ?_ (by simp only [List.length_nil];exact lin0 (.l (.a (.a .v0 (.k 7)) (.k 2)) (.a (.a (.m 7 .k0) .v0) (.k 12))) (.w [1]) rfl (.n1 _))
   refine fU h.iP (Q70 (.n2 _ _) hs) hL (.inl rfl) fun sn n b=> ?_
   refine bK h.iB (fun hp=>absurd hp hR.nil) fun sn=> ?_
   exact aN6 h hR (by simpa using hL.lt) (Q71 (.n2 _ _) hs) hg
 | succ n ih=>
  intro l p i hd fr lp inn om sn hl hR hh hL hg hs
  cases l with
  | nil=>exact ih [] p i hd fr lp inn om sn (by simp) hR hh hL hg hs
  | cons a r=>
   simp only [List.length_cons] at hl hs
   by_cases ha:a=92
   ·subst ha
    cases r with
    | nil=>
     refine Fin.mono (k:=(fr.length+7)+3) ?_ (by simp only [List.length_cons,List.length_nil];exact lin0 (.l (.a (.a .v0 (.k 7)) (.k 3)) (.a (.a (.m 7 (.a .k0 .k1)) .v0) (.k 12))) (.w [1]) rfl (.n1 _))
     refine fU h.iP (Q17 (.n2 _ _) hs) hL (.inl rfl) fun sn n b=> ?_
     refine dY h.iB hR.lt hR.head fun sn=> ?_
     refine aL9 h.iA hR.tail.nil fun sn=> ?_
     rw [show cB h.q [92]=(if ([92]:List Nat).head? =some h.q then 1 else 0) from (if_neg (fun e=>h.n92 (Option.some.inj e).symm)).symm]
     exact aN6 h hR (by simpa using hL.lt) (Q37 (.n2 _ _) hs) hg
    | cons d r'=>
     have hR2:=hR.tail.tail
     have hD:=hR2.drop (P:=aR h.q)
     have htl:=dD (P:=aR h.q) r'
     have hsc:cB h.q (92::d::r')=2+((r'.takeWhile (aR h.q)).length+cB h.q (r'.dropWhile (aR h.q))):=by
      rw [←jX r'];rfl
     simp only [List.length_cons] at hs hl
     have hl1:=hR2.1
     have e1:(⟨C3,T,lim,st⟩:En).lim=lim:=rfl
     refine Fin.mono (k:=(7*(r'.dropWhile (aR h.q)).length+(fr.length+2)+12)+4) ?_ (by simp only [List.length_cons];exact lin1 (.l (.a (.a (.a (.m 7 .v0) (.a .v1 (.k 2))) (.k 12)) (.k 4)) (.a (.a (.m 7 (.a (.a .v2 .k1) .k1)) .v1) (.k 12))) (.q (.a .v3 .v0) .v2) (.w [1,7]) rfl (.n4 _ _ _ _) htl)
     refine fU h.iP (Q72 (.n2 _ _) hs) hL (.inl rfl) fun sn n b=> ?_
     refine dY h.iB hR.lt hR.head fun sn=> ?_
     refine bD1 h.iA hR.tail.lt fun sn=> ?_
     refine rC h.iR2 (by simp only [List.length_cons];exact Q73 (.n2 _ _) hs) (fO (m:=4294967295) hR2 (lin2 (.l .v0 (.k 4294967295)) (.l .v1 (.k 4000000)) (.q (.a (.a (.a .v2 .k1) .k1) .v0) .v1) (.w [1,1,1]) rfl (.n3 _ _ _) hlim hl1)) hR2.le fun sn wh=> ?_
     rw [hsc,show p+(2+((r'.takeWhile (aR h.q)).length+cB h.q (r'.dropWhile (aR h.q))))=p+1+1+(r'.takeWhile (aR h.q)).length+cB h.q (r'.dropWhile (aR h.q)) by exact Q74 (.n3 _ _ _)]
     exact ih (r'.dropWhile (aR h.q)) (p+1+1+(r'.takeWhile (aR h.q)).length) i _ _ _ _ _ _ (Q75 (.n4 _ _ _ _) hl htl) hD (fun d hd=>eZ hd) (hL.next (Q76 (.n2 _ _))) (aS jB (aS nW hg)) (by simp only [List.length_cons];exact lin2 (.t (.a (.a (.a (.a .v0 .k1) .k1) (.m 3 .v1)) (.k 10)) (.k 16000000)) (.t (.a (.a .v0 (.m 3 (.a (.a .v2 .k1) .k1))) (.k 10)) (.k 16000000)) (.q (.a .v3 .v1) .v2) (.w [1,1,3]) rfl (.n4 _ _ _ _) hs htl)
   ·have hpl:=hh a rfl
    have hsc:cB h.q (a::r)=if (a::r).head? =some h.q then 1 else 0:=by
     unfold aR at hpl
     simp at hpl
     rw [iX]
     rw [if_neg ha]
     by_cases hq:a=h.q
     ·rw [if_pos hq,if_pos (by simpa using hq)]
     ·have h10:a=10:=by
       by_cases h10:a=10
       ·exact h10
       ·exact absurd (hpl h10 hq) ha
      rw [if_neg hq,if_pos h10,if_neg (by simpa using hq)]
    rw [hsc]
    refine Fin.mono (k:=(fr.length+7)+2) ?_ (by simp only [List.length_cons];exact lin0 (.l (.a (.a .v0 (.k 7)) (.k 2)) (.a (.a (.m 7 (.a .v1 .k1)) .v0) (.k 12))) (.w [1]) rfl (.n2 _ _))
    refine fU h.iP (Q17 (.n2 _ _) hs) hL (.inl rfl) fun sn n b=> ?_
    refine bK h.iB (fun hp hx=>ha (hR.head.symm.trans hx)) fun sn=> ?_
    exact aN6 h hR (by simpa using hL.lt) (Q37 (.n2 _ _) hs) hg
theorem alt1 {T:Array Nat}{lim st p hd:Nat} (hlim:lim≤4000000) {l:List Nat}{fr:List Sre.Frame}{lp:Array Loop}{inn:Option Nat}{om:Bool}{sn:Seen} (hR:dE ⟨C3,T,lim,st⟩ p (h.q::l)) (hg:∀g∈fr,good g) (hs:fr.length<100):
  Fin ⟨C3,T,lim,st⟩ (7*l.length+fr.length+30) (mk ⟨C3,T,lim,st⟩ ⟨h.b,p,fr,lp,inn,hd,om,sn⟩) (some (p+(1+cB h.q l))):=by
 have hR1:=hR.tail
 have hD:=hR1.drop (P:=aR h.q)
 have htl:=dD (P:=aR h.q) l
 have e1:(⟨C3,T,lim,st⟩:En).lim=lim:=rfl
 have hll:=hR1.1
 refine Fin.mono (k:=(7*(l.dropWhile (aR h.q)).length+(fr.length+2)+12)+3) ?_ (lin1 (.l (.a (.a (.a (.m 7 .v0) (.a .v1 (.k 2))) (.k 12)) (.k 3)) (.a (.a (.m 7 .v2) .v1) (.k 30))) (.q (.a .v3 .v0) .v2) (.w [1,7]) rfl (.n4 _ _ _ _) htl)
 refine dY h.iL hR.lt hR.head fun sn=> ?_
 refine rC h.iR (Q36 (.n1 _) hs) (fO (m:=4294967295) hR1 (lin2 (.l .v0 (.k 4294967295)) (.l .v1 (.k 4000000)) (.q (.a (.a .v2 .k1) .v0) .v1) (.w [1,1,1]) rfl (.n3 _ _ _) hlim hll)) hR1.le fun sn wh=> ?_
 refine aL8 h.iP (by simp only [List.length_cons];exact Q16 (.n1 _) hs) fun sn=> ?_
 rw [jX l,show p+(1+((l.takeWhile (aR h.q)).length+cB h.q (l.dropWhile (aR h.q))))=p+1+(l.takeWhile (aR h.q)).length+cB h.q (l.dropWhile (aR h.q)) by exact Q77 (.n3 _ _ _)]
 exact loop1 h hlim _ (l.dropWhile (aR h.q)) (p+1+(l.takeWhile (aR h.q)).length) lp.size _ _ _ _ _ _ (Nat.le_refl _) hD (fun d hd=>eZ hd) LpIs.new (aS nZ (aS jB hg)) (by simp only [List.length_cons];exact lin4 (.t (.a (.a (.a (.a .v0 .k1) .k1) (.m 3 .v1)) (.k 10)) (.k 16000000)) (.l .v2 (.k 4000000)) (.t .v0 (.k 100)) (.q (.a .v3 .v1) .v4) (.q (.a (.a .v5 .k1) .v4) .v2) (.w [1,3,1,3,3]) rfl (.n6 _ _ _ _ _ _) hlim hs htl hll)
end
theorem bA3:Acc C3 90 (aR 34):=by
 refine (fF (P:=fun c=>if (decide (c<256)&&(C3.getD (93+(1+c/32)) 0).testBit (c%32))=true then false else true) (by rfl) ?_).congr ?_
 ·exact eQ (f:=268) (by rfl) (gA (f:=267) (by rfl) (dO (f:=266) (by rfl)))
 ·intro c
  by_cases hc:c<256
  ·exact pY (f:=fun c=>if (decide (c<256)&&(C3.getD (93+(1+c/32)) 0).testBit (c%32))=true then false else true) (g:=aR 34) (by decide +kernel) c hc
  ·have h1:(if (decide (c<256)&&(C3.getD (93+(1+c/32)) 0).testBit (c%32))=true then false else true)=true:=by
    rw [show decide (c<256)=false from decide_eq_false hc];rfl
   rw [h1]
   unfold aR
   simp;exact ⟨⟨Q18 (.n1 _) hc,Q78 (.n1 _) hc⟩,Q19 (.n1 _) hc⟩
theorem aQ2:Acc C3 115 (aR 34):=by
 refine (fF (P:=fun c=>if (decide (c<256)&&(C3.getD (118+(1+c/32)) 0).testBit (c%32))=true then false else true) (by rfl) ?_).congr ?_
 ·exact eQ (f:=268) (by rfl) (gA (f:=267) (by rfl) (dO (f:=266) (by rfl)))
 ·intro c
  by_cases hc:c<256
  ·exact pY (f:=fun c=>if (decide (c<256)&&(C3.getD (118+(1+c/32)) 0).testBit (c%32))=true then false else true) (g:=aR 34) (by decide +kernel) c hc
  ·have h1:(if (decide (c<256)&&(C3.getD (118+(1+c/32)) 0).testBit (c%32))=true then false else true)=true:=by
    rw [show decide (c<256)=false from decide_eq_false hc];rfl
   rw [h1]
   unfold aR
   simp;exact ⟨⟨Q18 (.n1 _) hc,Q78 (.n1 _) hc⟩,Q19 (.n1 _) hc⟩
theorem i84:ILit C3 84 34 86:=(⟨by show 84<269;decide,by kernel_rfl,by kernel_rfl,by kernel_rfl⟩:ILit C3 84 34 86)
theorem i86:IRun C3 86 4294967295 104 (aR 34):=(⟨by show 86<269;decide,by kernel_rfl,by kernel_rfl,by kernel_rfl,by kernel_rfl,bA3⟩:IRun C3 86 4294967295 104 (aR 34))
theorem i104:IRpt C3 104 129 4294967295:=(⟨by show 104<269;decide,by kernel_rfl,by kernel_rfl,by kernel_rfl,by kernel_rfl,by show 129<269;decide,by kernel_rfl⟩:IRpt C3 104 129 4294967295)
theorem i108:ILit C3 108 92 110:=(⟨by show 108<269;decide,by kernel_rfl,by kernel_rfl,by kernel_rfl⟩:ILit C3 108 92 110)
theorem i110:IAll C3 110 111:=(⟨by show 110<269;decide,by kernel_rfl,by kernel_rfl⟩:IAll C3 110 111)
theorem i111:IRun C3 111 4294967295 129 (aR 34):=(⟨by show 111<269;decide,by kernel_rfl,by kernel_rfl,by kernel_rfl,by kernel_rfl,aQ2⟩:IRun C3 111 4294967295 129 (aR 34))
theorem i130:IRun C3 130 1 137 (fun c=>c==34):=(⟨by show 130<269;decide,by kernel_rfl,by kernel_rfl,by kernel_rfl,by kernel_rfl,(eU (by kernel_rfl):Acc C3 134 _)⟩:IRun C3 130 1 137 (fun c=>c==34))
theorem i137:IJmp C3 137 268:=(⟨by show 137<269;decide,by kernel_rfl,by kernel_rfl⟩:IJmp C3 137 268)
@[reducible] noncomputable def sg34:SgP:=⟨84,34,by decide,by decide,i84,i86,i104,i108,i110,i111,i130,i137⟩
theorem aP9:Acc C3 218 (aR 39):=by
 refine (fF (P:=fun c=>if (decide (c<256)&&(C3.getD (221+(1+c/32)) 0).testBit (c%32))=true then false else true) (by rfl) ?_).congr ?_
 ·exact eQ (f:=268) (by rfl) (gA (f:=267) (by rfl) (dO (f:=266) (by rfl)))
 ·intro c
  by_cases hc:c<256
  ·exact pY (f:=fun c=>if (decide (c<256)&&(C3.getD (221+(1+c/32)) 0).testBit (c%32))=true then false else true) (g:=aR 39) (by decide +kernel) c hc
  ·have h1:(if (decide (c<256)&&(C3.getD (221+(1+c/32)) 0).testBit (c%32))=true then false else true)=true:=by
    rw [show decide (c<256)=false from decide_eq_false hc];rfl
   rw [h1]
   unfold aR
   simp;exact ⟨⟨Q18 (.n1 _) hc,Q79 (.n1 _) hc⟩,Q19 (.n1 _) hc⟩
theorem aP8:Acc C3 243 (aR 39):=by
 refine (fF (P:=fun c=>if (decide (c<256)&&(C3.getD (246+(1+c/32)) 0).testBit (c%32))=true then false else true) (by rfl) ?_).congr ?_
 ·exact eQ (f:=268) (by rfl) (gA (f:=267) (by rfl) (dO (f:=266) (by rfl)))
 ·intro c
  by_cases hc:c<256
  ·exact pY (f:=fun c=>if (decide (c<256)&&(C3.getD (246+(1+c/32)) 0).testBit (c%32))=true then false else true) (g:=aR 39) (by decide +kernel) c hc
  ·have h1:(if (decide (c<256)&&(C3.getD (246+(1+c/32)) 0).testBit (c%32))=true then false else true)=true:=by
    rw [show decide (c<256)=false from decide_eq_false hc];rfl
   rw [h1]
   unfold aR
   simp;exact ⟨⟨Q18 (.n1 _) hc,Q79 (.n1 _) hc⟩,Q19 (.n1 _) hc⟩
theorem i212:ILit C3 212 39 214:=(⟨by show 212<269;decide,by kernel_rfl,by kernel_rfl,by kernel_rfl⟩:ILit C3 212 39 214)
theorem i214:IRun C3 214 4294967295 232 (aR 39):=(⟨by show 214<269;decide,by kernel_rfl,by kernel_rfl,by kernel_rfl,by kernel_rfl,aP9⟩:IRun C3 214 4294967295 232 (aR 39))
theorem i232:IRpt C3 232 257 4294967295:=(⟨by show 232<269;decide,by kernel_rfl,by kernel_rfl,by kernel_rfl,by kernel_rfl,by show 257<269;decide,by kernel_rfl⟩:IRpt C3 232 257 4294967295)
theorem i236:ILit C3 236 92 238:=(⟨by show 236<269;decide,by kernel_rfl,by kernel_rfl,by kernel_rfl⟩:ILit C3 236 92 238)
theorem i238:IAll C3 238 239:=(⟨by show 238<269;decide,by kernel_rfl,by kernel_rfl⟩:IAll C3 238 239)
theorem i239:IRun C3 239 4294967295 257 (aR 39):=(⟨by show 239<269;decide,by kernel_rfl,by kernel_rfl,by kernel_rfl,by kernel_rfl,aP8⟩:IRun C3 239 4294967295 257 (aR 39))
theorem i258:IRun C3 258 1 265 (fun c=>c==39):=(⟨by show 258<269;decide,by kernel_rfl,by kernel_rfl,by kernel_rfl,by kernel_rfl,(eU (by kernel_rfl):Acc C3 262 _)⟩:IRun C3 258 1 265 (fun c=>c==39))
theorem i265:IJmp C3 265 268:=(⟨by show 265<269;decide,by kernel_rfl,by kernel_rfl⟩:IJmp C3 265 268)
@[reducible] noncomputable def sg39:SgP:=⟨212,39,by decide,by decide,i212,i214,i232,i236,i238,i239,i258,i265⟩
section
structure TrP where
 b:Nat
 q:Nat
 n92:q≠92
 iL0:ILit C3 b q (b+2)
 iL1:ILit C3 (b+2) q (b+4)
 iL2:ILit C3 (b+4) q (b+6)
 iR:IRun C3 (b+6) 4294967295 (b+19) (aK q)
 iP:IRpt C3 (b+19) (b+57) 4294967295
 iBr:IBra C3 (b+23) (b+30)
 iE:ILit C3 (b+25) 92 (b+27)
 iA:IAll C3 (b+27) (b+28)
 iJ1:IJmp C3 (b+28) (b+44)
 iQ:ILit C3 (b+31) q (b+33)
 iN:INot C3 (b+33) (b+41)
 iN1:ILit C3 (b+36) q (b+38)
 iN2:ILit C3 (b+38) q (b+40)
 iN3:ISuc C3 (b+40)
 iJ2:IJmp C3 (b+41) (b+44)
 iR2:IRun C3 (b+44) 4294967295 (b+57) (aK q)
 iP2:IRpt C3 (b+58) (b+68) 1
 iT0:ILit C3 (b+62) q (b+64)
 iT1:ILit C3 (b+64) q (b+66)
 iT2:ILit C3 (b+66) q (b+68)
 iJ:IJmp C3 (b+69) 268
 n1:b+24+C3.getD (b+24) 0=b+30
 z1:(C3.getD (b+30) 0==0)=false
 n2:b+30+C3.getD (b+30) 0=b+43
 z2:(C3.getD (b+43) 0==0)=true
variable (h:TrP)
theorem aN5 {T:Array Nat}{lim st p pc pos hd i:Nat}{l:List Nat}{fs:List Sre.Frame}{lp:Array Loop}{inn:Option Nat}{om om':Bool}{sn:Seen}{n:Int}{b:Option Nat} (hR:dE ⟨C3,T,lim,st⟩ p l)
  (hi:i<lp.size) (hs:fs.length+5<16000000) (hg:∀g∈fs,good g):Fin ⟨C3,T,lim,st⟩ (fs.length+15) (an ⟨C3,T,lim,st⟩ ⟨pc,pos,mm (h.b+58) p om' n i b::fs,lp,inn,hd,om,sn⟩ false) (some (p+if l.take 3=[h.q,h.q,h.q] then 3 else 0)):=by
 refine tE (k:=fs.length+14) (Q68 (.n1 _) hs) hi fun om lp' inn'=> ?_
 refine aL8 (k:=fs.length+13) h.iP2 (by simp only [List.length_cons];exact Q69 (.n1 _) hs) fun sn=> ?_
 have hL:LpIs (lp'.push {pc:=(h.b+58),outer:=inn'}) (some lp'.size) lp'.size (h.b+58) p:=LpIs.new
 have hc0:((lp'.push {pc:=(h.b+58),outer:=inn'}).getD lp'.size dl).count+1<(1:Nat):=by rw [eD];show (-1:Int)+1<1;exact Q65 .o
 refine fU (k:=fs.length+12) h.iP2 (by simp only [List.length_cons];exact Q80 (.n1 _) hs) hL (.inr hc0) fun sn n2 b2=> ?_
 have hlt:lp'.size<((lp'.push {pc:=(h.b+58),outer:=inn'}).modify lp'.size fun l'=>{l' with count:=((lp'.push {pc:=(h.b+58),outer:=inn'}).getD lp'.size dl).count+1,began:=some p}).size:=by simp
 have fin:∀(k:Nat) (lp:Array Loop) (inn:Option Nat) (omx:Bool) (sn:Seen) (pc pos hd:Nat) (om':Bool) (n2:Int) (b2:Option Nat),lp'.size<lp.size→fs.length+8≤k→
   Fin ⟨C3,T,lim,st⟩ k (an ⟨C3,T,lim,st⟩ ⟨pc,pos,mm (h.b+69) p om' n2 lp'.size b2::cl (h.b+58) p om lp'.size::mt (h.b+58) p om n i::fs,lp,inn,hd,omx,sn⟩ false) (some (p+0)):=by
  intro k lp inn omx sn pc pos hd om' n2 b2 hlt hk
  refine Fin.mono (k:=fs.length+4+3) ?_ (lin1 (.l (.a (.a .v0 (.k 4)) (.k 3)) .v1) (.l (.a .v0 (.k 8)) .v1) (.w [1,1]) rfl (.n2 _ _) hk)
  refine tE (by simp only [List.length_cons];exact Q80 (.n1 _) hs) hlt fun om lp inn=> ?_
  refine vO h.iJ fun sn=> ?_
  refine yT i268 fun sn=> ?_
  exact aL7 (aS kX (aS nZ (aS kX hg)))
 have no:∀{l':List Nat},¬(l'.take 3=[h.q,h.q,h.q])→(if l'.take 3=[h.q,h.q,h.q] then 3 else 0)=0:=fun h=>if_neg h
 rcases l with _ | ⟨x1,l⟩
 ·rw [no (by simp)]
  exact bK (k:=fs.length+11) h.iT0 (fun hp=>absurd hp hR.nil) fun sn=>fin (fs.length+11) _ _ _ _ _ _ _ _ _ _ hlt (Q81 (.n1 _))
 by_cases h1:x1=h.q
 rotate_left
 ·rw [no (by simp [h1])]
  exact bK (k:=fs.length+11) h.iT0 (fun hp hx=>h1 (hR.head.symm.trans hx)) fun sn=>fin (fs.length+11) _ _ _ _ _ _ _ _ _ _ hlt (Q81 (.n1 _))
 subst h1
 refine dY (k:=fs.length+11) h.iT0 hR.lt hR.head fun sn=> ?_
 have hR1:=hR.tail
 rcases l with _ | ⟨x2,l⟩
 ·rw [no (by simp)]
  exact bK (k:=fs.length+10) h.iT1 (fun hp=>absurd hp hR1.nil) fun sn=>fin (fs.length+10) _ _ _ _ _ _ _ _ _ _ hlt (Q82 (.n1 _))
 by_cases h2:x2=h.q
 rotate_left
 ·rw [no (by simp [h2])]
  exact bK (k:=fs.length+10) h.iT1 (fun hp hx=>h2 (hR1.head.symm.trans hx)) fun sn=>fin (fs.length+10) _ _ _ _ _ _ _ _ _ _ hlt (Q82 (.n1 _))
 subst h2
 refine dY (k:=fs.length+10) h.iT1 hR1.lt hR1.head fun sn=> ?_
 have hR2:=hR1.tail
 rcases l with _ | ⟨x3,l⟩
 ·rw [no (by simp)]
  exact bK (k:=fs.length+9) h.iT2 (fun hp=>absurd hp hR2.nil) fun sn=>fin (fs.length+9) _ _ _ _ _ _ _ _ _ _ hlt (Q83 (.n1 _))
 by_cases h3:x3=h.q
 rotate_left
 ·rw [no (by simp [h3])]
  exact bK (k:=fs.length+9) h.iT2 (fun hp hx=>h3 (hR2.head.symm.trans hx)) fun sn=>fin (fs.length+9) _ _ _ _ _ _ _ _ _ _ hlt (Q83 (.n1 _))
 subst h3
 refine dY (k:=fs.length+9) h.iT2 hR2.lt hR2.head fun sn=> ?_
 rw [if_pos (by rfl)]
 refine g_tail (k:=fs.length+8) h.iP2 (i:=lp'.size) (by simp only [List.length_cons];exact lin1 (.t (.a (.a (.a .v0 .k1) .k1) .k1) (.k 16000000)) (.t (.a .v0 (.k 5)) (.k 16000000)) (.w [1,1]) rfl (.n1 _) hs) rfl ?_ ?_ (by decide) ?_ fun sn n' inn'=> ?_
 ·rw [gI (by simp),eD]
 ·rw [gI (by simp),eD];show (-1:Int)≤ -1+1;exact lin0 (.L (.g .k1) (.a (.g .k1) .k1)) (.w [1]) rfl .o
 ·rw [gI (by simp),eD];show ((1:Nat):Int)≤ -1+1+1;exact lin0 (.L (.c .k1) (.a (.a (.g .k1) .k1) .k1)) (.w [1]) rfl .o
 refine Fin.mono (k:=fs.length+5+2) ?_ (lin0 (.l (.a (.a .v0 (.k 5)) (.k 2)) (.a .v0 (.k 8))) (.w [1]) rfl (.n1 _))
 refine vO h.iJ fun sn=> ?_
 refine yT i268 fun sn=> ?_
 exact aL7 (aS kX (aS nW (aS nZ (aS kX hg))))
theorem jL {T:Array Nat}{lim st:Nat} (hlim:lim≤4000000):∀(n:Nat) (l:List Nat) (p i hd:Nat) (fr:List Sre.Frame) (lp:Array Loop) (inn:Option Nat) (om:Bool) (sn:Seen),l.length≤n→dE ⟨C3,T,lim,st⟩ p l→(∀d,l.head? =some d→aK h.q d=false)→
  LpIs lp inn i (h.b+19) p→(∀g∈fr,good g)→fr.length+3*l.length+10<16000000→Fin ⟨C3,T,lim,st⟩ (16*l.length+fr.length+30) (mk ⟨C3,T,lim,st⟩ ⟨(h.b+57),p,fr,lp,inn,hd,om,sn⟩) (some (p+bN h.q l)):=by
 intro n
 induction n with
 | zero=>
  intro l p i hd fr lp inn om sn hl hR hh hL hg hs
  cases l with
  | cons _ _=>simp at hl
  | nil=>
   refine Fin.mono (k:=(fr.length+15)+6) ?_ (by simp only [List.length_nil];exact lin0 (.l (.a (.a .v0 (.k 15)) (.k 6)) (.a (.a (.m 16 .k0) .v0) (.k 30))) (.w [1]) rfl (.n1 _))
   refine fU h.iP (Q70 (.n2 _ _) hs) hL (.inl rfl) fun sn n b=> ?_
   refine rD h.iBr (by simp only [List.length_cons];exact Q84 (.n2 _ _) hs) fun sn kp hkp=> ?_
   refine bK h.iE (fun hp=>absurd hp hR.nil) fun sn=> ?_
   refine eF (pb':=(h.b+30)) hkp (by simp only [List.length_cons];exact Q84 (.n2 _ _) hs) h.n1 h.z1 fun om=> ?_
   refine bK h.iQ (fun hp=>absurd hp hR.nil) fun sn=> ?_
   refine pP (pb':=(h.b+43)) hkp h.n2 h.z2 fun pc om=> ?_
   exact aN5 h hR (by simpa using hL.lt) (Q71 (.n2 _ _) hs) hg
 | succ n ih=>
  intro l p i hd fr lp inn om sn hl hR hh hL hg hs
  cases l with
  | nil=>exact ih [] p i hd fr lp inn om sn (by simp) hR hh hL hg hs
  | cons a r=>
   simp only [List.length_cons] at hl hs
   have hl0:=hR.1
   have e1:(⟨C3,T,lim,st⟩:En).lim=lim:=rfl
   simp only [List.length_cons] at hl0
   by_cases ha:a=92
   ·subst ha
    cases r with
    | nil=>
     refine Fin.mono (k:=(fr.length+15)+7) ?_ (by simp only [List.length_cons,List.length_nil];exact lin0 (.l (.a (.a .v0 (.k 15)) (.k 7)) (.a (.a (.m 16 (.a .k0 .k1)) .v0) (.k 30))) (.w [1]) rfl (.n1 _))
     refine fU h.iP (Q17 (.n2 _ _) hs) hL (.inl rfl) fun sn n b=> ?_
     refine rD h.iBr (by simp only [List.length_cons];exact Q20 (.n2 _ _) hs) fun sn kp hkp=> ?_
     refine dY h.iE hR.lt hR.head fun sn=> ?_
     refine aL9 h.iA hR.tail.nil fun sn=> ?_
     refine eF (pb':=(h.b+30)) hkp (by simp only [List.length_cons];exact Q20 (.n2 _ _) hs) h.n1 h.z1 fun om=> ?_
     refine bK h.iQ (fun hp hx=>absurd (hR.head.symm.trans hx).symm h.n92) fun sn=> ?_
     refine pP (pb':=(h.b+43)) hkp h.n2 h.z2 fun pc om=> ?_
     rw [show bN h.q [92]=(if ([92]:List Nat).take 3=[h.q,h.q,h.q] then 3 else 0) from (if_neg (fun e=>h.n92 (List.cons.inj e).1.symm)).symm]
     exact aN5 h hR (by simpa using hL.lt) (Q37 (.n2 _ _) hs) hg
    | cons d r'=>
     have hR2:=hR.tail.tail
     have hD:=hR2.drop (P:=aK h.q)
     have htl:=dD (P:=aK h.q) r'
     have hsc:bN h.q (92::d::r')=2+((r'.takeWhile (aK h.q)).length+bN h.q (r'.dropWhile (aK h.q))):=by
      rw [←gQ r'];rfl
     simp only [List.length_cons] at hs hl hl0
     refine Fin.mono (k:=(16*(r'.dropWhile (aK h.q)).length+(fr.length+3)+30)+6) ?_ (by simp only [List.length_cons];exact lin1 (.l (.a (.a (.a (.m 16 .v0) (.a .v1 (.k 3))) (.k 30)) (.k 6)) (.a (.a (.m 16 (.a (.a .v2 .k1) .k1)) .v1) (.k 30))) (.q (.a .v3 .v0) .v2) (.w [1,16]) rfl (.n4 _ _ _ _) htl)
     refine fU h.iP (Q72 (.n2 _ _) hs) hL (.inl rfl) fun sn n b=> ?_
     refine rD h.iBr (by simp only [List.length_cons];exact Q73 (.n2 _ _) hs) fun sn kp hkp=> ?_
     refine dY h.iE hR.lt hR.head fun sn=> ?_
     refine bD1 h.iA hR.tail.lt fun sn=> ?_
     refine vO h.iJ1 fun sn=> ?_
     refine rC h.iR2 (by simp only [List.length_cons];exact lin1 (.t (.a (.a .v0 .k1) .k1) (.k 16000000)) (.t (.a (.a .v0 (.m 3 (.a (.a .v1 .k1) .k1))) (.k 10)) (.k 16000000)) (.w [1,1]) rfl (.n2 _ _) hs) (fO (m:=4294967295) hR2 (lin2 (.l .v0 (.k 4294967295)) (.l .v1 (.k 4000000)) (.q (.a .v2 (.a (.a .v0 .k1) .k1)) .v1) (.w [1,1,1]) rfl (.n3 _ _ _) hlim hl0)) hR2.le fun sn wh=> ?_
     rw [hsc,show p+(2+((r'.takeWhile (aK h.q)).length+bN h.q (r'.dropWhile (aK h.q))))=p+1+1+(r'.takeWhile (aK h.q)).length+bN h.q (r'.dropWhile (aK h.q)) by exact Q74 (.n3 _ _ _)]
     exact ih (r'.dropWhile (aK h.q)) (p+1+1+(r'.takeWhile (aK h.q)).length) i _ _ _ _ _ _ (Q75 (.n4 _ _ _ _) hl htl) hD (fun d hd=>eZ hd) (hL.next (Q76 (.n2 _ _))) (aS jB (aS (iZ hkp) (aS nW hg))) (by simp only [List.length_cons];exact lin2 (.t (.a (.a (.a (.a (.a .v0 .k1) .k1) .k1) (.m 3 .v1)) (.k 10)) (.k 16000000)) (.t (.a (.a .v0 (.m 3 (.a (.a .v2 .k1) .k1))) (.k 10)) (.k 16000000)) (.q (.a .v3 .v1) .v2) (.w [1,1,3]) rfl (.n4 _ _ _ _) hs htl)
   ·have hpl:=hh a rfl
    have haq:a=h.q:=by
     unfold aK at hpl
     simp at hpl
     by_cases h:a=h.q
     ·exact h
     ·exact absurd (hpl h) ha
    subst haq
    by_cases ht:r.take 2=[h.q,h.q]
    ·obtain ⟨r',rfl⟩:∃r',r=h.q::h.q::r':=by
      match r,ht with
      | x::y::r',ht=>simp at ht;exact ⟨r',by rw [ht.1,ht.2]⟩
     have hsc:bN h.q (h.q::h.q::h.q::r')=if (h.q::h.q::h.q::r':List Nat).take 3=[h.q,h.q,h.q] then 3 else 0:=by
      rw [if_pos (by rfl)]
      rw [kN]
      rw [if_neg h.n92,if_pos ⟨rfl,by rfl⟩]
     rw [hsc]
     simp only [List.length_cons] at hs hl hl0
     refine Fin.mono (k:=(fr.length+15)+11) ?_ (by simp only [List.length_cons];exact lin0 (.l (.a (.a .v0 (.k 15)) (.k 11)) (.a (.a (.m 16 (.a (.a (.a .v1 .k1) .k1) .k1)) .v0) (.k 30))) (.w [1]) rfl (.n2 _ _))
     refine fU h.iP (lin1 (.t .v0 (.k 16000000)) (.t (.a (.a .v0 (.m 3 (.a (.a (.a .v1 .k1) .k1) .k1))) (.k 10)) (.k 16000000)) (.w [1,1]) rfl (.n2 _ _) hs) hL (.inl rfl) fun sn n b=> ?_
     refine rD h.iBr (by simp only [List.length_cons];exact Q85 (.n2 _ _) hs) fun sn kp hkp=> ?_
     refine bK h.iE (fun hp hx=>absurd (hR.head.symm.trans hx) h.n92) fun sn=> ?_
     refine eF (pb':=(h.b+30)) hkp (by simp only [List.length_cons];exact Q85 (.n2 _ _) hs) h.n1 h.z1 fun om=> ?_
     refine dY h.iQ hR.lt hR.head fun sn=> ?_
     refine bD0 h.iN (by simp only [List.length_cons];exact lin1 (.t (.a (.a .v0 .k1) .k1) (.k 16000000)) (.t (.a (.a .v0 (.m 3 (.a (.a (.a .v1 .k1) .k1) .k1))) (.k 10)) (.k 16000000)) (.w [1,1]) rfl (.n2 _ _) hs) fun sn kp' hkp'=> ?_
     refine dY h.iN1 hR.tail.lt hR.tail.head fun sn=> ?_
     refine dY h.iN2 hR.tail.tail.lt hR.tail.tail.head fun sn=> ?_
     refine yT h.iN3 fun sn=> ?_
     refine aX7 hkp' fun pc pos om=> ?_
     refine pP (pb':=(h.b+43)) hkp h.n2 h.z2 fun pc om=> ?_
     exact aN5 h hR (by simpa using hL.lt) (lin1 (.t (.a .v0 (.k 5)) (.k 16000000)) (.t (.a (.a .v0 (.m 3 (.a (.a (.a .v1 .k1) .k1) .k1))) (.k 10)) (.k 16000000)) (.w [1,1]) rfl (.n2 _ _) hs) hg
    ·have hR1:=hR.tail
     have hD:=hR1.drop (P:=aK h.q)
     have htl:=dD (P:=aK h.q) r
     have hsc:bN h.q (h.q::r)=1+((r.takeWhile (aK h.q)).length+bN h.q (r.dropWhile (aK h.q))):=by
      rw [←gQ r]
      conv=>lhs;rw [kN]
      rw [if_neg h.n92,if_neg (fun z=>ht z.2)]
     refine Fin.mono (k:=(16*(r.dropWhile (aK h.q)).length+(fr.length+3)+30)+2+11) ?_ (by simp only [List.length_cons];exact lin1 (.l (.a (.a (.a (.a (.m 16 .v0) (.a .v1 (.k 3))) (.k 30)) (.k 2)) (.k 11)) (.a (.a (.m 16 (.a .v2 .k1)) .v1) (.k 30))) (.q (.a .v3 .v0) .v2) (.w [1,16]) rfl (.n4 _ _ _ _) htl)
     refine fU h.iP (Q17 (.n2 _ _) hs) hL (.inl rfl) fun sn n b=> ?_
     refine rD h.iBr (by simp only [List.length_cons];exact Q20 (.n2 _ _) hs) fun sn kp hkp=> ?_
     refine bK h.iE (fun hp hx=>absurd (hR.head.symm.trans hx) h.n92) fun sn=> ?_
     refine eF (pb':=(h.b+30)) hkp (by simp only [List.length_cons];exact Q20 (.n2 _ _) hs) h.n1 h.z1 fun om2=> ?_
     refine dY h.iQ hR.lt hR.head fun sn=> ?_
     refine bD0 h.iN (by simp only [List.length_cons];exact Q86 (.n2 _ _) hs) fun sn kp' hkp'=> ?_
     have tail:∀(k pc pos hd:Nat) (om':Bool) (sn:Seen),(16*(r.dropWhile (aK h.q)).length+(fr.length+3)+30)+2+1≤k→Fin ⟨C3,T,lim,st⟩ k
       (an ⟨C3,T,lim,st⟩ ⟨pc,pos,ln (h.b+33) (p+1) om' kp'::nb (h.b+30) p om2 kp::mm ((h.b+57)+1) p om n i b::fr,lp.modify i fun l'=>{l' with count:=(lp.getD i dl).count+1,began:=some p},inn,hd,false,sn⟩ false) (some (p+bN h.q (h.q::r))):=by
      intro k pc pos hd om' sn hk
      refine Fin.mono (k:=(16*(r.dropWhile (aK h.q)).length+(fr.length+3)+30)+2+1) ?_ hk
      refine aX8 h.iN hkp' ?_
      refine vO h.iJ2 fun sn=> ?_
      refine rC h.iR2 (by simp only [List.length_cons];exact Q86 (.n2 _ _) hs) (fO (m:=4294967295) hR1 (lin2 (.l .v0 (.k 4294967295)) (.l .v1 (.k 4000000)) (.q (.a .v2 (.a .v0 .k1)) .v1) (.w [1,1,1]) rfl (.n3 _ _ _) hlim hl0)) hR1.le fun sn wh=> ?_
      rw [hsc,show p+(1+((r.takeWhile (aK h.q)).length+bN h.q (r.dropWhile (aK h.q))))=p+1+(r.takeWhile (aK h.q)).length+bN h.q (r.dropWhile (aK h.q)) by exact Q77 (.n3 _ _ _)]
      exact ih (r.dropWhile (aK h.q)) (p+1+(r.takeWhile (aK h.q)).length) i _ _ _ _ _ _ (lin2 (.l .v0 .v1) (.l (.a .v2 .k1) (.a .v1 .k1)) (.q (.a .v3 .v0) .v2) (.w [1,1,1]) rfl (.n4 _ _ _ _) hl htl) hD (fun d hd=>eZ hd) (hL.next (lin0 (.t .v0 (.a (.a .v0 .k1) .v1)) (.w [1]) rfl (.n2 _ _))) (aS jB (aS (iZ hkp) (aS nW hg))) (by simp only [List.length_cons];exact lin2 (.t (.a (.a (.a (.a (.a .v0 .k1) .k1) .k1) (.m 3 .v1)) (.k 10)) (.k 16000000)) (.t (.a (.a .v0 (.m 3 (.a .v2 .k1))) (.k 10)) (.k 16000000)) (.q (.a .v3 .v1) .v2) (.w [1,1,3]) rfl (.n4 _ _ _ _) hs htl)
     rcases r with _ | ⟨x,r⟩
     ·exact bK h.iN1 (fun hp=>absurd hp hR1.nil) fun sn=>tail _ _ _ _ _ _ (Q87 (.n2 _ _))
     by_cases hx1:x=h.q
     rotate_left
     ·exact bK h.iN1 (fun hp hx=>hx1 (hR1.head.symm.trans hx)) fun sn=>tail _ _ _ _ _ _ (Q87 (.n2 _ _))
     subst hx1
     refine dY h.iN1 hR1.lt hR1.head fun sn=> ?_
     rcases r with _ | ⟨y,r⟩
     ·exact bK h.iN2 (fun hp=>absurd hp hR1.tail.nil) fun sn=>tail _ _ _ _ _ _ (Q88 (.n2 _ _))
     ·exact bK h.iN2 (fun hp hx=>ht (by rw [show y=h.q from hR1.tail.head.symm.trans hx];rfl)) fun sn=>tail _ _ _ _ _ _ (Q88 (.n2 _ _))
theorem alt3 {T:Array Nat}{lim st p hd:Nat} (hlim:lim≤4000000) {l:List Nat}{fr:List Sre.Frame}{lp:Array Loop}{inn:Option Nat}{om:Bool}{sn:Seen} (hR:dE ⟨C3,T,lim,st⟩ p (h.q::h.q::h.q::l)) (hg:∀g∈fr,good g) (hs:fr.length<100):
  Fin ⟨C3,T,lim,st⟩ (16*l.length+fr.length+50) (mk ⟨C3,T,lim,st⟩ ⟨h.b,p,fr,lp,inn,hd,om,sn⟩) (some (p+(3+bN h.q l))):=by
 have hR1:=hR.tail
 have hR2:=hR1.tail
 have hR3:=hR2.tail
 have hD:=hR3.drop (P:=aK h.q)
 have htl:=dD (P:=aK h.q) l
 have e1:(⟨C3,T,lim,st⟩:En).lim=lim:=rfl
 have hll:=hR3.1
 refine Fin.mono (k:=(16*(l.dropWhile (aK h.q)).length+(fr.length+2)+30)+5) ?_ (lin1 (.l (.a (.a (.a (.m 16 .v0) (.a .v1 (.k 2))) (.k 30)) (.k 5)) (.a (.a (.m 16 .v2) .v1) (.k 50))) (.q (.a .v3 .v0) .v2) (.w [1,16]) rfl (.n4 _ _ _ _) htl)
 refine dY h.iL0 hR.lt hR.head fun sn=> ?_
 refine dY h.iL1 hR1.lt hR1.head fun sn=> ?_
 refine dY h.iL2 hR2.lt hR2.head fun sn=> ?_
 refine rC h.iR (Q36 (.n1 _) hs) (fO (m:=4294967295) hR3 (lin2 (.l .v0 (.k 4294967295)) (.l .v1 (.k 4000000)) (.q (.a (.a (.a (.a .v2 .k1) .k1) .k1) .v0) .v1) (.w [1,1,1]) rfl (.n3 _ _ _) hlim hll)) hR3.le fun sn wh=> ?_
 refine aL8 h.iP (by simp only [List.length_cons];exact Q16 (.n1 _) hs) fun sn=> ?_
 rw [gQ l,show p+(3+((l.takeWhile (aK h.q)).length+bN h.q (l.dropWhile (aK h.q))))=p+1+1+1+(l.takeWhile (aK h.q)).length+bN h.q (l.dropWhile (aK h.q)) by exact lin0 (.q (.a .v0 (.a (.k 3) (.a .v1 .v2))) (.a (.a (.a (.a (.a .v0 .k1) .k1) .k1) .v1) .v2)) (.b (.w [1]) (.w [1])) rfl (.n3 _ _ _)]
 exact jL h hlim _ (l.dropWhile (aK h.q)) (p+1+1+1+(l.takeWhile (aK h.q)).length) lp.size _ _ _ _ _ _ (Nat.le_refl _) hD (fun d hd=>eZ hd) LpIs.new (aS nZ (aS jB hg)) (by simp only [List.length_cons];exact lin4 (.t (.a (.a (.a (.a .v0 .k1) .k1) (.m 3 .v1)) (.k 10)) (.k 16000000)) (.l .v2 (.k 4000000)) (.t .v0 (.k 100)) (.q (.a .v3 .v1) .v4) (.q (.a (.a (.a (.a .v5 .k1) .k1) .k1) .v4) .v2) (.w [1,3,1,3,3]) rfl (.n6 _ _ _ _ _ _) hlim hs htl hll)
theorem no3 {T:Array Nat}{lim st p hd k:Nat}{r:Option Nat}{l:List Nat}{fr:List Sre.Frame}{lp:Array Loop}{inn:Option Nat}{om:Bool}{sn:Seen} (hR:dE ⟨C3,T,lim,st⟩ p l) (ht:¬l.take 3=[h.q,h.q,h.q])
  (hk:∀pc pos sn,Fin ⟨C3,T,lim,st⟩ k (an ⟨C3,T,lim,st⟩ ⟨pc,pos,fr,lp,inn,hd,om,sn⟩ false) r):Fin ⟨C3,T,lim,st⟩ (k+3) (mk ⟨C3,T,lim,st⟩ ⟨h.b,p,fr,lp,inn,hd,om,sn⟩) r:=by
 rcases l with _ | ⟨x1,l⟩
 ·exact Fin.mono (k:=k+1) (bK h.iL0 (fun hp=>absurd hp hR.nil) fun sn=>hk _ _ _) (Q89 (.n1 _))
 by_cases h1:x1=h.q
 rotate_left
 ·exact Fin.mono (k:=k+1) (bK h.iL0 (fun hp hx=>h1 (hR.head.symm.trans hx)) fun sn=>hk _ _ _) (Q89 (.n1 _))
 subst h1
 refine dY (k:=k+2) h.iL0 hR.lt hR.head fun sn=> ?_
 have hR1:=hR.tail
 rcases l with _ | ⟨x2,l⟩
 ·exact Fin.mono (k:=k+1) (bK h.iL1 (fun hp=>absurd hp hR1.nil) fun sn=>hk _ _ _) (Q90 (.n1 _))
 by_cases h2:x2=h.q
 rotate_left
 ·exact Fin.mono (k:=k+1) (bK h.iL1 (fun hp hx=>h2 (hR1.head.symm.trans hx)) fun sn=>hk _ _ _) (Q90 (.n1 _))
 subst h2
 refine dY (k:=k+1) h.iL1 hR1.lt hR1.head fun sn=> ?_
 have hR2:=hR1.tail
 rcases l with _ | ⟨x3,l⟩
 ·exact bK h.iL2 (fun hp=>absurd hp hR2.nil) fun sn=>hk _ _ _
 ·exact bK h.iL2 (fun hp hx=>ht (by rw [show x3=h.q from hR2.head.symm.trans hx];rfl)) fun sn=>hk _ _ _
end
theorem bA5:Acc C3 22 (aK 34):=by
 refine (fF (P:=fun c=>if c==C3.getD (25+1) 0 then false else if c==C3.getD (27+1) 0 then false else true) (by rfl) ?_).congr ?_
 ·exact eQ (f:=268) (by rfl) (eE (f:=267) (by rfl) (eE (f:=266) (by rfl) (dO (f:=265) (by rfl))))
 ·intro c
  show (if (c==34)=true then false else if (c==92)=true then false else true)=_
  unfold aK
  cases c==34 <;> cases c==92 <;> rfl
theorem bA4:Acc C3 60 (aK 34):=by
 refine (fF (P:=fun c=>if c==C3.getD (63+1) 0 then false else if c==C3.getD (65+1) 0 then false else true) (by rfl) ?_).congr ?_
 ·exact eQ (f:=268) (by rfl) (eE (f:=267) (by rfl) (eE (f:=266) (by rfl) (dO (f:=265) (by rfl))))
 ·intro c
  show (if (c==34)=true then false else if (c==92)=true then false else true)=_
  unfold aK
  cases c==34 <;> cases c==92 <;> rfl
theorem i12:ILit C3 12 34 14:=(⟨by show 12<269;decide,by kernel_rfl,by kernel_rfl,by kernel_rfl⟩:ILit C3 12 34 14)
theorem i14:ILit C3 14 34 16:=(⟨by show 14<269;decide,by kernel_rfl,by kernel_rfl,by kernel_rfl⟩:ILit C3 14 34 16)
theorem i16:ILit C3 16 34 18:=(⟨by show 16<269;decide,by kernel_rfl,by kernel_rfl,by kernel_rfl⟩:ILit C3 16 34 18)
theorem i18:IRun C3 18 4294967295 31 (aK 34):=(⟨by show 18<269;decide,by kernel_rfl,by kernel_rfl,by kernel_rfl,by kernel_rfl,bA5⟩:IRun C3 18 4294967295 31 (aK 34))
theorem i31:IRpt C3 31 69 4294967295:=(⟨by show 31<269;decide,by kernel_rfl,by kernel_rfl,by kernel_rfl,by kernel_rfl,by show 69<269;decide,by kernel_rfl⟩:IRpt C3 31 69 4294967295)
theorem i35:IBra C3 35 42:=(⟨by show 35<269;decide,by kernel_rfl,by kernel_rfl,by kernel_rfl⟩:IBra C3 35 42)
theorem i37:ILit C3 37 92 39:=(⟨by show 37<269;decide,by kernel_rfl,by kernel_rfl,by kernel_rfl⟩:ILit C3 37 92 39)
theorem i39:IAll C3 39 40:=(⟨by show 39<269;decide,by kernel_rfl,by kernel_rfl⟩:IAll C3 39 40)
theorem i40:IJmp C3 40 56:=(⟨by show 40<269;decide,by kernel_rfl,by kernel_rfl⟩:IJmp C3 40 56)
theorem i43:ILit C3 43 34 45:=(⟨by show 43<269;decide,by kernel_rfl,by kernel_rfl,by kernel_rfl⟩:ILit C3 43 34 45)
theorem i45:INot C3 45 53:=(⟨by show 45<269;decide,by kernel_rfl,by kernel_rfl,by kernel_rfl⟩:INot C3 45 53)
theorem i48:ILit C3 48 34 50:=(⟨by show 48<269;decide,by kernel_rfl,by kernel_rfl,by kernel_rfl⟩:ILit C3 48 34 50)
theorem i50:ILit C3 50 34 52:=(⟨by show 50<269;decide,by kernel_rfl,by kernel_rfl,by kernel_rfl⟩:ILit C3 50 34 52)
theorem i52:ISuc C3 52:=(⟨by show 52<269;decide,by kernel_rfl⟩:ISuc C3 52)
theorem i53:IJmp C3 53 56:=(⟨by show 53<269;decide,by kernel_rfl,by kernel_rfl⟩:IJmp C3 53 56)
theorem i56:IRun C3 56 4294967295 69 (aK 34):=(⟨by show 56<269;decide,by kernel_rfl,by kernel_rfl,by kernel_rfl,by kernel_rfl,bA4⟩:IRun C3 56 4294967295 69 (aK 34))
theorem i70:IRpt C3 70 80 1:=(⟨by show 70<269;decide,by kernel_rfl,by kernel_rfl,by kernel_rfl,by kernel_rfl,by show 80<269;decide,by kernel_rfl⟩:IRpt C3 70 80 1)
theorem i74:ILit C3 74 34 76:=(⟨by show 74<269;decide,by kernel_rfl,by kernel_rfl,by kernel_rfl⟩:ILit C3 74 34 76)
theorem i76:ILit C3 76 34 78:=(⟨by show 76<269;decide,by kernel_rfl,by kernel_rfl,by kernel_rfl⟩:ILit C3 76 34 78)
theorem i78:ILit C3 78 34 80:=(⟨by show 78<269;decide,by kernel_rfl,by kernel_rfl,by kernel_rfl⟩:ILit C3 78 34 80)
theorem i81:IJmp C3 81 268:=(⟨by show 81<269;decide,by kernel_rfl,by kernel_rfl⟩:IJmp C3 81 268)
@[reducible] noncomputable def aS2:TrP:=⟨12,34,by decide,i12,i14,i16,i18,i31,i35,i37,i39,i40,i43,i45,i48,i50,i52,i53,i56,i70,i74,i76,i78,i81,by kernel_rfl,by kernel_rfl,by kernel_rfl,by kernel_rfl⟩
theorem aQ1:Acc C3 150 (aK 39):=by
 refine (fF (P:=fun c=>if c==C3.getD (153+1) 0 then false else if c==C3.getD (155+1) 0 then false else true) (by rfl) ?_).congr ?_
 ·exact eQ (f:=268) (by rfl) (eE (f:=267) (by rfl) (eE (f:=266) (by rfl) (dO (f:=265) (by rfl))))
 ·intro c
  show (if (c==39)=true then false else if (c==92)=true then false else true)=_
  unfold aK
  cases c==39 <;> cases c==92 <;> rfl
theorem aQ0:Acc C3 188 (aK 39):=by
 refine (fF (P:=fun c=>if c==C3.getD (191+1) 0 then false else if c==C3.getD (193+1) 0 then false else true) (by rfl) ?_).congr ?_
 ·exact eQ (f:=268) (by rfl) (eE (f:=267) (by rfl) (eE (f:=266) (by rfl) (dO (f:=265) (by rfl))))
 ·intro c
  show (if (c==39)=true then false else if (c==92)=true then false else true)=_
  unfold aK
  cases c==39 <;> cases c==92 <;> rfl
theorem i140:ILit C3 140 39 142:=(⟨by show 140<269;decide,by kernel_rfl,by kernel_rfl,by kernel_rfl⟩:ILit C3 140 39 142)
theorem i142:ILit C3 142 39 144:=(⟨by show 142<269;decide,by kernel_rfl,by kernel_rfl,by kernel_rfl⟩:ILit C3 142 39 144)
theorem i144:ILit C3 144 39 146:=(⟨by show 144<269;decide,by kernel_rfl,by kernel_rfl,by kernel_rfl⟩:ILit C3 144 39 146)
theorem i146:IRun C3 146 4294967295 159 (aK 39):=(⟨by show 146<269;decide,by kernel_rfl,by kernel_rfl,by kernel_rfl,by kernel_rfl,aQ1⟩:IRun C3 146 4294967295 159 (aK 39))
theorem i159:IRpt C3 159 197 4294967295:=(⟨by show 159<269;decide,by kernel_rfl,by kernel_rfl,by kernel_rfl,by kernel_rfl,by show 197<269;decide,by kernel_rfl⟩:IRpt C3 159 197 4294967295)
theorem i163:IBra C3 163 170:=(⟨by show 163<269;decide,by kernel_rfl,by kernel_rfl,by kernel_rfl⟩:IBra C3 163 170)
theorem i165:ILit C3 165 92 167:=(⟨by show 165<269;decide,by kernel_rfl,by kernel_rfl,by kernel_rfl⟩:ILit C3 165 92 167)
theorem i167:IAll C3 167 168:=(⟨by show 167<269;decide,by kernel_rfl,by kernel_rfl⟩:IAll C3 167 168)
theorem i168:IJmp C3 168 184:=(⟨by show 168<269;decide,by kernel_rfl,by kernel_rfl⟩:IJmp C3 168 184)
theorem i171:ILit C3 171 39 173:=(⟨by show 171<269;decide,by kernel_rfl,by kernel_rfl,by kernel_rfl⟩:ILit C3 171 39 173)
theorem i173:INot C3 173 181:=(⟨by show 173<269;decide,by kernel_rfl,by kernel_rfl,by kernel_rfl⟩:INot C3 173 181)
theorem i176:ILit C3 176 39 178:=(⟨by show 176<269;decide,by kernel_rfl,by kernel_rfl,by kernel_rfl⟩:ILit C3 176 39 178)
theorem i178:ILit C3 178 39 180:=(⟨by show 178<269;decide,by kernel_rfl,by kernel_rfl,by kernel_rfl⟩:ILit C3 178 39 180)
theorem i180:ISuc C3 180:=(⟨by show 180<269;decide,by kernel_rfl⟩:ISuc C3 180)
theorem i181:IJmp C3 181 184:=(⟨by show 181<269;decide,by kernel_rfl,by kernel_rfl⟩:IJmp C3 181 184)
theorem i184:IRun C3 184 4294967295 197 (aK 39):=(⟨by show 184<269;decide,by kernel_rfl,by kernel_rfl,by kernel_rfl,by kernel_rfl,aQ0⟩:IRun C3 184 4294967295 197 (aK 39))
theorem i198:IRpt C3 198 208 1:=(⟨by show 198<269;decide,by kernel_rfl,by kernel_rfl,by kernel_rfl,by kernel_rfl,by show 208<269;decide,by kernel_rfl⟩:IRpt C3 198 208 1)
theorem i202:ILit C3 202 39 204:=(⟨by show 202<269;decide,by kernel_rfl,by kernel_rfl,by kernel_rfl⟩:ILit C3 202 39 204)
theorem i204:ILit C3 204 39 206:=(⟨by show 204<269;decide,by kernel_rfl,by kernel_rfl,by kernel_rfl⟩:ILit C3 204 39 206)
theorem i206:ILit C3 206 39 208:=(⟨by show 206<269;decide,by kernel_rfl,by kernel_rfl,by kernel_rfl⟩:ILit C3 206 39 208)
theorem i209:IJmp C3 209 268:=(⟨by show 209<269;decide,by kernel_rfl,by kernel_rfl⟩:IJmp C3 209 268)
@[reducible] noncomputable def tr39:TrP:=⟨140,39,by decide,i140,i142,i144,i146,i159,i163,i165,i167,i168,i171,i173,i176,i178,i180,i181,i184,i198,i202,i204,i206,i209,by kernel_rfl,by kernel_rfl,by kernel_rfl,by kernel_rfl⟩
theorem i10:IBra C3 10 83:=(⟨by show 10<269;decide,by kernel_rfl,by kernel_rfl,by kernel_rfl⟩:IBra C3 10 83)
theorem h3:header C3=(1,10):=by kernel_rfl
theorem strM {T:Array Nat}{lim p q:Nat}{l:List Nat} (hq:q=34∨q=39) (hlim:lim≤4000000) (hR:dE ⟨C3,T,lim,p⟩ p (q::l)):
  Fin ⟨C3,T,lim,p⟩ (16*l.length+100) (forMatch C3 T 0 p lim false false) (some (p+eK q (q::l))):=by
 obtain ⟨sn,hs⟩:=kL (T:=T) h3 hR.lt
 rw [hs]
 refine Fin.mono (k:=(16*l.length+90)+1) ?_ (lin0 (.l (.a (.a (.m 16 .v0) (.k 90)) .k1) (.a (.m 16 .v0) (.k 100))) (.w [1]) rfl (.n1 _))
 refine rD i10 (by decide) fun sn kp hkp=> ?_
 by_cases ht:(q::l).take 3=[q,q,q]
 ·obtain ⟨l',rfl⟩:∃l',l=q::q::l':=by
   match l,ht with
   | x::y::l',ht=>simp at ht;exact ⟨l',by rw [ht.1,ht.2]⟩
  have e:eK q (q::q::q::l')=3+bN q l':=by unfold eK;rw [if_pos ht];rfl
  rw [e]
  rcases hq with rfl | rfl
  ·exact Fin.mono (alt3 aS2 hlim hR (aS (iZ hkp) (fun z_ h=>nomatch h)) (by show 1<100;decide)) (by simp only [List.length_cons,List.length_nil];exact lin0 (.l (.a (.a (.m 16 .v0) (.a .k0 .k1)) (.k 50)) (.a (.m 16 (.a (.a .v0 .k1) .k1)) (.k 90))) (.w [1]) rfl (.n1 _))
  ·refine Fin.mono (k:=(16*l'.length+60)+1+3+1+3) ?_ (by simp only [List.length_cons];exact lin0 (.l (.a (.a (.a (.a (.a (.m 16 .v0) (.k 60)) .k1) (.k 3)) .k1) (.k 3)) (.a (.m 16 (.a (.a .v0 .k1) .k1)) (.k 90))) (.w [1]) rfl (.n1 _))
   refine no3 aS2 hR (by simp) fun pc pos sn=> ?_
   refine eF (pb':=83) hkp (by decide) (by kernel_rfl) (by kernel_rfl) fun om=> ?_
   refine Fin.mono (k:=(16*l'.length+60)+1+1) ?_ (lin0 (.l (.a (.a (.a (.m 16 .v0) (.k 60)) .k1) .k1) (.a (.m 16 .v0) (.k 64))) (.w [1]) rfl (.n1 _))
   refine bK i84 (fun hp hx=>absurd (hR.head.symm.trans hx) (by decide)) fun sn=> ?_
   refine eF (pb':=139) hkp (by decide) (by kernel_rfl) (by kernel_rfl) fun om=> ?_
   exact Fin.mono (alt3 tr39 hlim hR (aS (iZ hkp) (fun z_ h=>nomatch h)) (by show 1<100;decide)) (by simp only [List.length_cons,List.length_nil];exact lin0 (.l (.a (.a (.m 16 .v0) (.a .k0 .k1)) (.k 50)) (.a (.m 16 .v0) (.k 60))) (.w [1]) rfl (.n1 _))
 ·have e:eK q (q::l)=1+cB q l:=by unfold eK;rw [if_neg ht];rfl
  rw [e]
  rcases hq with rfl | rfl
  ·refine Fin.mono (k:=(16*l.length+60)+1+3) ?_ (lin0 (.l (.a (.a (.a (.m 16 .v0) (.k 60)) .k1) (.k 3)) (.a (.m 16 .v0) (.k 90))) (.w [1]) rfl (.n1 _))
   refine no3 aS2 hR ht fun pc pos sn=> ?_
   refine eF (pb':=83) hkp (by decide) (by kernel_rfl) (by kernel_rfl) fun om=> ?_
   exact Fin.mono (alt1 sg34 hlim hR (aS (iZ hkp) (fun z_ h=>nomatch h)) (by show 1<100;decide)) (by simp only [List.length_cons,List.length_nil];exact Q91 (.n1 _))
  ·refine Fin.mono (k:=(16*l.length+60)+1+3+1+1+1+3) ?_ (lin0 (.l (.a (.a (.a (.a (.a (.a (.a (.m 16 .v0) (.k 60)) .k1) (.k 3)) .k1) .k1) .k1) (.k 3)) (.a (.m 16 .v0) (.k 90))) (.w [1]) rfl (.n1 _))
   refine no3 aS2 hR (by simp) fun pc pos sn=> ?_
   refine eF (pb':=83) hkp (by decide) (by kernel_rfl) (by kernel_rfl) fun om=> ?_
   refine bK i84 (fun hp hx=>absurd (hR.head.symm.trans hx) (by decide)) fun sn=> ?_
   refine eF (pb':=139) hkp (by decide) (by kernel_rfl) (by kernel_rfl) fun om=> ?_
   refine Fin.mono (k:=(16*l.length+60)+1+3) ?_ (lin0 (.l (.a (.a (.a (.m 16 .v0) (.k 60)) .k1) (.k 3)) (.a (.m 16 .v0) (.k 64))) (.w [1]) rfl (.n1 _))
   refine no3 tr39 hR ht fun pc pos sn=> ?_
   refine eF (pb':=211) hkp (by decide) (by kernel_rfl) (by kernel_rfl) fun om=> ?_
   exact Fin.mono (alt1 sg39 hlim hR (aS (iZ hkp) (fun z_ h=>nomatch h)) (by show 1<100;decide)) (by simp only [List.length_cons,List.length_nil];exact Q91 (.n1 _))
end
end RX
end _M
end
section
open PySem
namespace _M
namespace RX
open PySem.Sre PySem.Sre.M PySem.Builtin.Re
section
variable {n:Nat}
theorem fI:∀(n:Nat) (m:M),m.outcome.isSome=true→runFor n m=m
 | 0,_,_=>rfl
 | n+1,m,h=>by show (if m.outcome.isSome then m else runFor n m.step)=m;rw [h];rfl
theorem fC:∀(a b:Nat) (m:M),runFor (a+b) m=runFor b (runFor a m)
 | 0,b,m=>by rw [Nat.zero_add];rfl
 | a+1,b,m=>by
  rw [show a+1+b=(a+b)+1 by exact lin0 (.q (.a (.a .v0 .k1) .v1) (.a (.a .v0 .v1) .k1)) (.b (.w [1]) (.w [1])) rfl (.n2 _ _)]
  show (if m.outcome.isSome then m else runFor (a+b) m.step)=runFor b (if m.outcome.isSome then m else runFor a m.step)
  by_cases h:m.outcome.isSome=true
  ·rw [if_pos h,if_pos h,fI b m h]
  ·rw [if_neg h,if_neg h,fC a b m.step]
theorem zT {a b:Nat}{m:M} (ha:(runFor a m).outcome.isSome=true) (hb:(runFor b m).outcome.isSome=true):runFor a m=runFor b m:=by
 rcases Nat.le_total a b with h | h
 ·obtain ⟨c,rfl⟩:=Nat.exists_eq_add_of_le h
  rw [fC,fI c _ ha]
 ·obtain ⟨c,rfl⟩:=Nat.exists_eq_add_of_le h
  rw [fC,fI c _ hb]
section
variable {Md:Model}{A:Around}{E:Value→Shared→Prop}{s:Shared}
theorem aO2:∀(T n:Nat) (m:M) (Q:M→Shared→Prop),(runFor n m).outcome.isSome=true→n≤4*T→0<T→Q (runFor n m) s→wpAny Md A (reDrive T m) Q E s
 | 0,n,m,Q,_,_,h0,_=>absurd h0 (Nat.lt_irrefl 0)
 | T+1,n,m,Q,hn,hle,_,hQ=>by
  show wpAny Md A (if (m.runFor 4).outcome.isSome=true then pure (m.runFor 4) else (do rule "sre.turn";reDrive T (m.runFor 4))) Q E s
  by_cases h:(m.runFor 4).outcome.isSome=true
  ·rw [if_pos h,zT h hn]
   exact wpAny_pure hQ
  ·rw [if_neg h]
   have h4:4<n:=by
    rcases Nat.lt_or_ge 4 n with h4 | h4
    ·exact h4
    ·obtain ⟨c,hc⟩:=Nat.exists_eq_add_of_le h4
     exact absurd (by rw [hc,fC,fI c _ hn];exact hn) h
   obtain ⟨c,rfl⟩:=Nat.exists_eq_add_of_le (Nat.le_of_lt h4)
   rw [fC] at hn hQ
   refine wpAny_bind (wpAny_rule (aO2 T c (m.runFor 4) Q hn (lin1 (.l .v0 (.m 4 .v1)) (.l (.a (.k 4) .v0) (.m 4 (.a .v1 .k1))) (.w [1,1]) rfl (.n2 _ _) hle) (lin2 (.t .k0 .v0) (.l (.a (.k 4) .v1) (.m 4 (.a .v0 .k1))) (.t (.k 4) (.a (.k 4) .v1)) (.w [4,1,1]) rfl (.n2 _ _) hle h4) hQ))
theorem kO {c:Nat→Bool}{t:Nat→String}:∀(l:List Nat) (Q:PUnit→Shared→Prop),Q ⟨⟩ s→
  wpAny Md A (forIn l PUnit.unit fun i z_=>(if c i=true then (do rule (t i);pure (ForInStep.yield PUnit.unit)) else pure (ForInStep.yield PUnit.unit):Sem (ForInStep PUnit))) Q E s
 | [],Q,h=>wpAny_pure h
 | i::l,Q,h=>by
  rw [List.forIn_cons]
  cases c i
  ·exact wpAny_bind (wpAny_pure (kO l Q h))
  ·exact wpAny_bind (wpAny_bind (wpAny_rule (wpAny_pure (kO l Q h))))
theorem toEnd {m:M}{Q:Option M→Shared→Prop} (hn:n≤4*2^64) (ho:(runFor n m).outcome=some .matched) (hQ:Q (some (runFor n m)) s):wpAny Md A (reRunToEnd m) Q E s:=by
 unfold reRunToEnd
 refine wpAny_bind (aO2 (2^64) n m _ (by rw [ho];rfl) hn (by decide) ?_)
 refine wpAny_bind (kO (c:=fun i=>(runFor n m).seen.has i) (t:=fun i=>Sre.names.getD i "") _ _ ?_)
 rw [ho]
 exact wpAny_pure hQ
theorem toEndF {m:M}{Q:Option M→Shared→Prop} (hn:n≤4*2^64) (ho:(runFor n m).outcome=some .failed) (hQ:Q none s):wpAny Md A (reRunToEnd m) Q E s:=by
 unfold reRunToEnd
 refine wpAny_bind (aO2 (2^64) n m _ (by rw [ho];rfl) hn (by decide) ?_)
 refine wpAny_bind (kO (c:=fun i=>(runFor n m).seen.has i) (t:=fun i=>Sre.names.getD i "") _ _ ?_)
 rw [ho]
 exact wpAny_pure hQ
end
end
section
variable {P:Addr}{t t1:Tok}{a b i:Int}{C:Array Nat}{e:En}{k:Nat}
def zK (h:Heap) (P:Addr) (C:Array Nat):Prop:=∃x0 x1 x3 x4 tp t2 t6 items n,h.get? P=some {cls:= .type "re.Pattern",data:= .fields #[x0,x1, .int 0 t2,x3,x4, .ref tp, .int 0 t6]}∧
 h.get? tp=some {cls:= .type "tuple",data:= .seq items n}∧(items.map reRawOf).map (·.toNat)=C
noncomputable def tgt (P:Addr) (x:Str) (t:Tok) (pos lim:Int):Sem ReTarget:=do
 let fs ←fieldsOf (.ref P)
 let (text,kind) ←reTextOf (.str x t)
 let want:=reRawNat (fs.getD 6 .none)
 if want==0&&kind==1 then raiseError "TypeError" "cannot use a string pattern on a bytes-like object"
 if want==1&&kind==0 then raiseError "TypeError" "cannot use a bytes pattern on a string-like object"
 reNoCollectionInside (.str x t) kind
 let clip (i:Int):Nat:=min i.toNat text.size
 pure {pattern:= .ref P,string:= .str x t,code:=(←reRawItems (fs.getD 5 .none)).map (·.toNat),text,kind,groups:=reRawNat (fs.getD 2 .none),pos:=clip pos,lim:=clip lim}
theorem tgt1 {x:Str}:reTarget "re.Pattern.match" "match" ⟨[.ref P, .str x t],[]⟩=tgt P x t 0 (2^63-1):=by rfl
theorem tgt2 {x:Str}:reTarget "re.Pattern.match" "match" ⟨[.ref P, .str x t, .int i t1],[]⟩=(do let a ←reSsize (.int i t1);tgt P x t a (2^63-1)):=by rfl
theorem tgt3 {x:Str}{t2:Tok}{j:Int}:reTarget "re.Pattern.match" "match" ⟨[.ref P, .str x t, .int i t1, .int j t2],[]⟩=(do let a ←reSsize (.int i t1);let b ←reSsize (.int j t2);tgt P x t a b):=by rfl
section
variable {prog:Program}{w:World}{A:Around}{E:Value→Shared→Prop}{s:Shared}
theorem oL {Q:Int→Shared→Prop} (h1: -(2^63)≤i) (h2:i<2^63) (hQ:Q i s):wpAny (model prog w) A (reSsize (.int i t)) Q E s:=by
 unfold reSsize
 refine wpAny_bind (wpAny_of_eq (a:=i) (by rfl) ?_)
 rw [if_neg (by simp;exact ⟨lin1 (.L (.g (.k 9223372036854775808)) .v0) (.L (.g (.k 9223372036854775808)) .v0) (.w [1,1]) rfl (.z _ .o) h1,lin1 (.T .v0 (.k 9223372036854775808)) (.T .v0 (.k 9223372036854775808)) (.w [1,1]) rfl (.z _ .o) h2⟩)]
 exact wpAny_bind (wpAny_pure (wpAny_pure hQ))
theorem tgt_ok {x:Str}{Q:ReTarget→Shared→Prop} (hP:zK s.heap P C)
  (hQ:Q {pattern:= .ref P,string:= .str x t,code:=C,text:=x.cps,kind:=0,groups:=0,pos:=min a.toNat x.cps.size,lim:=min b.toNat x.cps.size} s):
  wpAny (model prog w) A (tgt P x t a b) Q E s:=by
 refine cps fun GC hGC=> ?_
 obtain ⟨x0,x1,x3,x4,tp,u2,u6,items,n,h1,h2,h3⟩:=hP
 refine hGC ?_
 unfold tgt
 refine wpAny_bind ?_
 unfold fieldsOf
 refine wpAny_bind (wpAny_load h1 (wpAny_pure ?_))
 refine wpAny_bind (wpAny_of_eq (a:=(x.cps,0)) (by rfl) ?_)
 show wpAny _ A (do
  reNoCollectionInside (.str x t) 0
  let r ←reRawItems (.ref tp)
  pure {pattern:= .ref P,string:= .str x t,code:=r.map (·.toNat),text:=x.cps,kind:=0,groups:=0,pos:=min a.toNat x.cps.size,lim:=min b.toNat x.cps.size}) Q E s
 refine wpAny_bind (wpAny_of_eq (a:=()) (by rfl) ?_)
 refine wpAny_bind ?_
 unfold reRawItems seqItems?
 refine wpAny_bind (wpAny_bind (wpAny_load h2 (wpAny_pure (wpAny_pure ?_))))
 show wpAny _ A (pure {pattern:= .ref P,string:= .str x t,code:=(items.map reRawOf).map (·.toNat),text:=x.cps,kind:=0,groups:=0,pos:=min a.toNat x.cps.size,lim:=min b.toNat x.cps.size}) Q E s
 rw [h3]
 exact wpAny_pure hQ
theorem rT {x:Str}{p q:Nat}{Q:ReTarget→Shared→Prop} (hP:zK s.heap P C) (hp:min a.toNat x.cps.size=p) (hq:min b.toNat x.cps.size=q)
  (hQ:Q {pattern:= .ref P,string:= .str x t,code:=C,text:=x.cps,kind:=0,groups:=0,pos:=p,lim:=q} s):
  wpAny (model prog w) A (tgt P x t a b) Q E s:=by
 subst hp;subst hq
 exact tgt_ok hP hQ
noncomputable def sW (x p:Value) (i j k:Int) (tp:Addr):Obj:={cls:= .type "re.Match",data:= .fields #[x,p,rawInt i,rawInt j,rawInt k, .ref tp]}
noncomputable def nS (st e:Int):Obj:={cls:= .type "tuple",data:= .seq #[rawInt st,rawInt e] 0}
theorem aC2 {t:ReTarget}{m:M}{h:Nat}{Q:Value→Shared→Prop} (hg:t.groups=0) (hf:Fin e k m (some h)) (hk:k≤2^60)
  (hQ:∀i j l,Q (.ref (s.heap.objs.size+1)) {s with heap:=(s.heap.push (nS e.st h)).push (sW t.string t.pattern i j l s.heap.objs.size)}):wpAny (model prog w) A (reAnswer t m) (fun fin s'=>∃r,fin= .done (.ret r)∧Q r s') E s:=by
 refine cps fun GC hGC=> ?_
 obtain ⟨n,hn,h1,h2,h3⟩:=hf
 refine hGC ?_
 unfold reAnswer
 refine wpAny_bind (toEnd (Q92 (.n2 _ _) hk hn) h1 ?_)
 show wpAny _ A (do let v ←reNewMatch t.pattern t.string t.groups t.pos t.lim (runFor n m);ret v) _ E s
 rw [hg]
 refine wpAny_bind ?_
 show wpAny _ A (do
  let tp ←newTuple [rawInt (runFor n m).start,rawInt (runFor n m).handed]
  newFields "re.Match" [t.string,t.pattern,rawInt t.pos,rawInt t.lim,rawInt (runFor n m).lastindex,tp]) _ E s
 rw [h2,h3]
 refine wpAny_bind (wpAny_newObj_type ?_ (by show 2≤sizeLine;rw [sizeLine_eq];decide))
 refine wpAny_newObj_type (wpAny_pure ⟨_,rfl, ?_⟩)
 have:=hQ t.pos t.lim (runFor n m).lastindex
 rw [show s.heap.objs.size+1=(s.heap.push (nS e.st h)).objs.size by simp [Heap.push]] at this
 exact this
theorem aC3 {t:ReTarget}{m:M}{Q:Value→Shared→Prop} (hf:Fin e k m none) (hk:k≤2^60)
  (hQ:Q .none s):wpAny (model prog w) A (reAnswer t m) (fun fin s'=>∃r,fin= .done (.ret r)∧Q r s') E s:=by
 obtain ⟨n,hn,h1⟩:=hf
 unfold reAnswer
 refine wpAny_bind (toEndF (Q92 (.n2 _ _) hk hn) h1 ?_)
 exact wpAny_pure ⟨_,rfl,hQ⟩
end
end
section
variable {a b:Addr}{o:Obj}{args:List Value}
theorem iC:Slot "re.Pattern" "match" "re.Pattern.match" :=
 .of (owner:= "re.Pattern") (n:= "match") (by rw [typeLookup_type,builtinLookup_eq_fast];kernel_rfl) (by decide +kernel) (by decide +kernel) (by decide +kernel)
  (by first | exact .inl (by decide +kernel) | exact .inr (by decide +kernel)) (by rw [isSubtype_type];kernel_rfl)
theorem oF:typeOf (.builtin "re.Pattern.match")=pure (.type "method_descriptor"):=by kernel_rfl
theorem hU:entryFor table "re.Pattern.match" =some Builtin.«re.Pattern.match»:=entryFor_of_tree (by kernel_rfl)
theorem oX:PlainAttrs "re.Pattern" :=
 ⟨⟨"object.__getattribute__",by rw [typeLookup_type,builtinLookup_eq_fast];kernel_rfl,by decide +kernel⟩,by rw [typeLookup_type,builtinLookup_eq_fast];kernel_rfl⟩
theorem mV (a x:Value):argsOk "re.Pattern.match" ⟨[a,x],[]⟩:=by unfold argsOk;kernel_rfl
theorem kM:Slot "re.Match" "end" "re.Match.end" :=
 .of (owner:= "re.Match") (n:= "end") (by rw [typeLookup_type,builtinLookup_eq_fast];kernel_rfl) (by decide +kernel) (by decide +kernel) (by decide +kernel)
  (by first | exact .inl (by decide +kernel) | exact .inr (by decide +kernel)) (by rw [isSubtype_type];kernel_rfl)
theorem rS:typeOf (.builtin "re.Match.end")=pure (.type "method_descriptor"):=by kernel_rfl
theorem qN:entryFor table "re.Match.end" =some Builtin.«re.Match.end»:=entryFor_of_tree (by kernel_rfl)
theorem oY:PlainAttrs "re.Match" :=
 ⟨⟨"object.__getattribute__",by rw [typeLookup_type,builtinLookup_eq_fast];kernel_rfl,by decide +kernel⟩,by rw [typeLookup_type,builtinLookup_eq_fast];kernel_rfl⟩
theorem tN (a:Value):argsOk "re.Match.end" ⟨[a],[]⟩:=by unfold argsOk;kernel_rfl
theorem oK:isSubtype (.type "re.Pattern") (.type "module")=pure false:=by rw [isSubtype_type];kernel_rfl
theorem aS9:Manifest.signature? "re.Pattern.match" =some (oQ "re.Pattern.match"):=by first | rfl | kernel_rfl
theorem aK9:builtinKind "re.Pattern.match" =some .method:=by first | kernel_rfl | decide +kernel
theorem tW:Manifest.varargsMethods.contains "re.Pattern.match" =false:=by first | decide +kernel | kernel_rfl
theorem aZ2 (a b c:Value):Bind.checkArgs "re.Pattern.match" {oQ "re.Pattern.match" with full:=toString (Bind.lastOf "re.Pattern")++toString "." ++ toString (Bind.lastOf "re.Pattern.match")} ⟨[a,b,c],[]⟩=pure ():=by kernel_rfl
theorem aZ1 (a b c d:Value):Bind.checkArgs "re.Pattern.match" {oQ "re.Pattern.match" with full:=toString (Bind.lastOf "re.Pattern")++toString "." ++ toString (Bind.lastOf "re.Pattern.match")} ⟨[a,b,c,d],[]⟩=pure ():=by kernel_rfl
section
variable {prog:Program}{w:World}{A:Around}{E:Value→Shared→Prop}{h:Heap}{g:Array GenState}{d:Drawn}{t:Nat}{os:OsState}
theorem aB6 {Q:Unit→Shared→Prop} (hb:h.get? b=some o) (ho:∃vs,o={cls:= .type "re.Pattern",data:= .fields vs})
  (hc:Bind.checkArgs "re.Pattern.match" {oQ "re.Pattern.match" with full:=toString (Bind.lastOf "re.Pattern")++toString "." ++ toString (Bind.lastOf "re.Pattern.match")} ⟨.ref b::args,[]⟩=pure ()) (hq:Q () ⟨h,g,d,t,os⟩):
  wpAny (model prog w) A (checkBoundCall "re.Pattern.match" ⟨.ref b::args,[]⟩) Q E ⟨h,g,d,t,os⟩:=by
 obtain ⟨vs,rfl⟩:=ho
 have hT:(⟨h,g,d,t,os⟩:Shared).TypeIs (.ref b) "re.Pattern" :=⟨_,hb,rfl⟩
 have f1:=aK9
 have f2:=tW
 have f3:=oK
 unfold checkBoundCall
 rw [aS9]
 skip
 rw [f1]
 refine tA (by decide) ?_
 refine wpAny_bind (wpAny_isInstance hT f3 ?_)
 refine tA (by rw [f2];decide) ?_
 refine wpAny_bind ?_
 refine wpAny_bind (m:=isType (.ref b)) ?_
 repeat (any_goals (first | assumption | with_reducible exact wpAny_of_eq hc hq | wp_step))
theorem aG5 {R:Result→Shared→Prop} (hx:h.get? a=some {cls:= .type "builtin_function_or_method",data:= .fields #[.builtin "re.Pattern.match", .ref b]}) (hb:h.get? b=some o) (ho:∃vs,o={cls:= .type "re.Pattern",data:= .fields vs})
  (hc:Bind.checkArgs "re.Pattern.match" {oQ "re.Pattern.match" with full:=toString (Bind.lastOf "re.Pattern")++toString "." ++ toString (Bind.lastOf "re.Pattern.match")} ⟨.ref b::args,[]⟩=pure ())
  (hq:codeAny (model prog w) A (.builtin "re.Pattern.match" ⟨.ref b::args,[]⟩) R ⟨h,g,d,t,os⟩):codeAny (model prog w) A (.call (.ref a) ⟨args,[]⟩) R ⟨h,g,d,t,os⟩:=by
 refine codeAny_of_tree ?_
 show wpAny _ A.in1 (callAny (.ref a) ⟨args,[]⟩) _ _ _
 unfold callAny
 dsimp only
 refine wpAny_bind (wpAny_load hx ?_)
 dsimp only
 refine vH (by decide) ?_
 refine vH (by decide) ?_
 refine wpAny_bind (aB6 hb ho hc ?_)
 refine wpAny_bind (wpAny_pure (wpAny_pure ?_))
 exact ⟨Code.quiet_builtin _ (by decide +kernel),hq⟩
theorem aO0 {tp:Addr}{x p:Value}{i j k st e:Int}{n:Nat}{s:Shared}{Q:Value→Shared→Prop} (ha:s.heap.get? a=some (sW x p i j k tp)) (ht:s.heap.get? tp=some {cls:= .type "tuple",data:= .seq #[rawInt st,rawInt e] n})
  (hQ:Q (.int e s.toks) {s with toks:=s.toks+1}):wpAny (model prog w) A (Builtin.«re.Match.end» ⟨[.ref a],[]⟩) (fun fin s'=>∃r,fin= .done (.ret r)∧Q r s') E s:=by
 have ff:∀{Q:Array Value→Shared→Prop},Q #[x,p,rawInt i,rawInt j,rawInt k, .ref tp] s→wpAny (model prog w) A (fieldsOf (.ref a)) Q E s:=fun q=>by
  unfold fieldsOf
  exact wpAny_bind (wpAny_load ha (wpAny_pure q))
 have fr:∀{Q:Array Int→Shared→Prop},Q #[st,e] s→wpAny (model prog w) A (reRawItems (.ref tp)) Q E s:=fun q=>by
  unfold reRawItems seqItems?
  refine wpAny_bind (wpAny_bind (wpAny_load ht (wpAny_pure (wpAny_pure ?_))))
  rw [show Array.map reRawOf ((some #[rawInt st,rawInt e]).getD #[])= #[st,e] by simp [reRawOf,rawInt]]
  exact q
 unfold Builtin.«re.Match.end» reOneGroup
 refine wpAny_bind (wpAny_bind (wpAny_of_eq (a:=(.ref a,[])) (by rfl) ?_))
 refine wpAny_bind ?_
 unfold reFound
 refine wpAny_bind (ff (wpAny_bind (fr (wpAny_pure ?_))))
 refine wpAny_bind (wpAny_pure (wpAny_pure ?_))
 show wpAny _ A (do let v ←mkInt e;ret v) _ E s
 exact wpAny_bind (wpAny_mkInt (wpAny_pure ⟨_,rfl,hQ⟩))
end
end
end RX
end _M
end
section
open PySem PySem.W PySem.Calls PyProof.Rows
namespace _M
section
open RX in
variable {B P:Addr}{C:Array Nat}
def nM (K:Frag) (P:Addr) (C:Array Nat):Prop:=∃x0 x1 x3 x4 tp t2 t6 items n,K.lookup P=some {cls:= .type "re.Pattern",data:= .fields #[x0,x1, .int 0 t2,x3,x4, .ref tp, .int 0 t6]}∧
 K.lookup tp=some {cls:= .type "tuple",data:= .seq items n}∧(items.map Builtin.Re.reRawOf).map (·.toNat)=C
theorem nM.at_ {K:Frag}{h:Heap} (hP:nM K P C) (X:K.In h):RX.zK h P C:=by
 refine cps fun GC hGC=> ?_
 obtain ⟨x0,x1,x3,x4,tp,t2,t6,items,n,h1,h2,h3⟩:=hP
 refine hGC ?_
 exact ⟨x0,x1,x3,x4,tp,t2,t6,items,n,X _ _ h1,X _ _ h2,h3⟩
def tO (C:Array Nat) (sc:List Nat→Option (Option Nat)):Prop:=∀(T:Array Nat) (lim p:Nat) (l:List Nat) (r:Option Nat),lim≤4000000→RX.dE ⟨C,T,lim,p⟩ p l→sc l=some r→
 ∃k,k≤2^60∧RX.Fin ⟨C,T,lim,p⟩ k (Sre.forMatch C T 0 p lim false false) (r.map (p + ·))
noncomputable def dR (sc:List Nat→Option (Option Nat)) (l:List Nat) (i j:Int):PM PV:=if 0≤i∧i≤j∧j≤(l.length:Int)∧l.length≤4000000 then (match sc ((l.drop i.toNat).take (j-i).toNat) with
 | some (some n)=>aL (.mat (i+n))
 | some none=>aL .none
 | none=>bI) else bI
noncomputable def aJ4 (sc:List Nat→Option (Option Nat)) (pvs:List PV):PM PV:=if pvs.length=1
 then g1 (onS fun l=>dR sc l 0 l.length) pvs
 else if pvs.length=2 then g2 (fun a b=>onS (fun l=>onI (fun i=>dR sc l i l.length) b) a) pvs
 else g3 (fun a b d=>onS (fun l=>onI (fun i=>onI (fun j=>dR sc l i j) d) b) a) pvs
theorem aT5 {C:Array Nat}{l:List Nat}{i j:Nat} (h1:i≤j) (h2:j≤l.length):RX.dE ⟨C,l.toArray,j,i⟩ i ((l.drop i).take (j-i)):=by
 refine ⟨by simp;exact lin5 (.q (.a .v0 .v5) .v1) (.l .v0 .v1) (.l .v1 .v2) (.M 5 .v3 .v4) (.b 4 .v2 .v0) (.b 3 .v1 .v0) (.b (.d 3 (.d 6 (.d 9 (.w [0, -1,0,0,0, -1,1]) (.w [1, -1,0,0,0, -1,1])) (.w [1,0,0,0,1,0,1])) (.d 7 (.d 8 (.w [0, -1,0,0,0, -1,1,0,1]) (.w [1, -1,0,0,0, -1,1,0,1])) (.w [1,0,0,0,1]))) (.d 3 (.d 6 (.d 9 (.w [0,1,0,0,0,1,1]) (.w [0,1,0,0,0,1,1,1])) (.w [0,1,1,1,1,1])) (.d 7 (.w [0,1,1,1,1]) (.w [0,1,1,1,1,1])))) rfl (.n6 _ _ _ _ _ _) h1 h2 rfl rfl rfl,fun k c hk=> ?_⟩
 rw [List.getElem?_take] at hk
 split at hk
 ·rw [List.getElem?_drop] at hk
  show l.toArray.getD (i+k) 0=c
  simp [hk]
 ·cases hk
section
variable {G:Glb}{fi:FI}
theorem jZ {A:Around}{E:Value→Shared→Prop}{C:Array Nat}{sc:List Nat→Option (Option Nat)} (hs:tO C sc) {h₀:Heap}{L:Addr}{held:List (PV×Value)}{s:Shared}{σ σ':St}{l:List Nat}{i j:Int}{c:PV}{P:Addr}{t:Tok}{Q:Value→Shared→Prop}
  (hf:dR sc l i j σ= .ok c σ') (R:Rel G fi h₀ L σ held s) (hQ:∀v h' t',Rel G fi h₀ L σ' ((c,v)::held) (Sh s h' t')→Q v (Sh s h' t')):
  wpAny (model G.prog G.w) A (Builtin.Re.reAnswer {pattern:= .ref P,string:= .str ⟨l.toArray⟩ t,code:=C,text:=l.toArray,kind:=0,groups:=0,pos:=i.toNat,lim:=j.toNat}
   (Sre.forMatch C l.toArray 0 i.toNat j.toNat false false)) (fun fin s'=>∃r,fin= .done (.ret r)∧Q r s') E s:=by
 unfold dR at hf
 split at hf
 ·rename_i hc
  refine cps fun GC hGC=> ?_
  obtain ⟨h0,h1,h2,h3⟩:=hc
  refine hGC ?_
  have hR:=aT5 (C:=C) (l:=l) (i:=i.toNat) (j:=j.toNat) (lin3 (.l .v2 .v3) (.L .v0 .v1) (.N 2 .v0) (.N 3 .v1) (.d 2 (.d 5 (.w [0, -1,0,1,1,1]) (.w [1, -1,0,1,1,1])) (.w [0,1,1])) rfl (.z _ (.z _ (.n2 _ _))) h1 rfl rfl) (lin2 (.l .v2 .v1) (.L .v0 (.c .v1)) (.N 2 .v0) (.d 2 (.w [0,1,1,1]) (.w [0,1,1])) rfl (.z _ (.n2 _ _)) h2 rfl)
  rw [show j.toNat-i.toNat=(j-i).toNat by exact lin5 (.q .v4 .v5) (.L .k0 .v1) (.N 5 (.s .v0 .v1)) (.b 4 .v2 .v3) (.N 2 .v0) (.N 3 .v1) (.b (.d 2 (.d 5 (.d 8 (.d 11 (.w [0,1,0, -1,0, -1,0,1,1]) (.w [0,1,0, -1,0, -1,0,1,1,1])) (.w [1,0,1, -1,0,1,1,1])) (.d 9 (.d 10 (.w [0, -1,0,1,1, -1,0,1,1]) (.w [1,0,1,0,0, -1,0,1,1])) (.d 10 (.w [0, -1,0,1,1, -1,0,1,1,1]) (.w [1,0,0,0,0, -1,0,1,1,1])))) (.w [0,1,1])) (.d 3 (.d 6 (.d 9 (.d 8 (.w [0, -1,0, -1,0,1,0,1,1]) (.w [1, -1,0, -1,0,1,0,1,1])) (.d 8 (.w [0, -1,1, -1,0,1,0,1,1]) (.w [1, -1,1, -1,0,1,0,1,1]))) (.w [0,1,0,1,1])) (.w [0,1,1]))) rfl (.z _ (.z _ (.n4 _ _ _ _))) h0 rfl rfl rfl rfl] at hR
  cases hn:sc ((l.drop i.toNat).take (j-i).toNat) with
  | none=>rw [hn] at hf;cases hf
  | some o=>
   rw [hn] at hf
   induction o with
   | none=>
    refine cps fun GC hGC=> ?_
    obtain ⟨rfl,rfl⟩:=aJ hf
    obtain ⟨k,hk,hF⟩:=hs l.toArray j.toNat i.toNat _ none (Q93 (.z _ (.n2 _ _)) h2 h3 rfl) hR hn
    refine hGC ?_
    exact RX.aC3 hF hk (hQ _ s.heap s.toks (R.holdP .none))
   | some n=>
    refine cps fun GC hGC=> ?_
    obtain ⟨rfl,rfl⟩:=aJ hf
    obtain ⟨k,hk,hF⟩:=hs l.toArray j.toNat i.toNat _ (some n) (Q93 (.z _ (.n2 _ _)) h2 h3 rfl) hR hn
    refine hGC ?_
    refine RX.aC2 rfl hF hk fun a b d=> ?_
    refine cps fun GC hGC=> ?_
    obtain ⟨m,α,N,R⟩:=R
    refine hGC ?_
    have P1:=R.push (RX.nS i.toNat (i.toNat+n:Nat)) rfl
    have P2:=P1.push (RX.sW (.str ⟨l.toArray⟩ t) (.ref P) a b d s.heap.objs.size) rfl
    have hsz:(s.heap.push (RX.nS i.toNat (i.toNat+n:Nat))).objs.size=s.heap.objs.size+1:=by simp [Heap.push]
    have ee:(i.toNat+n:Nat)=(i+n:Int):=by exact lin2 (.Q (.c (.a .v2 .v1)) (.a .v0 (.c .v1))) (.L .k0 .v0) (.N 2 .v0) (.b (.d 2 (.w [0, -1,1]) (.w [1, -1,1])) (.d 2 (.w [0,1,1]) (.w [0,1,1,1]))) rfl (.z _ (.n2 _ _)) h0 rfl
    have hfr:=P1.fresh
    rw [hsz] at P2 hfr
    refine hQ _ _ s.toks ⟨m,α,_,P2.hold ?_⟩
    rw [←ee]
    exact .mat (.head _) hfr (.tail _ (.head _)) R.fresh
 ·cases hf
theorem uY {A:Around}{E:Value→Shared→Prop}{C:Array Nat}{sc:List Nat→Option (Option Nat)} (hs:tO C sc) {h₀:Heap}{L:Addr}{held:List (PV×Value)}{s:Shared}{σ σ':St}{c:PV}{P:Addr}{pvs:List PV}{vs:List Value}{Q:Value→Shared→Prop}
  (hP:nM G.K P C) (X:G.K.In h₀) (hf:aJ4 sc pvs σ= .ok c σ') (hl:pvs.length=vs.length) (R:Rel G fi h₀ L σ (pvs.zip vs++held) s) (hQ:∀v h' t',Rel G fi h₀ L σ' ((c,v)::held) (Sh s h' t')→Q v (Sh s h' t')):
  wpAny (model G.prog G.w) A (Builtin.«re.Pattern.match» ⟨.ref P::vs,[]⟩) (fun fin s'=>∃r,fin= .done (.ret r)∧Q r s') E s:=by
 have hPat:RX.zK s.heap P C:=by
  obtain ⟨m,α,N,R'⟩:=R
  exact hP.at_ (X.keeps R'.fr.keep)
 unfold Builtin.«re.Pattern.match»
 unfold aJ4 at hf
 split at hf
 ·replace q:=rE hf;clear hf;obtain ⟨_,hf⟩:=q
  replace q:=cN hf;clear hf;obtain ⟨l,hf⟩:=q
  obtain ⟨v1,rfl⟩:=iY hl rfl
  replace R:Rel G fi h₀ L σ ((.str l,v1)::held) s:=R
  obtain ⟨α,N,r⟩:=lH R
  obtain ⟨t1,e9⟩:=r.str_inv;rw [e9];clear e9
  have hb:l.length≤4000000:=by unfold dR at hf;split at hf <;> first | (rename_i z;exact z.2.2.2) | cases hf
  rw [RX.tgt1]
  have e1:min ((2:Int)^63-1).toNat l.toArray.size=(l.length:Int).toNat:=by simp;exact Q94 (.n2 _ _) hb rfl
  refine wpAny_bind (RX.rT (p:=(0:Int).toNat) (q:=(l.length:Int).toNat) hPat (by simp) e1 ?_)
  exact jZ hs hf R.tail hQ
 split at hf
 ·replace q:=jN hf;clear hf;obtain ⟨_,_,hf⟩:=q
  replace q:=cN hf;clear hf;obtain ⟨l,hf⟩:=q
  replace q:=fQ hf;clear hf;obtain ⟨i,hf⟩:=q
  obtain ⟨v1,v2,rfl⟩:=dC hl rfl
  replace R:Rel G fi h₀ L σ ((.str l,v1)::(.int i,v2)::held) s:=R
  obtain ⟨α,N,r2,r1⟩:=qK R
  obtain ⟨t1,e9⟩:=r1.str_inv;rw [e9];clear e9
  obtain ⟨t2,e9⟩:=r2.int_inv;rw [e9];clear e9
  have hb:0≤i∧i≤(l.length:Int)∧l.length≤4000000:=by unfold dR at hf;split at hf <;> first | (rename_i z;exact ⟨z.1,z.2.1,z.2.2.2⟩) | cases hf
  rw [RX.tgt2]
  have e1:min ((2:Int)^63-1).toNat l.toArray.size=(l.length:Int).toNat:=by simp;exact Q94 (.n2 _ _) hb.2.2 rfl
  have e2:min i.toNat l.toArray.size=i.toNat:=by simp;exact Q95 (.z _ (.n3 _ _ _)) hb.2.1 rfl rfl
  refine wpAny_bind (wpAny_bind (RX.oL (Q96 (.z _ .o) hb.1) (Q97 (.z _ (.n1 _)) hb.2.1 hb.2.2) (RX.rT hPat e2 e1 ?_)))
  exact jZ hs hf R.tail.tail hQ
 ·replace q:=aM0 hf;clear hf;obtain ⟨_,_,_,hf⟩:=q
  replace q:=cN hf;clear hf;obtain ⟨l,hf⟩:=q
  replace q:=fQ hf;clear hf;obtain ⟨i,hf⟩:=q
  replace q:=fQ hf;clear hf;obtain ⟨j,hf⟩:=q
  obtain ⟨v1,v2,v3,rfl⟩:=oH hl rfl
  replace R:Rel G fi h₀ L σ ((.str l,v1)::(.int i,v2)::(.int j,v3)::held) s:=R
  obtain ⟨m,α,N,R'⟩:=(fun z=>z) R
  obtain ⟨t1,rfl⟩:=(R'.held (_,v1) (.head _)).str_inv
  obtain ⟨t2,rfl⟩:=(R'.held (_,v2) (.tail _ (.head _))).int_inv
  obtain ⟨t3,rfl⟩:=(R'.held (_,v3) (.tail _ (.tail _ (.head _)))).int_inv
  have hb:0≤i∧i≤j∧j≤(l.length:Int)∧l.length≤4000000:=by unfold dR at hf;split at hf <;> first | (rename_i z;exact z) | cases hf
  rw [RX.tgt3]
  have e1:min j.toNat l.toArray.size=j.toNat:=by simp;exact Q95 (.z _ (.n3 _ _ _)) hb.2.2.1 rfl rfl
  have e2:min i.toNat l.toArray.size=i.toNat:=by simp;exact lin4 (.q .v4 .v3) (.L .v0 .v2) (.L .v2 (.c .v1)) (.N 3 .v0) (.M 4 .v3 .v1) (.b (.d 3 (.d 6 (.w [0, -1,0,0,1]) (.w [0, -1,0,1,1,1,1])) (.w [0,1,1])) (.d 4 (.w [0,1,1]) (.w [1,1,1]))) rfl (.z _ (.n _ (.z _ (.n2 _ _)))) hb.2.1 hb.2.2.1 rfl rfl
  refine wpAny_bind (wpAny_bind (RX.oL (Q96 (.z _ .o) hb.1) (lin3 (.T .v0 (.k 9223372036854775808)) (.L .v0 .v1) (.L .v1 (.c .v2)) (.l .v2 (.k 4000000)) (.w [1,1,1,1]) rfl (.z _ (.z _ (.n1 _))) hb.2.1 hb.2.2.1 hb.2.2.2) (wpAny_bind (RX.oL (lin2 (.L (.g (.k 9223372036854775808)) .v0) (.L .k0 .v1) (.L .v1 .v0) (.w [1,1,1]) rfl (.z _ (.z _ .o)) hb.1 hb.2.1) (Q97 (.z _ (.n1 _)) hb.2.2.1 hb.2.2.2) (RX.rT hPat e2 e1 ?_)))))
  exact jZ hs hf R.tail.tail.tail hQ
theorem b_patB {sc:List Nat→Option (Option Nat)} (hs:tO C sc) (hP:nM G.K P C) (hB:G.K.lookup B=some {cls:= .type "builtin_function_or_method",data:= .fields #[.builtin "re.Pattern.match", .ref P]}):
  dX G (.ref B) (fun pvs=>if pvs.length=2∨pvs.length=3 then aJ4 sc pvs else bI):=by
 intro fi A h₀ L env Cx held s σ σ' pvs vs c Q E hf hl R hQ
 dsimp only at hf
 split at hf
 ·rename_i hn
  have X:G.K.In s.heap:=by
   obtain ⟨m,α,N,R'⟩:=R
   exact Cx.X.keeps R'.fr.keep
  obtain ⟨x0,x1,x3,x4,tp,t2,t6,items,n,h1,h2,h3⟩:=hP
  have hP:nM G.K P C:=⟨x0,x1,x3,x4,tp,t2,t6,items,n,h1,h2,h3⟩
  refine wpAny_call (RX.aG5 (X _ _ hB) (X _ _ h1) ⟨_,rfl⟩ ?_ (codeAny_builtin RX.hU ?_))
  ·rcases hn with hn | hn
   ·obtain ⟨a,b,rfl⟩:=mH (hl.symm.trans hn);exact RX.aZ2 _ _ _
   ·obtain ⟨a,b,c,rfl⟩:=kY (hl.symm.trans hn);exact RX.aZ1 _ _ _ _
  ·refine wpAny_mono (uY hs hP Cx.X hf hl R hQ) (fun fin s' h'=> ?_) fun z_ z_ e=>e
   obtain ⟨v,rfl,hq⟩:=h'
   exact hq
 ·cases hf
theorem cw_patB (hB:G.K.lookup B=some {cls:= .type "builtin_function_or_method",data:= .fields #[.builtin "re.Pattern.match", .ref P]}):wJ G (.ref B):=by
 intro fi A h₀ L env C es fs H first pos E held s σ σ' pvs Q hf R hQ
 refine nD (H.plain pos env) (eT C H hf R fun vs h' t' hl R1=>⟨?_,hQ vs h' t' hl R1⟩)
 obtain ⟨m,α,N,R'⟩:=R1
 exact ⟨_,(C.X.keeps R'.fr.keep) _ _ hB⟩
noncomputable def mG (P:Addr) (sc:List Nat→Option (Option Nat)):List PV→PM PV:=g2 fun a b=>onS (fun l=>if aL2 P a=true then dR sc l 0 l.length else bI) b
theorem aU1 {sc:List Nat→Option (Option Nat)}{l:List Nat}{σ:St}:mG P sc [.glob (.ref P), .str l] σ=dR sc l 0 l.length σ:=congrFun (if_pos (beq_self_eq_true P)) σ
theorem b_pat {sc:List Nat→Option (Option Nat)} (hs:tO C sc) (hP:nM G.K P C):dX G (.builtin "re.Pattern.match") (mG P sc):=by
 intro fi A h₀ L env Cx held s σ σ' pvs vs c Q E hf hl R hQ
 replace q:=jN hf;clear hf;obtain ⟨a,_,hf⟩:=q
 replace q:=cN hf;clear hf;obtain ⟨l,hf⟩:=q
 ·split at hf
  ·rename_i ea
   refine cps fun GC hGC=> ?_
   obtain ⟨v1,v2,rfl⟩:=dC hl rfl
   replace R:Rel G fi h₀ L σ ((a,v1)::(.str l,v2)::held) s:=R
   rw [vF ea] at R
   obtain ⟨α,N,r2,r1⟩:=qK R
   have:=r1.glob_inv;subst this
   have X:G.K.In s.heap:=by
    obtain ⟨m,α,N,R'⟩:=R
    exact Cx.X.keeps R'.fr.keep
   obtain ⟨x0,x1,x3,x4,tp,t2,t6,items,n,h1,h2,h3⟩:=id hP
   refine hGC ?_
   refine wpAny_call_entry RX.iC ⟨_,X _ _ h1,rfl⟩ RX.hU ?_ (RX.mV _ _)
   exact uY hs hP Cx.X (pvs:=[.str l]) (vs:=[v2]) (held:=(.glob (.ref P), .ref P)::held) hf rfl (R.drop fun p hp=>by
    rcases List.mem_cons.mp hp with rfl | hp
    ·exact .tail _ (.head _)
    ·rcases List.mem_cons.mp hp with rfl | hp
     ·exact .head _
     ·exact .tail _ (.tail _ hp)) fun v h' t' R3=>hQ v h' t' (R3.drop fun p hp=>by
      rcases List.mem_cons.mp hp with rfl | hp
      ·exact .head _
      ·exact .tail _ (.tail _ hp))
  ·cases hf
noncomputable def hJ (P:Addr):PV→St→Bool
 | .glob (.ref a),_=>a==P
 | _,_=>false
set_option tactic.hygienic true in
theorem aF0 (hP:nM G.K P C):qB G "re.Pattern" (hJ P):=by
 intro fi A h₀ L env Cx held s σ pv v ok R
 unfold hJ at ok
 split at ok
 ·rename_i a
  have ea:a=P:=by simpa using ok
  subst ea
  refine cps fun GC hGC=> ?_
  obtain ⟨m,α,N,R'⟩:=R
  refine hGC ?_
  have:=(R'.held (_,v) (.head _)).glob_inv
  subst this
  refine cps fun GC hGC=> ?_
  obtain ⟨x0,x1,x3,x4,tp,t2,t6,items,n,h1,h2,h3⟩:=id hP
  refine hGC ?_
  have ho:=(Cx.X.keeps R'.fr.keep) _ _ h1
  exact ⟨⟨_,ho,rfl⟩,fun b e=>by cases e;exact ⟨_,ho,rfl⟩⟩
 ·cases ok
noncomputable def nK:List PV→PM PV:=g1 fun a=>match a with
 | .mat e=>aL (.int e)
 | _=>bI
noncomputable def okMat:PV→St→Bool
 | .mat _,_=>true
 | _,_=>false
inductive MatInv (N:List (Addr×Obj)) (e:Int) (v:Value):Prop
 | mk (a tp:Addr) (x p:Value) (i j k st:Int) (n:Nat) (q:v= .ref a) (h1:(a,RX.sW x p i j k tp)∈N) (h2:(tp,(⟨.type "tuple",Option.none, .seq #[rawInt st,rawInt e] n, #[]⟩:Obj))∈N):MatInv N e v
theorem Rep.mat_inv {α:List Addr}{N:List (Addr×Obj)}{e:Int}{v:Value} (h:Rep α N (.mat e) v):MatInv N e v:=by
 cases h with | mat h1 h2 h3 h4=>exact ⟨_,_,_,_,_,_,_,_,_,rfl,h1,h3⟩
theorem aF1:qB G "re.Match" okMat:=by
 intro fi A h₀ L env Cx held s σ pv v ok R
 cases pv <;> first | (cases ok;done) | skip
 refine cps fun GC hGC=> ?_
 obtain ⟨m,α,N,R'⟩:=R
 obtain ⟨a,tp,x,p,i,j,k,st,n,rfl,h1,h2⟩:=Rep.mat_inv (R'.held (_,v) (.head _))
 refine hGC ?_
 have ho:=(R'.nw _ h1).1
 exact ⟨⟨_,ho,rfl⟩,fun b e=>by cases e;exact ⟨_,ho,rfl⟩⟩
theorem b_end:dX G (.builtin "re.Match.end") nK:=by
 intro fi A h₀ L env Cx held s σ σ' pvs vs c Q E hf hl R hQ
 replace q:=rE hf;clear hf;obtain ⟨a,hf⟩:=q
 cases a with
 | mat e=>
  refine cps fun GC hGC=> ?_
  obtain ⟨v,rfl⟩:=iY hl rfl
  replace R:Rel G fi h₀ L σ ((.mat e,v)::held) s:=R
  obtain ⟨rfl,rfl⟩:=aJ hf
  obtain ⟨m,α,N,R'⟩:=(fun z=>z) R
  obtain ⟨a,tp,x,p,i,j,k,st,n,rfl,h1,h2⟩:=Rep.mat_inv (R'.held (_,v) (.head _))
  refine hGC ?_
  refine wpAny_call_entry RX.kM ⟨_,(R'.nw _ h1).1,rfl⟩ RX.qN (RX.aO0 (R'.nw _ h1).1 (R'.nw _ h2).1 ?_) (RX.tN _)
  exact hQ _ s.heap (s.toks+1) ((R.tail.toks (Nat.succ_pos _)).holdP .int)
 | _=>cases hf
end
end
section
variable {N P srcp:List (Addr×Obj)}{o o':Obj}{I:Addr}{h':Heap}
@[reducible] noncomputable def Glb.pin (G:Glb) (P:List (Addr×Obj)):Glb:={G with pins:=P++G.pins}
theorem Cx.pin {G:Glb}{fi:FI}{A:Around}{h₀:Heap}{L:Addr}{env:Env} (C:Cx G fi A h₀ L env) (P:List (Addr×Obj)):Cx (G.pin P) fi A h₀ L env:=
 ⟨⟨C.ok,C.isenv,C.sc,C.glo,C.bui,C.X,C.T,C.B,C.hd,C.bs,fun p hp=>by
  refine cps fun GC hGC=> ?_
  obtain ⟨v,o,es,ep,h1,h2,h3,h4,h5⟩:=C.bd p hp
  refine hGC ?_
  exact ⟨v,o,es,ep,List.mem_append_right _ h1,h2,h3,h4,h5.mono fun q hq=>List.mem_append_right _ hq⟩,fun p hp=>by
  refine cps fun GC hGC=> ?_
  obtain ⟨v,c,o,h1,h2,h3,h4⟩:=C.cb p hp
  refine hGC ?_
  exact ⟨v,c,o,h1,List.mem_append_right _ h2,h3,h4.mono fun q hq=>List.mem_append_right _ hq⟩,C.tp⟩,C.dep,C.un⟩
section
variable {G:Glb}{fi:FI}{h₀:Heap}{L:Addr}{σ:St}{held:List (PV×Value)}{m:PySem.Str→Option Value}{α:List Addr}{N:List (Addr×Obj)}{s:Shared}
theorem RelAt.repin {G':Glb} (R:RelAt G fi h₀ L σ held m α N s) (ht:G'.tabs=G.tabs) (hp:∀p∈G'.pins,p∈N∧p.1∉α):RelAt G' fi h₀ L σ held m α N s:=
 ⟨R.fr,R.nw,R.nd,R.an,R.len,by rw [ht];exact R.cells,R.vars,R.held,R.tok,R.vlen,hp⟩
theorem RelAt.unpin (R:RelAt (G.pin P) fi h₀ L σ held m α N s):RelAt G fi h₀ L σ held m α N s:=
 R.repin rfl fun p hp=>R.pin p (List.mem_append_right _ hp)
theorem Rel.unpin (R:Rel (G.pin P) fi h₀ L σ held s):Rel G fi h₀ L σ held s:=let ⟨m,α,N,R⟩:=R;⟨m,α,N,R.unpin⟩
def lG (o:Obj):Prop:=(∀C dx,instObj C dx≠o)∧(∀(tup:Bool) a n,(⟨.type (if tup then "tuple" else "list"),Option.none, .seq a n, #[]⟩:Obj)≠o)∧(∀fs,(⟨.type "re.Match",Option.none, .fields fs, #[]⟩:Obj)≠o)∧
 (∀a n,(⟨.type "tuple",Option.none, .seq a n, #[]⟩:Obj)≠o)∧∀fs,(⟨.type "builtin_function_or_method",Option.none, .fields fs, #[]⟩:Obj)≠o
theorem pL {T:String} (hT:o.cls= .type T) (c1:T≠ "tuple") (c2:T≠ "list") (c3:T≠ "re.Match") (c4:T≠ "builtin_function_or_method"):lG o:=by
 refine ⟨fun C dx e=> ?_,fun tup a n e=> ?_,fun fs e=> ?_,fun a n e=> ?_,fun fs e=> ?_⟩
 ·subst e;cases hT
 ·subst e;induction tup
  ·injection hT with h;exact c2 h.symm
  ·injection hT with h;exact c1 h.symm
 ·subst e;injection hT with h;exact c3 h.symm
 ·subst e;injection hT with h;exact c1 h.symm
 ·subst e;injection hT with h;exact c4 h.symm
theorem pM {es:Array DictEntry}{ep:Nat} (hd:o.data= .dict es ep):lG o:=by
 refine ⟨fun C dx e=> ?_,fun tup a n e=> ?_,fun fs e=> ?_,fun a n e=> ?_,fun fs e=> ?_⟩ <;> (subst e;cases hd)
theorem qV (nd:(N.map (·.1)).Nodup) {a:Addr} (h1:(a,o)∈N) (h2:(a,o')∈N):o=o':=by
 obtain ⟨i,hi⟩:=List.mem_iff_getElem?.mp h1
 obtain ⟨j,hj⟩:=List.mem_iff_getElem?.mp h2
 have e1:(N.map (·.1))[i]? =some a:=by rw [List.getElem?_map,hi];rfl
 have e2:(N.map (·.1))[j]? =some a:=by rw [List.getElem?_map,hj];rfl
 have:=eV nd e1 e2
 subst this
 rw [hi] at hj
 cases hj;rfl
theorem rep_it (nd:(N.map (·.1)).Nodup) (hI:(I,o)∈N) (hc:lG o) {pv:PV}{v:Value} (h:Rep α N pv v):Rep α (eP N I o') pv v:=by
 obtain ⟨c1,c2,c3,c4,c5⟩:=hc
 have ne:∀{a:Addr}{x:Obj},(a,x)∈N→x≠o→(a,x)∈eP N I o':=fun {a x} hx hn=>dG hx fun e=>by
  subst e
  exact hn (qV nd hx hI)
 induction h with
 | none=>exact .none
 | bool=>exact .bool
 | int=>exact .int
 | str=>exact .str
 | cell h=>exact .cell h
 | inst h1 h2 h3=>exact .inst (ne h1 (c1 _ _)) h2 h3
 | seq h1 h2 h3 _ ih=>exact .seq (ne h1 (c2 _ _ _)) h2 h3 ih
 | mat h1 h2 h3 h4=>exact .mat (ne h1 (c3 _)) h2 (ne h3 (c4 _ _)) h4
 | bm h1 h2 h3=>exact .bm (ne h1 (c5 _)) h2 h3
 | glob=>exact .glob
 | other=>exact .other
theorem RelAt.stepIt {t':Tok} (R:RelAt (G.pin ((I,o)::srcp)) fi h₀ L σ held m α N s) (hc:lG o) (hs:Heap.SameBut I s.heap h') (ho:h'.get? I=some o') (ht:s.toks≤t')
  (hsrc:∀p∈srcp,p.1≠I) (hpins:∀p∈G.pins,p.1≠I):RelAt (G.pin ((I,o')::srcp)) fi h₀ L σ held m α (eP N I o') (Sh s h' t'):=by
 have hI:=R.pin (I,o) (.head _)
 have up:∀{pv v},Rep α N pv v→Rep α (eP N I o') pv v:=fun h=>rep_it R.nd hI.1 hc h
 have hne:∀{a:Addr},a∈α→a≠I:=fun h e=>hI.2 (e▸h)
 refine ⟨R.fr.change hs (R.notL hI.1).1 (R.notL hI.1).2,_M.News.upd R.nw hs ho,by rw [lW];exact R.nd,R.an,R.len, ?_, ?_,fun p hp=>up (R.held p hp),Nat.lt_of_lt_of_le R.tok ht,R.vlen, ?_⟩
 ·intro k a c ha hck
  have hak:=hne (List.mem_of_getElem? ha)
  exact (R.cells k a c ha hck).mono (fun x hx=>dG hx hak) up
 ·intro i x pv e1 e2
  exact (R.vars i x pv e1 e2).imp (fun z=>z) fun ⟨q,v,e3,e4⟩=>⟨q,v,e3,up e4⟩
 ·intro p hp
  replace hp:p∈((I,o')::srcp)++G.pins:=hp
  rcases List.mem_append.mp hp with hp | hp
  ·rcases List.mem_cons.mp hp with rfl | hp
   ·exact ⟨iV hI.1,hI.2⟩
   ·have h:=R.pin p (List.mem_append_left _ (.tail _ hp))
    exact ⟨dG h.1 (hsrc p hp),h.2⟩
  ·have h:=R.pin p (List.mem_append_right _ hp)
   exact ⟨dG h.1 (hpins p hp),h.2⟩
theorem RelAt.endIt (R:RelAt (G.pin ((I,o)::srcp)) fi h₀ L σ held m α N s) (hc:lG o) (hs:Heap.ExtBut I s.heap h') (hpins:∀p∈G.pins,p.1≠I):
  ∃N',RelAt G fi h₀ L σ held m α N' (Sh s h' s.toks):=by
 have hI:=R.pin (I,o) (.head _)
 let N':=N.filter fun p=>p.1≠I
 have mem:∀{a:Addr}{x:Obj},(a,x)∈N→a≠I→(a,x)∈N':=fun hx hn=>List.mem_filter.mpr ⟨hx,by simpa using hn⟩
 have up:∀{pv v},Rep α N pv v→Rep α N' pv v:=by
  obtain ⟨c1,c2,c3,c4,c5⟩:=hc
  have ne:∀{a:Addr}{x:Obj},(a,x)∈N→x≠o→(a,x)∈N':=fun {a x} hx hn=>mem hx fun e=>by
   subst e
   exact hn (qV R.nd hx hI.1)
  intro pv v h
  induction h with
  | none=>exact .none
  | bool=>exact .bool
  | int=>exact .int
  | str=>exact .str
  | cell h=>exact .cell h
  | inst h1 h2 h3=>exact .inst (ne h1 (c1 _ _)) h2 h3
  | seq h1 h2 h3 _ ih=>exact .seq (ne h1 (c2 _ _ _)) h2 h3 ih
  | mat h1 h2 h3 h4=>exact .mat (ne h1 (c3 _)) h2 (ne h3 (c4 _ _)) h4
  | bm h1 h2 h3=>exact .bm (ne h1 (c5 _)) h2 h3
  | glob=>exact .glob
  | other=>exact .other
 have hLI:=(R.notL hI.1).1
 have h0I:=(R.notL hI.1).2
 refine ⟨N',⟨R.fr.ns.at' fun x e=>hs _ _ hLI.symm e,fun b x e=>hs _ _ (fun q=>by subst q;rw [h0I] at e;cases e) (R.fr.keep b x e),R.fr.above⟩, ?_,R.nd.sublist (List.Sublist.map _ (List.filter_sublist)),R.an,R.len, ?_, ?_,fun p hp=>up (R.held p hp),R.tok,R.vlen, ?_⟩
 ·intro p hp
  obtain ⟨hp,hne⟩:=List.mem_filter.mp hp
  have hne':p.1≠I:=by simpa using hne
  exact ⟨hs _ _ hne' (R.nw p hp).1,(R.nw p hp).2⟩
 ·intro k a c ha hck
  have hak:a≠I:=fun e=>hI.2 (e▸List.mem_of_getElem? ha)
  exact (R.cells k a c ha hck).mono (fun x hx=>mem hx hak) up
 ·intro i x pv e1 e2
  exact (R.vars i x pv e1 e2).imp (fun z=>z) fun ⟨q,v,e3,e4⟩=>⟨q,v,e3,up e4⟩
 ·intro p hp
  have h:=R.pin p (List.mem_append_right _ hp)
  exact ⟨mem h.1 (hpins p hp),h.2⟩
end
end
section
variable {pos:Pos}{f:PM PV}{o:Obj}{h₀:Heap}{L:Addr}{σ:St}{held:List (PV×Value)}{m:PySem.Str→Option Value}{α:List Addr}{N:List (Addr×Obj)}{s:Shared}{e:Expr}
def bE1 (o:Obj):Prop:=∀n,o.cls= .type n→["enumerate","zip","dict_itemiterator","dict_reverseitemiterator","odict_iterator","itertools.zip_longest","itertools.pairwise"].contains n=false
structure Iter (prog:Program) (w:World) (I:Addr) (O:Nat→Obj→Prop) (n:Nat) (P:Nat→Value→Prop) (srcp:List (Addr×Obj)):Prop where
 item:∀(A:Around) (E:Value→Shared→Prop) (s:Shared) (i:Nat) (o:Obj) (Q:Option Value→Shared→Prop),i<n→s.heap.get? I=some o→O i o→(∀p∈srcp,s.heap.get? p.1=some p.2)→
  (∀v h' t' o',P i v→h'.get? I=some o'→O (i+1) o'→Heap.SameBut I s.heap h'→s.toks≤t'→Q (some v) {s with heap:=h',toks:=t'})→wpAny (model prog w) A (pyNext (.ref I)) Q E s
 done:∀(A:Around) (E:Value→Shared→Prop) (s:Shared) (o:Obj) (Q:Option Value→Shared→Prop),A.handled=none→s.heap.get? I=some o→O n o→(∀p∈srcp,s.heap.get? p.1=some p.2)→
  (∀h',Heap.ExtBut I s.heap h'→Q none {s with heap:=h'})→wpAny (model prog w) A (pyNext (.ref I)) Q E s
 cls:∀i o,O i o→lG o
 own:∀i o,O i o→bE1 o
 src:∀p∈srcp,p.1≠I
 self:∀(A:Around) (E:Value→Shared→Prop) (s:Shared) (i:Nat) (o:Obj) (Q:Value→Shared→Prop),s.heap.get? I=some o→O i o→Q (.ref I) s→wpAny (model prog w) A (pyIter (.ref I)) Q E s
inductive Ready (G:Glb) (fi:FI) (h₀:Heap) (L:Addr) (σ:St) (held:List (PV×Value)) (s:Shared) (I:Addr) (xs:List PV):Prop
 | mk (hx:List (PV×Value)) (O:Nat→Obj→Prop) (P:Nat→Value→Prop) (srcp:List (Addr×Obj)) (o:Obj) (It:Iter G.prog G.w I O xs.length P srcp) (h0:O 0 o) (R:Rel (G.pin ((I,o)::srcp)) fi h₀ L σ (hx++held) s)
  (hp:∀p∈G.pins,p.1≠I) (hP:∀i v,P i v→∃x,xs[i]? =some x∧((x,v)∈hx∨Plain x v)):Ready G fi h₀ L σ held s I xs
theorem aY8 {β:Type}{xs:List β}{i:Nat}{x:β} (h:xs[i]? =some x):xs.drop i=x::xs.drop (i+1):=by
 obtain ⟨h1,h2⟩:=List.getElem?_eq_some_iff.mp h
 rw [List.drop_eq_getElem_cons h1,h2]
def wD (G:Glb) (fi:FI) (e:Expr) (f:PM (List PV)):Prop:=
 ∀(A:Around) (h₀:Heap) (L:Addr) (env:Env),Cx G fi A h₀ L env→∀(held:List (PV×Value)) (s:Shared) (σ:St) (xs:List PV) (σ':St) (Q:Value→Shared→Prop) (E:Value→Shared→Prop),
  f σ= .ok xs σ'→Rel G fi h₀ L σ held s→(∀I h' t',Ready G fi h₀ L σ' held (Sh s h' t') I xs→Q (.ref I) (Sh s h' t'))→
  wpAny (model G.prog G.w) A (eval e env) (fun v s₁=>wpAny (model G.prog G.w) A (pyIter v) Q E s₁) E s
noncomputable def lM (g:PV→PM Fl) (b:PM Fl):List PV→PM Fl
 | []=>aL .next
 | x::r=>bnd (g x) fun z_=>bnd b fun f=>match f with
  | .next=>lM g b r
  | .cont=>lM g b r
  | .brk=>aL .next
  | .ret v=>aL (.ret v)
theorem forL_s {g:PV→PM Fl}{b:PM Fl}{x:PV}{r:List PV}:lM g b (x::r)=bnd (g x) fun z_=>bnd b fun f=>match f with
  | .next=>lM g b r
  | .cont=>lM g b r
  | .brk=>aL .next
  | .ret v=>aL (.ret v):=rfl
noncomputable def pR (f:PM (List PV)) (g:PV→PM Fl) (b:PM Fl):PM Fl:=bnd f fun xs=>lM g b xs
section
variable {G:Glb}{fi:FI}
inductive ForI (G:Glb) (fi:FI) (h₀:Heap) (L:Addr) (I:Addr) (O:Nat→Obj→Prop) (srcp:List (Addr×Obj)) (H:List (PV×Value)) (xs:List PV) (F:List PV→PM Fl) (fl:Fl) (σ':St) (s:Shared):Nat→Shared→Prop
 | mk (i:Nat) (o:Obj) (σ:St) (h':Heap) (t':Tok) (hO:O i o) (hle:i≤xs.length) (R:Rel (G.pin ((I,o)::srcp)) fi h₀ L σ H (Sh s h' t')) (hf:F (xs.drop i) σ= .ok fl σ'):
  ForI G fi h₀ L I O srcp H xs F fl σ' s (xs.length-i) (Sh s h' t')
theorem ForI.el {h₀:Heap}{L I:Addr}{O:Nat→Obj→Prop}{srcp:List (Addr×Obj)}{H:List (PV×Value)}{xs:List PV}{F:List PV→PM Fl}{fl:Fl}{σ':St}{s:Shared}{P:Nat→Shared→Prop}
  (h:∀i o σ h' t',O i o→i≤xs.length→Rel (G.pin ((I,o)::srcp)) fi h₀ L σ H (Sh s h' t')→F (xs.drop i) σ= .ok fl σ'→P (xs.length-i) (Sh s h' t')):∀n s₁,ForI G fi h₀ L I O srcp H xs F fl σ' s n s₁→P n s₁:=
 fun z_ z_ q=>match q with | .mk a b c d e f g i j=>h a b c d e f g i j
def GoR (G:Glb) (target:Expr):Prop:=∀(A:Around) (I:Addr) (o:Obj) (v:Value) (s:Shared) (Q:Unit→Shared→Prop) (E:Value→Shared→Prop),s.heap.get? I=some o→bE1 o→Q () s→wpAny (model G.prog G.w) A (letOwnedTupleGo target (.ref I) v) Q E s
theorem aQ3 {target iter:Expr}{body:List Stmt}{f:PM (List PV)}{g:PV→PM Fl}{b:PM Fl} (hi:wD G fi iter f) (ha:∀P,mW (G.pin P) fi target g)
  (hb:∀P,dN (G.pin P) fi body b) (hs:∀env x,foldedSetIterable iter env x=pure x) (ht:GoR G target):ExR G fi (.For target iter body [] pos) (pR f g b):=by
 intro A h₀ L env C held s σ fl σ' Q E hf R hQ
 refine cps fun GC hGC=> ?_
 obtain ⟨xs,σ₁,h1,hf1⟩:=aG hf
 refine hGC (wpAny_For (hi A h₀ L env C held s σ xs σ₁ _ _ h1 R fun I h2 t2 hr=> ?_) (hs env))
 refine cps fun GC hGC=> ?_
 obtain ⟨hx',O,P,srcp,o,It,h0,R2,hpins,hP⟩:=hr
 refine hGC (codeAny_forLoop_any (ForI G fi h₀ L I O srcp (hx'++held) xs (lM g b) fl σ' s) (ForI.el fun i oi σ₂ h3 t3 hO hle R3 hfl=> ?_) xs.length (.mk 0 o σ₁ _ _ h0 (Nat.zero_le _) R2 hf1))
 refine cps fun GC hGC=> ?_
 obtain ⟨m,α,N,R3'⟩:=R3
 refine hGC ?_
 have hI:(I,oi)∈N∧I∉α:=R3'.pin (I,oi) (.head _)
 have hget:=(R3'.nw _ hI.1).1
 have hsrc:∀p∈srcp,(Sh s h3 t3).heap.get? p.1=some p.2:=fun p hp=>(R3'.nw _ (R3'.pin p (List.mem_append_left _ (.tail _ hp))).1).1
 by_cases hlt:i<xs.length
 ·refine It.item A _ _ i oi _ hlt hget hO hsrc fun v h4 t4 o' hPv ho' hO' hsb htk=> ?_
  have R4:=R3'.stepIt (It.cls i oi hO) hsb ho' htk It.src hpins
  refine cps fun GC hGC=> ?_
  obtain ⟨x,hxi,hxv⟩:=hP i v hPv
  rw [aY8 hxi] at hfl
  obtain ⟨f1,σ₃,k1,k2⟩:=aG hfl
  obtain ⟨f2,σ₄,k3,k4⟩:=aG k2
  refine hGC (ht A I o' v _ _ _ ho' (It.own _ _ hO') ?_)
  refine (ha ((I,o')::srcp) A h₀ L env (C.pin _) _ _ σ₂ x v f1 σ₃ _ _ k1 ⟨m,α,_,R4.hold (hxv.elim (fun hm=>R4.held _ (List.mem_append_left _ hm)) Plain.rep)⟩ fun h5 t5 e5 R6=> ?_)
  refine hb ((I,o')::srcp) A h₀ L env (C.pin _) _ _ σ₃ f2 σ₄ _ _ k3 R6.tail fun flow h6 t6 R7=> ?_
  have lt:=Nat.sub_lt_sub_left hlt (Nat.lt_succ_self i)
  induction f2 <;> induction flow <;> first | exact R7.elim | skip
  ·exact ⟨_,lt, .mk (i+1) o' σ₄ _ _ hO' hlt R7 k4⟩
  ·obtain ⟨rfl,rfl⟩:=aJ k4
   exact hQ .next _ _ (R7.unpin.drop fun p hp=>List.mem_append_right _ hp)
  ·exact ⟨_,lt, .mk (i+1) o' σ₄ _ _ hO' hlt R7 k4⟩
  ·obtain ⟨rfl,rfl⟩:=aJ k4
   exact hQ (.ret _) _ _ (R7.unpin.drop (fc (.head _) fun p hp=> .tail _ (List.mem_append_right _ hp)))
 ·have hin:i=xs.length:=Nat.le_antisymm hle (Nat.le_of_not_lt hlt)
  subst hin
  rw [List.drop_length] at hfl
  obtain ⟨rfl,rfl⟩:=aJ hfl
  refine It.done A _ _ oi _ C.hd hget hO hsrc fun h4 hext=> ?_
  obtain ⟨N',R4⟩:=R3'.endIt (It.cls _ oi hO) hext hpins
  exact wpAny_execs_nil (hQ .next h4 t3 ⟨m,α,N',R4.drop fun p hp=>List.mem_append_right _ hp⟩)
theorem aQ4 {target iter:Expr}{body:List Stmt}{f:PM (List PV)}{g:PV→PM Fl}{b:PM Fl} (hi:wD G fi iter f) (ha:∀P,mW (G.pin P) fi target g)
  (hb:∀P,dN (G.pin P) fi body b) (hs:∀env x,foldedSetIterable iter env x=pure x) (ht:∀it v,letOwnedTupleGo target it v=pure ()):ExR G fi (.For target iter body [] pos) (pR f g b):=
 aQ3 hi ha hb hs fun z_ z_ z_ v z_ z_ z_ z_ z_ hq=>wpAny_of_eq (ht _ v) hq
set_option tactic.hygienic true in
theorem go_tup {elts:List Expr}{k:Nat}:GoR G (.Tuple elts k pos):=by
 intro A I o v s Q E ho hown hq
 cases v <;> first | exact wpAny_pure hq | skip
 unfold letOwnedTupleGo
 refine wpAny_bind (wpAny_load ho ?_)
 split
 ·rename_i n vs hc hd
  rw [hown n hc]
  exact wpAny_pure hq
 ·exact wpAny_pure hq
theorem vE (h:o.cls= .type "range_iterator"):lG o:=pL h (by decide) (by decide) (by decide) (by decide)
theorem xI (h:o.cls= .type "list_iterator"):lG o:=pL h (by decide) (by decide) (by decide) (by decide)
theorem aA6 (h:o.cls= .type "str_ascii_iterator"):lG o:=pL h (by decide) (by decide) (by decide) (by decide)
theorem RelAt.pushIt (R:RelAt G fi h₀ L σ held m α N s) (o:Obj) (ho:o.isFreed=false) {srcp:List (Addr×Obj)}
  (hs:∀p∈srcp,p∈N∧p.1∉α):RelAt (G.pin ((s.heap.objs.size,o)::srcp)) fi h₀ L σ held m α ((s.heap.objs.size,o)::N) {s with heap:=s.heap.push o}:=by
 exact (R.push o ho).repin rfl (fc ⟨.head _,R.fresh⟩ (fp (fun p hp=>⟨.tail _ (hs p hp).1,(hs p hp).2⟩) fun p hp=>⟨.tail _ (R.pin p hp).1,(R.pin p hp).2⟩))
theorem RelAt.pinsNe (R:RelAt G fi h₀ L σ held m α N s):∀p∈G.pins,p.1≠s.heap.objs.size:=
 fun p hp=>Nat.ne_of_lt (R.lt (R.pin p hp).1)
noncomputable def oV (a b:Int):List PV:=(List.range (b-a).toNat).map fun i:Nat=> .int (a+i)
noncomputable def aF7 (fa fb:PM PV):PM (List PV):=bnd (evL [fa,fb]) fun as=>match as with
 | [.int a, .int b]=>if -1000000000≤a∧a≤1000000000∧ -1000000000≤b∧b≤1000000000 then aL (oV a b) else bI
 | _=>bI
set_option tactic.hygienic true in
theorem bB1 {x:PySem.Str}{np:Pos}{ea eb:Expr}{fa fb:PM PV} (hx:EvR G fi (.Name x np) (aI (.glob (.type "range")))) (H:EvsR G fi [ea,eb] [fa,fb]):
  wD G fi (.Call (.Name x np) [ea,eb] [] pos) (aF7 fa fb):=by
 intro A h₀ L env C held s σ xs σ' Q E hf R hQ
 obtain ⟨pvs,σ₁,h1,h2⟩:=aG hf
 split at h2
 ·rename_i a b
  split at h2
  ·rename_i hab
   obtain ⟨rfl,rfl⟩:=aJ h2
   skip
   refine wpAny_bind (hx A h₀ L env C held s σ _ σ _ _ rfl R fun fv h' t' R1=> ?_)
   obtain ⟨α,N,r⟩:=lH R1
   have:=r.glob_inv
   subst this
   refine cw_type fi A h₀ L env C _ _ H [] pos E held _ σ _ _ _ h1 R1.tail fun vs h'' t'' hl R2=> ?_
   obtain ⟨v1,v2,rfl⟩:=dC hl rfl
   replace R2:Rel G fi h₀ L _ ((.int a,v1)::(.int b,v2)::held) (Sh s h'' t''):=R2
   obtain ⟨m,α,N,R3⟩:=R2
   obtain ⟨u1,rfl⟩:=(R3.held (_,v1) (.head _)).int_inv
   obtain ⟨u2,rfl⟩:=(R3.held (_,v2) (.tail _ (.head _))).int_inv
   refine call_range_2 ?_
   have R4:=(R3.drop (held':=held) fun p hp=> .tail _ (.tail _ hp)).push {cls:= .type "range",data:= .fields #[.int a u1, .int b u2, .int 1 t'']} rfl
   refine wpAny_pyIter_range (IsRange.new ..) (small_one (Q98 (.z _ .o) hab.1) (Q99 (.z _ .o) hab.2.1) (Q98 (.z _ .o) hab.2.2.1) (Q99 (.z _ .o) hab.2.2.2)) ?_
   have hsz:Builtin.Range.rangeSize a b 1=((b-a).toNat:Int):=rangeSize_nat a b
   have R5:=(R4.toks (t:=t''+1) (Nat.succ_pos _)).pushIt {cls:= .type "range_iterator",data:= .fields #[rawInt a,rawInt (Builtin.Range.rangeSize a b 1),rawInt 1]} rfl (srcp:=[]) (fun p hp=>nomatch hp)
   refine hQ _ _ (t''+1) ⟨[],fun i o=>o={cls:= .type "range_iterator",data:= .fields #[rawInt (a+i),rawInt ((b-a).toNat-i),rawInt 1]},fun i v=>i<(b-a).toNat∧∃t,v= .int (a+i) t,[],_,⟨?_, ?_, ?_,(fun i o h n e=>by subst h;cases e;rfl),(fun p hp=>nomatch hp), ?_⟩, ?_,⟨m,α,_,R5⟩,R4.pinsNe, ?_⟩
   ·intro A E s i o Q hi ho hO _ hq
    subst hO
    have hlen:(oV a b).length=(b-a).toNat:=by simp [oV]
    rw [hlen] at hi
    refine wpAny_pyNext_range_item ho (lin1 (.T .k0 (.s (.c .v0) (.c .v1))) (.t .v1 .v0) (.w [1,1]) rfl (.n2 _ _) hi) fun h' hit hsb=> ?_
    refine hq _ h' (s.toks+1) _ ⟨hi,s.toks,rfl⟩ hit ?_ hsb (Nat.le_succ _)
    have e1:a+(i:Int)+1=a+((i+1:Nat):Int):=by exact lin0 (.Q (.a (.a .v0 (.c .v1)) .k1) (.a .v0 (.c (.a .v1 .k1)))) (.b (.w [1]) (.w [1])) rfl (.z _ (.n1 _))
    have e2:((b-a).toNat:Int)-(i:Int)-1=((b-a).toNat:Int)-((i+1:Nat):Int):=by exact lin0 (.Q (.s (.s (.c .v0) (.c .v1)) .k1) (.s (.c .v0) (.c (.a .v1 .k1)))) (.b (.w [1]) (.w [1])) rfl (.n2 _ _)
    rw [e1,e2]
   ·intro A E s o Q hh ho hO _ hq
    subst hO
    have hlen:(oV a b).length=(b-a).toNat:=by simp [oV]
    exact wpAny_pyNext_range_end hh ho (by rw [hlen];exact lin0 (.L (.s (.c .v0) (.c .v0)) .k0) (.w [1]) rfl (.n1 _)) hq
   ·rintro i o rfl;exact vE rfl
   ·intro A E s i o Q ho hO hq
    subst hO
    exact wpAny_pyIter_rangeiter (show IsRangeIter _ _ _ _ _ from ho) hq
   ·rw [hsz];simp
   ·rintro i v ⟨hi,t,rfl⟩
    exact ⟨.int (a+i),by simp [oV,hi], .inr .int⟩
  ·cases h2
 ·cases h2
noncomputable def mJ (f:PM PV):PM (List PV):=bnd f fun pv=>match pv with
 | .seq false xs=>aL xs
 | _=>bI
set_option tactic.hygienic true in
theorem zJ (h:EvR G fi e f):wD G fi e (mJ f):=by
 intro A h₀ L env C held s σ xs σ' Q E hf R hQ
 obtain ⟨pv,σ₁,h1,h2⟩:=aG hf
 split at h2
 ·rename_i ys
  obtain ⟨rfl,rfl⟩:=aJ h2
  refine h A h₀ L env C held s σ _ _ _ _ h1 R fun v h' t' R1=> ?_
  obtain ⟨m,α,N,R1⟩:=R1
  obtain ⟨l,vs,n,rfl,g1,g2,g3,g4⟩:=(R1.held (_,v) (.head _)).seq_inv
  have hl:(Sh s h' t').heap.IsList l vs.toArray:=⟨_,(R1.nw _ g1).1,rfl,n,rfl⟩
  refine wpAny_pyIter_list hl ?_
  have R2:RelAt G fi h₀ L σ' (xs.zip vs++held) m α N (Sh s h' t'):=
   {(R1.drop (held':=held) fun p hp=> .tail _ hp) with held:=fun p hp=>(List.mem_append.mp hp).elim (g4 p) fun hp=>R1.held p (.tail _ hp)}
  have R5:=R2.pushIt {cls:= .type "list_iterator",data:= .fields #[.ref l, .int 0 0]} rfl (srcp:=[(l,⟨.type "list",Option.none, .seq vs.toArray n, #[]⟩)]) (fun p hp=>by rw [List.mem_singleton.mp hp];exact ⟨g1,g2⟩)
  have hlI:l≠h'.objs.size:=Nat.ne_of_lt (R1.lt g1)
  refine hQ _ _ t' ⟨xs.zip vs,fun i o=>o.cls= .type "list_iterator" ∧o.data= .fields #[.ref l, .int i 0],fun i v=>vs[i]? =some v,_,_,⟨?_, ?_, ?_,(fun i o h n e=>by rw [h.1] at e;cases e;rfl), ?_, ?_⟩,⟨rfl,rfl⟩,⟨m,α,_,R5⟩,R2.pinsNe, ?_⟩
  ·intro A E s i o Q hi ho hO hsrc hq
   have hls:s.heap.IsList l vs.toArray:=⟨_,hsrc _ (.head _),rfl,n,rfl⟩
   have hlt:i<vs.length:=g3▸hi
   refine wpAny_pyNext_list_item (l:=l) (i:=i) (x:=vs[i]) ⟨o,ho,hO.1,hO.2⟩ hls (by simp [hlt]) fun h' hit hsb=> ?_
   obtain ⟨o',ho',hc',hd'⟩:=hit
   exact hq _ h' s.toks o' (List.getElem?_eq_getElem hlt) ho' ⟨hc',hd'⟩ hsb (Nat.le_refl _)
  ·intro A E s o Q hh ho hO hsrc hq
   have hls:s.heap.IsList l vs.toArray:=⟨_,hsrc _ (.head _),rfl,n,rfl⟩
   exact wpAny_pyNext_list_end hh ⟨o,ho,hO.1,hO.2⟩ hls (by simp [g3]) hq
  ·rintro i o ⟨hc,_⟩;exact xI hc
  ·intro p hp;rw [List.mem_singleton.mp hp];exact hlI
  ·intro A E s i o Q ho hO hq
   exact wpAny_pyIter_listiter (l:=l) (i:=i) ⟨o,ho,hO.1,hO.2⟩ hq
  ·intro i v hv
   have hlt:i<xs.length:=g3▸aM hv
   exact ⟨xs[i],List.getElem?_eq_getElem hlt, .inl (kI (List.getElem?_eq_getElem hlt) hv)⟩
 ·cases h2
noncomputable def aR8 (f:PM PV):PM (List PV):=bnd f fun pv=>match pv with
 | .str l=>if l.all (· < 128) then aL (l.map fun c=> .str [c]) else bI
 | _=>bI
set_option tactic.hygienic true in
theorem S_txt (h:EvR G fi e f):wD G fi e (aR8 f):=by
 intro A h₀ L env C held s σ xs σ' Q E hf R hQ
 obtain ⟨pv,σ₁,h1,h2⟩:=aG hf
 split at h2
 ·rename_i l
  split at h2
  ·rename_i hasc
   obtain ⟨rfl,rfl⟩:=aJ h2
   refine h A h₀ L env C held s σ _ _ _ _ h1 R fun v h' t' R1=> ?_
   obtain ⟨m,α,N,R1⟩:=R1
   obtain ⟨t,rfl⟩:=(R1.held (_,v) (.head _)).str_inv
   refine wpAny_pyIter_ascii (by simpa using hasc) ?_
   have R5:=(R1.drop (held':=held) fun p hp=> .tail _ hp).pushIt {cls:= .type "str_ascii_iterator",data:= .fields #[.str ⟨l.toArray⟩ t, .int 0 0]} rfl (srcp:=[]) (fun p hp=>nomatch hp)
   refine hQ _ _ t' ⟨[],fun i o=>o.cls= .type "str_ascii_iterator" ∧o.data= .fields #[.str ⟨l.toArray⟩ t, .int i 0],fun i v=>∃c u,l[i]? =some c∧v= .str ⟨#[c]⟩ u,[],_,⟨?_, ?_, ?_,(fun i o h n e=>by rw [h.1] at e;cases e;rfl),(fun p hp=>nomatch hp), ?_⟩,⟨rfl,rfl⟩,⟨m,α,_,R5⟩,R1.pinsNe, ?_⟩
   ·intro A E s i o Q hi ho hO hsrc hq
    have hlt:i<l.length:=by simpa using hi
    refine wpAny_pyNext_ascii_item (x:=⟨l.toArray⟩) (t:=t) (i:=i) (c:=l[i]) ⟨o,ho,hO.1,hO.2⟩ (by simp [hlt]) fun h' hit hsb=> ?_
    obtain ⟨o',ho',hc',hd'⟩:=hit
    exact hq _ h' (s.toks+1) o' ⟨l[i],s.toks,List.getElem?_eq_getElem hlt,rfl⟩ ho' ⟨hc',hd'⟩ hsb (Nat.le_succ _)
   ·intro A E s o Q hh ho hO hsrc hq
    exact wpAny_pyNext_ascii_end hh ⟨o,ho,hO.1,hO.2⟩ (by simp) hq
   ·rintro i o ⟨hc,_⟩;exact aA6 hc
   ·intro A E s i o Q ho hO hq
    exact wpAny_pyIter_striter_ascii (x:=⟨l.toArray⟩) (t:=t) (i:=i) ⟨o,ho,hO.1,hO.2⟩ hq
   ·rintro i v ⟨c,u,hc,rfl⟩
    exact ⟨.str [c],by simp [hc], .inr .str⟩
  ·cases h2
 ·cases h2
end
end
section
theorem xE:typeLookup (.type "re.Match") "__bool__" =pure none:=by rw [typeLookup_type,builtinLookup_eq_fast];kernel_rfl
theorem aA1:typeLookup (.type "re.Match") "__len__" =pure none:=by rw [typeLookup_type,builtinLookup_eq_fast];kernel_rfl
noncomputable def bO:PV→PM Bool
 | .int a=>aL (a != 0)
 | .bool b=>aL b
 | .none=>aL false
 | .mat _=>aL true
 | .cell k=>fun σ=>match bJ k σ with
  | some xs=> .ok (!xs.isEmpty) σ
  | none=> .bad
 | _=>bI
theorem qT (a:Array Nat):∀(n:Nat) (acc:Array Nat),((List.replicate n a).foldl (· ++ ·) acc).toList=acc.toList++(List.replicate n a.toList).flatten
 | 0,acc=>by simp
 | n+1,acc=>by
  rw [List.replicate_succ,List.foldl_cons,qT a n,List.replicate_succ,List.flatten_cons]
  simp
theorem mul_eq (l:List Nat) (n:Int):Txt.mul ⟨l.toArray⟩ n=⟨(List.replicate n.toNat l).flatten.toArray⟩:=by
 unfold Txt.mul
 by_cases h1:n<1
 ·rw [if_pos h1,show n.toNat=0 by exact lin2 (.q .v1 .k0) (.T .v0 .k1) (.N 1 .v0) (.b (.w [1]) (.d 2 (.w [0,1,1,1]) (.w [0,1,1]))) rfl (.z _ (.n1 _)) h1 rfl];rfl
 ·rw [if_neg h1]
  by_cases h2:(n==1||(⟨l.toArray⟩:PySem.Str).length==0)=true
  ·rw [if_pos h2]
   simp only [Bool.or_eq_true,beq_iff_eq] at h2
   rcases h2 with h2 | h2
   ·subst h2;simp
   ·rw [bP] at h2
    have:l=[]:=List.length_eq_zero_iff.mp h2
    subst this;simp
  ·rw [if_neg h2]
   have:=qT l.toArray n.toNat #[]
   simp only [List.nil_append] at this
   rw [←this]
noncomputable def uX:PV→PV→Option PV
 | .str l, .int n=>if l.length≤1000∧n≤1000∧ -1000≤n then some (.str (List.replicate n.toNat l).flatten) else none
 | _,_=>none
section
variable {G:Glb}{fi:FI}
set_option tactic.hygienic true in
theorem aU3:Op2 G (binaryOp .Mult) uX:=by
 intro fi A h₀ L env C held s σ a b va vb c Q E hg R hQ
 obtain ⟨α,N,ra,rb⟩:=qK R
 have R':Rel G fi h₀ L σ held s:=R.tail.tail
 unfold uX at hg
 split at hg
 ·rename_i l n
  obtain ⟨t,rfl⟩:=ra.str_inv;obtain ⟨u,rfl⟩:=rb.int_inv
  split at hg
  ·rename_i hc
   cases hg
   refine cO (SB.mul ⟨?_, ?_, ?_⟩ fun t' k hk=> ?_)
   ·simp;exact ⟨lin1 (.L (.g (.k 9223372036854775808)) .v0) (.L (.g (.k 1000)) .v0) (.w [1,1]) rfl (.z _ .o) hc.2.2,lin1 (.T .v0 (.k 9223372036854775808)) (.L .v0 (.k 1000)) (.w [1,1]) rfl (.z _ .o) hc.2.1⟩
   ·intro h1 _
    rw [bP]
    have:(2^63-1:Int)/n≥1000:=by
     rw [ge_iff_le,Int.le_ediv_iff_mul_le (by exact lin1 (.T .k0 .v0) (.n (.T .v0 .k1)) (.w [1,1]) rfl (.z _ .o) h1)]
     exact lin1 (.L (.m 1000 .v0) (.s (.k 9223372036854775808) .k1)) (.L .v0 (.k 1000)) (.w [1,1000]) rfl (.z _ .o) hc.2.1
    exact lin2 (.n (.T .v0 (.c .v1))) (.l .v1 (.k 1000)) (.L (.k 1000) .v0) (.w [1,1,1]) rfl (.z _ (.n1 _)) hc.1 this
   ·intro h1 _
    rw [bP]
    have:l.length*n.toNat≤1000*1000:=Nat.mul_le_mul hc.1 (lin2 (.l .v1 (.k 1000)) (.L .v0 (.k 1000)) (.N 1 .v0) (.d 2 (.w [0,1,1,1]) (.w [0,1,1])) rfl (.z _ (.n1 _)) hc.2.1 rfl)
    unfold PySem.Builtin.Str.tooLong
    simp
    try rw [sizeLine_eq]
    exact lin1 (.l .v0 (.k 16777216)) (.l .v0 (.m 1000 (.k 1000))) (.w [1,1]) rfl (.n1 _) this
   ·rw [mul_eq]
    exact hQ _ s.heap k ((R'.toks (Nat.lt_of_lt_of_le R.tok hk)).holdP .str)
  ·cases hg
 ·cases hg
set_option tactic.hygienic true in
theorem bB0 {e:Expr}{f:PM PV} (he:EvR G fi e f) (hp:∀env whole,isTrue e env whole=(do let v ←whole;standAt e.pos;holding [v] (truthy v))):TrR G fi e (bnd f bO):=by
 intro A h₀ L env C held s σ c σ' Q E hf R hQ
 obtain ⟨a,σ₁,h1,h2⟩:=aG hf
 refine isTrue_plain (he A h₀ L env C held s σ a σ₁ _ _ h1 R fun v h' t' R'=> ?_) (hp env _)
 obtain ⟨α,N,r⟩:=lH R'
 unfold bO at h2
 split at h2
 ·obtain ⟨rfl,rfl⟩:=aJ h2
  obtain ⟨t,rfl⟩:=r.int_inv
  exact PyProof.Rows.truthy_int (hQ h' t' R'.tail)
 ·obtain ⟨rfl,rfl⟩:=aJ h2
  have:=r.bool_inv;subst this
  exact wpAny_truthy_bool (hQ h' t' R'.tail)
 ·obtain ⟨rfl,rfl⟩:=aJ h2
  have:=r.none_inv;subst this
  exact PyProof.Rows.truthy_none (hQ h' t' R'.tail)
 ·obtain ⟨rfl,rfl⟩:=aJ h2
  obtain ⟨m,α,N,R2⟩:=(fun z=>z) R'
  obtain ⟨a,tp,x,p,i,j,k,st,n,rfl,h1,h2⟩:=Rep.mat_inv (R2.held (_,v) (.head _))
  have hT:(Sh s h' t').TypeIs (.ref a) "re.Match" :=⟨_,(R2.nw _ h1).1,rfl⟩
  unfold truthy
  refine wpAny_bind (wpAny_callSpecial?_none hT xE ?_)
  refine wpAny_bind (wpAny_specialOf hT aA1 ?_)
  exact wpAny_pure (hQ h' t' R'.tail)
 ·rename_i k
  split at h2
  ·rename_i xs hx
   cases h2
   obtain ⟨m,α,N,R2⟩:=(fun z=>z) R'
   obtain ⟨a,ha,rfl⟩:=(R2.held (_,v) (.head _)).cell_inv
   obtain ⟨vs,n,g1,g2,g3,g4,g5⟩:=R2.listAt hx ha
   refine wpAny_truthy_list g5 (by rw [List.size_toArray, ←g2];exact Q12 (.n1 _) g4) ?_
   have e:vs.toArray.isEmpty=xs.isEmpty:=by
    cases xs with
    | nil=>cases vs with
     | nil=>rfl
     | cons _ _=>cases g2
    | cons _ _=>cases vs with
     | nil=>cases g2
     | cons _ _=>simp
   rw [e]
   exact hQ h' _ (R'.tail.toks (Nat.succ_pos _))
  ·cases h2
 ·cases h2
noncomputable def qJ:PV→PV→Option Bool
 | .none, .none=>some true
 | .mat _, .none=>some false
 | _,_=>none
theorem cm_isN:qE G (compareOp .Is) qJ:=by
 intro fi A h₀ L env C held s σ a b va vb c Q E hg R hQ
 obtain ⟨m,α,N,R2⟩:=(fun z=>z) R
 have ra:=R2.held (a,va) (.tail _ (.head _))
 have rb:=R2.held (b,vb) (.head _)
 have hq:=hQ s.heap s.toks R.tail.tail
 unfold qJ at hg
 split at hg <;> cases hg
 ·have:=ra.none_inv;subst this;have:=rb.none_inv;subst this
  exact wpAny_is_self rfl hq
 ·have:=rb.none_inv;subst this
  obtain ⟨a,tp,x,p,i,j,k,st,n,rfl,h1,h2⟩:=Rep.mat_inv ra
  exact wpAny_is_other rfl (fun e=>nomatch e) hq
noncomputable def aB1 (fx fj:PM PV):PM Fl:=bnd fx fun o=>bnd fj fun i=>fun σ=>match o,i with
 | .cell k, .int i=>(match bJ k σ with
  | some xs=>(match seqIndex? i xs.length with
   | some j=>if -1000000≤i∧i≤1000000 then .ok .next {σ with cells:=σ.cells.set k (.list (xs.eraseIdx j))} else .bad
   | none=> .bad)
  | none=> .bad)
 | _,_=> .bad
theorem qI {xs:List PV}{vs:List Value}:∀{j:Nat}{p:PV×Value},p∈(xs.eraseIdx j).zip (vs.eraseIdx j)→xs.length=vs.length→p∈xs.zip vs:=by
 induction xs generalizing vs with
 | nil=>intro j p h _;simp at h
 | cons x xs ih=>
  intro j p h hl
  cases vs with
  | nil=>cases hl
  | cons v vs=>
   cases j with
   | zero=>exact .tail _ h
   | succ j=>
    rw [List.eraseIdx_cons_succ,List.eraseIdx_cons_succ,List.zip_cons_cons] at h
    rcases List.mem_cons.mp h with rfl | h
    ·exact .head _
    ·exact .tail _ (ih h (by simpa using hl))
set_option tactic.hygienic true in
theorem X_del {o i:Expr}{dpos pos:Pos}{fx fj:PM PV} (ho:EvR G fi o fx) (hi:EvR G fi i fj):ExR G fi (.Delete [.Subscript o i dpos] pos) (aB1 fx fj):=by
 intro A h₀ L env C held s σ fl σ' Q E hf R hQ
 refine cps fun GC hGC=> ?_
 obtain ⟨qo,σ₁,h1,hf1⟩:=aG hf
 obtain ⟨qi,σ₂,h2,hf2⟩:=aG hf1
 refine hGC ?_
 refine wpAny_Delete (wpAny_deleteEach_cons ?_)
 rw [arm_delete_Subscript]
 refine wpAny_bind (ho A h₀ L env C held s σ qo σ₁ _ _ h1 R fun vo h' t' R1=> ?_)
 refine wpAny_bind (wpAny_holding (hi A h₀ L env C _ _ σ₁ qi σ₂ _ _ h2 R1 fun vi h'' t'' R2=> ?_))
 refine wpAny_bind (wpAny_standAt (wpAny_bind (wpAny_holding ?_)))
 split at hf2
 ·rename_i k i
  split at hf2
  ·rename_i xs hx
   split at hf2
   ·rename_i j hj
    split at hf2
    ·rename_i hb
     cases hf2
     refine cps fun GC hGC=> ?_
     obtain ⟨m,α,N,R3⟩:=R2
     obtain ⟨a,ha,rfl⟩:=(R3.held (_,vo) (.tail _ (.head _))).cell_inv
     obtain ⟨u,rfl⟩:=(R3.held (_,vi) (.head _)).int_inv
     obtain ⟨vs,n,g1,g2,g3,g4,g5⟩:=R3.listAt hx ha
     refine hGC ?_
     have hd:a∈α:=List.mem_of_getElem? ha
     refine delItem_at (k:=j) (R3.nw _ g1).1 (by unfold Builtin.List.listFitsIndex;simp;exact ⟨lin1 (.L (.g (.k 9223372036854775808)) .v0) (.L (.g (.k 1000000)) .v0) (.w [1,1]) rfl (.z _ .o) hb.1,lin1 (.T .v0 (.k 9223372036854775808)) (.L .v0 (.k 1000000)) (.w [1,1]) rfl (.z _ .o) hb.2⟩) (by rw [List.size_toArray, ←g2];exact hj) (fun h3 hs ho3=> ?_) (by rw [List.size_toArray, ←g2];exact bY g4)
     refine wpAny_release (wpAny_deleteEach_nil ?_)
     have R4:=R3.setCell (o':=⟨.type "list",none, .seq (vs.eraseIdx j).toArray (n+1), #[]⟩) (c':= .list (xs.eraseIdx j)) (t':=t'') ha g1 ?_ (R3.fr.change hs (R3.notL g1).1 (R3.notL g1).2) (_M.News.upd R3.nw hs ho3) R3.tok
     ·exact hQ .next h3 t'' ⟨m,α,_,R4.drop fun p hp=> .tail _ (.tail _ hp)⟩
     ·have hjl:j<xs.length:=lt_of_seqIndex hj
      refine ⟨vs.eraseIdx j,n+1,iV g1, ?_,fun p hp=>fJ hd (g3 p (qI hp g2)), ?_⟩
      ·rw [List.length_eraseIdx_of_lt hjl,List.length_eraseIdx_of_lt (g2▸hjl),g2]
      ·rw [List.length_eraseIdx_of_lt hjl];exact lin2 (.l .v1 (.k 1048576)) (.l .v0 (.k 1048576)) (.b 1 .v0 .k1) (.d 2 (.w [0,1,1,1]) (.w [0,1,1])) rfl (.n2 _ _) g4 rfl
    ·cases hf2
   ·cases hf2
  ·cases hf2
 ·cases hf2
noncomputable def zO:List PV→PM PV:=g1 fun a=>match a with
 | .cell k=>fun σ=>match bJ k σ with
  | some _=> .ok .other σ
  | none=> .bad
 | _=>bI
theorem aR9 {k:Nat}{l:List PV}{σ:St} (h:bJ k σ=some l):zO [.cell k] σ= .ok .other σ:=by
 unfold zO g1
 dsimp only
 rw [h]
set_option tactic.hygienic true in
theorem aZ5:dX G (.type "tuple") zO:=by
 intro fi A h₀ L env C held s σ σ' pvs vs c Q E hf hl R hQ
 replace q:=rE hf;clear hf;obtain ⟨a,hf⟩:=q
 cases a with
 | cell k=>
  obtain ⟨v,rfl⟩:=iY hl rfl
  replace R:Rel G fi h₀ L σ ((.cell k,v)::held) s:=R
  replace hf:(match bJ k σ with
   | some _=> .ok .other σ
   | none=> .bad)=Res.ok c σ':=hf
  split at hf
  ·rename_i xs hx
   cases hf
   obtain ⟨m,α,N,R2⟩:=R
   obtain ⟨a,ha,rfl⟩:=(R2.held (_,v) (.head _)).cell_inv
   obtain ⟨ws,n,g1,g2,g3,g4,g5⟩:=R2.listAt hx ha
   refine call_tuple_list g5 (fun h' hk=> ?_) (by rw [List.size_toArray, ←g2];exact bY g4)
   have R3:=(R2.drop (held':=held) fun p hp=> .tail _ hp).reheap (R2.fr.keeps hk) (fun p hp=>⟨hk _ _ (R2.nw p hp).1,(R2.nw p hp).2⟩) R2.tok
   have R4:=R3.push {cls:= .type "tuple",data:= .seq ws.toArray} rfl
   exact hQ _ _ s.toks ⟨m,α,_,R4.hold .other⟩
  ·cases hf
 | _=>cases hf
end
end
structure Ads where
 C:Addr
 junk:Addr
 chew:Addr
 str:Addr
 sp:Addr
 tab:Addr
noncomputable def cR:Nat:=1000000
noncomputable def lit (s:String):List Nat:=s.toList.map (·.toNat)
noncomputable abbrev cI (i:Int):PM PV:=aI (.int i)
noncomputable abbrev cS (s:String):PM PV:=aI (.str (lit s))
noncomputable abbrev bQ (i:Nat) (n:Int):PM Fl:=aF i (aA bA (vr i) (cI n))
noncomputable abbrev eqM (x y:PM PV):PM Bool:=aA eqP x y
noncomputable abbrev blk:List (PM Fl)→PM Fl
 | []=>aL .next
 | [x]=>x
 | x::y::r=>jW x (blk (y::r))
noncomputable def nC (l:List Nat):Option (Option Nat):=if (l.takeWhile RX.cL).length=0 then some none else some (some (l.takeWhile RX.cL).length)
noncomputable def cJ (l:List Nat):Option (Option Nat):=if (l.dropWhile RX.bS).head? =some 92 then some (some ((l.takeWhile RX.bS).length+1)) else some none
noncomputable def hK (l:List Nat):Option (Option Nat):=match (l.dropWhile RX.bT).head? with
 | none=>some none
 | some d=>if d=35∨d=10 then none else some none
noncomputable def jJ (l:List Nat):Option (Option Nat):=match l.head? with
 | some q=>if q=34∨q=39 then some (some (RX.eK q l)) else none
 | none=>none
theorem yR:tO RX.C6 nC:=by
 intro T lim p l r hl hR h
 have hlen:l.length≤4294967295:=by have:=hR.1;have e:(⟨RX.C6,T,lim,p⟩:RX.En).lim=lim:=rfl;exact lin2 (.l .v0 (.k 4294967295)) (.l .v1 (.k 4000000)) (.q (.a .v2 .v0) .v1) (.w [1,1,1]) rfl (.n3 _ _ _) hl this
 refine ⟨5,by decide, ?_⟩
 have:=RX.chew hR hlen
 unfold nC at h
 split at h <;> cases h <;> rename_i hz
 ·rw [if_pos hz] at this;exact this
 ·rw [if_neg hz] at this;exact this
theorem aH3:tO RX.C7 cJ:=by
 intro T lim p l r hl hR h
 have hlen:l.length≤4000000:=by have:=hR.1;have e:(⟨RX.C7,T,lim,p⟩:RX.En).lim=lim:=rfl;exact Q38 (.n3 _ _ _) hl this
 refine ⟨2*l.length+9,by exact lin1 (.l (.a (.m 2 .v0) (.k 9)) (.k 1152921504606846976)) (.l .v0 (.k 4000000)) (.w [1,2]) rfl (.n1 _) hlen, ?_⟩
 have:=RX.slash hR (Q100 (.n1 _) hlen)
 unfold cJ at h
 split at h <;> cases h <;> rename_i hz
 ·rw [if_pos hz] at this;exact this
 ·rw [if_neg hz] at this;exact this
set_option tactic.hygienic true in
theorem yQ:tO RX.C2 hK:=by
 intro T lim p l r hl hR h
 have hlen:l.length≤4000000:=by have:=hR.1;have e:(⟨RX.C2,T,lim,p⟩:RX.En).lim=lim:=rfl;exact Q38 (.n3 _ _ _) hl this
 refine ⟨8*l.length+14,by exact lin1 (.l (.a (.m 8 .v0) (.k 14)) (.k 1152921504606846976)) (.l .v0 (.k 4000000)) (.w [1,8]) rfl (.n1 _) hlen, ?_⟩
 have key:(∀d,(l.dropWhile RX.bT).head? =some d→d≠35∧d≠10)∧r=none:=by
  unfold hK at h
  split at h
  ·rename_i hn
   cases h
   exact ⟨fun d hd=>(by rw [hn] at hd;cases hd),rfl⟩
  ·rename_i d hd
   split at h
   ·cases h
   ·rename_i hz
    cases h
    refine ⟨fun d' hd'=> ?_,rfl⟩
    rw [hd] at hd'
    cases hd'
    lia
 obtain ⟨k1,rfl⟩:=key
 exact RX.junk hR (Q100 (.n1 _) hlen) k1
theorem aH2:tO RX.C3 jJ:=by
 intro T lim p l r hl hR h
 have hlen:l.length≤4000000:=by have:=hR.1;have e:(⟨RX.C3,T,lim,p⟩:RX.En).lim=lim:=rfl;exact Q38 (.n3 _ _ _) hl this
 unfold jJ at h
 induction l with
 | nil=>cases h
 | cons q l=>
  simp only [List.head?_cons] at h
  split at h
  ·rename_i hq
   cases h
   exact ⟨16*l.length+100,by simp only [List.length_cons] at hlen;exact lin1 (.l (.a (.m 16 .v0) (.k 100)) (.k 1152921504606846976)) (.l (.a .v0 .k1) (.k 4000000)) (.w [1,16]) rfl (.n1 _) hlen,RX.strM hq (lin1 (.l .v0 (.k 4000000)) (.l .v0 (.k 4000000)) (.w [1,1]) rfl (.n1 _) hl) hR⟩
  ·cases h
noncomputable abbrev itm (x i:PM PV):PM PV:=dM bG x i
noncomputable abbrev fR:PM PV:=fL negP (cI 1)
noncomputable abbrev cD (x:PM PV):PM PV:=bnd (evL [x]) mK
noncomputable abbrev nop:PM Fl:=aL .next
noncomputable abbrev hY (sc:List Nat→Option (Option Nat)) (fs:List (PM PV)):PM PV:=bnd (evL fs) (fun pvs=>if pvs.length=2∨pvs.length=3 then aJ4 sc pvs else bI)
noncomputable def aT (c:Nat):Nat:=if c=40∨c=123∨c=91 then 40 else if c=41∨c=125∨c=93 then 41 else if c=34∨c=39∨c=92∨c=10∨c=35 then c else 120
noncomputable abbrev gB:PM Fl:=blk [
 aF 9 (itm (vr 1) (vr 7)),
 bQ 7 1,
 aP (eqM (vr 9) (cS "x")) (aL .cont) nop,
 aP (eqM (aU (vr 1) (aA bH (vr 7) (cI 1)) (aA bA (vr 7) (vr 12))) (vr 10)) (blk [aF 7 (aA bA (vr 7) (vr 12)),aL .brk]) nop,
 aP (eqM (vr 9) (cS "\n")) (blk [bQ 4 1,aP (eqM (vr 12) (cI 0)) (blk [aP (eqM (vr 3) (cI 0)) (cC (fK (vr 6) (vr 4))) nop,aL .brk]) nop,aL .cont]) nop,
 aP (eqM (vr 9) (cS "\\")) (blk [bD (aA ltP (vr 7) (vr 8)),aP (eqM (itm (vr 1) (vr 7)) (cS "\n")) (bQ 4 1) nop,bQ 7 1,aL .cont]) nop]
noncomputable abbrev eI:PM Fl:=blk [
 aF 9 (itm (vr 1) (vr 7)),
 bQ 7 1,
 aP (eqM (vr 9) (cS "x")) (aL .cont) nop,
 aP (eqM (vr 9) (cS "\n")) (blk [bQ 4 1,aP (eqM (vr 3) (cI 0)) (cC (fK (vr 6) (vr 4))) nop,aL .cont]) nop,
 aP (eqM (vr 9) (cS "(")) (blk [bQ 3 1,aL .cont]) nop,
 aP (eqM (vr 9) (cS ")")) (blk [aP (bnd (vr 3) bO) (aF 3 (aA bH (vr 3) (cI 1))) nop,aL .cont]) nop,
 aP (orM (eqM (vr 9) (cS "\"")) (eqM (vr 9) (cS "'"))) (blk [
  aF 10 (vr 9),
  aP (eqM (aU (vr 1) (aA bH (vr 7) (cI 1)) (aA bA (vr 7) (cI 2))) (aA uX (vr 10) (cI 3))) (aF 10 (aA uX (vr 10) (cI 3))) nop,
  aF 11 (vr 4),
  aF 12 (aA bH (cD (vr 10)) (cI 1)),
  aF 7 (aA bA (vr 7) (vr 12)),
  aV cR (aA ltP (vr 7) (vr 8)) gB (aP (eqM (aA bH (vr 4) (cI 1)) (vr 11)) (aF 2 (cI 2)) (aF 2 (cI 3))),
  aL .cont]) nop,
 aP (eqM (vr 9) (cS "#")) (blk [aF 7 (aH okStr (vr 1) [cS "\n",vr 7] fM),bD (aA geP (vr 7) (cI 0)),aL .cont]) nop,
 bD (eqM (vr 9) (cS "\\")),
 bD (aA ltP (vr 7) (vr 8)),
 aP (eqM (itm (vr 1) (vr 7)) (cS "\n")) (blk [bQ 4 1,aP (eqM (aA bA (vr 7) (cI 1)) (vr 8)) (aF 2 (cI 1)) nop]) nop,
 bQ 7 1]
noncomputable abbrev iW (B:Ads):PM Fl:=blk [
 aP (aA geP (aX B.C 0 3 (vr 0)) (cI 1)) (aL (.ret .none)) nop,
 aW B.C 0 3 (cI 1) (vr 0),
 aF 1 (aX B.C 0 2 (vr 0)),
 aF 1 (aH okStr (vr 1) [aI (.glob (.ref B.tab))] (trG B.tab aT)),
 aF 1 (fL (nH (lit "xxxxxxxx") (lit "x")) (vr 1)),
 aF 1 (fL (nH (lit "xxxx") (lit "x")) (vr 1)),
 aF 1 (fL (nH (lit "xx") (lit "x")) (vr 1)),
 aF 1 (fL (nH (lit "xx") (lit "x")) (vr 1)),
 aF 1 (fL (nH (lit "\nx") (lit "\n")) (vr 1)),
 aF 2 (cI 0),
 mX (bF 3) (bF 4) (cI 0),
 mX (fW B.C 0 4 (vr 0)) (bF 5) (jS [cI 0]),
 aF 6 (bnd (vr 5) bmG),
 fP 7 8 (cI 0) (cD (vr 1)),
 aV cR (aA ltP (vr 7) (vr 8)) eI nop,
 aP (cX (aA neP (vr 2) (cI 2)) (cX (aA neP (vr 2) (cI 3)) (aA gtP (vr 3) (cI 0)))) (aF 2 (cI 4)) nop,
 aW B.C 0 5 (vr 2) (vr 0),
 bD (eqM (ofB (eqM (vr 2) (cI 0))) (ofB (eqM (itm (vr 5) fR) (vr 4)))),
 aP (aA neP (itm (vr 5) fR) (vr 4)) (cC (fK (vr 6) (vr 4))) nop]
noncomputable abbrev rX:PM Fl:=blk [
 bD (bnd (vr 4) bO),
 aF 5 (vr 4),
 pR (aF7 (itm (vr 2) (aA bH (vr 3) (cI 1))) (itm (vr 2) (vr 3))) (bF 6) (aF 4 (aA bA (aH okStr (vr 1) [cS "\n",cI 0,aA bH (vr 4) (cI 1)] oW) (cI 1))),
 aP (bnd (hY hK [vr 1,vr 4]) bO) (aF 3 (aA bH (vr 3) (cI 1))) (aL .brk)]
noncomputable abbrev gY (x:PM PV):PM Fl:=cC (aH okList (vr 10) [x] jH)
noncomputable abbrev cZ (x y:PM PV):PM PV:=cP true [x,y]
noncomputable abbrev uC:PM Fl:=blk [
 aF 11 (hY nC [vr 1,vr 4,vr 5]),
 aP (bnd (vr 11) bO) (blk [
  aF 12 (aH okMat (vr 11) [] nK),
  aF 3 (aA bH (vr 12) (cI 1)),
  aV cR (cX (aA geP (vr 3) (vr 4)) (aA inP (itm (vr 1) (vr 3)) (cS " \t\n"))) (aF 3 (aA bH (vr 3) (cI 1))) nop,
  aP (aA geP (vr 3) (vr 4)) (aF 7 (itm (vr 1) (vr 3))) nop,
  aF 4 (vr 12),
  aP (aA geP (vr 4) (vr 5)) (aL .brk) nop]) nop,
 aF 13 (itm (vr 1) (vr 4)),
 aP (aA inP (vr 13) (cS "([{")) (blk [cC (fK (vr 9) (vr 4)),gY (cZ (vr 4) (cD (vr 8))),aF 7 (vr 13),bQ 4 1,aL .cont]) nop,
 aP (aA inP (vr 13) (cS ")]}")) (blk [aP (bnd (vr 8) bO) (aB1 (vr 8) fR) nop,aF 7 (vr 13),bQ 4 1,gY (cZ (vr 4) (cD (vr 8))),aL .cont]) nop,
 aP (orM (eqM (vr 13) (cS "\"")) (eqM (vr 13) (cS "'"))) (blk [gY (cZ (vr 4) (aA bA (cD (vr 8)) (cI 1))),aF 7 (vr 13),aF 4 (aH okMat (hY jJ [vr 1,vr 4,vr 5]) [] nK),gY (cZ (vr 4) (cD (vr 8))),aL .cont]) nop,
 aP (eqM (vr 13) (cS "#")) (blk [gY (cZ (vr 4) (aA bA (cD (vr 8)) (cI 1))),aF 4 (aA bA (aH okStr (vr 1) [cS "\n",vr 4,vr 5] fM) (cI 1)),bD (aA gtP (vr 4) (cI 0)),gY (cZ (vr 4) (cD (vr 8))),aL .cont]) nop,
 bD (eqM (vr 13) (cS "\\")),
 bQ 4 1,
 bD (aA ltP (vr 4) (vr 5)),
 aP (aA neP (itm (vr 1) (vr 4)) (cS "\n")) (aF 7 (aA bA (vr 13) (itm (vr 1) (vr 4)))) nop,
 bQ 4 1]
noncomputable abbrev bW (B:Ads):PM Fl:=blk [
 aP (aA geP (aX B.C 0 3 (vr 0)) (cI 2)) (aL (.ret .none)) nop,
 cC (cG B.C 0 (vr 0) [] (aQ 13 (iW B))),
 aW B.C 0 3 (cI 2) (vr 0),
 fP 1 2 (aX B.C 0 2 (vr 0)) (aX B.C 0 4 (vr 0)),
 aF 3 (aA bH (cD (vr 2)) (cI 1)),
 aF 4 (cD (vr 1)),
 aV cR (bnd (vr 3) bO) rX nop,
 aP (eqM (vr 3) (cI 0)) (blk [bD (eqM (vr 4) (cI 0)),aF 5 (vr 4)]) nop,
 xX (fW B.C 0 6 (vr 0)) (fW B.C 0 7 (vr 0)) (vr 4) (vr 5),
 aF 7 (cS ""),
 aF 8 (jS []),
 aF 9 (bnd (vr 8) bmG),
 aF 10 (jS [cZ (vr 4) (cI 0)]),
 aV cR (aA ltP (vr 4) (vr 5)) uC nop,
 aW B.C 0 8 (vr 7) (vr 0),
 aW B.C 0 9 (aP (bnd (vr 8) bO) (itm (vr 8) fR) (aI .none)) (vr 0),
 aW B.C 0 10 (bnd (evL [vr 10]) zO) (vr 0)]
noncomputable abbrev aO5 (B:Ads):PM Fl:=aV cR (aA ltP (vr 2) (vr 4)) (blk [
  aF 7 (dM bG (vr 1) (vr 2)),
  aP (aA inP (vr 7) (cS "([{")) (blk [bQ 6 1,bQ 2 1])
  (aP (aA inP (vr 7) (cS ")]}")) (blk [aP (bnd (vr 6) bO) (aF 6 (aA bH (vr 6) (cI 1))) (aL .next),bQ 2 1])
  (aP (orM (eqM (vr 7) (cS "\"")) (eqM (vr 7) (cS "'"))) (aF 2 (aH okMat (hY jJ [vr 1,vr 2,vr 4]) [] nK))
  (aP (eqM (vr 7) (cS "#")) (aL .brk)
  (aP (cX (eqM (vr 6) (cI 0)) (cX (eqM (vr 7) (cS "=")) (cX (orM (eqM (vr 2) (cI 0)) (aA uW (dM bG (vr 1) (aA bH (vr 2) (cI 1))) (cS "=<>!"))) (aA neP (dM bG (vr 1) (aA bA (vr 2) (cI 1))) (cS "=")))))
   (blk [aF 5 (cI 1),aL .brk])
   (bQ 2 1)))))]) (aL .next)
noncomputable abbrev gM (B:Ads):PM Fl:=blk [
 cC (cG B.C 0 (vr 0) [] (aQ 14 (bW B))),
 bD (eqM (aX B.C 0 5 (vr 0)) (cI 1)),
 aF 1 (aX B.C 0 2 (vr 0)),
 aF 2 (aX B.C 0 6 (vr 0)),
 aV cR (aA inP (dM bG (vr 1) (vr 2)) (cS " \t")) (bQ 2 1) (aL .next),
 aF 3 (vr 2),
 aF 4 (aA bA (aH okStr (vr 1) [cS "\n",vr 3] fM) (cI 1)),
 mX (bF 5) (bF 6) (cI 0),
 aO5 B,
 aP (bnd (vr 5) bO) (blk [bQ 2 1,aF 5 (ofB (aA qJ (aH (hJ B.sp) (aI (.glob (.ref B.sp))) [aU (vr 1) (vr 2) (vr 4)] (mG B.sp cJ)) (aI .none)))]) (aL .next),
 aP (sV (bnd (vr 5) bO)) (blk [aF 2 (vr 3),aV cR (aA uW (dM bG (vr 1) (vr 2)) (cS " \t\n")) (bQ 2 1) (aL .next)]) (aL .next),
 mD (aA bA (bnd (evL [aH okStr (aU (vr 1) (aX B.C 0 6 (vr 0)) (vr 2)) [aX B.C 0 1 (vr 0)] vR]) mK) (cI 1))]
section
variable {C f:Addr}{id j nv:Nat}{name:PySem.Str}{apos pos:Pos}{o:Expr}{fo:PM PV}{fj:FI}{body:List Stmt}{F:PM Fl}{args:List Expr}{fs:List (PM PV)}
noncomputable def bR (K:Frag) (a:Addr):List Stmt:=match K.lookup a with
 | some ⟨_,_, .func fd,_⟩=>(match fd.body with | .stmts b=>b | _=>[])
 | _=>[]
noncomputable def aT2 (K:Frag) (a:Addr):Option Scope:=match K.lookup a with
 | some ⟨_,_, .func fd,_⟩=>some fd.scope
 | _=>none
structure AttrOk (G:Glb) (C:Addr) (id j:Nat) (name:PySem.Str):Prop where
 hj:(G.tabs.t id)[j]? =some name
 hg:plainGet G.K C name=true
 hh:hasDictIn G.K C=true
 ha:findIn G.K (.ref C) name=some none
 hs:findIn G.K (.ref C) "__setattr__" =some (some (.builtin "object.__setattr__"))
 hp:plainOver G.K C=true
 ht:takerIn G.K C name=some none
section
variable {G:Glb}{fi:FI}
theorem bB7 {x:PySem.Str}{xp:Pos}{fx:PM PV} (hx:EvR G fi (.Name x xp) fx) (h:AttrOk G C id j name)
  (hbase:∀env,eval (.Attribute (.Name x xp) name pos) env=(do let o ←eval (.Name x xp) env;standAt pos.atName;let r ←holding [o] (getAttr o name true);letTemporaryGo (.Name x xp) o r;pure r)):
  EvR G fi (.Attribute (.Name x xp) name pos) (aX C id j fx):=R_attr hx h.hj h.hg h.hh h.ha rfl hbase
theorem xV {e:Expr}{pos':Pos}{fe:PM PV} (ho:EvR G fi o fo) (he:EvR G fi e fe) (h:AttrOk G C id j name)
  (hsw:∀env,swapsWith e (some (.Attribute o name pos')) pos.line env=pure false):ExR G fi (.Assign [.Attribute o name pos'] e pos) (aW C id j fe fo):=aC6 ho he h.hj h.hs h.hp h.ht h.hh hsw
theorem bB8 (ho:EvR G fi o fo) (h:AttrOk G C id j name):mW G fi (.Attribute o name pos) (fW C id j fo):=A_attr ho h.hj h.hs h.hp h.ht h.hh
end
section
variable {G:Glb}{fi:FI}
theorem bB4 {params:List PySem.Str}
  (hg:plainGet G.K C name=true) (hf:findIn G.K (.ref C) name=some (some (.ref f))) (hfn:isFn G.K (.ref f)=true) (hk:keepIn G.K (.ref f)=true) (hnot:name∉G.tabs.t id)
  (HF:FnAt G fj f params body) (HB:dN G fj body F) (ho:EvR G fi o fo) (hbase:∀env,attributeBase o name env (eval o env)=eval o env) (hline:(apos.endLine==pos.line)=true) (hlen:fs.length<29)
  (H:EvsR G fi args fs) (hlv:fj.lv<fi.lv) (hn:fs.length+1=params.length) (hnv:fj.vnames.length=nv):
  EvR G fi (.Call (.Attribute o name apos) args [] pos) (cG C id fo fs (aQ nv F)):=by
 subst hnv
 exact aR0 (T:=false) ho hbase hline hlen hg hf hfn hk hnot H HF HB hlv hn
theorem bB3 {params:List PySem.Str}
  (hg:plainGet G.K C name=true) (hf:findIn G.K (.ref C) name=some (some (.ref f))) (hfn:isFn G.K (.ref f)=true) (hk:keepIn G.K (.ref f)=true) (hnot:name∉G.tabs.t id)
  (HF:FnAt G fj f params body) (HB:dN G fj body F) (ho:EvR G fi o fo) (hbase:∀env,attributeBase o name env (eval o env)=eval o env) (hline:(apos.endLine==pos.line)=true) (hlen:fs.length<29)
  (H:EvsR G fi args fs) (hlv:fj.lv<fi.lv) (hn:fs.length+1=params.length) (hnv:fj.vnames.length=nv):
  EvR G fi (.Call (.Attribute o name apos) args [] pos) (cG C id fo fs (cE nv F)):=by
 subst hnv
 exact aR0 (T:=true) ho hbase hline hlen hg hf hfn hk hnot H HF HB hlv hn
end
structure PF (G:Glb) (B:Ads):Prop where
 indentwidth:AttrOk G B.C 0 0 "indentwidth"
 tabwidth:AttrOk G B.C 0 1 "tabwidth"
 code:AttrOk G B.C 0 2 "code"
 study_level:AttrOk G B.C 0 3 "study_level"
 goodlines:AttrOk G B.C 0 4 "goodlines"
 continuation:AttrOk G B.C 0 5 "continuation"
 stmt_start:AttrOk G B.C 0 6 "stmt_start"
 stmt_end:AttrOk G B.C 0 7 "stmt_end"
 lastch:AttrOk G B.C 0 8 "lastch"
 lastopen:AttrOk G B.C 0 9 "lastopenbracketpos"
 bracketing:AttrOk G B.C 0 10 "stmt_bracketing"
 cNone:∃t,nsIn G.K mainGlobals "C_NONE" =some (some (.int 0 t))
 cBack:∃t,nsIn G.K mainGlobals "C_BACKSLASH" =some (some (.int 1 t))
 cFirst:∃t,nsIn G.K mainGlobals "C_STRING_FIRST_LINE" =some (some (.int 2 t))
 cNext:∃t,nsIn G.K mainGlobals "C_STRING_NEXT_LINES" =some (some (.int 3 t))
 cBra:∃t,nsIn G.K mainGlobals "C_BRACKET" =some (some (.int 4 t))
 trans:nsIn G.K mainGlobals "trans" =some (some (.ref B.tab))
 junk:nsIn G.K mainGlobals "_junkre" =some (some (.ref B.junk))
 chew:nsIn G.K mainGlobals "_chew_ordinaryre" =some (some (.ref B.chew))
 str:nsIn G.K mainGlobals "_match_stringre" =some (some (.ref B.str))
 len:nsIn G.K mainGlobals "len" =some Option.none
 range:nsIn G.K mainGlobals "range" =some Option.none
 tuple:nsIn G.K mainGlobals "tuple" =some Option.none
 junkK:∃P,nM G.K P RX.C2∧G.K.lookup B.junk=some {cls:= .type "builtin_function_or_method",data:= .fields #[.builtin "re.Pattern.match", .ref P]}
 chewK:∃P,nM G.K P RX.C6∧G.K.lookup B.chew=some {cls:= .type "builtin_function_or_method",data:= .fields #[.builtin "re.Pattern.match", .ref P]}
 strK:∃P,nM G.K P RX.C3∧G.K.lookup B.str=some {cls:= .type "builtin_function_or_method",data:= .fields #[.builtin "re.Pattern.match", .ref P]}
 spK:nM G.K B.sp RX.C7
 trK:∃C',TransAt G.K B.tab C' aT
noncomputable abbrev matF (sc:List Nat→Option (Option Nat)):List PV→PM PV:=fun pvs=>if pvs.length=2∨pvs.length=3 then aJ4 sc pvs else bI
theorem bmK {G:Glb}{B:Addr}{C:Array Nat}{sc:List Nat→Option (Option Nat)} (hs:tO C sc) (h:∃P,nM G.K P C∧G.K.lookup B=some {cls:= .type "builtin_function_or_method",data:= .fields #[.builtin "re.Pattern.match", .ref P]}):
  wJ G (.ref B)∧dX G (.ref B) (matF sc):=let ⟨_,h1,h2⟩:=h;⟨cw_patB h2,b_patB hs h1 h2⟩
end
section
variable {σ:St}{α:List Addr}{N:List (Addr×Obj)}{v:Value}{l r:Expr}{pos:Pos}{fl fr:PM PV}{a:Addr}
noncomputable def qW (σ:St):PV→Option (List PV)
 | .cell k=>bJ k σ
 | .seq false xs=>if xs.length≤aD then some xs else none
 | _=>none
section
variable {G:Glb}{fi:FI}
inductive LstAt (s:Shared) (α:List Addr) (N:List (Addr×Obj)) (xs:List PV) (v:Value):Prop
 | mk (a:Addr) (vs:List Value) (n:Nat) (e:v= .ref a) (h1:(a,(⟨.type "list",Option.none, .seq vs.toArray n, #[]⟩:Obj))∈N) (h2:xs.length=vs.length) (h3:∀p∈xs.zip vs,Rep α N p.1 p.2) (h4:xs.length≤aD) (h5:s.heap.IsList a vs.toArray):LstAt s α N xs v
set_option tactic.hygienic true in
theorem RelAt.lst {h₀:Heap}{L:Addr}{held:List (PV×Value)}{m:PySem.Str→Option Value}{s:Shared} (R:RelAt G fi h₀ L σ held m α N s) {pv:PV}{xs:List PV}
  (h:qW σ pv=some xs) (hr:Rep α N pv v):LstAt s α N xs v:=by
 unfold qW at h
 split at h
 ·rename_i k
  refine cps fun GC hGC=> ?_
  obtain ⟨a,ha,rfl⟩:=hr.cell_inv
  obtain ⟨vs,n,h1,h2,h3,h4,h5⟩:=R.listAt h ha
  refine hGC ?_
  exact ⟨a,vs,n,rfl,h1,h2,h3,h4,h5⟩
 ·rename_i ys
  split at h
  ·rename_i hz
   cases h
   refine cps fun GC hGC=> ?_
   obtain ⟨a,vs,n,rfl,h1,_,h2,h3⟩:=hr.seq_inv
   refine hGC ?_
   exact ⟨a,vs,n,rfl,h1,h2,h3,hz,⟨_,(R.nw _ h1).1,rfl,n,rfl⟩⟩
  ·cases h
 ·cases h
theorem R_binM {op:Operator}{g:PV→PV→PM PV} (hop:Op2M G (binaryOp op) g) (hl:EvR G fi l fl) (hr:EvR G fi r fr):EvR G fi (.BinOp l op r pos) (dM g fl fr):=by
 intro A h₀ L env C held s σ pv σ' Q E hf R hQ
 refine cps fun GC hGC=> ?_
 obtain ⟨a,σ₁,h1,hf1⟩:=aG hf
 obtain ⟨b,σ₂,h2,h3⟩:=aG hf1
 refine hGC ?_
 refine wpAny_BinOp (hl A h₀ L env C held s σ a σ₁ _ _ h1 R fun va h' t' R1=> ?_)
 refine hr A h₀ L env C _ _ σ₁ b σ₂ _ _ h2 R1 fun vb h'' t'' R2=> ?_
 exact hop fi A h₀ L env C held _ σ₂ a b va vb pv σ' _ _ h3 R2 fun v h3 t3 R3=>hQ v h3 t3 R3
noncomputable def uB:List PV→Option (List (List Nat))
 | []=>some []
 | .str l::r=>(uB r).map (l :: ·)
 | _::_=>none
theorem tZ:∀{xs:List PV}{vs:List Value}{ls:List (List Nat)},uB xs=some ls→xs.length=vs.length→(∀p∈xs.zip vs,Rep α N p.1 p.2)→StrsAre vs (ls.map fun l=>(⟨l.toArray⟩:PySem.Str))
 | [],[],ls,h,_,_=>by cases h;exact .nil
 | [],_::_,_,_,h,_=>by cases h
 | .str l::r,[],_,_,h,_=>by cases h
 | .str l::r,v::vs,ls,h,hl,hr=>by
  replace h:(uB r).map (l :: ·)=some ls:=h
  cases e:uB r with
  | none=>rw [e] at h;cases h
  | some ms=>
   rw [e] at h
   cases h
   obtain ⟨t,rfl⟩:=(hr (.str l,v) (.head _)).str_inv
   exact .cons _ _ (tZ e (by simpa using hl) fun p hp=>hr p (.tail _ hp))
 | .none::_,_,_,h,_,_=>by cases h
 | .bool _::_,_,_,h,_,_=>by cases h
 | .int _::_,_,_,h,_,_=>by cases h
 | .cell _::_,_,_,h,_,_=>by cases h
 | .inst _ _::_,_,_,h,_,_=>by cases h
 | .seq _ _::_,_,_,h,_,_=>by cases h
 | .mat _::_,_,_,h,_,_=>by cases h
 | .bm _::_,_,_,h,_,_=>by cases h
 | .glob _::_,_,_,h,_,_=>by cases h
 | .other::_,_,_,h,_,_=>by cases h
 | .unb::_,_,_,h,_,_=>by cases h
noncomputable def lF (z:List Nat):List (List Nat)→List Nat
 | []=>[]
 | [x]=>x
 | x::y::r=>x++(z++lF z (y::r))
noncomputable def pJ:List PV→PM PV:=g2 fun a b=>onS (fun x=>fun σ=>match qW σ b with
  | some ys=>(match uB ys with
   | some ls=>if x.length≤10∧(ls.map (·.length)).sum+ls.length*x.length≤65536 then .ok (.str (lF x ls)) σ else .bad
   | none=> .bad)
  | none=> .bad) a
theorem aL1 {x:List Nat}{b:PV}{ys:List PV}{ls:List (List Nat)} (h1:qW σ b=some ys) (h2:uB ys=some ls) (h3:x.length≤10∧(ls.map List.length).sum+ls.length*x.length≤65536):pJ [.str x,b] σ= .ok (.str (lF x ls)) σ:=by
 unfold pJ g2 g1 onS
 dsimp only
 rw [h1]
 dsimp only
 rw [h2]
 exact if_pos h3
theorem vC (z:PySem.Str):∀ps:List PySem.Str,(PySem.Str.join z ps).cps.toList=lF z.cps.toList (ps.map fun p=>p.cps.toList)
 | []=>rfl
 | [x]=>rfl
 | x::y::r=>by
  have ih:=vC z (y::r)
  show (x++z++PySem.Str.join z (y::r)).cps.toList=x.cps.toList++(z.cps.toList++lF z.cps.toList ((y::r).map fun p=>p.cps.toList))
  rw [←ih,PySem.Str.cps_append,PySem.Str.cps_append]
  simp
theorem aX4 (x:List Nat) (ls:List (List Nat)):Txt.join ⟨x.toArray⟩ (ls.map fun l=>(⟨l.toArray⟩:PySem.Str))=⟨(lF x ls).toArray⟩:=by
 unfold Txt.join
 rw [StrLaws.glued_eq_join]
 have h:=vC ⟨x.toArray⟩ (ls.map fun l=>(⟨l.toArray⟩:PySem.Str))
 rw [List.map_map] at h
 have e:ls.map ((fun p:PySem.Str=>p.cps.toList)∘fun l=>(⟨l.toArray⟩:PySem.Str))=ls:=by
  rw [show ((fun p:PySem.Str=>p.cps.toList)∘fun l:List Nat=>(⟨l.toArray⟩:PySem.Str))=id from funext fun l=>by simp]
  simp
 rw [e] at h
 cases hj:PySem.Str.join ⟨x.toArray⟩ (ls.map fun l=>(⟨l.toArray⟩:PySem.Str)) with
 | mk c=>
  rw [hj] at h
  have h':c.toList=lF x ls:=h
  rw [←h']
set_option tactic.hygienic true in
theorem b_join:dX G (.builtin "str.join") pJ:=by
 intro fi A h₀ L env C held s σ σ' pvs vs c Q E hf hl R hQ
 replace q:=jN hf;clear hf;obtain ⟨_,b,hf⟩:=q
 replace q:=cN hf;clear hf;obtain ⟨x,hf⟩:=q
 ·obtain ⟨v1,v2,rfl⟩:=dC hl rfl
  replace R:Rel G fi h₀ L σ ((.str x,v1)::(b,v2)::held) s:=R
  split at hf
  ·rename_i ys e
   split at hf
   ·rename_i ls e2
    split at hf
    ·rename_i hc
     cases hf
     obtain ⟨m,α,N,R'⟩:=id R
     obtain ⟨t,rfl⟩:=(R'.held (_,v1) (.head _)).str_inv
     obtain ⟨y,ws,k,rfl,q1,q2,q3,q4,q5⟩:=R'.lst e (R'.held (b,v2) (.tail _ (.head _)))
     have hlen:((ls.map fun l=>(⟨l.toArray⟩:PySem.Str)).map (·.length)).sum=(ls.map (·.length)).sum:=by
      rw [List.map_map];congr 1
     refine cO (join_list q5 (tZ e2 q2 q3) (by rw [hlen,bP,List.length_map];exact lin1 (.l (.a .v0 .v1) (.k 16777216)) (.l (.a .v0 .v1) (.k 65536)) (.w [1,1]) rfl (.n2 _ _) hc.2) fun t' k' hk=> ?_)
     rw [aX4]
     exact hQ _ s.heap k' ((R.tail.tail.toks (Nat.lt_of_lt_of_le R.tok hk)).holdP .str)
    ·cases hf
   ·cases hf
  ·cases hf
theorem vG {vs:List Value}{ns:List Int} (h:IntsAre vs ns):(ns.map PV.int).length=vs.length∧∀(α:List Addr) (N:List (Addr×Obj)),∀p∈(ns.map PV.int).zip vs,Rep α N p.1 p.2:=by
 induction h with
 | nil=>exact ⟨rfl,fun z_ z_ p hp=>by cases hp⟩
 | cons n t _ ih=>
  refine ⟨by simp [←ih.1],fun α N p hp=> ?_⟩
  rw [List.map_cons,List.zip_cons_cons] at hp
  rcases List.mem_cons.mp hp with rfl | hp
  ·exact .int
  ·exact ih.2 α N p hp
noncomputable def onR {α:Type} (a:Addr) (f:PM α):PV→PM α
 | .glob (.ref b)=>if b=a then f else bI
 | _=>bI
inductive OnR {α:Type} (a:Addr) (f:PM α) (σ:St) (c:α) (σ':St):PV→Prop
 | mk (h:f σ= .ok c σ'):OnR a f σ c σ' (.glob (.ref a))
theorem aG9 {α:Type}{a:Addr}{f:PM α}{σ σ':St}{p:PV}{c:α} (h:onR a f p σ= .ok c σ'):OnR a f σ c σ' p:=by
 cases p with
 | glob v=>cases v with
  | ref b=>
   by_cases e:b=a
   ·subst e
    exact .mk (by rw [←h];exact (congrFun (if_pos rfl) σ).symm)
   ·rw [show onR a f (.glob (.ref b))=bI from if_neg e] at h
    cases h
  | _=>cases h
 | _=>cases h
end
end
section
variable {a:Addr}
section
variable {G:Glb}{fi:FI}
theorem RelAt.pushAt {h₀:Heap}{L:Addr}{σ:St}{held:List (PV×Value)}{m:PySem.Str→Option Value}{α:List Addr}{N:List (Addr×Obj)}{s:Shared} (R:RelAt G fi h₀ L σ held m α N s) {o:Obj}{h':Heap}{t':Tok}
  (ha:s.heap.objs.size≤a) (F:Fr h₀ L h' m) (N':News h₀ L h' ((a,o)::N)) (ht:0<t'):RelAt G fi h₀ L σ held m α ((a,o)::N) (Sh s h' t')∧a∉α:=by
 have mono:∀{pv v},Rep α N pv v→Rep α ((a,o)::N) pv v:=fun h=>h.mono (fun p hp q=>⟨.tail _ hp,q⟩) (fun z_ z_ e=>e)
 have hfr:a∉α:=fun h=>by
  obtain ⟨o',ho⟩:=R.alpha h
  exact absurd (R.lt ho) (Nat.not_lt.mpr ha)
 refine ⟨⟨F,N', ?_,R.an,R.len, ?_, ?_,fun p hp=>mono (R.held p hp),ht,R.vlen,fun p hp=>⟨.tail _ (R.pin p hp).1,(R.pin p hp).2⟩⟩,hfr⟩
 ·rw [List.map_cons,List.nodup_cons]
  refine ⟨fun hm=> ?_,R.nd⟩
  obtain ⟨p,hp,e⟩:=List.mem_map.mp hm
  have:=R.lt hp
  have e':p.1=a:=e
  rw [e'] at this
  exact absurd this (Nat.not_lt.mpr ha)
 ·intro k b c hb hc
  have h:=R.cells k b c hb hc
  induction c with
  | list xs=>obtain ⟨vs,n,h1,h2,h3,h4⟩:=h;exact ⟨vs,n, .tail _ h1,h2,fun p hp=>mono (h3 p hp),h4⟩
  | bk ns vs=>obtain ⟨o',kvs,h1,h2⟩:=h;exact ⟨o',kvs, .tail _ h1,h2⟩
  | dct ns vs=>
   obtain ⟨es,n,h1,h2,h3,h4,h5⟩:=h
   exact ⟨es,n, .tail _ h1,h2,h3,fun i x pv e1 e2=>(h4 i x pv e1 e2).imp id fun ⟨q,v,e3,e4⟩=>⟨q,v,e3,mono e4⟩,h5⟩
 ·intro i x pv e1 e2
  exact (R.vars i x pv e1 e2).imp id fun ⟨q,v,e3,e4⟩=>⟨q,v,e3,mono e4⟩
noncomputable def dZ {β:Type} (l:List β) (a b:Option Int):List β:=(l.drop (a.elim 0 (clipAt l.length))).take (b.elim l.length (clipAt l.length)-a.elim 0 (clipAt l.length))
noncomputable def onO {α β:Type} (f:α→PM β):Option α→PM β
 | some x=>f x
 | none=>bI
inductive OnO {α β:Type} (f:α→PM β) (σ:St) (c:β) (σ':St):Option α→Prop
 | mk (x:α) (h:f x σ= .ok c σ'):OnO f σ c σ' (some x)
theorem aH0 {α β:Type}{f:α→PM β}{σ σ':St}{o:Option α}{c:β} (h:onO f o σ= .ok c σ'):OnO f σ c σ' o:=by
 cases o with
 | some x=>exact .mk x h
 | none=>cases h
noncomputable def oO (a:Addr) (ns:List Int) (x fa fb:PM PV):PM PV:=bnd x fun o=>bnd fa fun p=>bnd fb fun q=>onR a (onO (fun lo=>onO (fun hi=>aL (.seq false ((dZ ns lo hi).map .int))) (sB q)) (sB p)) o
theorem yN {p:PV}{i:Option Int}{v:Value} (h:(i=none∧v= .none)∨∃k t,i=some k∧v= .int k t):IsPart v i:=by
 rcases h with ⟨rfl,rfl⟩ | ⟨k,t,rfl,rfl⟩
 ·exact .none
 ·exact .int k t
theorem xJ {vs:List Value}{ns:List Int} (h:IntsAre vs ns) (lo hi:Option Int):IntsAre (dZ vs lo hi) (dZ ns lo hi):=by
 unfold dZ
 rw [h.length]
 exact (h.drop _).take _
set_option tactic.hygienic true in
theorem aQ9 {ns:List Int} (hb:(a,ns)∈fi.base) {v:Expr}{lo up:Option Expr}{p pos:Pos}{fv fa fb:PM PV} (hv:EvR G fi v fv) (ha:rP G fi lo fa) (hu:rP G fi up fb)
  (hs:∀(l:Addr) (i:Addr),subscripted (.Slice lo up none p) false (.ref l) (.ref i)=operate [.ref i, .ref l] (getItem (.ref l) (.ref i))) (ht:∀(l:Addr) r,letTemporaryGo v (.ref l) r=pure ()):
  EvR G fi (.Subscript v (.Slice lo up none p) pos) (oO a ns fv fa fb):=by
 intro A h₀ L env C held s σ pv σ' Q E hf R hQ
 refine cps fun GC hGC=> ?_
 obtain ⟨o,σ₁,h1,hf1⟩:=aG hf
 obtain ⟨x,σ₂,h2,hf2⟩:=aG hf1
 obtain ⟨y,σ₃,h3,hf3⟩:=aG hf2
 refine hGC ?_
 refine Subscript_ (hv A h₀ L env C held s σ o σ₁ _ _ h1 R fun vo h' t' R1=> ?_)
 refine wpAny_Slice (ha A h₀ L env C _ _ σ₁ x σ₂ _ _ h2 R1 fun va h'' t'' R2=> ?_)
 refine hu A h₀ L env C _ _ σ₂ y _ _ _ h3 R2 fun vb h3' t3 R3=> ?_
 rw [evalPart_none]
 refine wpAny_pure ?_
 refine cps fun GC hGC=> ?_
 obtain ⟨m,α,N,R3⟩:=R3
 refine hGC ?_
 replace q:=aG9 hf3;clear hf3;obtain ⟨hf3⟩:=q
 obtain ⟨p1,ea⟩:∃p1,sB x=p1:=⟨_,rfl⟩
 obtain ⟨p2,eb⟩:∃p2,sB y=p2:=⟨_,rfl⟩
 rw [ea,eb] at hf3
 replace q:=aH0 hf3;clear hf3;obtain ⟨a',hf3⟩:=q
 replace q:=aH0 hf3;clear hf3;obtain ⟨b',hf3⟩:=q
 ·skip
  ·obtain ⟨rfl,rfl⟩:=aJ hf3
   have:=(R3.held (_,vo) (.tail _ (.tail _ (.head _)))).glob_inv
   subst this
   have ia:=kS ea (R3.held (_,va) (.tail _ (.head _)))
   have ib:=kS eb (R3.held (_,vb) (.head _))
   refine cps fun GC hGC=> ?_
   obtain ⟨ws,g1,g2,g3⟩:=C.bs _ hb
   refine hGC ?_
   have g4:(Sh s h3' t3).heap.IsList a ws.toArray:=let ⟨o,ho,r⟩:=g1;⟨o,R3.fr.keep _ _ ho,r⟩
   refine slice_list (s:=Sh s h3' t3) R3.fr R3.nw g4 (yN (p:=x) ia) (yN (p:=y) ib) (fun h4 F4 N4=> ?_) (hs a _) (ht a) (by
    rw [List.size_toArray,g2.length];have:ns.length≤1000:=g3;rw [sizeLine_eq];exact lin1 (.l .v0 (.k 16777216)) (.l .v0 (.k 1000)) (.w [1,1]) rfl (.n1 _) g3)
   rw [slicePick_plain] at N4
   have ew:(List.take (b'.elim ws.toArray.size (clipAt ws.toArray.size)-a'.elim 0 (clipAt ws.toArray.size)) (List.drop (a'.elim 0 (clipAt ws.toArray.size)) ws.toArray.toList))=dZ ws a' b':=by
    simp [dZ]
   rw [ew] at N4
   have hz:=vG (xJ g2 a' b')
   obtain ⟨R4,hna⟩:=(R3.drop (held':=held) fun p hp=> .tail _ (.tail _ (.tail _ hp))).pushAt (a:=(Sh s h3' t3).heap.objs.size+1) (Nat.le_succ _) F4 N4 R3.tok
   refine hQ _ h4 t3 ⟨m,α,_,R4.hold (.seq (tup:=false) (vs:=dZ ws a' b') (.head _) hna hz.1 fun q hq=>hz.2 _ _ q hq)⟩
end
end
section
variable {α:List Addr}{N:List (Addr×Obj)}{pv:PV}{h₀:Heap}{L:Addr}{σ:St}{held:List (PV×Value)}{s:Shared}{A:Around}{env:Env}{scope:Scope}{elt iter:Expr}{x:PySem.Str}{pos px:Pos}{ifs:List Expr}
noncomputable def relF (fi:FI) (scope:Scope):Scope:={scope with names:=scope.names.map fun (n,k)=>if (k == .free&&fi.scope.names.lookup n==some .cell) then (n, .cell) else (n,k)}
@[reducible] noncomputable def FI.comp (fi:FI) (scope:Scope) (x:PySem.Str) (pv:PV) (cb:List (PySem.Str×PV)):FI:=
 {qual:=fi.qual,scope:=relF fi scope,vnames:=fi.vnames,lv:=fi.lv,cmp:=true,base:=fi.base,bind:=[(x,pv)],cbind:=cb}
def zH (G:Glb) (fi:FI) (ifs:List Expr) (f:PM Bool):Prop:=
 ∀(A:Around) (h₀:Heap) (L:Addr) (env:Env),Cx G fi A h₀ L env→∀(held:List (PV×Value)) (s:Shared) (σ:St) (b:Bool) (σ':St) (Q:Bool→Shared→Prop) (E:Value→Shared→Prop),
  f σ= .ok b σ'→Rel G fi h₀ L σ held s→(∀h' t',Rel G fi h₀ L σ' held (Sh s h' t')→Q b (Sh s h' t'))→
  wpAny (model G.prog G.w) A (forIn ifs true fun c r=>if r=true then do let ok ←isTrue c env (eval c env);pure (ForInStep.yield ok) else pure (ForInStep.yield r)) Q E s
noncomputable def jQ (k:Nat) (t:PV→PM Bool) (e:PV→PM PV):List PV→PM PV
 | []=>aL (.cell k)
 | x::r=>if lZ x then bnd (t x) fun b=>if b then bnd (e x) fun v=>bnd (jH [.cell k,v]) fun z_=>jQ k t e r else jQ k t e r else bI
theorem yY {k:Nat}{t:PV→PM Bool}{e:PV→PM PV}{x:PV}{r:List PV}:jQ k t e (x::r)=if lZ x then bnd (t x) fun b=>if b then bnd (e x) fun v=>bnd (jH [.cell k,v]) fun z_=>jQ k t e r else jQ k t e r else bI:=rfl
noncomputable def hV (f:PM (List PV)) (t:PV→PM Bool) (e:PV→PM PV):PM PV:=bnd f fun xs=>fun σ=>jQ σ.cells.length t e xs {σ with cells:=σ.cells++[.list []]}
section
variable {G:Glb}{fi:FI}
theorem rN:zH G fi [] (aL true):=by
 intro A h₀ L env C held s σ b σ' Q E hf R hQ
 obtain ⟨rfl,rfl⟩:=aJ hf
 exact wpAny_tests_nil (hQ s.heap s.toks R)
theorem zU {v:Value} (hs:lZ pv=true) (h:Rep α N pv v):Plain pv v:=by
 induction h <;> first | constructor | (cases hs;done)
theorem RelAt.refi {fi':FI} (hv:fi'.vnames=fi.vnames) {m:PySem.Str→Option Value} (R:RelAt G fi h₀ L σ held m α N s):
  RelAt G fi' h₀ L σ held m α N s:=⟨R.fr,R.nw,R.nd,R.an,R.len,R.cells,by refine hv.symm▸ ?_;exact R.vars,R.held,R.tok,by refine hv.symm▸ ?_;exact R.vlen,R.pin⟩
theorem wY (C:Cx G fi A h₀ L env) (scope:Scope):relabel scope env=relF fi scope:=by
 unfold relabel relF
 have h1:(env.scope.kind==ScopeKind.function)=true:=by rw [C.sc,C.ok.kind];rfl
 have h2:∀n,env.kindOf n=fi.scope.names.lookup n:=fun n=>by unfold Env.kindOf;rw [C.sc]
 simp only [h1,h2,Bool.and_true]
def tR (scope:Scope) (cb:List (PySem.Str×PV)):Prop:=
 ∀env:Env,(∀p∈cb,∃c,env.cells.lookup p.1=some c)→∃cl,closureFor scope env=pure cl∧∀p∈cb,cl.lookup p.1=env.cells.lookup p.1
theorem rJ (h:∀x∈scope.names,x.2≠ .free):tR scope []:=fun env z_=>⟨[],closureFor_none h,fun p hp=>by cases hp⟩
inductive CmpI (G:Glb) (fi:FI) (h₀:Heap) (L I Cc:Addr) (O:Nat→Obj→Prop) (srcp:List (Addr×Obj)) (H:List (PV×Value)) (xs:List PV) (F:List PV→PM PV) (pv:PV) (σ':St) (s:Shared):Nat→Shared→Prop
 | mk (i:Nat) (oi oc:Obj) (es:Array DictEntry) (ep:Nat) (σ:St) (h':Heap) (t':Tok) (hO:O i oi) (hle:i≤xs.length) (R:Rel ((G.pin [(Cc,oc)]).pin ((I,oi)::srcp)) fi h₀ L σ H (Sh s h' t')) (hd:oc.data= .dict es ep) (hk:StrKeys es) (hf:F (xs.drop i) σ= .ok pv σ'):
  CmpI G fi h₀ L I Cc O srcp H xs F pv σ' s (xs.length-i) (Sh s h' t')
theorem CmpI.el {h₀:Heap}{L I Cc:Addr}{O:Nat→Obj→Prop}{srcp:List (Addr×Obj)}{H:List (PV×Value)}{xs:List PV}{F:List PV→PM PV}{pv:PV}{σ':St}{s:Shared}{P:Nat→Shared→Prop}
  (h:∀i oi oc es ep σ h' t',O i oi→i≤xs.length→Rel ((G.pin [(Cc,oc)]).pin ((I,oi)::srcp)) fi h₀ L σ H (Sh s h' t')→oc.data= .dict es ep→StrKeys es→F (xs.drop i) σ= .ok pv σ'→P (xs.length-i) (Sh s h' t')):
  ∀n s₁,CmpI G fi h₀ L I Cc O srcp H xs F pv σ' s n s₁→P n s₁:=fun z_ z_ q=>match q with | .mk a b c d e f g i j k l m n o=>h a b c d e f g i j k l m n o
theorem rI {fpos:Pos}{f:PM (List PV)}{t:PV→PM Bool}{e:PV→PM PV} (cb:List (PySem.Str×PV)) (hcb:∀p∈cb,p∈fi.cbind)
  (hi:wD G fi iter f) (ht:∀P pv,lZ pv=true→zH (G.pin P) (fi.comp scope x pv cb) ifs (t pv)) (he:∀P pv,lZ pv=true→EvR (G.pin P) (fi.comp scope x pv cb) elt (e pv))
  (hclos:tR scope cb) (hkind:scope.kind= .function) (hcell:∀y∈scope.names,y.2≠ .cell) (hnames:∀y∈scope.names,y.2= .local→scope.names.lookup y.1=some .local) (hx:scope.names.lookup x=some .local)
  (hs:∀env v,foldedSetIterable iter env v=pure v)
  (C:Cx G fi A h₀ L env) {σ':St}{use:Option (Value→Sem Unit)}{Q:Value→Shared→Prop}{E:Value→Shared→Prop}
  (hf:hV f t e σ= .ok pv σ') (R:Rel G fi h₀ L σ held s)
  (hfin:∀k D Cc oc es ep h' t',pv= .cell k→Rel (G.pin [(Cc,oc)]) fi h₀ L σ' ((.cell k, .ref D)::held) (Sh s h' t')→oc.data= .dict es ep→StrKeys es→(∀p∈G.pins,p.1≠Cc)→
   compPost (model G.prog G.w) A E use Q (.ref D) Cc (.ok .next) (Sh s h' t')):
  wpAny (model G.prog G.w) A (comprehension (.ListComp elt [⟨.Name x px,iter,ifs,0⟩] scope pos) scope env fpos (newList []) false (eval iter env) use) Q E s:=by
 refine cps fun GC hGC=> ?_
 obtain ⟨xs,σ₁,h1,h2⟩:=aG hf
 have hcells:∀p∈cb,∃c,env.cells.lookup p.1=some c:=fun p hp=>by
  obtain ⟨v,c,o,q1,_⟩:=C.cb p (hcb p hp)
  exact ⟨c,q1⟩
 obtain ⟨cl,hcl,hclb⟩:=hclos env hcells
 refine hGC ?_
 refine wpAny_comprehension_free (use:=use) rfl (hs env) hcl hkind hnames ?_
 refine hi A h₀ L env C held s σ xs σ₁ _ _ h1 R fun I hI tI hr=> ?_
 refine cps fun GC hGC=> ?_
 obtain ⟨hx',O,P,srcp,o,It,h0,R2,hpins,hP⟩:=hr
 obtain ⟨m,α,N,R2⟩:=R2
 refine hGC ?_
 have hIm:=R2.pin (I,o) (.head _)
 have hfr:∀p∈N,p.1≠hI.objs.size:=fun p hp=>Nat.ne_of_lt (R2.lt hp)
 have R3:=R2.pushCell (o:=⟨.type "list",Option.none, .seq ([]:List Value).toArray 0, #[]⟩) (c:= .list []) rfl ⟨[],0, .head _,rfl,(fun p hp=>by cases hp),Nat.zero_le _⟩
 refine wpAny_newObj_type (wpAny_newFunctionEnv hcell (by intro y hy;simp at hy) (fun h₁ hns₁ hsb₁=> ?_) hkind)
 dsimp only at hns₁ hsb₁ ⊢
 generalize hH2:hI.push {cls:= .type "list",dict:=Option.none,data:= .seq ([]:List Value).toArray}=H2 at hns₁ hsb₁ R3 ⊢
 refine cps fun GC hGC=> ?_
 obtain ⟨oc0,es0,ep0,g1,g2,g3,g4⟩:=hns₁
 have hC:H2.objs.size=hI.objs.size+1:=by rw [←hH2,Heap.size_push]
 have keep1:∀b ob,H2.get? b=some ob→h₁.get? b=some ob:=fun b ob e=>hsb₁.extBut b ob (Nat.ne_of_lt (Heap.lt_size e)) (Heap.get?_push_of_some _ e)
 have F1:Fr h₀ L h₁ m:=R3.fr.keeps keep1
 have hCL:H2.objs.size≠L:=Nat.ne_of_gt R3.fr.ns.lt
 have hC0:h₀.get? H2.objs.size=none:=Heap.get?_none_of_le (Nat.le_trans R3.fr.above (Nat.le_of_lt R3.fr.ns.lt))
 have N1:News h₀ L h₁ ((H2.objs.size,oc0)::(hI.objs.size,⟨.type "list",Option.none, .seq ([]:List Value).toArray 0, #[]⟩)::N):=by
  exact fc ⟨g1,hCL,hC0⟩ fun p hp=>⟨keep1 _ _ (R3.nw p hp).1,(R3.nw p hp).2⟩
 obtain ⟨R4,hCα⟩:=R3.pushAt (a:=H2.objs.size) (o:=oc0) (t':=tI) (Nat.le_refl _) F1 N1 R3.tok
 have hCN:∀p∈(hI.objs.size,(⟨.type "list",Option.none, .seq ([]:List Value).toArray 0, #[]⟩:Obj))::N,p.1≠H2.objs.size:=fun p hp=>Nat.ne_of_lt (R3.lt hp)
 have hCI:H2.objs.size≠I:=fun q=>hCN _ (.tail _ hIm.1) q.symm
 have hCsrc:∀p∈srcp,p.1≠H2.objs.size:=fun p hp=>hCN _ (.tail _ (R2.pin p (List.mem_append_left _ (.tail _ hp))).1)
 have hCp:∀p∈G.pins,p.1≠H2.objs.size:=fun p hp=>hCN _ (.tail _ (R2.pin p (List.mem_append_right _ hp)).1)
 obtain ⟨Cc,hCc⟩:∃Cc,Cc=H2.objs.size:=⟨_,rfl⟩
 obtain ⟨D,hD⟩:∃D,D=hI.objs.size:=⟨_,rfl⟩
 refine hGC ?_
 rw [←hCc] at R4 hCI hCsrc hCp hCα ⊢
 rw [←hD] at R4 ⊢
 have hCα':Cc∉α++[D]:=by rw [hD];exact hCα
 let k:=σ₁.cells.length
 have hk:(α++[D])[k]? =some D:=by
  have:k=α.length:=by rw [R2.len]
  rw [this];simp
 let H:List (PV×Value):=(.cell k, .ref D)::(hx'++held)
 have R5:RelAt ((G.pin [(Cc,oc0)]).pin ((I,o)::srcp)) fi h₀ L {σ₁ with cells:=σ₁.cells++[.list []]} H m (α++[D]) _ (Sh s h₁ tI):=
  (R4.hold (.cell hk)).repin rfl (fp (fun p hp=>R4.pin p (List.mem_append_left _ hp)) (fc ⟨.head _,hCα'⟩ fun p hp=>R4.pin p (List.mem_append_right _ hp)))
 have cx:∀(P':List (Addr×Obj)) (pv:PV) (v:Value) (oc:Obj) (es:Array DictEntry) (ep:Nat),(Cc,oc)∈P'→oc.data= .dict es ep→StrKeys es→nsFind es x=some v→Plain pv v→
   Cx (G.pin P') (fi.comp scope x pv cb) A h₀ L (compEnvC scope cl Cc env):=by
  intro P' pv v oc es ep q1 q2 q3 q4 q5
  refine ⟨⟨⟨?_,C.ok.nd,(fun e=>by cases e),C.ok.nodbg⟩,(fun e=>by cases e), ?_,C.glo,C.bui,C.X,C.T,C.B,C.hd,C.bs, ?_, ?_,fun e=>by cases e⟩,C.dep,C.un⟩
  ·exact hkind
  ·exact wY C scope
  ·exact fc ⟨v,oc,es,ep,List.mem_append_left _ q1,q2,q3,q4, .plain q5⟩ fn
  ·intro p hp
   refine cps fun GC hGC=> ?_
   obtain ⟨v,c,o,w1,w2,w3,w4⟩:=C.cb p (hcb p hp)
   refine hGC ?_
   refine ⟨v,c,o, ?_,List.mem_append_right _ w2,w3,w4.mono fun q hq=>List.mem_append_right _ hq⟩
   show cl.lookup p.1=some c
   rw [hclb p hp];exact w1
 have loop:codeAny (model G.prog G.w) A (.compLoop (.ListComp elt [⟨.Name x px,iter,ifs,0⟩] scope pos) 0 (.ref I) (.ref D) (compEnvC scope cl Cc env)) (compPost (model G.prog G.w) A E use Q (.ref D) Cc) (Sh s h₁ tI):=by
  refine codeAny_compLoop_tests (CmpI G fi h₀ L I Cc O srcp H xs (jQ k t e) pv σ' s) (CmpI.el fun i oi oc es ep σ₂ h3 t3 hO hle R6 hoc hkeys hfl=> ?_) xs.length (.mk 0 o oc0 es0 ep0 _ h₁ tI h0 (Nat.zero_le _) ⟨m,_,_,R5⟩ g2 g3 h2) (fun z_=>rfl)
  refine cps fun GC hGC=> ?_
  obtain ⟨m,α,N,R6⟩:=R6
  refine hGC ?_
  have hIi:=R6.pin (I,oi) (.head _)
  have hCi:=R6.pin (Cc,oc) (List.mem_append_right _ (.head _))
  have hget:=(R6.nw _ hIi.1).1
  have hsrc:∀p∈srcp,(Sh s h3 t3).heap.get? p.1=some p.2:=fun p hp=>(R6.nw _ (R6.pin p (List.mem_append_left _ (.tail _ hp))).1).1
  have hpc:∀p∈(G.pin [(Cc,oc)]).pins,p.1≠I:=fc hCI hpins
  by_cases hlt:i<xs.length
  ·refine It.item A _ _ i oi _ hlt hget hO hsrc fun v h4 t4 o' hPv ho' hO' hsb htk=> ?_
   have R7:=R6.stepIt (It.cls i oi hO) hsb ho' htk It.src hpc
   refine cps fun GC hGC=> ?_
   obtain ⟨z,hzi,hzv⟩:=hP i v hPv
   refine hGC ?_
   have hd:xs.drop i=z::xs.drop (i+1):=by
    rw [List.drop_eq_getElem_cons hlt]
    have:xs[i]=z:=by
     have:=List.getElem?_eq_getElem hlt
     rw [hzi] at this
     exact (Option.some.inj this).symm
    rw [this]
   rw [hd] at hfl
   rw [yY] at hfl
   split at hfl
   ·rename_i hsc
    have hpl:Plain z v:=by
     rcases hzv with hm | hm
     ·exact zU hsc (R7.held _ (.tail _ (List.mem_append_left _ hm)))
     ·exact hm
    have hC7:=R7.pin (Cc,oc) (List.mem_append_right _ (.head _))
    have hnsC:(Sh s h4 t4).heap.Ns (compEnvC scope cl Cc env).locals (nsFind es):=⟨oc,es,ep,(R7.nw _ hC7.1).1,hoc,hkeys,fun z_=>rfl⟩
    refine wpAny_assign_Name (wpAny_storeName_local (lookup_relabel_local hx) hnsC (fun h5 hns5 hsb5=> ?_) (by simp [compEnvC,relabel,hkind]))
    refine cps fun GC hGC=> ?_
    obtain ⟨oc',es',ep',w1,w2,w3,w4⟩:=hns5
    have R8:RelAt ((G.pin ((I,o')::srcp)).pin [(Cc,oc)]) fi h₀ L σ₂ H m α _ (Sh s h4 t4):=R7.repin rfl (fp (fc hC7 fn) (fp (fun p hp=>R7.pin p (List.mem_append_left _ hp)) fun p hp=>R7.pin p (List.mem_append_right _ (List.mem_append_right _ hp))))
    have R9:=R8.stepIt (t':=t4+1) (pM hoc) hsb5 w1 (Nat.le_succ _) fn (fc (Ne.symm hCI) (fp hCsrc hCp))
    let P':List (Addr×Obj):=(Cc,oc')::(I,o')::srcp
    have R10:=RelAt.refi (fi:=fi) (fi':=fi.comp scope x z cb) rfl (R9.repin (G':=G.pin P') rfl fun p hp=>R9.pin p hp)
    have Cc':=cx P' z v oc' es' ep' (.head _) w2 w3 (by rw [w4 x];exact if_pos rfl) hpl
    obtain ⟨b,σ₃,k1,k2⟩:=aG hfl
    refine hGC ?_
    refine ht P' z hsc A h₀ L _ Cc' H _ σ₂ b σ₃ _ _ k1 ⟨m,α,_,R10⟩ fun h6 t6 R11=> ?_
    have back:∀{σ₅:St}{h7:Heap}{t7:Tok},Rel (G.pin P') (fi.comp scope x z cb) h₀ L σ₅ H (Sh s h7 t7)→jQ k t e (xs.drop (i+1)) σ₅= .ok pv σ'→
      ∃n',n'<xs.length-i∧CmpI G fi h₀ L I Cc O srcp H xs (jQ k t e) pv σ' s n' (Sh s h7 t7):=by
     intro σ₅ h7 t7 R12 hr
     refine cps fun GC hGC=> ?_
     obtain ⟨m,α,N,R12⟩:=R12
     refine hGC ?_
     refine ⟨_,Nat.sub_lt_sub_left hlt (Nat.lt_succ_self i), .mk (i+1) o' oc' es' ep' σ₅ h7 t7 hO' hlt ⟨m,α,N, ?_⟩ w2 w3 hr⟩
     refine (RelAt.refi (fi:=fi.comp scope x z cb) (fi':=fi) rfl R12).repin rfl (fp (fun p hp=>R12.pin p (List.mem_append_left _ (.tail _ hp))) (fc (R12.pin _ (.head _)) fun p hp=>R12.pin p (List.mem_append_right _ hp)))
    induction b with
    | false=>
     simp only [Bool.false_eq_true,if_false] at k2 ⊢
     exact back R11 k2
    | true=>
     simp only [if_true] at k2 ⊢
     refine cps fun GC hGC=> ?_
     obtain ⟨y,σ₄,k3,k4⟩:=aG k2
     obtain ⟨z2,σ₅,k5,k6⟩:=aG k4
     refine hGC ?_
     refine he P' z hsc A h₀ L _ Cc' H _ σ₃ y σ₄ _ _ k3 R11 fun vy h7 t7 R12=> ?_
     refine vX _ A h₀ L _ Cc' H _ σ₄ σ₅ [.cell k,y] [.ref D,vy] z2 _ _ k5 rfl (R12.drop (fc (.tail _ (.head _)) (fc (.head _) fun z_ hp=> .tail _ hp))) fun vz h8 t8 R13=>back R13.tail k6
   ·cases hfl
  ·have hin:i=xs.length:=Nat.le_antisymm hle (Nat.le_of_not_lt hlt)
   subst hin
   rw [List.drop_length] at hfl
   obtain ⟨rfl,rfl⟩:=aJ hfl
   refine It.done A _ _ oi _ C.hd hget hO hsrc fun h4 hext=> ?_
   obtain ⟨N',R7⟩:=R6.endIt (It.cls _ oi hO) hext hpc
   exact hfin k D Cc oc es ep h4 t3 rfl ⟨m,α,N',R7.drop (fc (.head _) fun z_ hp=> .tail _ (List.mem_append_right _ hp))⟩ hoc hkeys hCp
 exact codeAny_compStart_list loop (It.self A _ _ 0 o _ (R5.nw _ (R5.pin (I,o) (.head _)).1).1 h0 loop)
theorem vT {Cc:Addr}{oc:Obj}{es:Array DictEntry}{ep:Nat} (R:Rel (G.pin [(Cc,oc)]) fi h₀ L σ held s) (hoc:oc.data= .dict es ep) (hk:StrKeys es) (hp:∀p∈G.pins,p.1≠Cc):
  s.heap.Ns Cc (nsFind es)∧∀h',Heap.SameBut Cc s.heap h'→Rel G fi h₀ L σ held (Sh s h' s.toks):=by
 refine cps fun GC hGC=> ?_
 obtain ⟨m,α,N,R⟩:=R
 refine hGC ?_
 have hC:=R.pin (Cc,oc) (.head _)
 refine ⟨⟨oc,es,ep,(R.nw _ hC.1).1,hoc,hk,fun z_=>rfl⟩,fun h' hsb=> ?_⟩
 have R8:RelAt (G.pin ((Cc,oc)::[])) fi h₀ L σ held m α N s:=R
 obtain ⟨N'',R9⟩:=R8.endIt (pM hoc) (h':=h') hsb.extBut hp
 exact ⟨m,α,N'',R9⟩
theorem R_comp {f:PM (List PV)}{t:PV→PM Bool}{e:PV→PM PV} (cb:List (PySem.Str×PV)) (hcb:∀p∈cb,p∈fi.cbind)
  (hi:wD G fi iter f) (ht:∀P pv,lZ pv=true→zH (G.pin P) (fi.comp scope x pv cb) ifs (t pv)) (he:∀P pv,lZ pv=true→EvR (G.pin P) (fi.comp scope x pv cb) elt (e pv))
  (hclos:tR scope cb) (hkind:scope.kind= .function) (hcell:∀y∈scope.names,y.2≠ .cell) (hnames:∀y∈scope.names,y.2= .local→scope.names.lookup y.1=some .local) (hx:scope.names.lookup x=some .local)
  (hs:∀env v,foldedSetIterable iter env v=pure v):EvR G fi (.ListComp elt [⟨.Name x px,iter,ifs,0⟩] scope pos) (hV f t e):=by
 intro A h₀ L env C held s σ pv σ' Q E hf R hQ
 rw [eval_ListComp]
 refine rI cb hcb hi ht he hclos hkind hcell hnames hx hs C (use:=none) hf R fun k D Cc oc es ep h' t' hpv R1 hoc hk hp=> ?_
 subst hpv
 obtain ⟨g1,g2⟩:=vT R1 hoc hk hp
 exact ⟨_,g1,fun h'' hsb=>hQ (.ref D) h'' t' (g2 h'' hsb)⟩
theorem aC5 {i:Nat}{y:PySem.Str}{py spos:Pos}{f:PM (List PV)}{t:PV→PM Bool}{e:PV→PM PV} (hy:nm fi i=some y)
  (hsw:∀L f cd,swapsWith (.ListComp elt [⟨.Name x px,iter,ifs,0⟩] scope pos) (some (.Name y py)) spos.line (envOfC fi.qual fi.scope L f cd)=pure true) (cb:List (PySem.Str×PV)) (hcb:∀p∈cb,p∈fi.cbind)
  (hi:wD G fi iter f) (ht:∀P pv,lZ pv=true→zH (G.pin P) (fi.comp scope x pv cb) ifs (t pv)) (he:∀P pv,lZ pv=true→EvR (G.pin P) (fi.comp scope x pv cb) elt (e pv))
  (hclos:tR scope cb) (hkind:scope.kind= .function) (hcell:∀y∈scope.names,y.2≠ .cell) (hnames:∀y∈scope.names,y.2= .local→scope.names.lookup y.1=some .local) (hx:scope.names.lookup x=some .local)
  (hs:∀env v,foldedSetIterable iter env v=pure v):ExR G fi (.Assign [.Name y py] (.ListComp elt [⟨.Name x px,iter,ifs,0⟩] scope pos) spos) (aF i (hV f t e)):=by
 intro A h₀ L env C held s σ fl σ' Q E hf R hQ
 obtain ⟨pv,σ₁,h1,h2⟩:=aG hf
 split at h2
 ·cases h2
 ·rename_i hu
  cases h2
  obtain ⟨f0,cd,henv⟩:=C.isenv (kW hy).1
  rw [exec_Assign_Name_used _ _ _ _ (by rw [henv];exact hsw L f0 cd)]
  refine wpAny_bind (wpAny_standAt (wpAny_bind ?_))
  skip
  refine wpAny_bind (wpAny_mono (rI cb hcb hi ht he hclos hkind hcell hnames hx hs C (use:=some (assign (.Name y py) env)) (Q:=fun z_ s'=>Q .next s') h1 R fun k D Cc oc es ep h' t' hpv R1 hoc hk hp=> ?_)
   (fun z_ s' hq=>wpAny_pure (wpAny_pure hq)) fun z_ z_ e=>e)
  subst hpv
  skip
  refine wpAny_assign_Name (fY (C.pin [(Cc,oc)]) hy (by simpa using hu) R1 fun h3 t3 R2=> ?_)
  obtain ⟨g1,g2⟩:=vT R2.tail hoc hk hp
  exact ⟨_,g1,fun h'' hsb=>hQ .next h'' t3 (g2 h'' hsb)⟩
end
end
section
variable {A:Around}{s:Shared}{L f:Addr}{h₀:Heap}{m:PySem.Str→Option Value}{env:Env}{body:List Stmt}{held:List (PV×Value)}{σ:St}{pvs:List PV}{α:List Addr}{N:List (Addr×Obj)}{fj:FI}{x:PySem.Str}
section
variable {G:Glb}{fi:FI}
set_option tactic.hygienic true in
theorem aB8 {nv:Nat}{F:PM Fl}{σ₁:St}{rv qv:PV}{α':List Addr}{N':List (Addr×Obj)}{v:Value}{h':Heap}{t':Tok}
  (e1:aQ nv F pvs σ= .ok rv σ₁) (hb:fE σ.cells.length σ₁.cells rv=some qv) (R0:RelAt G fi h₀ L σ held m α N s) (R1:RelAt G fi h₀ L σ₁ ((rv,v)::held) m α' N' (Sh s h' t'))
  (hα:∀(j:Nat) (a:Addr),α[j]? =some a→α'[j]? =some a):Rel G fi h₀ L ⟨σ.vars,(σ₁.cells.take σ.cells.length).map (eG σ.cells.length)⟩ ((qv,v)::held) (Sh s h' t'):=by
 have e1v:σ₁.vars=σ.vars:=by
  unfold aQ at e1
  split at e1 <;> cases e1 <;> rfl
 obtain ⟨vars1,cells1⟩:=σ₁
 simp only at e1v
 subst e1v
 have hln:α.length=σ.cells.length:=R0.len
 have hle:σ.cells.length≤α'.length:=by
  rw [←hln]
  by_cases h0:α.length=0
  ·exact Q58 (.n2 _ _) h0
  ·have hlt:α.length-1<α.length:=by exact Q59 (.n2 _ _) h0 rfl
   have:=hα (α.length-1) _ (List.getElem?_eq_getElem hlt)
   have:=aM this
   exact Q32 (.n3 _ _ _) this rfl
 have hvb:∀pv∈σ.vars,aN pv=false→Bel σ.cells.length pv:=by
  intro qv hq hqu
  obtain ⟨i,hi⟩:=List.mem_iff_getElem?.mp hq
  have hil:i<fi.vnames.length:=by have:=aM hi;have:=R0.vlen;exact Q60 (.n3 _ _ _) (by assumption) this
  rcases R0.vars i _ qv (List.getElem?_eq_getElem hil) hi with h | ⟨_,w,_,hr'⟩
  ·rw [h] at hqu;cases hqu
  ·rw [←hln];exact hr'.bel
 have hhb:∀p∈held,Bel σ.cells.length p.1:=fun p hp=>by rw [←hln];exact (R0.held p hp).bel
 have T:=(R1.drop (held':=held) fun p hp=> .tail _ hp).trunc hle hvb hhb
 refine ⟨m,α'.take σ.cells.length,N',T.hold ?_⟩
 have hrep:=R1.held (rv,v) (.head _)
 unfold fE at hb
 split at hb
 ·rename_i hs
  cases hb
  exact hrep.cut (oU hs (nU hrep))
 ·rename_i hs
  split at hb
  ·rename_i k
   split at hb
   ·rename_i xs hk
    split at hb
    ·rename_i hsc
     cases hb
     refine cps fun GC hGC=> ?_
     obtain ⟨a,ha,rfl⟩:=hrep.cell_inv
     obtain ⟨ws,n,c1,c2,c3,c4⟩:=R1.cells k a _ ha hk
     refine hGC ?_
     have hkn:¬k<σ.cells.length:=fun h=>hs (decide_eq_true h)
     refine .seq (tup:=false) (n:=n) c1 (fun hm=> ?_) c2 fun p hp=>(c3 p hp).cut (oT (List.all_eq_true.mp hsc _ (List.of_mem_zip hp).1))
     obtain ⟨i,hi⟩:=List.mem_iff_getElem?.mp hm
     have hin:i<σ.cells.length:=by have:=aM hi;simp at this;exact Q31 (.n4 _ _ _ _) this rfl
     rw [List.getElem?_take_of_lt hin] at hi
     have:=eV R1.an hi ha
     exact Q61 (.n3 _ _ _) hkn hin this
    ·cases hb
   ·cases hb
  ·cases hb
set_option tactic.hygienic true in
end
end
section
variable {a:Addr}{xs:List PV}{x:PySem.Str}
noncomputable def bA2:PV→PV→Option PV:=on2 (fun a b=>some (.int (a+b))) nn nn
noncomputable def xG:Value→PV
 | .str x _=> .str x.cps.toList
 | .int i _=> .int i
 | .bool b=> .bool b
 | .none=> .none
 | v=> .glob v
set_option tactic.hygienic true in
theorem pI (v:Value):Plain (xG v) v:=by
 induction v <;> first | exact .none | exact .bool | exact .int | exact .glob | skip
 rename_i x t
 have:x=⟨x.cps.toList.toArray⟩:=by cases x;simp
 show Plain (.str x.cps.toList) (.str x t)
 conv=>rhs;rw [this]
 exact .str
noncomputable def xH (K:Frag) (tup:Bool) (a:Addr):Option (List PV):=match K.lookup a with
 | some ⟨.type T,_, .seq vs _,_⟩=>if T=(if tup then "tuple" else "list") then some (vs.toList.map xG) else none
 | _=>none
set_option tactic.hygienic true in
theorem mM {K:Frag}{tup:Bool} (h:xH K tup a=some xs):∃d vs n sl,K.lookup a=some ⟨.type (if tup then "tuple" else "list"),d, .seq vs n,sl⟩∧xs=vs.toList.map xG:=by
 unfold xH at h
 split at h
 ·rename_i T d vs n sl e
  by_cases hT:T=(if tup then "tuple" else "list")
  ·rw [if_pos hT] at h
   cases h
   subst hT
   exact ⟨d,vs,n,sl,e,rfl⟩
  ·rw [if_neg hT] at h
   cases h
 ·cases h
section
variable {G:Glb}{fi:FI}
theorem aU5:Op2 G (inplaceOp .Add) bA2:=oZ (fun h hq=>by cases h;exact AutoIntOps.iadd_0 (hq _ _ .int (Nat.succ_pos _))) fun z_ h=>nomatch h
set_option tactic.hygienic true in
theorem wF {np:Pos}{sl:Expr}{pos:Pos}{fs:PM PV} (hk:fi.scope.names.lookup x=some .globalImplicit) (hd:(x==("__debug__" :PySem.Str))=false) (e:nsIn G.K mainGlobals x=some (some (.ref a)))
  (hq:xH G.K false a=some xs) (hs:EvR G fi sl fs) (hn:kU sl=true):EvR G fi (.Subscript (.Name x np) sl pos) (dM bG (aI (.seq false xs)) fs):=by
 intro A h₀ L env C held s σ pv σ' Q E hf R hQ
 obtain ⟨p0,σ₁,h1,hf⟩:=aG hf
 cases h1
 obtain ⟨b,σ₂,h2,h3⟩:=aG hf
 refine Subscript_ (fX hk hd e A h₀ L env C held s σ _ σ _ _ rfl R fun va h' t' R1=> ?_)
 obtain ⟨α,N,r⟩:=lH R1
 have:=r.glob_inv
 subst this
 refine hs A h₀ L env C _ _ σ b σ₂ _ _ h2 R1 fun vb h'' t'' R2=> ?_
 obtain ⟨d,vs,n,sl',g1,g2⟩:=mM hq
 obtain ⟨m,α,N,R3⟩:=R2
 unfold bG at h3
 split at h3
 ·rename_i e1;cases e1
 ·rename_i e1;cases e1
 ·rename_i tup ys i e1
  cases e1
  split at h3
  ·rename_i hz
   split at h3
   ·rename_i j hj
    cases h3
    obtain ⟨u,rfl⟩:=(R3.held (_,vb) (.head _)).int_inv
    have hl:(Sh s h'' t'').heap.IsList a vs.toList.toArray:=⟨_,(C.X.keeps R3.fr.keep) _ _ g1,rfl,n,by simp⟩
    have hjl:=(bZ hj).1
    have hlen:xs.length=vs.toList.length:=by rw [g2,List.length_map]
    have hjl2:j<vs.toList.length:=hlen▸hjl
    have e2:vs.toList[j]? =some vs.toList[j]:=List.getElem?_eq_getElem hjl2
    refine tail_any hl.typeIs slot_list_getitem.lookup (eB hl (hlen▸hz) (hlen▸hj) e2 ?_) (bV hn)
    have hx:xs.getD j .other=xG vs.toList[j]:=by
     rw [List.getD_eq_getElem?_getD,g2,List.getElem?_map,e2];rfl
    rw [hx] at hQ
    exact hQ _ h'' t'' ⟨m,α,N,(R3.drop fun p hp=> .tail _ (.tail _ hp)).hold (pI _).rep⟩
   ·cases h3
  ·cases h3
 ·cases h3
theorem FnAt.pin {fj:FI}{f:Addr}{params:List PySem.Str}{body:List Stmt} (H:FnAt G fj f params body) (P:List (Addr×Obj)):FnAt (G.pin P) fj f params body:=⟨H.ok,H.gen,H.co,H.nocell,H.bare,H.pre,H.at_⟩
end
end
section
variable {G:Glb}{C f:Addr}{fj:FI}{cx name x:PySem.Str}{body:List Stmt}{nv:Nat}{F:PM Fl}{o:Expr}{apos np pos:Pos}{args:List Expr}{fo:PM PV}{fs:List (PM PV)}
structure MethAt (G:Glb) (C:Addr) (fj:FI) (name:PySem.Str) (f:Addr) (params:List PySem.Str) (body:List Stmt):Prop where
 find:findIn G.K (.ref C) name=some (some (.ref f))
 plain:plainGet G.K C name=true
 fn:isFn G.K (.ref f)=true
 keep:keepIn G.K (.ref f)=true
 nott:name∉G.tabs.t 0
 at_:FnAt G fj f params body
theorem MethAt.pin {params:List PySem.Str} (H:MethAt G C fj name f params body) (P:List (Addr×Obj)):MethAt (G.pin P) C fj name f params body:=
 ⟨H.find,H.plain,H.fn,H.keep,H.nott,H.at_.pin P⟩
structure DefAt (G:Glb) (fj:FI) (name:PySem.Str) (f:Addr) (params:List PySem.Str) (body:List Stmt):Prop where
 ns:nsIn G.K mainGlobals name=some (some (.ref f))
 keep:keepIn G.K (.ref f)=true
 at_:FnAt G fj f params body
theorem DefAt.pin {params:List PySem.Str} (H:DefAt G fj name f params body) (P:List (Addr×Obj)):DefAt (G.pin P) fj name f params body:=
 ⟨H.ns,H.keep,H.at_.pin P⟩
theorem AttrOk.pin {id j:Nat} (H:AttrOk G C id j name) (P:List (Addr×Obj)):AttrOk (G.pin P) C id j name:=⟨H.hj,H.hg,H.hh,H.ha,H.hs,H.hp,H.ht⟩
theorem PF.pin {B:Ads} (F:PF G B) (P:List (Addr×Obj)):PF (G.pin P) B:=
 ⟨F.indentwidth.pin P,F.tabwidth.pin P,F.code.pin P,F.study_level.pin P,F.goodlines.pin P,F.continuation.pin P,F.stmt_start.pin P,F.stmt_end.pin P,F.lastch.pin P,F.lastopen.pin P,F.bracketing.pin P,
  F.cNone,F.cBack,F.cFirst,F.cNext,F.cBra,F.trans,F.junk,F.chew,F.str,F.len,F.range,F.tuple,F.junkK,F.chewK,F.strK,F.spK,F.trK⟩
structure NewAt (G:Glb) (C:Addr) (fj:FI) (name:PySem.Str) (f:Addr) (params:List PySem.Str) (body:List Stmt):Prop where
 ns:nsIn G.K mainGlobals name=some (some (.ref C))
 keep:keepIn G.K (.ref C)=true
 makes:makesIn G.K C=true
 init:findIn G.K (.ref C) "__init__" =some (some (.ref f))
 fn:isFn G.K (.ref f)=true
 at_:FnAt G fj f params body
theorem NewAt.pin {params:List PySem.Str} (H:NewAt G C fj name f params body) (P:List (Addr×Obj)):NewAt (G.pin P) C fj name f params body:=
 ⟨H.ns,H.keep,H.makes,H.init,H.fn,H.at_.pin P⟩
section
variable {G:Glb}{fi:FI}
theorem qC {params:List PySem.Str}
  (M:MethAt G C fj name f params body) (HB:dN G fj body F) (ho:EvR G fi o fo) (hbase:∀env,attributeBase o name env (eval o env)=eval o env) (hline:(apos.endLine==pos.line)=true) (hlen:fs.length<29)
  (H:EvsR G fi args fs) (hlv:fj.lv<fi.lv) (hn:fs.length+1=params.length) (hnv:fj.vnames.length=nv):
  EvR G fi (.Call (.Attribute o name apos) args [] pos) (cG C 0 fo fs (aQ nv F)):=bB4 M.plain M.find M.fn M.keep M.nott M.at_ HB ho hbase hline hlen H hlv hn hnv
theorem wE {params:List PySem.Str}
  (M:MethAt G C fj name f params body) (HB:dN G fj body F) (ho:EvR G fi o fo) (hbase:∀env,attributeBase o name env (eval o env)=eval o env) (hline:(apos.endLine==pos.line)=true) (hlen:fs.length<29)
  (H:EvsR G fi args fs) (hlv:fj.lv<fi.lv) (hn:fs.length+1=params.length) (hnv:fj.vnames.length=nv):
  EvR G fi (.Call (.Attribute o name apos) args [] pos) (cG C 0 fo fs (cE nv F)):=bB3 M.plain M.find M.fn M.keep M.nott M.at_ HB ho hbase hline hlen H hlv hn hnv
theorem R_defO {params:List PySem.Str} (D:DefAt G fj x f params body) (HB:dN G fj body F)
  (hk:fi.scope.names.lookup x=some .globalImplicit) (hd:(x==("__debug__" :PySem.Str))=false) (H:EvsR G fi args fs) (hlv:fj.lv<fi.lv) (hn:fs.length=params.length) (hnv:fj.vnames.length=nv):
  EvR G fi (.Call (.Name x np) args [] pos) (bnd (evL fs) (cE nv F)):=by
 subst hnv
 exact bB6 (fX hk hd D.ns) H D.keep D.at_ HB hlv hn
theorem R_newO {na:Nat}{params:List PySem.Str} (D:NewAt G C fj x f params body) (HB:dN G fj body F)
  (ht:(G.tabs.t 0).length=na) (hnd:(G.tabs.t 0).Nodup) (hna:na≤100)
  (hk:fi.scope.names.lookup x=some .globalImplicit) (hd:(x==("__debug__" :PySem.Str))=false) (H:EvsR G fi args fs) (hlv:fj.lv+1<fi.lv) (hn:fs.length+1=params.length) (hnv:fj.vnames.length=nv):
  EvR G fi (.Call (.Name x np) args [] pos) (aA2 C 0 na nv F fs):=by
 subst hnv
 exact R_new (fX hk hd D.ns) H D.keep D.makes D.init D.fn D.at_ HB hlv hn ht hnd hna
end
noncomputable abbrev mZ (B:Ads):PM Fl:=blk [aW B.C 0 0 (vr 1) (vr 0),aW B.C 0 1 (vr 2) (vr 0)]
noncomputable abbrev fZ (B:Ads):PM Fl:=blk [
 bD (orM (eqM (cD (vr 1)) (cI 0)) (eqM (itm (vr 1) fR) (cS "\n"))),
 aW B.C 0 2 (vr 1) (vr 0),
 aW B.C 0 3 (cI 0) (vr 0)]
end
end _M
end
section
open PySem PySem.W PySem.Calls PyProof.Rows Builtin Builtin.Str
namespace _M
section
noncomputable def dF (l:List Nat):List (List Nat):=(Txt.words ⟨l.toArray⟩).map fun x=>x.cps.toList
noncomputable def rW:List PV→PM PV:=g1 (onS fun l=>if l.length≤65536 then aL (.seq false ((dF l).map .str)) else bI)
noncomputable def pN (l y:List Nat):Option Nat:=(occurrences ⟨l.toArray⟩ ⟨y.toArray⟩ 0 (⟨l.toArray⟩:PySem.Str).length 1).head?
noncomputable def idxV:Option Nat→PM PV
 | some i=>aL (.int i)
 | none=>bI
noncomputable def sZ:List PV→PM PV:=g2 fun a b=>onS (fun l=>onS (fun y=>idxV (pN l y)) b) a
noncomputable def kZ:List PV→PM PV:=g2 fun a b=>onS (fun l=>onS (fun y=>if l.length≤65536 then aL (.str (l.dropWhile fun c=>y.contains c)) else bI) b) a
noncomputable abbrev bA1:PV→PV→Option PV:=bA
theorem lP {P:Nat→Bool}:∀l:List Nat,l.dropWhile P=l.drop (l.takeWhile P).length
 | []=>rfl
 | c::l=>by
  rw [List.dropWhile_cons,List.takeWhile_cons]
  cases P c
  ·rfl
  ·simp only [if_true,List.length_cons,List.drop_succ_cons];exact lP l
theorem aA4 (l y:List Nat):Txt.lstripChars ⟨l.toArray⟩ ⟨y.toArray⟩=⟨(l.dropWhile fun c=>y.contains c).toArray⟩:=by
 have hc:(y.toArray.contains:Nat→Bool)=fun c=>y.contains c:=by
  funext c;simp
 have hlo:stripLo (y.toArray.contains) true ⟨l.toArray⟩=(l.takeWhile fun c=>y.contains c).length:=by
  unfold stripLo
  rw [if_pos rfl,hc]
 unfold Txt.lstripChars Txt.stripBy PySem.stripSame PySem.stripped PySem.stripHi
 skip
 rw [hlo]
 simp only [Bool.false_eq_true,if_false,beq_self_eq_true,Bool.and_true]
 by_cases h0:(l.takeWhile fun c=>y.contains c).length=0
 ·rw [if_pos (by rw [h0];rfl),lP,h0];rfl
 ·rw [if_neg (by simpa using h0),strSub_mk,bP]
  congr 2
  rw [List.take_of_length_le (by rw [List.length_drop];exact Nat.le_refl _)]
  exact (lP l).symm
section
variable {G:Glb}{fi:FI}
theorem yF {α:List Addr}{N:List (Addr×Obj)}:∀(l:List (PySem.Str×Tok)),(((l.map (·.1)).map fun x=>x.cps.toList).map PV.str).length=(strValues l).length∧∀p∈(((l.map (·.1)).map fun x=>x.cps.toList).map PV.str).zip (strValues l),Rep α N p.1 p.2
 | []=>⟨rfl,fun p hp=>by cases hp⟩
 | (x,t)::l=>by
  obtain ⟨h1,h2⟩:=yF (α:=α) (N:=N) l
  refine ⟨by simp [strValues],fun p hp=> ?_⟩
  replace hp:p∈(PV.str x.cps.toList,Value.str x t)::(((l.map (·.1)).map fun x=>x.cps.toList).map PV.str).zip (strValues l):=hp
  rcases List.mem_cons.mp hp with rfl | hp
  ·have:x=⟨x.cps.toList.toArray⟩:=by cases x;simp
   show Rep α N (.str x.cps.toList) (.str x t)
   conv=>rhs;rw [this]
   exact .str
  ·exact h2 p hp
theorem aZ6:dX G (.builtin "str.split") rW:=by
 intro fi A h₀ L env C held s σ σ' pvs vs c Q E hf hl R hQ
 replace q:=rE hf;clear hf;obtain ⟨a,hf⟩:=q
 replace q:=cN hf;clear hf;obtain ⟨l,hf⟩:=q
 ·by_cases hz:l.length≤65536
  ·replace hf:(if l.length≤65536 then aL (.seq false ((dF l).map .str)) else bI) σ= .ok c σ':=hf
   rw [if_pos hz] at hf
   obtain ⟨rfl,rfl⟩:=aJ hf
   obtain ⟨v,rfl⟩:=iY hl rfl
   replace R:Rel G fi h₀ L _ ((.str l,v)::held) s:=R
   obtain ⟨m,α,N,R'⟩:=R
   obtain ⟨t,rfl⟩:=(R'.held (_,v) (.head _)).str_inv
   refine cO (splitN0 R'.fr R'.nw (fun ws h' k hw F' N' hk=> ?_) (by rw [bP,sizeLine_eq];lia))
   obtain ⟨R2,hna⟩:=(R'.drop (held':=held) fun p hp=> .tail _ hp).pushAt (t':=k) (Nat.le_refl _) F' N' (Nat.lt_of_lt_of_le R'.tok hk)
   obtain ⟨z1,z2⟩:=yF (α:=α) (N:=_::N) ws
   have e:(dF l).map PV.str=((ws.map (·.1)).map fun x=>x.cps.toList).map PV.str:=by
    unfold dF
    rw [←hw]
   refine hQ _ h' k ⟨m,α,_,R2.hold ?_⟩
   rw [e]
   exact .seq (tup:=false) (.head _) hna z1 z2
  ·replace hf:(if l.length≤65536 then aL (.seq false ((dF l).map .str)) else bI) σ= .ok c σ':=hf
   rw [if_neg hz] at hf
   cases hf
theorem aZ8:dX G (.builtin "str.index") sZ:=by
 intro fi A h₀ L env C held s σ σ' pvs vs c Q E hf hl R hQ
 replace q:=jN hf;clear hf;obtain ⟨a,b,hf⟩:=q
 replace q:=cN hf;clear hf;obtain ⟨l,hf⟩:=q
 replace q:=cN hf;clear hf;obtain ⟨y,hf⟩:=q
 replace hf:idxV (pN l y) σ= .ok c σ':=hf
 ·cases hi:pN l y with
  | none=>rw [hi] at hf;cases hf
  | some i=>
   rw [hi] at hf
   obtain ⟨rest,ho⟩:∃rest,occurrences ⟨l.toArray⟩ ⟨y.toArray⟩ 0 (⟨l.toArray⟩:PySem.Str).length 1=i::rest:=by
    unfold pN at hi
    exact List.head?_eq_some_iff.mp hi
   obtain ⟨rfl,rfl⟩:=aJ hf
   obtain ⟨v,u,rfl⟩:=dC hl rfl
   replace R:Rel G fi h₀ L _ ((.str l,v)::(.str y,u)::held) s:=R
   obtain ⟨α,N,r2,r1⟩:=qK R
   obtain ⟨t1,e9⟩:=r1.str_inv;rw [e9];clear e9
   obtain ⟨t2,e9⟩:=r2.str_inv;rw [e9];clear e9
   exact SC.index ho (hQ _ s.heap (s.toks+1) ((R.tail.tail.toks (Nat.succ_pos _)).holdP .int))
theorem aP3:dX G (.builtin "str.lstrip") kZ:=by
 intro fi A h₀ L env C held s σ σ' pvs vs c Q E hf hl R hQ
 replace q:=jN hf;clear hf;obtain ⟨a,b,hf⟩:=q
 replace q:=cN hf;clear hf;obtain ⟨l,hf⟩:=q
 replace q:=cN hf;clear hf;obtain ⟨y,hf⟩:=q
 replace hf:(if l.length≤65536 then aL (.str (l.dropWhile fun c=>y.contains c)) else bI) σ= .ok c σ':=hf
 ·by_cases hz:l.length≤65536
  ·rw [if_pos hz] at hf
   obtain ⟨rfl,rfl⟩:=aJ hf
   obtain ⟨v,u,rfl⟩:=dC hl rfl
   replace R:Rel G fi h₀ L _ ((.str l,v)::(.str y,u)::held) s:=R
   obtain ⟨α,N,r2,r1⟩:=qK R
   obtain ⟨t1,e9⟩:=r1.str_inv;rw [e9];clear e9
   obtain ⟨t2,e9⟩:=r2.str_inv;rw [e9];clear e9
   refine cO (SC.lstripChars (fun t' k hk=> ?_) (by rw [bP,sizeLine_eq];lia))
   rw [aA4]
   exact hQ _ s.heap k ((R.tail.tail.toks (Nat.lt_of_lt_of_le R.tok hk)).holdP .str)
  ·rw [if_neg hz] at hf
   cases hf
theorem aG6:Op2 G (inplaceOp .Add) bA1:=yO (fun h=>AutoIntOps.iadd_0 (h _)) fun hz h=>iadd_str h hz
end
end
end _M
end
section
open PySem PySem.W PySem.Calls PyProof.Rows
namespace _M
section
variable {id j k:Nat}{σ:St}{vals:List PV}{e o:Expr}{name:PySem.Str}{kp pos pos':Pos}{f fe fo:PM PV}{v:Value}
section
variable {G:Glb}{fi:FI}
end
end
noncomputable abbrev jU:PM Fl:=blk [
 aF 2 (cI 0),
 pR (aR8 (vr 0)) (bF 3) (vY bA2 2 (aP (eqM (vr 3) (cS "\t")) (aA bH (vr 1) (aA eR (vr 2) (vr 1))) (cI 1))),
 mD (vr 2)]
section
variable {G:Glb}{fi:FI}
noncomputable def aM8:PV→PV→Option PV:=on2 (fun a b=>if 0<b∧b≤1000 then some (.int (a.fdiv b)) else none) nn nn
theorem aU6:Op2 G (binaryOp .FloorDiv) aM8:=oZ (fun h hq=>by obtain ⟨hne,rfl⟩:=pK h;exact floordiv_int (Int.ne_of_gt hne.1) (hq _ _ .int (Nat.succ_pos _)) (.inl (PyProof.noPylong_small (by omega)))) fun z_ h=>nomatch h
end
section
variable {f L L':Addr}{σ σ' σ₂:St}{m m2:PySem.Str→Option Value}{h₀ g:Heap}{held H:List (PV×Value)}{α α2:List Addr}{N N2:List (Addr×Obj)}{s s':Shared}{pvs:List PV}{vs:List Value}
def wI (G:Glb) (fi:FI) (ss:List Stmt) (F:PM Unit):Prop:=
 ∀(A:Around) (h₀:Heap) (L:Addr) (env:Env),Cx G fi A h₀ L env→∀(held:List (PV×Value)) (s:Shared) (σ σ':St) (Q:Flow→Shared→Prop) (E:Value→Shared→Prop),
  F σ= .ok () σ'→Rel G fi h₀ L σ held s→(∀e h t h',Rel G fi h₀ L σ' held (Sh s h t)→Heap.NewExc h h' e "AssertionError" →E (.ref e) (Sh s h' t))→wpAny (model G.prog G.w) A (execs ss env) Q E s
noncomputable def aG2 (f:PM Fl) (c:PM Bool):PM Unit:=bnd f fun fl=>match fl with
 | .next=>bnd c fun b=>if b then bI else aL ()
 | _=>bI
noncomputable def iU (nv:Nat) (F:PM Unit) (args:List PV):PM Unit:=fun σ=>match F ⟨cY nv args,σ.cells⟩ with
 | .ok _ σ'=> .ok () ⟨σ.vars,σ'.cells⟩
 | _=> .bad
noncomputable def pD (C:Addr) (id:Nat) (fo:PM PV) (g:List PV→PM Unit):PM Unit:=bnd fo fun o=>fun σ=>match hM C o with
 | some k=>(match nA k id σ with
  | some _=>g [o] σ
  | none=> .bad)
 | none=> .bad
noncomputable def wO (x:PM Fl) (y:PM Unit) (r:List Nat):PM Fl:=fun σ=>match y σ with
 | .ok _ σ'=> .ok (.ret (.str r)) σ'
 | _=>x σ
section
variable {G:Glb}{fi fj:FI}
theorem bA8 {st:Stmt}{t:Expr}{pos:Pos}{rest:List Stmt}{f:PM Fl}{c:PM Bool} (h:ExR G fi st f) (ht:TrR G fi t c):wI G fi (st :: .Assert t none pos::rest) (aG2 f c):=by
 intro A h₀ L env C held s σ σ' Q E hf R hE
 obtain ⟨fl,σ₁,h1,h2⟩:=aG hf
 refine wpAny_execs_cons (h A h₀ L env C held s σ fl σ₁ _ _ h1 R fun flow h' t' R1=> ?_)
 cases fl <;> first | exact (nomatch (h2:Res.bad=_)) | skip
 cases flow <;> first | exact R1.elim | skip
 obtain ⟨b,σ₂,h3,h4⟩:=aG h2
 cases b
 ·obtain ⟨_,rfl⟩:=aJ h4
  exact wpAny_execs_cons (wpAny_Assert_new C.hd (ht A h₀ L env C held _ σ₁ false _ _ _ h3 R1 fun h'' t'' R2 h3 e hx=>hE e h'' t'' h3 R2 hx))
 ·exact nomatch (h4:Res.bad=_)
set_option tactic.hygienic true in
theorem aP0 {params:List PySem.Str}{body:List Stmt}{F:PM Unit} (HF:FnAt G fj f params body) (HX:wI G fj body F)
  {A A₀:Around}{env:Env}{base:Heap}{outer:List Env} (C:Cx0 G fi A h₀ L env) (B:Below A₀ base outer h₀) (hA:A.frames=some (env::outer)) (hfr:env.frame=some L) (hek:env.scope.kind= .function)
  (hdep:A.depth+1+2*fj.lv<900) (hun:A.units+3+20*fj.lv<9000) {R:Result→Shared→Prop}
  (hf:iU fj.vnames.length F pvs σ= .ok () σ') (hn:pvs.length=params.length) (hv:pvs.length=vs.length) (hu:∀p∈pvs,aN p=false) (hr:∀p∈pvs.zip vs,Rep α N p.1 p.2) (R0:RelAt G fi h₀ L σ held m α N s)
  (hQ:∀e g h' t' α' N',Fr h₀ L g m→RaisedSN base g (env::outer) e (.type "AssertionError") N' h'→g.UpToSlots h'→0<t'→
   (∀h₁ h'',Fr h₁ L h'' m→News h₁ L h'' N'→RelAt G fi h₁ L σ' held m α' N' (Sh s h'' t'))→R (.error (.ref e)) (Sh s h' t')):
  codeAny (model G.prog G.w) A (.call (.ref f) ⟨vs,[]⟩) R s:=by
 obtain ⟨oc,od,name,ps,dV,kV,doc,pm,an,cdv,ct,osl,hl,hcd,hb⟩:=HF.at_
 have hparams:∀p∈params,p∈fj.vnames:=fun p hp=>by rw [←HF.pre] at hp;exact List.mem_of_mem_take hp
 refine code_def B R0.fr C.X R0.nw C.T hA hfr hek hl hcd (by unfold recursionLimit;exact Q57 (.n2 _ _) hdep) (BindsTo.of_eq (hb vs (Q30 (.n3 _ _ _) hn hv)))
  (fun y hy=>HF.ok.loc HF.bare.1 y.1 (hparams y.1 (List.of_mem_zip hy).1)) (fun g L' h₁ FG F' N' B' X' T'=> ?_) HF.co HF.gen HF.ok.kind HF.nocell
 have Cj:=pW (L':=L') (cdv:=cdv) HF C hA hdep hun B' X' T'
 have Rj:=mQ HF hn hv hu hr R0 F' N'
 unfold iU at hf
 split at hf
 ·rename_i u σ₂ hF
  cases hf
  refine HX _ g L' _ Cj _ _ _ σ₂ _ _ hF ⟨_,α,N,Rj⟩ fun e h t h' R2 hx=> ?_
  obtain ⟨m2,α2,N2,R2⟩:=R2
  refine leave_newS B' hx R2.fr R2.nw (fun h'' S z_ U=> ?_) HF.ok.kind
  exact hQ e g h'' t α2 N2 FG S U R2.tok fun h₁ h3 F3 N3=>mL R0 R2 (fun p hp=>hp) F3 N3 R2.tok
 ·cases hf
end
end
section
variable {f L L' C:Addr}{σ σ':St}{h₀ g:Heap}{held:List (PV×Value)}{s:Shared}{name:PySem.Str}{params:List PySem.Str}{body:List Stmt}{F:PM Unit}{A A₀:Around}{base:Heap}{outer:List Env}{o:Expr}{fo:PM PV}{apos pos np rp rp2 hp tp kp:Pos}
section
variable {G:Glb}{fi fj:FI}
set_option tactic.hygienic true in
theorem aJ2 (M:MethAt G C fj name f params body) (HX:wI G fj body F) (hlv:fj.lv<fi.lv) (hn:1=params.length)
  (ho:EvR G fi o fo) (hbase:∀env,attributeBase o name env (eval o env)=eval o env) (hline:(apos.endLine==pos.line)=true)
  {env:Env} (Cx:Cx G fi A h₀ L env) (B:Below A₀ base outer h₀) (hA:A.frames=some (env::outer)) (hfr:env.frame=some L) (hek:env.scope.kind= .function) {Q E:Value→Shared→Prop}
  (hf:pD C 0 fo (iU fj.vnames.length F) σ= .ok () σ') (R:Rel G fi h₀ L σ held s)
  (hE:∀e g m N' h' t',Fr h₀ L g m→RaisedSN base g (env::outer) e (.type "AssertionError") N' h'→g.UpToSlots h'→
   (∀h₁ h'',Fr h₁ L h'' m→News h₁ L h'' N'→Rel G fi h₁ L σ' held (Sh s h'' t'))→E (.ref e) (Sh s h' t')):
  wpAny (model G.prog G.w) A (eval (.Call (.Attribute o name apos) [] [] pos) env) Q E s:=by
 obtain ⟨qo,σ₁,h1,h2⟩:=aG hf
 refine lV (hbase env) rfl hline (ho A h₀ L env Cx held s σ qo σ₁ _ _ h1 R fun vo h' t' R1=> ?_)
 intro pl
 split at h2
 ·rename_i k hk1
  split at h2
  ·rename_i vals hv
   have ek:=gT hk1
   subst ek
   obtain ⟨m,α,N,R1'⟩:=id R1
   obtain ⟨a,dx,rfl,hi1,hi2,hi3⟩:=(R1'.held (_,vo) (.head _)).inst_inv
   obtain ⟨es,n,c1,c2,c3,c4,c5,c6,c7⟩:=R1'.cells _ _ _ hi3 (gW hv)
   refine method_inst R1'.fr Cx.X (sY (R1'.nw _ hi1).1 (R1'.nw _ c1).1) M.plain M.find M.fn (kG.none M.nott c5) ?_
   refine dL (pos:=pos) .nil Cx M.keep (σ:=σ₁) (pvs:=[]) rfl R1 fun vs h'' t'' hl R2=> ?_
   cases vs with
   | cons v r=>cases hl
   | nil=>
   obtain ⟨m,α,N,R2⟩:=R2
   have hself:Rep α N (.inst C k) (.ref a):=R2.held _ (.head _)
   refine wpAny_call (aP0 M.at_ HX Cx.toCx0 B hA hfr hek (by have:=Cx.dep;exact Q6 (.n3 _ _ _) hlv this) (by have:=Cx.un;exact Q7 (.n3 _ _ _) hlv this) h2 hn rfl (fun p hp=>by rw [List.mem_singleton.mp hp];rfl) (fun p hp=>by
    rcases List.mem_cons.mp hp with rfl | hp
    ·exact hself
    ·cases hp) (R2.drop (held':=held) fun p hp=> .tail _ hp) fun e g h3 t3 α' N' FG S U ht hR=> ?_)
   exact hE e g m N' h3 t3 FG S U fun h₁ h4 F4 N4=>⟨m,α',N',hR h₁ h4 F4 N4⟩
  ·exact nomatch (h2:Res.bad=_)
 ·exact nomatch (h2:Res.bad=_)
end
end
section
variable {f fa L a C:Addr}{σ σ':St}{h₀ g:Heap}{held:List (PV×Value)}{s:Shared}{name:PySem.Str}{params:List PySem.Str}{body:List Stmt}{FX:PM Unit}{A A₀:Around}{base:Heap}{outer:List Env}{o:Expr}{fo:PM PV}{apos pos np rp rp2 hp tp kp:Pos}{cd:Value}
section
variable {G:Glb}{fi fj fk:FI}
set_option tactic.hygienic true in
theorem try_ok {F:PM Fl}{kk:Nat}{r:PySem.Str}{l:List Nat} (M:MethAt G C fk name f params body) (HX:wI G fk body FX) (hlv:fk.lv<fj.lv) (hn:1=params.length)
  (ho:EvR G fj o fo) (hbase:∀env,attributeBase o name env (eval o env)=eval o env) (hline:(apos.endLine==pos.line)=true)
  (HF:dN G fj [.Return (some (.Call (.Attribute o name apos) [] [] pos)) rp] F) (hr:r=⟨l.toArray⟩)
  (hAE:nsIn G.K mainGlobals "AssertionError" =some Option.none) (hx:fj.scope.names.lookup ("AssertionError" :PySem.Str)=some .globalImplicit)
  (Cx:Cx G fj (A.deeper (envOf fj.qual fj.scope L a cd)) g L (envOf fj.qual fj.scope L a cd)) (K:Below A base outer g) (XB:G.K.In base) (TB:Top G.p G.loose G.mean G.mg G.mb base) (D:KtsDicts (outer.filterMap (·.frame)) g)
  {fl:Fl}{Q:Flow→Shared→Prop}{E:Value→Shared→Prop} (hf:wO F (pD C 0 fo (iU fk.vnames.length FX)) l σ= .ok fl σ') (R:Rel G fj g L σ held s)
  (hE:∀e,PassesOwnAt (model G.prog G.w) ((A.deeper (envOf fj.qual fj.scope L a cd)).mark (some (.ref e))) (A.deeper (envOf fj.qual fj.scope L a cd)) (envOf fj.qual fj.scope L a cd) E)
  (hQ:∀g' flow h' t',KtsTurn (outer.filterMap (·.frame)) g g'→tQ G fj g' L σ' held (Sh s h' t') fl flow→Q flow (Sh s h' t')):
  wpAny (model G.prog G.w) (A.deeper (envOf fj.qual fj.scope L a cd)) (exec (.Try [.Return (some (.Call (.Attribute o name apos) [] [] pos)) rp] [.ExceptHandler (some (.Name "AssertionError" np)) Option.none [.Return (some (.Constant (.str r) kk kp)) rp2] hp] [] [] tp) (envOf fj.qual fj.scope L a cd)) Q E s:=by
 refine wpAny_Try_except ?_
 unfold wO at hf
 split at hf
 ·rename_i u σ₂ hX
  cases hf
  refine wpAny_execs_cons (wpAny_Return_some ?_)
  refine aJ2 M HX hlv hn ho hbase hline Cx K (Around.frames_deeper K.stack) rfl Cx.ok.kind hX R fun e g2 m N' h' t' FG S U hR=> ?_
  refine caught_SN0 (T':= "AssertionError") S FG K U XB TB D KtsTurn.refl hAE PyProof.Rows.Boot.«AssertionError» (by decide) PySem.F.isExc_AssertionError PySem.F.notTuple_AssertionError (by rfl) (fun h3 g3 T3 F3 N3 K3 X3 P3 D3=> ?_) Cx.ok.kind hx (by decide) (hE e)
  refine wpAny_execs_cons (wpAny_Return_some ?_)
  subst hr
  refine mT (hQ g3 (.ret _) h3 (t'+1) T3 ?_)
  obtain ⟨m',α',N'',R3⟩:=hR g3 h3 F3 N3
  exact ⟨m',α',N'',(R3.toks (Nat.succ_pos _)).hold .str⟩
 ·refine HF _ g L _ Cx held s σ fl σ' _ _ hf R fun flow h' t' FR=> ?_
  cases flow with
  | next=>exact wpAny_execs_nil (hQ g .next h' t' .refl FR)
  | brk=>exact hQ g .brk h' t' .refl FR
  | cont=>exact hQ g .cont h' t' .refl FR
  | ret v=>exact hQ g (.ret v) h' t' .refl FR
end
end
section
variable {f fa L C:Addr}{σ σ':St}{h₀:Heap}{held:List (PV×Value)}{s:Shared}{x:PySem.Str}{params:List PySem.Str}{body:List Stmt}{F:PM Fl}{A:Around}{m:PySem.Str→Option Value}{α:List Addr}{N:List (Addr×Obj)}{pvs:List PV}{vs:List Value}{pv:PV}{np pos:Pos}{args:List Expr}{fs:List (PM PV)}{nv:Nat}
noncomputable def seqN (x y:PM Fl):PM Fl:=bnd x fun fl=>match fl with
 | .next=>y
 | _=>bI
inductive AskB (G:Glb) (C:Addr) (fj:FI):List Stmt→PM Fl→Prop
 | mk {fk:FI}{name:PySem.Str}{f:Addr}{params:List PySem.Str}{body:List Stmt}{FX:PM Unit}{F f1:PM Fl}{st:Stmt}{o:Expr}{fo:PM PV}{apos pos np rp rp2 hp tp kp:Pos}{kk nv:Nat}{r:PySem.Str}{l:List Nat}
  (h1:ExR G fj st f1) (M:MethAt G C fk name f params body) (HX:wI G fk body FX) (hlv:fk.lv<fj.lv) (hn:1=params.length)
  (ho:EvR G fj o fo) (hbase:∀env,attributeBase o name env (eval o env)=eval o env) (hline:(apos.endLine==pos.line)=true)
  (HF:dN G fj [.Return (some (.Call (.Attribute o name apos) [] [] pos)) rp] F) (hr:r=⟨l.toArray⟩)
  (hAE:nsIn G.K mainGlobals "AssertionError" =some Option.none) (hx:fj.scope.names.lookup ("AssertionError" :PySem.Str)=some .globalImplicit) (hnv:fk.vnames.length=nv):
  AskB G C fj [st, .Try [.Return (some (.Call (.Attribute o name apos) [] [] pos)) rp] [.ExceptHandler (some (.Name "AssertionError" np)) Option.none [.Return (some (.Constant (.str r) kk kp)) rp2] hp] [] [] tp]
   (seqN f1 (wO F (pD C 0 fo (iU nv FX)) l))
set_option tactic.hygienic true in
theorem rK (h:aQ nv F pvs σ= .ok pv σ'):∃fl σ₂ rv,F ⟨cY nv pvs,σ.cells⟩= .ok fl σ₂∧(fl= .ret rv∨(fl= .next∧rv= .none))∧pv=rv∧σ'=⟨σ.vars,σ₂.cells⟩:=by
 unfold aQ at h
 split at h
 ·rename_i rv σ₂ e;cases h;exact ⟨_,σ₂,_,e, .inl rfl,rfl,rfl⟩
 ·rename_i σ₂ e;cases h;exact ⟨_,σ₂,_,e, .inr ⟨rfl,rfl⟩,rfl,rfl⟩
 ·cases h
 ·cases h
 ·cases h
section
variable {G:Glb}{fi fj:FI}
theorem ask_ok {env:Env} (HF:FnAt G fj f params body) (HB:AskB G C fj body F) (Cx:Cx G fi A h₀ L env) (ht:fi.top=true) (hlv:fj.lv<fi.lv) {R:Result→Shared→Prop}
  (hf:aQ fj.vnames.length F pvs σ= .ok pv σ') (hn:pvs.length=params.length) (hv:pvs.length=vs.length) (hu:∀p∈pvs,aN p=false) (hr:∀p∈pvs.zip vs,Rep α N p.1 p.2) (R0:RelAt G fi h₀ L σ held m α N s)
  (hQ:∀v h' t' α' N',RelAt G fi h₀ L σ' ((pv,v)::held) m α' N' (Sh s h' t')→(∀(j:Nat) (a:Addr),α[j]? =some a→α'[j]? =some a)→R (.ok (.ret v)) (Sh s h' t')):
  codeAny (model G.prog G.w) A (.call (.ref f) ⟨vs,[]⟩) R s:=by
 obtain ⟨oc,od,name,ps,dV,kV,doc,pm,an,cdv,ct,osl,hl,hcd,hb⟩:=HF.at_
 obtain ⟨A₀,cn,cs,ca,ccd,B,hA,hck⟩:=Cx.tp ht
 have hparams:∀p∈params,p∈fj.vnames:=fun p hp=>by rw [←HF.pre] at hp;exact List.mem_of_mem_take hp
 have hdep:=Cx.dep
 have hun:=Cx.un
 refine code_defS0 B R0.fr Cx.X R0.nw Cx.T hA hl hcd (by unfold recursionLimit;exact lin2 (.t .v0 (.k 1000)) (.t .v1 .v2) (.t (.a .v0 (.m 2 .v2)) (.k 900)) (.w [1,2,1]) rfl (.n3 _ _ _) hlv hdep) (BindsTo.of_eq (hb vs (Q30 (.n3 _ _ _) hn hv)))
  (fun y hy=>HF.ok.loc HF.bare.1 y.1 (hparams y.1 (List.of_mem_zip hy).1)) (fun g L' h₁ FG F' N' B' X' T' D'=> ?_) hck HF.co HF.gen HF.ok.kind HF.nocell
 have Cj:=pW (L':=L') (cdv:=cdv) HF Cx.toCx0 hA (Q6 (.n3 _ _ _) hlv hdep) (Q7 (.n3 _ _ _) hlv hun) B' X' T'
 have Rj:=mQ HF hn hv hu hr R0 F' N'
 obtain ⟨h1,M,HX,hlv2,hn2,ho,hbase,hline,HR,hr2,hAE,hx,hnv⟩:=HB
 subst hnv
 have fin:∀{g':Heap}{σ₂:St}{rv:PV}{v:Value}{h':Heap}{t':Tok},KtsTurn ([envOf cn cs L ca ccd].filterMap (·.frame)) g g'→Rel G fj g' L' σ₂ ((rv,v)::aA7 fi σ m α held) (Sh s h' t')→pv=rv→σ'=⟨σ.vars,σ₂.cells⟩→
   LeaveS0 ([envOf cn cs L ca ccd].filterMap (·.frame)) h₀ L m g R v (Sh s h' t'):=by
  intro g' σ₂ rv v h' t' T'' R2 e1 e2
  subst e1;subst e2
  obtain ⟨m2,α2,N2,R2⟩:=R2
  refine leaveS0_ R2.fr R2.nw T'' fun F3 N3=>hQ v h' t' α2 N2 ((mL R0 R2 (fun p hp=> .tail _ hp) F3 N3 R2.tok).hold (R2.held _ (.head _))) (aL6 R2 fun p hp=> .tail _ hp)
 obtain ⟨fl,σ₂,rv,hF,hfl,e1,e2⟩:=rK hf
 obtain ⟨f1v,σ₃,k1,k2⟩:=aG hF
 refine wpAny_execs_cons (h1 _ g L' _ Cj _ _ _ f1v σ₃ _ _ k1 ⟨_,α,N,Rj⟩ fun flow h' t' FR=> ?_)
 cases f1v <;> first | exact (nomatch (k2:Res.bad=_)) | skip
 cases flow <;> first | exact FR.elim | skip
 refine wpAny_execs_cons (try_ok M HX hlv2 hn2 ho hbase hline HR hr2 hAE hx Cj B' Cx.X Cx.T D' k2 FR (fun e=>by passes_own) fun g' flow h'' t'' T'' FR2=> ?_)
 rcases hfl with rfl | ⟨rfl,rfl⟩
 ·cases flow with
  | ret v=>exact fin T'' FR2 e1 e2
  | _=>exact FR2.elim
 ·cases flow with
  | next=>exact wpAny_execs_nil (fin T'' (let ⟨m2,α2,N2,R2⟩:=FR2;⟨m2,α2,N2,R2.hold .none⟩) e1 e2)
  | _=>exact FR2.elim
theorem R_askO (Df:DefAt G fj x f params body) (HB:AskB G C fj body F) (ht:fi.top=true)
  (hk:fi.scope.names.lookup x=some .globalImplicit) (hd:(x==("__debug__" :PySem.Str))=false) (H:EvsR G fi args fs) (hlv:fj.lv<fi.lv) (hn:fs.length=params.length) (hnv:fj.vnames.length=nv):
  EvR G fi (.Call (.Name x np) args [] pos) (bnd (evL fs) (cE nv F)):=by
 subst hnv
 intro A h₀ L env C held s σ pv σ' Q E hf R hQ
 obtain ⟨pvs,σ₁,h1,h2⟩:=aG hf
 refine wpAny_bind (fX hk hd Df.ns A h₀ L env C held s σ _ σ _ _ rfl R fun fv h' t' R1=> ?_)
 obtain ⟨α,N,r⟩:=lH R1
 have:=r.glob_inv
 subst this
 refine dL H C Df.keep h1 R1.tail fun vs h'' t'' hl R2=> ?_
 obtain ⟨m,α,N,R2⟩:=R2
 obtain ⟨z1,z2⟩:=kH hl R2
 unfold cE at h2
 split at h2
 ·rename_i rv σ₂ e1
  split at h2
  ·rename_i qv hb
   cases h2
   have R3:=R2.drop (held':=held) fun p hp=>List.mem_append_right _ hp
   exact wpAny_call (ask_ok Df.at_ HB C ht hlv e1 (by rw [lO h1,hn]) hl z2 z1 R3 fun v h3 t3 α' N' R4 hα=>hQ v h3 t3 (aB8 (s:=Sh (Sh s h' t') h'' t'') e1 hb R3 R4 hα))
  ·cases h2
 ·cases h2
 ·cases h2
end
end
section
variable {f L a:Addr}{σ σ':St}{h₀:Heap}{held:List (PV×Value)}{s:Shared}{x:PySem.Str}{params:List PySem.Str}{body:List Stmt}{F:PM Fl}{A:Around}{np pos tpos:Pos}{args:List Expr}{fs:List (PM PV)}{nv k:Nat}{e t l r:Expr}{ts:List Expr}{fe fl fr:PM PV}
noncomputable def wN:List (PV→PM Fl)→List PV→PM Fl
 | [],[]=>aL .next
 | g::gs,x::xs=>bnd (g x) fun z_=>wN gs xs
 | _,_=>bI
noncomputable def aD8 (gs:List (PV→PM Fl)):PV→PM Fl
 | .seq true xs=>wN gs xs
 | _=>bI
noncomputable def aO9 (a:Addr) (ns:List Int) (x y:PM PV):PM PV:=bnd x fun o=>bnd y fun p=>onR a (fun σ=>match qW σ p with
 | some ys=>if ns.length+ys.length≤1000 then .ok (.seq false (ns.map .int++ys)) σ else .bad
 | none=> .bad) o
section
variable {G:Glb}{fi fj:FI}
inductive AsgsR (G:Glb) (fi:FI):List Expr→List (PV→PM Fl)→Prop
 | nil:AsgsR G fi [] []
 | cons {t:Expr}{ts:List Expr}{g:PV→PM Fl}{gs:List (PV→PM Fl)} (h:mW G fi t g) (he:∀env,assignEach (t::ts) env=(false,assign t env)::assignEach ts env) (H:AsgsR G fi ts gs):AsgsR G fi (t::ts) (g::gs)
theorem AsgsR.star {gs:List (PV→PM Fl)} (H:AsgsR G fi ts gs) (env:Env):(assignEach ts env).findIdx? (·.1)=none∧(assignEach ts env).length=gs.length:=by
 induction H with
 | nil=>exact ⟨rfl,rfl⟩
 | cons h he H ih=>rw [he env,List.findIdx?_cons,List.length_cons,List.length_cons,ih.2];exact ⟨by rw [ih.1];rfl,rfl⟩
theorem zC {gs:List (PV→PM Fl)} (H:AsgsR G fi ts gs) {env:Env} (C:Cx G fi A h₀ L env) {E:Value→Shared→Prop}{Q:Unit→Shared→Prop}{fw:Fl}:
  ∀{xs:List PV}{vs:List Value}{σ:St}{s:Shared},xs.length=vs.length→wN gs xs σ= .ok fw σ'→Rel G fi h₀ L σ held s→(∀p∈xs.zip vs,p∈held)→(∀h' t',fw= .next→Rel G fi h₀ L σ' held (Sh s h' t')→Q () (Sh s h' t'))→
   wpAny (model G.prog G.w) A (assignInOrder ((assignEach ts env).map (·.2)) vs) Q E s:=by
 induction H with
 | nil=>
  intro xs vs σ s hl hf R hh hQ
  cases xs with
  | nil=>
   cases vs with
   | nil=>
    obtain ⟨rfl,rfl⟩:=aJ hf
    exact assignInOrder_nil (hQ s.heap s.toks rfl R)
   | cons v vs=>cases hl
  | cons x xs=>exact nomatch (hf:Res.bad=_)
 | cons h he H ih=>
  intro xs vs σ s hl hf R hh hQ
  cases xs with
  | nil=>exact nomatch (hf:Res.bad=_)
  | cons x xs=>
   cases vs with
   | nil=>cases hl
   | cons v vs=>
    obtain ⟨f1,σ₁,h1,h2⟩:=aG hf
    rw [he env]
    refine assignInOrder_cons (h A h₀ L env C held s σ x v f1 σ₁ _ _ h1 (R.drop (fc (hh _ (.head _)) fun p hp=>hp)) fun h' t' z_ R1=> ?_)
    exact ih (Nat.succ.inj hl) h2 R1.tail (fun p hp=>hh p (.tail _ hp)) fun h'' t'' e R2=>hQ h'' t'' e R2
theorem oE:∀{gs:List (PV→PM Fl)}{xs:List PV}{σ σ':St}{fw:Fl},wN gs xs σ= .ok fw σ'→gs.length=xs.length
 | [],[],_,_,_,_=>rfl
 | [],_::_,_,_,_,h=>nomatch (h:Res.bad=_)
 | _::_,[],_,_,_,h=>nomatch (h:Res.bad=_)
 | g::gs,x::xs,σ,σ',fw,h=>by
  obtain ⟨f1,σ₁,h1,h2⟩:=aG h
  rw [List.length_cons,List.length_cons,oE h2]
set_option tactic.hygienic true in
theorem bE3 {gs:List (PV→PM Fl)} (H:AsgsR G fi ts gs):mW G fi (.Tuple ts k pos) (aD8 gs):=by
 intro A h₀ L env C held s σ pv v fw σ' Q E hf R hQ
 unfold aD8 at hf
 split at hf
 ·rename_i xs
  obtain ⟨m,α,N,R1⟩:=R
  obtain ⟨d,ws,n,rfl,q1,hda,q2,q3⟩:=(R1.held (_,v) (.head _)).seq_inv
  refine unpackN_ (items:=ws.toArray) R1.fr R1.nw (News.isTup R1.nw q1) C.hd (by rw [(H.star env).2,oE hf,q2];rfl) (H.star env).1 fun h4 F4 N4=> ?_
  have R2:RelAt G fi h₀ L σ (xs.zip ws++((.seq true xs, .ref d)::held)) m α N {s with heap:=h4,toks:=s.toks}:={R1.reheap F4 N4 R1.tok with held:=fp q3 R1.held}
  exact zC H C q2 hf ⟨m,α,N,R2⟩ (fun p hp=>List.mem_append_left _ hp) fun h5 t5 e R3=>hQ h5 t5 e (R3.drop fun p hp=>List.mem_append_right _ hp)
 ·exact nomatch (hf:Res.bad=_)
theorem aQ7 {g:PV→PM Fl} (ht:mW G fi (.Tuple ts k tpos) g) (he:EvR G fi e fe)
  (hs:∀env,swapsWithSole [.Tuple ts k tpos] e pos.line env=pure false) (hw:∀env,swappedStores [.Tuple ts k tpos] e env=pure none):ExR G fi (.Assign [.Tuple ts k tpos] e pos) (bnd fe g):=by
 intro A h₀ L env C held s σ fw σ' Q E hf R hQ
 obtain ⟨pv,σ₁,h1,h2⟩:=aG hf
 refine Assign_Tuple (he A h₀ L env C held s σ pv σ₁ _ _ h1 R fun v h' t' R1=> ?_) (hs env) (hw env)
 refine ht A h₀ L env C held _ σ₁ pv v fw σ' _ _ h2 R1 fun h'' t'' e2 R2=> ?_
 subst e2
 exact hQ .next h'' t'' R2.tail
theorem tP (D:DefAt G fj x f params body) (HB:dN G fj body F)
  (hk:fi.scope.names.lookup x=some .globalImplicit) (hd:(x==("__debug__" :PySem.Str))=false) (H:EvsR G fi args fs) (hlv:fj.lv<fi.lv) (hn:fs.length=params.length) (hnv:fj.vnames.length=nv):
  EvR G fi (.Call (.Name x np) args [] pos) (bnd (evL fs) (aQ nv F)):=by
 subst hnv
 intro A h₀ L env C held s σ pv σ' Q E hf R hQ
 obtain ⟨pvs,σ₁,h1,h2⟩:=aG hf
 refine wpAny_bind (fX hk hd D.ns A h₀ L env C held s σ _ σ _ _ rfl R fun fv h' t' R1=> ?_)
 obtain ⟨α,N,r⟩:=lH R1
 have:=r.glob_inv
 subst this
 refine dL H C D.keep h1 R1.tail fun vs h'' t'' hl R2=> ?_
 obtain ⟨m,α,N,R2⟩:=R2
 obtain ⟨z1,z2⟩:=kH hl R2
 have hdep:=C.dep
 have hun:=C.un
 exact wpAny_call (oA D.at_ HB C.toCx0 (Q6 (.n3 _ _ _) hlv hdep) (Q7 (.n3 _ _ _) hlv hun) h2 (by rw [lO h1,hn]) hl z2 z1 (R2.drop (held':=held) fun p hp=>List.mem_append_right _ hp) fun v h3 t3 α' N' R4 z_=>hQ v h3 t3 ⟨m,α',N',R4⟩)
set_option tactic.hygienic true in
theorem R_catB {ns:List Int} (hb:(a,ns)∈fi.base) (hl:EvR G fi l fl) (hr:EvR G fi r fr):EvR G fi (.BinOp l .Add r pos) (aO9 a ns fl fr):=by
 intro A h₀ L env C held s σ pv σ' Q E hf R hQ
 obtain ⟨p,σ₁,h1,h2⟩:=aG hf
 obtain ⟨q,σ₂,h3,h4⟩:=aG h2
 refine wpAny_BinOp (hl A h₀ L env C held s σ p σ₁ _ _ h1 R fun va h' t' R1=> ?_)
 refine hr A h₀ L env C _ _ σ₁ q σ₂ _ _ h3 R1 fun vb h'' t'' R2=> ?_
 replace h4:=aG9 h4
 obtain ⟨h4⟩:=h4
 split at h4
 ·rename_i ys hy
  split at h4
  ·rename_i hz
   cases h4
   obtain ⟨m,α,N,R3⟩:=R2
   have:=(R3.held (.glob (.ref a),va) (.tail _ (.head _))).glob_inv
   subst this
   obtain ⟨ws0,b1,b2,b3⟩:=C.bs _ hb
   obtain ⟨e1,e2⟩:=vG b2
   have hs:(Sh s h'' t'').heap.IsList a ws0.toArray:=let ⟨o,ho,r⟩:=b1;⟨o,R3.fr.keep _ _ ho,r⟩
   obtain ⟨y,ws,n,rfl,q1,q2,q3,q4,q5⟩:=R3.lst hy (R3.held (q,vb) (.head _))
   have hlen:(ns.map PV.int++ys).length=(ws0++ws).length:=by rw [List.length_append,List.length_append,e1,q2]
   have hrep:∀p∈(ns.map PV.int++ys).zip (ws0++ws),Rep α N p.1 p.2:=by
    rw [List.zip_append e1]
    exact fp (e2 α N) q3
   have key:=(R3.drop (held':=held) fun p hp=> .tail _ (.tail _ hp)).pushSeq (tup:=false) hlen hrep
   refine add_arrays (its:=ws0.toArray) (its2:=ws.toArray) R3.fr R3.nw hs q5 (fun h4 F4 N4=> ?_) (by rw [List.size_toArray,List.size_toArray, ←e1, ←q2,List.length_map];exact bY (Nat.le_trans hz (by decide)))
   have hR:RelAt G fi h₀ L σ' ((.seq false (ns.map PV.int++ys), .ref (Sh s h'' t'').heap.objs.size)::held) m α (((Sh s h'' t'').heap.objs.size,(⟨.type "list",Option.none, .seq (ws0++ws).toArray 0, #[]⟩:Obj))::N) {Sh s h'' t'' with heap:=h4}:=
    ⟨F4,N4,key.nd,key.an,key.len,key.cells,key.vars,key.held,key.tok,key.vlen,key.pin⟩
   exact hQ _ h4 t'' ⟨_,_,_,hR⟩
  ·exact nomatch h4
 ·exact nomatch h4
end
end
section
variable {σ:St}{α:List Addr}{N:List (Addr×Obj)}{v:Value}{ts:List Expr}{k:Nat}{pos:Pos}{xs:List PV}{a:Addr}
noncomputable abbrev KTb:=Addr→Option (Bool×List PV)
def rO (K:Frag) (tb:KTb):Prop:=∀a t xs,tb a=some (t,xs)→xH K t a=some xs
noncomputable def pG (tb:KTb) (σ:St) (p:PV):Option (List PV):=match p with
 | .glob (.ref a)=>(match tb a with
  | some (false,xs)=>some xs
  | _=>none)
 | p=>qW σ p
noncomputable def zN (tb:KTb):PV→Option (List PV)
 | .glob (.ref a)=>(match tb a with
  | some (true,xs)=>some xs
  | _=>none)
 | _=>none
set_option tactic.hygienic true in
theorem zM {tb:KTb}{p:PV} (h:zN tb p=some xs):∃a,p= .glob (.ref a)∧tb a=some (true,xs):=by
 unfold zN at h
 split at h
 ·rename_i a
  split at h
  ·rename_i ys e
   cases h
   exact ⟨a,rfl,e⟩
  ·cases h
 ·cases h
noncomputable def nF (tb:KTb) (gs:List (PV→PM Fl)) (p:PV):PM Fl:=match zN tb p with
 | some xs=>wN gs xs
 | none=>aD8 gs p
noncomputable def qO (tb:KTb) (a b:PV):PM PV:=fun σ=>match pG tb σ a,pG tb σ b with
 | some xs,some ys=>if xs.length+ys.length≤aD then .ok (.seq false (xs++ys)) σ else .bad
 | _,_=> .bad
section
variable {G:Glb}{fi:FI}{tb:KTb}
inductive LstK (s:Shared) (α:List Addr) (N:List (Addr×Obj)) (xs:List PV) (v:Value):Prop
 | mk (a:Addr) (vs:List Value) (e:v= .ref a) (h2:xs.length=vs.length) (h3:∀p∈xs.zip vs,Rep α N p.1 p.2) (h5:s.heap.IsList a vs.toArray):LstK s α N xs v
theorem lE (vs:List Value):(vs.map xG).length=vs.length∧∀(α:List Addr) (N:List (Addr×Obj)),∀p∈(vs.map xG).zip vs,Rep α N p.1 p.2:=by
 refine ⟨List.length_map ..,fun α N=> ?_⟩
 induction vs with
 | nil=>exact fn
 | cons v vs ih=>exact fc (pI v).rep ih
set_option tactic.hygienic true in
theorem RelAt.lstK {A:Around}{h₀:Heap}{L:Addr}{env:Env} (C:Cx G fi A h₀ L env) (hT:rO G.K tb) {held:List (PV×Value)}{m:PySem.Str→Option Value}{s:Shared} (R:RelAt G fi h₀ L σ held m α N s) {pv:PV}
  (h:pG tb σ pv=some xs) (hr:Rep α N pv v):LstK s α N xs v:=by
 unfold pG at h
 split at h
 ·rename_i a
  split at h
  ·rename_i ys e
   cases h
   have:=hr.glob_inv
   subst this
   obtain ⟨d,vs,n,sl,g1,g2⟩:=mM (hT _ _ _ e)
   subst g2
   exact ⟨a,vs.toList,rfl,(lE vs.toList).1,(lE vs.toList).2 α N,⟨_,(C.X.keeps R.fr.keep) _ _ g1,rfl,n,rfl⟩⟩
  ·cases h
 ·obtain ⟨a,vs,n,e,h1,h2,h3,h4,h5⟩:=R.lst h hr
  exact ⟨a,vs,e,h2,h3,h5⟩
set_option tactic.hygienic true in
theorem aU7 (hT:rO G.K tb):Op2M G (binaryOp .Add) (qO tb):=by
 intro fi A h₀ L env C held s σ a b va vb c σ' Q E hg R hQ
 unfold qO at hg
 split at hg
 ·rename_i xs ys e1 e2
  split at hg
  ·rename_i hz
   cases hg
   obtain ⟨m,α,N,R'⟩:=R
   obtain ⟨x,vs,rfl,h2,h3,h5⟩:=R'.lstK C hT e1 (R'.held (a,va) (.tail _ (.head _)))
   obtain ⟨y,ws,rfl,q2,q3,q5⟩:=R'.lstK C hT e2 (R'.held (b,vb) (.head _))
   have hlen:(xs++ys).length=(vs++ws).length:=by rw [List.length_append,List.length_append,h2,q2]
   have hrep:∀p∈(xs++ys).zip (vs++ws),Rep α N p.1 p.2:=by
    rw [List.zip_append h2]
    exact fp h3 q3
   have key:=(R'.drop (held':=held) fun p hp=> .tail _ (.tail _ hp)).pushSeq (tup:=false) hlen hrep
   refine add_arrays (its:=vs.toArray) (its2:=ws.toArray) R'.fr R'.nw h5 q5 (fun h' F' N'=> ?_) (by rw [List.size_toArray,List.size_toArray, ←h2, ←q2];exact bY hz)
   have hR:RelAt G fi h₀ L σ ((.seq false (xs++ys), .ref s.heap.objs.size)::held) m α ((s.heap.objs.size,(⟨.type "list",Option.none, .seq (vs++ws).toArray 0, #[]⟩:Obj))::N) {s with heap:=h'}:=
    ⟨F',N',key.nd,key.an,key.len,key.cells,key.vars,key.held,key.tok,key.vlen,key.pin⟩
   exact hQ _ h' s.toks ⟨_,_,_,hR⟩
  ·cases hg
 ·cases hg
theorem aR1 (hT:rO G.K tb) {gs:List (PV→PM Fl)} (H:AsgsR G fi ts gs):mW G fi (.Tuple ts k pos) (nF tb gs):=by
 intro A h₀ L env C held s σ pv v fw σ' Q E hf R hQ
 unfold nF at hf
 cases e0:zN tb pv with
 | some xs=>
  rw [e0] at hf
  replace hf:wN gs xs σ= .ok fw σ':=hf
  obtain ⟨a,rfl,e⟩:=zM e0
  obtain ⟨m,α,N,R1⟩:=R
  have:=(R1.held (_,v) (.head _)).glob_inv
  subst this
  obtain ⟨d,vs,n,sl,g1,g2⟩:=mM (hT _ _ _ e)
  subst g2
  refine unpackN_ (items:=vs) R1.fr R1.nw ⟨_,(C.X.keeps R1.fr.keep) _ _ g1,rfl,n,rfl⟩ C.hd (by rw [(H.star env).2,oE hf,List.length_map];rfl) (H.star env).1 fun h4 F4 N4=> ?_
  have R2:RelAt G fi h₀ L σ ((vs.toList.map xG).zip vs.toList++((.glob (.ref a), .ref a)::held)) m α N {s with heap:=h4,toks:=s.toks}:={R1.reheap F4 N4 R1.tok with held:=fp ((lE vs.toList).2 α N) R1.held}
  exact zC H C (lE vs.toList).1 hf ⟨m,α,N,R2⟩ (fun p hp=>List.mem_append_left _ hp) fun h5 t5 e R3=>hQ h5 t5 e (R3.drop fun p hp=>List.mem_append_right _ hp)
 | none=>
  rw [e0] at hf
  exact bE3 H A h₀ L env C held s σ pv v fw σ' Q E hf R hQ
end
end
noncomputable abbrev t3 (a b c:String):PM PV:=cP true [cS a,cS b,cS c]
noncomputable abbrev tC:PM Fl:=mD (cP false [t3 "a " "=" " b",t3 "if a" "" " == b",t3 "f (a=1) " "=" "",t3 "x['=']" "=" "c",t3 "(a,\tb) " "+=" "\tc",t3 "return" "" "",t3 "yield a >= b" "" " != c"])
noncomputable abbrev nO:PM Fl:=mD (cP false [cS "",cS "  ",cS "\t",cS " \t",cS "\t\t "])
noncomputable abbrev kA:PM Fl:=mD (cP false [cS "c = d \\\n",cS "\\\n",cS "\t=\\\n",cS "'=' != (e) \\\n",cS ") = [a] \\\n"])
noncomputable def kF:List PV:=["a = b\n","\n","  #c = d\n","\tif a:\n","f(a,\n =b)\n","'''\n= \\\n'''\n","c = \\\n d\n","# e (\n",") = (a)\n","x = 'it\n"].map fun s=> .str (lit s)
noncomputable abbrev kr (a:Addr):PV:= .glob (.ref a)
noncomputable abbrev ks (s:String):PV:= .str (lit s)
noncomputable def jG:List PV:=[kr 262,kr 266,kr 269,kr 273,kr 277,kr 280]
noncomputable def tbl3:List (Addr×Bool×List PV):=[
 (260,true,[ks "b = c \\\n", .bool true]),(261,false,[kr 260]),(262,true,[ks " \\\n", .bool true,kr 261]),
 (263,true,[ks "=(a,\n", .bool false]),(264,true,[ks "=) \\\n", .bool true]),(265,false,[kr 263,kr 264]),(266,true,[ks "\\\n", .bool true,kr 265]),
 (267,true,[ks "a = b)\\\n", .bool true]),(268,false,[kr 267]),(269,true,[ks " (\n", .bool false,kr 268]),
 (270,true,[ks "\n", .bool false]),(271,true,[ks "]=c \\\n", .bool true]),(272,false,[kr 270,kr 271]),(273,true,[ks " [#]= b\n", .bool false,kr 272]),
 (274,true,[ks "= \\\n", .bool false]),(275,true,[ks "\"\"\"\\\n", .bool true]),(276,false,[kr 274,kr 275]),(277,true,[ks " \"\"\"=\n", .bool false,kr 276]),
 (278,true,[ks "=' = c \\\n", .bool true]),(279,false,[kr 278]),(280,true,[ks " '=\\\n", .bool false,kr 279])]
noncomputable abbrev tb3:KTb:=fun a=>tbl3.lookup a
theorem tab_of {K:Frag}{l:List (Addr×Bool×List PV)} (h:∀e∈l,xH K e.2.1 e.1=some e.2.2):rO K (fun a=>l.lookup a):=by
 intro a t xs e
 induction l with
 | nil=>cases e
 | cons x l ih=>
  replace e:List.lookup a ((x.1,x.2)::l)=some (t,xs):=e
  rw [List.lookup_cons] at e
  split at e
  ·rename_i hq
   have:=h x (.head _)
   rw [←eq_of_beq hq,Option.some.inj e] at this
   exact this
  ·exact ih (fun e he=>h e (.tail _ he)) e
noncomputable abbrev bC1 (B:Ads):PM Fl:=mD (cG B.C 0 (vr 0) [] (cE 8 (gM B)))
noncomputable abbrev mE (B:Ads):PM Unit:=aG2 (cC (cG B.C 0 (vr 0) [] (aQ 14 (bW B)))) (eqM (aX B.C 0 5 (vr 0)) (cI 1))
noncomputable abbrev xU (B:Ads):PM Fl:=seqN (cC (cG B.C 0 (vr 0) [vr 1] (aQ 2 (fZ B)))) (wO (bC1 B) (pD B.C 0 (vr 0) (iU 8 (mE B))) (lit "refused"))
noncomputable abbrev rL (B:Ads):PM Fl:=blk [
 cC (cG B.C 0 (vr 0) [] (aQ 14 (bW B))),
 fP 1 2 (aX B.C 0 6 (vr 0)) (aX B.C 0 7 (vr 0)),
 aF 3 (vr 1),
 aF 4 (aX B.C 0 2 (vr 0)),
 aV cR (cX (aA ltP (vr 3) (vr 2)) (aA inP (itm (vr 4) (vr 3)) (cS " \t"))) (bQ 3 1) nop,
 mD (aU (vr 4) (vr 1) (vr 3))]
noncomputable abbrev xd (n:Int):PM PV:=aA aM8 (vr 1) (cI n)
noncomputable abbrev jL (B:Ads):PM Fl:=blk [
 vY bA1 16 (vr 18),
 aF 19 (bnd (evL [vr 17,vr 16]) (cE 2 (xU B))),
 aP (orM (aA neP (vr 19) (aP (bnd (vr 6) bO) (vr 14) (cS "refused"))) (cX (bnd (vr 6) bO) (sV (bnd (bnd (evL [vr 19,aI (.glob (.type "int"))]) isiG) bO)))) (mD (aI (.bool false))) nop,
 aP (aA neP (cG B.C 0 (vr 17) [] (cE 5 (rL B))) (vr 8)) (mD (aI (.bool false))) nop]
noncomputable abbrev vB (B:Ads) (a:Addr) (ns:List Int):PM Fl:=blk [
 aF 1 (itm (aO9 a ns (vr 0) (cP false [cI 0])) (cI 0)),
 bnd (itm (bnd (evL []) (aQ 0 tC)) (aA eR (vr 1) (cI 7))) (aD8 [bF 2,bF 3,bF 4]),
 bnd (itm (aI (.seq false jG)) (aA eR (xd 7) (cI 6))) (nF tb3 [bF 5,bF 6,bF 7]),
 aF 8 (itm (bnd (evL []) (aQ 0 nO)) (aA eR (xd 42) (cI 5))),
 aF 9 (aA bA (cI 1) (aA eR (xd 210) (cI 8))),
 aF 10 (aA bA (aA bA (aA bA (aA bA (vr 8) (vr 2)) (vr 3)) (vr 4)) (vr 5)),
 aF 11 (itm (aH okStr (vr 10) [] rW) (cI 0)),
 aF 12 (aA bA (aH okStr (vr 10) [vr 11] sZ) (cD (vr 11))),
 aF 13 (cD (aA bA (aA bA (vr 8) (vr 2)) (vr 3))),
 aP (cX (aA neP (vr 3) (cS "")) (aA neP (itm (aH okStr (aU (vr 10) (vr 13) (aI .none)) [cS " \t"] kZ) (cI 0)) (cS "\\"))) (aF 12 (vr 13)) nop,
 aF 14 (aA bA (cI 1) (bnd (evL [aU (vr 10) (aI .none) (vr 12),vr 9]) (cE 4 jU))),
 aF 15 (hV (mJ (oO a ns (vr 0) (cI 5) (cI 7))) (fun z_=>aL true) (fun y=>cP true [itm (bnd (evL []) (aQ 0 kA)) (aA eR (aI y) (cI 5)),aI (.bool true)])),
 aF 16 (aH okStr (cS "") [hV (mJ (oO a ns (vr 0) (cI 1) (cI 5))) (fun z_=>aL true) (fun y=>itm (aI (.seq false kF)) (aA eR (aI y) (cI 10)))] pJ),
 aF 17 (aA2 B.C 0 11 3 (mZ B) [cI 4,vr 9]),
 pR (mJ (dM (qO tb3) (dM (qO tb3) (dM (qO tb3) (cP false [cP true [vr 10,vr 6]]) (vr 7)) (vr 15)) (cP false [cP true [cS "e\n",aI (.bool false)]]))) (nF tb3 [bF 18,bF 6]) (jL B),
 mD (aI (.bool true))]
end _M
end
section
open PySem PySem.W PySem.Calls PyProof.Rows
set_option maxHeartbeats 8000000
namespace _M
noncomputable abbrev bo (p:Params) (a:Addr):List Stmt:=bR (H.aY p) a
noncomputable abbrev fo (p:Params) (q:PySem.Str) (a:Addr) (vs:List PySem.Str) (lv:Nat):FI:={qual:=q,scope:=(aT2 (H.aY p) a).getD default,vnames:=vs,lv:=lv}
noncomputable def fi0 (p:Params):FI:=fo p "Parser.__init__" 154 ["self","indentwidth","tabwidth"] 1
noncomputable def fi1 (p:Params):FI:=fo p "Parser._study1" 182 ["self","code","continuation","level","lno","goodlines","push_good","i","n","ch","quote","firstlno","w"] 1
noncomputable def fi2 (p:Params):FI:=fo p "Parser._study2" 196 ["self","code","goodlines","i","p","q","nothing","lastch","stack","push_stack","bracketing","m","newp","ch"] 2
noncomputable def fi3 (p:Params):FI:=fo p "Parser.compute_backslash_indent" 217 ["self","code","i","startpos","endpos","found","level","ch"] 3
noncomputable def fi4 (p:Params):FI:=fo p "Parser.set_code" 161 ["self","s"] 1
noncomputable def fi5 (p:Params):FI:=fo p "_law_heads" 259 [] 1
noncomputable def fi6 (p:Params):FI:=fo p "_law_whites" 288 [] 1
noncomputable def fi7 (p:Params):FI:=fo p "_law_later" 296 [] 1
noncomputable def fi8 (p:Params):FI:=fo p "_law_width" 303 ["text","tab","column","sign"] 1
noncomputable def fi9 (p:Params):FI:=fo p "Parser.get_base_indent_string" 224 ["self","i","n","j","code"] 3
noncomputable def aX9 (p:Params):FI:=fo p "_law_ask" 310 ["parser","text"] 4
noncomputable def aA8 (p:Params) (a:Addr) (ns:List Int):FI:={fo p "law" 315 ["script","x","left","sign","right","ending","answered","follow","white","tab","first","word","cut","behind","due","later","text","parser","line","told"] 6 with base:=[(a,ns)],top:=true}
structure F3 (G:Glb) (B:Ads) (p:Params):Prop where
 pf:PF G B
 sp:nsIn G.K mainGlobals "_twin_re_7" =some (some (.ref B.sp))
 m0:NewAt G B.C (fi0 p) "Parser" 154 ["self","indentwidth","tabwidth"] (bo p 154)
 m1:MethAt G B.C (fi1 p) "_study1" 182 ["self"] (bo p 182)
 m2:MethAt G B.C (fi2 p) "_study2" 196 ["self"] (bo p 196)
 m3:MethAt G B.C (fi3 p) "compute_backslash_indent" 217 ["self"] (bo p 217)
 m4:MethAt G B.C (fi4 p) "set_code" 161 ["self","s"] (bo p 161)
 m5:DefAt G (fi5 p) "_law_heads" 259 [] (bo p 259)
 m6:DefAt G (fi6 p) "_law_whites" 288 [] (bo p 288)
 m7:DefAt G (fi7 p) "_law_later" 296 [] (bo p 296)
 m8:DefAt G (fi8 p) "_law_width" 303 ["text","tab"] (bo p 303)
 m9:MethAt G B.C (fi9 p) "get_base_indent_string" 224 ["self"] (bo p 224)
 m10:DefAt G (aX9 p) "_law_ask" 310 ["parser","text"] (bo p 310)
 br:nsIn G.K mainGlobals "_law_breaks" =some (some (.ref 281))
 brq:xH G.K false 281=some jG
 ah:nsIn G.K mainGlobals "_law_ahead" =some (some (.ref 289))
 ahq:xH G.K false 289=some kF
 tok:rO G.K tb3
 isi:nsIn G.K mainGlobals "isinstance" =some Option.none
 int:nsIn G.K mainGlobals "int" =some Option.none
 ae:nsIn G.K mainGlobals "AssertionError" =some Option.none
 tab1:(G.tabs.t 0).length=11
 tab2:(G.tabs.t 0).Nodup
theorem F3.pin {G:Glb}{B:Ads}{p:Params} (F:F3 G B p) (P:List (Addr×Obj)):F3 (G.pin P) B p:=
 ⟨F.pf.pin P,F.sp,F.m0.pin P,F.m1.pin P,F.m2.pin P,F.m3.pin P,F.m4.pin P,F.m5.pin P,F.m6.pin P,F.m7.pin P,F.m8.pin P,F.m9.pin P,F.m10.pin P,F.br,F.brq,F.ah,F.ahq,F.tok,F.isi,F.int,F.ae,F.tab1,F.tab2⟩
theorem nL {A B:Prop} (a:A) (b:A→B):A∧B:=⟨a,b a⟩
theorem lU {G:Glb}{fi:FI}{x:PySem.Str}{pos:Pos}{i:Int} (hk:fi.scope.names.lookup x=some .globalImplicit) (hd:(x==("__debug__" :PySem.Str))=false) (e:∃t,nsIn G.K mainGlobals x=some (some (.int i t))):
  EvR G fi (.Name x pos) (aI (.int i)):=let ⟨_,e⟩:=e;bB5 hk hd e
theorem b_trE {G:Glb}{B:Ads} (h:∃C',TransAt G.K B.tab C' aT):dX G (.builtin "str.translate") (trG B.tab aT):=let ⟨_,h⟩:=h;b_tr h
abbrev DR (f:Params→FI) (a:Addr) (g:Ads→PM Fl):Prop:=∀(G:Glb) (B:Ads) (p:Params),F3 G B p→dN G (f p) (bo p a) (g B)
theorem dall:DR fi1 182 iW∧DR fi2 196 bW∧DR fi3 217 gM∧DR fi0 154 mZ∧DR fi4 161 fZ∧DR fi5 259 (fun z_=>tC)∧DR fi6 288 (fun z_=>nO)∧DR fi7 296 (fun z_=>kA)∧DR fi8 303 (fun z_=>jU)∧DR fi9 224 rL∧(∀(G:Glb) (B:Ads) (p:Params),F3 G B p→wI G (fi3 p) (bo p 217) (mE B))∧(∀(G:Glb) (B:Ads) (p:Params),F3 G B p→AskB G B.C (aX9 p) (bo p 310) (xU B))∧(∀(a:Addr) (ns:List Int) (G:Glb) (B:Ads) (p:Params),F3 G B p→dN G (aA8 p a ns) (bo p 315) (vB B a ns)):=by
 refine nL ?_ fun h1=>nL ?_ fun h2=>nL ?_ fun h3=>nL ?_ fun h0=>nL ?_ fun h4=>nL ?_ fun h5=>nL ?_ fun h6=>nL ?_ fun h7=>nL ?_ fun h8=>nL ?_ fun h9=>nL ?_ fun hx=>nL ?_ fun ha=>fun a ns=> ?_
 all_goals
  intro G B p F
  first | show dN _ _ (_::_) _ | show wI _ _ (_::_) _ | show AskB _ _ _ (_::_) _
 repeat' first
  | with_reducible first
   | assumption
   | (refine (?_:dN _ _ _ _);first
   | exact X_nil
   | refine bD8 ?_
   | refine aQ5 ?_ ?_)
   | (refine (?_:ExR _ _ _ _);first
   | exact X_cont
   | exact X_brk
   | exact X_ret0
   | refine X_if ?_ ?_ ?_
   | refine aQ6 ?_
   | refine bA6 ?_ ?_ ?_
   | refine aQ4 (bB1 ?_ ?_) (fun z_=>tS ?_) ?_ ?_ ?_
   | refine aQ4 (zJ ?_) (fun z_=>tS ?_) ?_ ?_ ?_
   | refine aQ4 (S_txt ?_) (fun z_=>tS ?_) ?_ ?_ ?_
   | refine X_ret ?_
   | refine aC5 rfl (fun L f cd=> ?_) [] fn (zJ ?_) (fun P z hz=>rN) (fun P z hz=>have F:=F.pin P; ?_) (rJ ?_) rfl ?_ ?_ rfl (fun z_ z_=>rfl)
   | refine aQ7 (bE3 ?_) ?_ ?_ ?_
   | refine aQ7 (aR1 F.tok ?_) ?_ ?_ ?_
   | refine aQ3 (zJ ?_) (fun P=>aR1 (F.pin P).tok ?_) ?_ ?_ go_tup
   | refine bD9 aG6 ?_ ?_
   | refine X_set ?_ ?_ ?_
   | refine X_set2 ?_ ?_ ?_ ?_ ?_
   | refine xV ?_ ?_ ?_ ?_
   | refine bA7 ?_ ?_ ?_ ?_ ?_ ?_ ?_
   | refine X_unp2 ?_ ?_ ?_ ?_ ?_ ?_ ?_ ?_ ?_
   | refine X_expr ?_ ?_
   | refine X_del ?_ ?_
   | refine bD9 aU5 ?_ ?_)
   | (refine (?_:EvR _ _ (.Name _ _) _);first
   | refine R_bind (by with_unfolding_all exact List.Mem.head _) ?_ ?_
   | refine R_cbind (by with_unfolding_all exact List.Mem.head _) ?_ ?_
   | refine R_name ?_
   | refine lU ?_ ?_ F.pf.cNone
   | refine lU ?_ ?_ F.pf.cBack
   | refine lU ?_ ?_ F.pf.cFirst
   | refine lU ?_ ?_ F.pf.cNext
   | refine lU ?_ ?_ F.pf.cBra
   | refine fX ?_ ?_ F.pf.trans
   | refine fX ?_ ?_ F.pf.junk
   | refine fX ?_ ?_ F.pf.chew
   | refine fX ?_ ?_ F.pf.str
   | refine wG ?_ ?_ F.pf.len ?_ ?_
   | refine wG ?_ ?_ F.pf.range ?_ ?_
   | refine wG ?_ ?_ F.pf.tuple ?_ ?_
   | refine fX ?_ ?_ F.sp
   | refine wG ?_ ?_ F.isi ?_ ?_
   | refine wG ?_ ?_ F.int ?_ ?_)
   | (refine (?_:EvR _ _ (.Call _ _ _ _) _);first
   | refine R_push ?_ ?_ ?_
   | refine jI ?_ ?_ cw_builtin b_len
   | refine jI ?_ ?_ cw_type aZ5
   | refine jI ?_ ?_ (bmK aH2 F.pf.strK).1 (bmK aH2 F.pf.strK).2
   | refine jI ?_ ?_ (bmK yQ F.pf.junkK).1 (bmK yQ F.pf.junkK).2
   | refine jI ?_ ?_ (bmK yR F.pf.chewK).1 (bmK yR F.pf.chewK).2
   | refine aC7 ?_ ?_ ?_ ?_ ?_ ?_ ?_
   | refine dW eH PySem.F.plainAttrs_str PySem.F.slot_str_find PySem.F.type_str_find ?_ ?_ ?_ ?_ ?_ b_find
   | refine dW eH PySem.F.plainAttrs_str PySem.F.slot_str_rfind PySem.F.type_str_rfind ?_ ?_ ?_ ?_ ?_ aZ7
   | refine dW eH PySem.F.plainAttrs_str PySem.F.slot_str_expandtabs PySem.F.type_str_expandtabs ?_ ?_ ?_ ?_ ?_ b_exp
   | refine dW eH PySem.F.plainAttrs_str PySem.F.slot_str_translate PySem.F.type_str_translate ?_ ?_ ?_ ?_ ?_ (b_trE F.pf.trK)
   | refine dW zS PySem.F.plainAttrs_list PySem.F.slot_list_append PySem.F.type_list_append ?_ ?_ ?_ ?_ ?_ vX
   | refine dW aF1 RX.oY RX.kM RX.rS ?_ ?_ ?_ ?_ ?_ b_end
   | refine dW (aF0 F.pf.spK) RX.oX RX.iC RX.oF ?_ ?_ ?_ ?_ ?_ (b_pat aH3 F.pf.spK)
   | refine qC F.m1 (h1 _ _ _ F) ?_ ?_ ?_ ?_ ?_ ?_ ?_ ?_
   | refine qC F.m2 (h2 _ _ _ F) ?_ ?_ ?_ ?_ ?_ ?_ ?_ ?_
   | refine qC F.m4 (h4 _ _ _ F) ?_ ?_ ?_ ?_ ?_ ?_ ?_ ?_
   | refine wE F.m3 (h3 _ _ _ F) ?_ ?_ ?_ ?_ ?_ ?_ ?_ ?_
   | refine wE F.m9 (h9 _ _ _ F) ?_ ?_ ?_ ?_ ?_ ?_ ?_ ?_
   | refine tP F.m5 (h5 _ _ _ F) ?_ ?_ ?_ ?_ ?_ ?_
   | refine tP F.m6 (h6 _ _ _ F) ?_ ?_ ?_ ?_ ?_ ?_
   | refine tP F.m7 (h7 _ _ _ F) ?_ ?_ ?_ ?_ ?_ ?_
   | refine R_defO F.m8 (h8 _ _ _ F) ?_ ?_ ?_ ?_ ?_ ?_
   | refine R_askO F.m10 (ha _ _ _ F) rfl ?_ ?_ ?_ ?_ ?_ ?_
   | refine R_newO F.m0 (h0 _ _ _ F) F.tab1 F.tab2 ?_ ?_ ?_ ?_ ?_ ?_ ?_
   | refine jI ?_ ?_ cw_builtin b_isi
   | refine dW eH PySem.F.plainAttrs_str PySem.F.slot_str_split PySem.F.type_str_split ?_ ?_ ?_ ?_ ?_ aZ6
   | refine dW eH PySem.F.plainAttrs_str PySem.F.slot_str_index PySem.F.type_str_index ?_ ?_ ?_ ?_ ?_ aZ8
   | refine dW eH PySem.F.plainAttrs_str PySem.F.slot_str_lstrip PySem.F.type_str_lstrip ?_ ?_ ?_ ?_ ?_ aP3
   | refine dW eH PySem.F.plainAttrs_str PySem.F.slot_str_join PySem.F.type_str_join ?_ ?_ ?_ ?_ ?_ b_join)
   | (refine (?_:EvR _ _ _ _);first
   | exact R_int
   | exact R_bool
   | exact R_none
   | refine R_str ?_
   | refine wF ?_ ?_ F.br F.brq ?_ ?_
   | refine wF ?_ ?_ F.ah F.ahq ?_ ?_
   | refine wH aU6 ?_ ?_
   | refine R_catB (by with_unfolding_all exact List.Mem.head _) ?_ ?_
   | refine R_binM (aU7 F.tok) ?_ ?_
   | refine aQ9 (by with_unfolding_all exact List.Mem.head _) ?_ ?_ ?_ ?_ ?_
   | refine bE0 cm_isN ?_ ?_ ?_
   | refine bE0 bD4 ?_ ?_ ?_
   | refine R_ite ?_ ?_ ?_
   | refine bB7 ?_ ?_ ?_
   | refine R_bm ?_ ?_
   | refine wH op_add ?_ ?_
   | refine wH op_sub ?_ ?_
   | refine wH aU3 ?_ ?_
   | refine wH op_mod ?_ ?_
   | refine R_una op_neg ?_
   | refine bB2 ?_ ?_ ?_
   | refine R_item ?_ ?_ ?_
   | refine aQ8 ?_
   | refine R_lst ?_
   | refine R_cell ?_)
   | (refine (?_:TrR _ _ _ _);first
   | refine T_not ?_
   | refine T_bool ?_
   | refine nE bD4 ?_ ?_ ?_
   | refine nE cm_ne ?_ ?_ ?_
   | refine nE cm_lt ?_ ?_ ?_
   | refine nE cm_gt ?_ ?_ ?_
   | refine nE cm_ge ?_ ?_ ?_
   | refine nE cm_le ?_ ?_ ?_
   | refine nE cm_in ?_ ?_ ?_
   | refine nE cm_nin ?_ ?_ ?_
   | refine bB0 ?_ ?_)
   | (refine (?_:wC _ _ _ _ _);first
   | refine Ts_and ?_ ?_
   | refine Ts_or ?_ ?_
   | refine bA9 ?_
   | refine Ts_or1 ?_)
   | exact EvsR.nil
   | refine EvsR.cons ?_ ?_ ?_
   | exact P_none
   | refine P_some ?_
   | refine tS ?_
   | refine bB8 ?_ ?_
   | (refine (?_:AttrOk _ _ _ _ _);first
   | exact F.pf.tabwidth
   | exact F.pf.indentwidth
   | exact F.pf.code
   | exact F.pf.continuation
   | exact F.pf.stmt_start
   | exact F.pf.stmt_end
   | exact F.pf.study_level
   | exact F.pf.goodlines
   | exact F.pf.lastch
   | exact F.pf.lastopen
   | exact F.pf.bracketing)
  | (intro P;have F:=F.pin P;with_reducible first | refine bD8 ?_ | refine aQ5 ?_ ?_)
  | ((with_reducible refine (?_:EvR _ _ (.ListComp _ _ _ _) _));refine R_comp [] (fun p hp=>by cases hp) (zJ ?_) (fun P z hz=>rN) (fun P z hz=>have F:=F.pin P; ?_) (rJ ?_) rfl ?_ ?_ rfl (fun z_ z_=>rfl))
  | exact AsgsR.nil
  | refine AsgsR.cons ?_ ?_ ?_
  | ((with_reducible refine (?_:wI _ _ _ _));refine bA8 ?_ ?_)
  | ((with_reducible refine (?_:AskB _ _ _ _ _));refine AskB.mk ?_ F.m3 (hx _ _ _ F) ?_ ?_ ?_ ?_ ?_ ?_ ?_ F.ae ?_ ?_)
  | rfl
  | decide
  | (intro _;rfl)
  | (intro _ _;rfl)
  | (intro _ _ _;rfl)
  | (show _<_;simp;done)
  | exact Nat.lt_succ_self _
  | (intro _;with_unfolding_all rfl)
  | exact Nat.le_of_ble_eq_true rfl
  | (intro _ _ _ _;rfl)
theorem law3_R {G:Glb}{B:Ads}{p:Params} (F:F3 G B p) (a:Addr) (ns:List Int):dN G (aA8 p a ns) (bo p 315) (vB B a ns):=dall.2.2.2.2.2.2.2.2.2.2.2.2 a ns _ _ _ F
end _M
end
section
open PySem PySem.W PySem.Calls PyProof.Rows
namespace _M
noncomputable def bC2:Nat→List PySem.Str:=fun i=>match i with
 | 0=>["indentwidth","tabwidth","code","study_level","goodlines","continuation","stmt_start","stmt_end","lastch","lastopenbracketpos","stmt_bracketing"]
 | 1=>["text","state","depth","start","sign"]
 | _=>[]
@[reducible] noncomputable def gOf (prog:Program) (w:World) (K:Frag) (p:Program) (loose:List PySem.Str) (mean:ExcName→Option Value) (mg mb:PySem.Str→Option Value):Glb:={prog:=prog,w:=w,K:=K,p:=p,loose:=loose,mean:=mean,mg:=mg,mb:=mb,tabs:={t:=bC2,isD:=fun o kvs=>o.IsDictOf (strKind prog w) kvs}}
set_option tactic.hygienic true in
theorem law_go {G:Glb}{fi:FI}{body:List Stmt}{F:PM Fl} (HB:dN G fi body F) {A:Around}{h₀:Heap}{L:Addr}{env:Env} (C:Cx G fi A h₀ L env) {s:Shared}{σ:St} (hF:∃σ',F σ= .ok (.ret (.bool true)) σ') (R:Rel G fi h₀ L σ [] s)
  {Q:Flow→Shared→Prop}{E:Value→Shared→Prop} (hQ:∀h' t' m',Fr h₀ L h' m'→Q (.ret (.bool true)) (Sh s h' t')):wpAny (model G.prog G.w) A (execs body env) Q E s:=by
 obtain ⟨σ',hF⟩:=hF
 refine HB A h₀ L env C [] s σ _ σ' Q E hF R fun flow h' t' FR=> ?_
 induction flow <;> first | exact FR.elim | skip
 rename_i v
 replace FR:Rel G fi h₀ L σ' ((.bool true,v)::[]) (Sh s h' t'):=FR
 obtain ⟨m',α,N,R'⟩:=FR
 have r:=R'.held (_,v) (.head _)
 cases r
 exact hQ h' t' m' R'.fr
noncomputable def xS (es:Array DictEntry) (f:Nat→Nat):Bool:=
 es.toList.all (fun e=>match e.key with | .int k _=>e.hash==hashInt k | _=>false) &&
 (List.range 128).all fun c=>match es.findIdx? (fun e=>Value.isInt (c:Int) e.key) with
  | some i=>(match es[i]? with
   | some e=>(match e.val with | .int v _=>v==(f c:Int)&&decide (f c<128) | _=>false)
   | none=>false)
  | none=>false
set_option tactic.hygienic true in
theorem aB5 {es:Array DictEntry}{f:Nat→Nat} (h:xS es f=true):IntKeys es∧∀c:Nat,c<128→∃i t e,es.findIdx? (fun e=>Value.isInt (c:Int) e.key)=some i∧es[i]? =some e∧e.val= .int (f c) t∧f c<128:=by
 unfold xS at h
 rw [Bool.and_eq_true] at h
 obtain ⟨h1,h2⟩:=h
 refine ⟨fun e he=> ?_,fun c hc=> ?_⟩
 ·have:=List.all_eq_true.mp h1 e (by simpa using he)
  split at this
  ·rename_i k t hk
   exact ⟨k,t,hk,by simpa using this⟩
  ·cases this
 ·have:=List.all_eq_true.mp h2 c (List.mem_range.mpr hc)
  split at this
  ·rename_i i hi
   split at this
   ·rename_i e he
    split at this
    ·rename_i v t hv
     rw [Bool.and_eq_true,beq_iff_eq,decide_eq_true_eq] at this
     obtain ⟨q1,q2⟩:=this
     subst q1
     exact ⟨i,t,e,hi,he,hv,q2⟩
    ·cases this
   ·cases this
  ·cases this
noncomputable def esAt (K:Frag) (a:Addr):Array DictEntry:=match K.lookup a with
 | some ⟨_,_, .dict es _,_⟩=>es
 | _=> #[]
set_option tactic.hygienic true in
theorem tab_at {K:Frag}{tab C:Addr}{f:Nat→Nat} (h1:typeIn K (.ref tab)=some (.ref C)) (h2:noSeq K C=true) (h3:specialIn K (.ref tab) "__getitem__" =some (some (.builtin "dict.__getitem__"))) (h4:instIn K (.ref tab) (.type "dict")=some true)
  (h5:(K.lookup tab).isSome=true) (h6:xS (esAt K tab) f=true) (h7:(match K.lookup tab with | some ⟨_,_, .dict _ _,_⟩=>true | _=>false)=true):TransAt K tab C f:=by
 refine ⟨h1,h2,h3,h4, ?_⟩
 split at h7
 ·rename_i oc od es n sl e
  have:esAt K tab=es:=by unfold esAt;rw [e]
  rw [this] at h6
  exact ⟨oc,od,es,n,sl,e,aB5 h6⟩
 ·cases h7
noncomputable def fiB (fi:FI):Bool:=decide (fi.scope.kind= .function)&&(decide fi.vnames.Nodup&&(fi.vnames.all (fun x=>decide (fi.scope.names.lookup x=some .local) && !(x==("__debug__" :PySem.Str)))&&(!fi.scope.isGenerator&&(!fi.scope.isCoroutine&&fi.scope.names.all (fun x=>decide (x.2≠ .cell))))))
structure FiB (fi:FI):Prop where
 ok:FIok fi
 gen:fi.scope.isGenerator=false
 co:fi.scope.isCoroutine=false
 nocell:∀x∈fi.scope.names,x.2≠ .cell
theorem aM7 {fi:FI} (h:fiB fi=true):FiB fi:=by
 unfold fiB at h
 simp only [Bool.and_eq_true,decide_eq_true_eq,Bool.not_eq_true',List.all_eq_true] at h
 obtain ⟨h1,h2,h3,h4,h5,h6⟩:=h
 exact ⟨⟨h1,h2,fun z_ x hx=>(h3 x hx).1,fun x hx=>(h3 x hx).2⟩,h4,h5,h6⟩
theorem dS {G:Glb}{fi:FI}{f:Addr}{params:List PySem.Str}{body:List Stmt} (hb:fiB fi=true) (bare:fi.cmp=false∧fi.base=[]∧fi.bind=[]∧fi.cbind=[]∧fi.top=false) (pre:fi.vnames.take params.length=params)
  (at_:∃oc od name ps dV kV doc pm an cdv ct osl,G.K.lookup f=some ⟨oc,od, .func (fnOf name fi.qual ps body fi.scope dV kV doc pm an cdv ct),osl⟩∧codeIn G.K cdv fi.qual=true∧
   ∀vs:List Value,vs.length=params.length→bindArgs (fnOf name fi.qual ps body fi.scope dV kV doc pm an cdv ct) ⟨vs,[]⟩=pure (params.zip vs)):FnAt G fi f params body:=
 let h:=aM7 hb
 ⟨h.ok,h.gen,h.co,h.nocell,bare,pre,at_⟩
end _M
end
section
open PySem PySem.W PySem.Calls PyProof.Rows
set_option maxHeartbeats 4000000
namespace _M
section
noncomputable def ads:Ads:=⟨248,63,65,64,58,90⟩
section
variable {prog:Program}{w:World}{p:Params}{pp:Program}{loose:List PySem.Str}{mean:ExcName→Option Value}{mg mb:PySem.Str→Option Value}
@[reducible] noncomputable def gg (prog:Program) (w:World) (p:Params) (pp:Program) (loose:List PySem.Str) (mean:ExcName→Option Value) (mg mb:PySem.Str→Option Value):Glb:=gOf prog w (H.aY p) pp loose mean mg mb
theorem gZ:plainGet (H.aY p) 248 "x" =true∧hasDictIn (H.aY p) 248=true∧findIn (H.aY p) (.ref 248) "__setattr__" =some (some (.builtin "object.__setattr__"))∧plainOver (H.aY p) 248=true:=
 ⟨by kernel_rfl,by kernel_rfl,by kernel_rfl,by kernel_rfl⟩
theorem dU {j:Nat}{name:PySem.Str} (hj:(bC2 0)[j]? =some name) (ha:findIn (H.aY p) (.ref 248) name=some Option.none):AttrOk (gg prog w p pp loose mean mg mb) 248 0 j name:=
 ⟨hj,gZ.1,gZ.2.1,ha,gZ.2.2.1,gZ.2.2.2,by unfold takerIn;rw [ha];rfl⟩
theorem pf_ok:PF (gg prog w p pp loose mean mg mb) ads where
 indentwidth:=dU rfl (by kernel_rfl)
 tabwidth:=dU rfl (by kernel_rfl)
 code:=dU rfl (by kernel_rfl)
 study_level:=dU rfl (by kernel_rfl)
 goodlines:=dU rfl (by kernel_rfl)
 continuation:=dU rfl (by kernel_rfl)
 stmt_start:=dU rfl (by kernel_rfl)
 stmt_end:=dU rfl (by kernel_rfl)
 lastch:=dU rfl (by kernel_rfl)
 lastopen:=dU rfl (by kernel_rfl)
 bracketing:=dU rfl (by kernel_rfl)
 cNone:=⟨_,by rfl⟩
 cBack:=⟨_,by rfl⟩
 cFirst:=⟨_,by rfl⟩
 cNext:=⟨_,by rfl⟩
 cBra:=⟨_,by rfl⟩
 trans:=by kernel_rfl
 junk:=by kernel_rfl
 chew:=by kernel_rfl
 str:=by kernel_rfl
 len:=by kernel_rfl
 range:=by kernel_rfl
 tuple:=by kernel_rfl
 junkK:=⟨43,⟨_,_,_,_,_,_,_,_,_,by rfl,by rfl,by kernel_rfl⟩,by kernel_rfl⟩
 chewK:=⟨53,⟨_,_,_,_,_,_,_,_,_,by rfl,by rfl,by kernel_rfl⟩,by kernel_rfl⟩
 strK:=⟨48,⟨_,_,_,_,_,_,_,_,_,by rfl,by rfl,by kernel_rfl⟩,by kernel_rfl⟩
 spK:=⟨_,_,_,_,_,_,_,_,_,by rfl,by rfl,by kernel_rfl⟩
 trK:=⟨82,tab_at (by kernel_rfl) (by kernel_rfl) (by kernel_rfl) (by kernel_rfl) (by kernel_rfl) (by kernel_rfl) (by kernel_rfl)⟩
end
section
variable {prog:Program}{w:World}{p:Params}{pp:Program}{loose:List PySem.Str}{mean:ExcName→Option Value}{mg mb:PySem.Str→Option Value}
theorem aK4:FnAt (gg prog w p pp loose mean mg mb) (fi0 p) 154 ["self","indentwidth","tabwidth"] (bR (H.aY p) 154):=
 dS (by kernel_rfl) ⟨rfl,rfl,rfl,rfl,rfl⟩ rfl ⟨_,_,_,_,_,_,_,_,_,_,_,_,by rfl,by kernel_rfl,fun vs h=>by obtain ⟨a,b,c,rfl⟩:=kY h;rfl⟩
theorem m0_ok:NewAt (gg prog w p pp loose mean mg mb) 248 (fi0 p) "Parser" 154 ["self","indentwidth","tabwidth"] (bR (H.aY p) 154):=
 ⟨by kernel_rfl,by kernel_rfl,by kernel_rfl,by kernel_rfl,by kernel_rfl,aK4⟩
theorem aK3:FnAt (gg prog w p pp loose mean mg mb) (fi1 p) 182 ["self"] (bR (H.aY p) 182):=
 dS (by kernel_rfl) ⟨rfl,rfl,rfl,rfl,rfl⟩ rfl ⟨_,_,_,_,_,_,_,_,_,_,_,_,by rfl,by kernel_rfl,fun vs h=>by obtain ⟨a,rfl⟩:=mI h;rfl⟩
theorem m1_ok:MethAt (gg prog w p pp loose mean mg mb) 248 (fi1 p) "_study1" 182 ["self"] (bR (H.aY p) 182):=
 ⟨by kernel_rfl,by kernel_rfl,by kernel_rfl,by kernel_rfl,of_decide_eq_true (by kernel_rfl),aK3⟩
theorem aK2:FnAt (gg prog w p pp loose mean mg mb) (fi2 p) 196 ["self"] (bR (H.aY p) 196):=
 dS (by kernel_rfl) ⟨rfl,rfl,rfl,rfl,rfl⟩ rfl ⟨_,_,_,_,_,_,_,_,_,_,_,_,by rfl,by kernel_rfl,fun vs h=>by obtain ⟨a,rfl⟩:=mI h;rfl⟩
theorem m2_ok:MethAt (gg prog w p pp loose mean mg mb) 248 (fi2 p) "_study2" 196 ["self"] (bR (H.aY p) 196):=
 ⟨by kernel_rfl,by kernel_rfl,by kernel_rfl,by kernel_rfl,of_decide_eq_true (by kernel_rfl),aK2⟩
theorem aK1:FnAt (gg prog w p pp loose mean mg mb) (fi3 p) 217 ["self"] (bR (H.aY p) 217):=
 dS (by kernel_rfl) ⟨rfl,rfl,rfl,rfl,rfl⟩ rfl ⟨_,_,_,_,_,_,_,_,_,_,_,_,by rfl,by kernel_rfl,fun vs h=>by obtain ⟨a,rfl⟩:=mI h;rfl⟩
theorem m3_ok:MethAt (gg prog w p pp loose mean mg mb) 248 (fi3 p) "compute_backslash_indent" 217 ["self"] (bR (H.aY p) 217):=
 ⟨by kernel_rfl,by kernel_rfl,by kernel_rfl,by kernel_rfl,of_decide_eq_true (by kernel_rfl),aK1⟩
theorem aK0:FnAt (gg prog w p pp loose mean mg mb) (fi4 p) 161 ["self","s"] (bR (H.aY p) 161):=
 dS (by kernel_rfl) ⟨rfl,rfl,rfl,rfl,rfl⟩ rfl ⟨_,_,_,_,_,_,_,_,_,_,_,_,by rfl,by kernel_rfl,fun vs h=>by obtain ⟨a,b,rfl⟩:=mH h;rfl⟩
theorem m4_ok:MethAt (gg prog w p pp loose mean mg mb) 248 (fi4 p) "set_code" 161 ["self","s"] (bR (H.aY p) 161):=
 ⟨by kernel_rfl,by kernel_rfl,by kernel_rfl,by kernel_rfl,of_decide_eq_true (by kernel_rfl),aK0⟩
theorem aJ9:FnAt (gg prog w p pp loose mean mg mb) (fi5 p) 259 [] (bR (H.aY p) 259):=
 dS (by kernel_rfl) ⟨rfl,rfl,rfl,rfl,rfl⟩ rfl ⟨_,_,_,_,_,_,_,_,_,_,_,_,by rfl,by kernel_rfl,fun vs h=>by cases vs with | nil=>rfl | cons a r=>cases h⟩
theorem m5_ok:DefAt (gg prog w p pp loose mean mg mb) (fi5 p) "_law_heads" 259 [] (bR (H.aY p) 259):=
 ⟨by kernel_rfl,by kernel_rfl,aJ9⟩
theorem aJ8:FnAt (gg prog w p pp loose mean mg mb) (fi6 p) 288 [] (bR (H.aY p) 288):=
 dS (by kernel_rfl) ⟨rfl,rfl,rfl,rfl,rfl⟩ rfl ⟨_,_,_,_,_,_,_,_,_,_,_,_,by rfl,by kernel_rfl,fun vs h=>by cases vs with | nil=>rfl | cons a r=>cases h⟩
theorem m6_ok:DefAt (gg prog w p pp loose mean mg mb) (fi6 p) "_law_whites" 288 [] (bR (H.aY p) 288):=
 ⟨by kernel_rfl,by kernel_rfl,aJ8⟩
theorem aJ7:FnAt (gg prog w p pp loose mean mg mb) (fi7 p) 296 [] (bR (H.aY p) 296):=
 dS (by kernel_rfl) ⟨rfl,rfl,rfl,rfl,rfl⟩ rfl ⟨_,_,_,_,_,_,_,_,_,_,_,_,by rfl,by kernel_rfl,fun vs h=>by cases vs with | nil=>rfl | cons a r=>cases h⟩
theorem m7_ok:DefAt (gg prog w p pp loose mean mg mb) (fi7 p) "_law_later" 296 [] (bR (H.aY p) 296):=
 ⟨by kernel_rfl,by kernel_rfl,aJ7⟩
theorem aJ6:FnAt (gg prog w p pp loose mean mg mb) (fi8 p) 303 ["text","tab"] (bR (H.aY p) 303):=
 dS (by kernel_rfl) ⟨rfl,rfl,rfl,rfl,rfl⟩ rfl ⟨_,_,_,_,_,_,_,_,_,_,_,_,by rfl,by kernel_rfl,fun vs h=>by obtain ⟨a,b,rfl⟩:=mH h;rfl⟩
theorem m8_ok:DefAt (gg prog w p pp loose mean mg mb) (fi8 p) "_law_width" 303 ["text","tab"] (bR (H.aY p) 303):=
 ⟨by kernel_rfl,by kernel_rfl,aJ6⟩
theorem aJ5:FnAt (gg prog w p pp loose mean mg mb) (fi9 p) 224 ["self"] (bR (H.aY p) 224):=
 dS (by kernel_rfl) ⟨rfl,rfl,rfl,rfl,rfl⟩ rfl ⟨_,_,_,_,_,_,_,_,_,_,_,_,by rfl,by kernel_rfl,fun vs h=>by obtain ⟨a,rfl⟩:=mI h;rfl⟩
theorem m9_ok:MethAt (gg prog w p pp loose mean mg mb) 248 (fi9 p) "get_base_indent_string" 224 ["self"] (bR (H.aY p) 224):=
 ⟨by kernel_rfl,by kernel_rfl,by kernel_rfl,by kernel_rfl,of_decide_eq_true (by kernel_rfl),aJ5⟩
theorem aA3:FnAt (gg prog w p pp loose mean mg mb) (aX9 p) 310 ["parser","text"] (bR (H.aY p) 310):=
 dS (by kernel_rfl) ⟨rfl,rfl,rfl,rfl,rfl⟩ rfl ⟨_,_,_,_,_,_,_,_,_,_,_,_,by rfl,by kernel_rfl,fun vs h=>by obtain ⟨a,b,rfl⟩:=mH h;rfl⟩
theorem m10_ok:DefAt (gg prog w p pp loose mean mg mb) (aX9 p) "_law_ask" 310 ["parser","text"] (bR (H.aY p) 310):=
 ⟨by kernel_rfl,by kernel_rfl,aA3⟩
theorem tok_ok:rO (H.aY p) tb3:=tab_of (by
 refine fc ?_ (fc ?_ (fc ?_ (fc ?_ (fc ?_ (fc ?_ (fc ?_ (fc ?_ (fc ?_ (fc ?_ (fc ?_ (fc ?_ (fc ?_ (fc ?_ (fc ?_ (fc ?_ (fc ?_ (fc ?_ (fc ?_ (fc ?_ (fc ?_ fn))))))))))))))))))))
 all_goals kernel_rfl)
theorem f3_ok:F3 (gg prog w p pp loose mean mg mb) ads p:=
 ⟨pf_ok,by kernel_rfl,m0_ok,m1_ok,m2_ok,m3_ok,m4_ok,m5_ok,m6_ok,m7_ok,m8_ok,m9_ok,m10_ok,by kernel_rfl,by kernel_rfl,by kernel_rfl,by kernel_rfl,tok_ok,by kernel_rfl,by kernel_rfl,by kernel_rfl,rfl,of_decide_eq_true (by kernel_rfl)⟩
end
end
end _M
end
section
open PySem
namespace _M
namespace PT
section
variable {l s:List Nat}{c q:Nat}{m:Md}{z:Z}
inductive Md where
 | pl
 | cm
 | esc
 | st (q w first:Nat)
 | se (q w first:Nat)
 | skS (n q w first:Nat)
 | skP (n:Nat)
structure Z where
 level:Nat
 lno:Nat
 good:List Nat
 cont:Nat
noncomputable def nl (z:Z):Z:={z with lno:=z.lno+1,good:=if z.level=0 then z.good++[z.lno+1] else z.good}
noncomputable def step (m:Md) (z:Z) (c:Nat) (r:List Nat):Option (Md×Z):=match m with
 | .pl=>
  if c=120 then some (.pl,z)
  else if c=10 then some (.pl,nl z)
  else if c=40 then some (.pl,{z with level:=z.level+1})
  else if c=41 then some (.pl,{z with level:=z.level-1})
  else if c=34∨c=39 then (if r.take 2=[c,c] then some (.skS 2 c 2 z.lno,z) else some (.st c 0 z.lno,z))
  else if c=35 then some (.cm,z)
  else if c=92 then some (.esc,z)
  else none
 | .cm=>if c=10 then some (.pl,nl z) else some (.cm,z)
 | .esc=>if c=10 then some (.pl,{z with lno:=z.lno+1,cont:=if r=[] then 1 else z.cont}) else some (.pl,z)
 | .st q w first=>
  if c=120 then some (.st q w first,z)
  else if (c::r).take (w+1)=List.replicate (w+1) q then (if w=0 then some (.pl,z) else some (.skP w,z))
  else if c=10 then (if w=0 then some (.pl,nl z) else some (.st q w first,{z with lno:=z.lno+1}))
  else if c=92 then some (.se q w first,z)
  else some (.st q w first,z)
 | .se q w first=>if c=10 then some (.st q w first,{z with lno:=z.lno+1}) else some (.st q w first,z)
 | .skS n q w first=>if n≤1 then some (.st q w first,z) else some (.skS (n-1) q w first,z)
 | .skP n=>if n≤1 then some (.pl,z) else some (.skP (n-1),z)
noncomputable def run:Md→Z→List Nat→Option (Md×Z)
 | m,z,[]=>some (m,z)
 | m,z,c::r=>match step m z c r with
  | some (m',z')=>run m' z' r
  | none=>none
theorem uD {m:Md}{z:Z}{c:Nat}{r:List Nat}:run m z (c::r)=match step m z c r with
  | some (m',z')=>run m' z' r
  | none=>none:=rfl
inductive Sk:List Nat→List Nat→Prop where
 | nil:Sk [] []
 | cons {c:Nat}{l s:List Nat}:Sk l s→Sk (c::l) (c::s)
 | dx {l s:List Nat}:Sk (120::l) s→Sk (120::120::l) s
 | dn {l s:List Nat}:Sk (10::l) s→Sk (10::120::l) s
theorem Sk.nil_iff (h:Sk l s):l=[]↔s=[]:=by
 induction h with
 | nil=>simp
 | cons=>simp
 | dx _ ih=>simp at ih ⊢;exact ih
 | dn _ ih=>simp at ih ⊢;exact ih
theorem Sk.head (h:Sk l s):l.head? =s.head? :=by
 induction h with
 | nil=>rfl
 | cons=>rfl
 | dx _ ih=>simpa using ih
 | dn _ ih=>simpa using ih
theorem Sk.reps (hq:q≠120) (hq2:q≠10):∀(n:Nat) {l s:List Nat},Sk l s→(l.take n=List.replicate n q↔s.take n=List.replicate n q):=by
 intro n
 induction n with
 | zero=>intro l s _;simp
 | succ n ih=>
  intro l s h
  cases h with
  | nil=>exact Iff.rfl
  | cons h=>
   rw [List.take_succ_cons,List.take_succ_cons,List.replicate_succ,List.cons.injEq,List.cons.injEq,ih h]
  | dx h=>
   have hh:=h.head
   cases s with
   | nil=>simp at hh
   | cons a s=>
    simp at hh
    subst hh
    rw [List.take_succ_cons,List.take_succ_cons,List.replicate_succ,List.cons.injEq,List.cons.injEq]
    constructor <;> rintro ⟨e,_⟩ <;> exact absurd e.symm hq
  | dn h=>
   have hh:=h.head
   cases s with
   | nil=>simp at hh
   | cons a s=>
    simp at hh
    subst hh
    rw [List.take_succ_cons,List.take_succ_cons,List.replicate_succ,List.cons.injEq,List.cons.injEq]
    constructor <;> rintro ⟨e,_⟩ <;> exact absurd e.symm hq2
noncomputable def okM:Md→Prop
 | .st q _ _=>q≠120∧q≠10
 | .se q _ _=>q≠120∧q≠10
 | .skS _ q _ _=>q≠120∧q≠10
 | _=>True
theorem aS8 (hm:okM m) (h:Sk (c::l) (c::s)) (hls:Sk l s):step m z c l=step m z c s:=by
 unfold step
 induction m with
 | pl=>
  skip
  by_cases hq:c=34∨c=39
  ·have h2:(l.take 2=[c,c])↔(s.take 2=[c,c]):=by
    have:=Sk.reps (q:=c) (by lia) (by lia) 2 hls
    simpa using this
   simp only [h2]
  ·simp only [if_neg hq]
 | cm=>rfl
 | esc=>
  have:=hls.nil_iff
  skip
  simp only [this]
 | st q w first=>
  skip
  have:=Sk.reps (q:=q) hm.1 hm.2 (w+1) h
  simp only [this]
 | se q w first=>rfl
 | skS n q w first=>rfl
 | skP n=>rfl
def val (m:Md) (l:List Nat):Prop:=okM m∧match m with
 | .skS n q _ _=>0<n∧l.take n=List.replicate n q
 | .skP n=>0<n∧∃q,q≠120∧q≠10∧l.take n=List.replicate n q
 | _=>True
noncomputable def onM (P:Md→Prop):Option (Md×Z)→Prop
 | some p=>P p.1
 | none=>True
theorem bL {P:Md→Prop}{c:Prop} [Decidable c] {a b:Option (Md×Z)} (ha:c→onM P a) (hb:¬c→onM P b):onM P (if c then a else b):=by
 by_cases h:c
 ·rw [if_pos h];exact ha h
 ·rw [if_neg h];exact hb h
theorem q_ok (h:c=34∨c=39):c≠120∧c≠10:=by rcases h with rfl | rfl <;> exact ⟨by decide,by decide⟩
theorem oI {n:Nat} (h:(c::l).take (n+1)=List.replicate (n+1) q):l.take n=List.replicate n q:=by
 rw [List.take_succ_cons,List.replicate_succ,List.cons.injEq] at h;exact h.2
theorem aE6 (hv:val m (c::l)):onM (fun m'=>val m' l) (step m z c l):=by
 induction m with
 | pl=>
  exact bL (fun z_=>⟨trivial,trivial⟩) fun z_=>bL (fun z_=>⟨trivial,trivial⟩) fun z_=>bL (fun z_=>⟨trivial,trivial⟩) fun z_=>bL (fun z_=>⟨trivial,trivial⟩) fun z_=>
   bL (fun h=>bL (fun h2=>⟨q_ok h,Nat.succ_pos 1,h2⟩) fun z_=>⟨q_ok h,trivial⟩) fun z_=>bL (fun z_=>⟨trivial,trivial⟩) fun z_=>bL (fun z_=>⟨trivial,trivial⟩) fun z_=>trivial
 | cm=>exact bL (fun z_=>⟨trivial,trivial⟩) fun z_=>⟨trivial,trivial⟩
 | esc=>exact bL (fun z_=>⟨trivial,trivial⟩) fun z_=>⟨trivial,trivial⟩
 | st q w first=>
  exact bL (fun z_=>⟨hv.1,trivial⟩) fun z_=>bL (fun hr=>bL (fun z_=>⟨trivial,trivial⟩) fun h0=>⟨trivial,Nat.pos_of_ne_zero h0,q,hv.1.1,hv.1.2,oI hr⟩) fun z_=>
   bL (fun z_=>bL (fun z_=>⟨trivial,trivial⟩) fun z_=>⟨hv.1,trivial⟩) fun z_=>bL (fun z_=>⟨hv.1,trivial⟩) fun z_=>⟨hv.1,trivial⟩
 | se q w first=>exact bL (fun z_=>⟨hv.1,trivial⟩) fun z_=>⟨hv.1,trivial⟩
 | skS n q w first=>
  induction n with
  | zero=>exact absurd hv.2.1 (Nat.lt_irrefl 0)
  | succ k=>exact bL (fun z_=>⟨hv.1,trivial⟩) fun h=>⟨hv.1,Nat.pos_of_ne_zero fun e=>h (Nat.succ_le_succ (Nat.le_of_eq e)),oI hv.2.2⟩
 | skP n=>
  induction n with
  | zero=>exact absurd hv.2.1 (Nat.lt_irrefl 0)
  | succ k=>
   obtain ⟨q,h1,h2,ht⟩:=hv.2.2
   exact bL (fun z_=>⟨trivial,trivial⟩) fun h=>⟨trivial,Nat.pos_of_ne_zero fun e=>h (Nat.succ_le_succ (Nat.le_of_eq e)),q,h1,h2,oI ht⟩
theorem aE5 {m':Md}{z':Z} (hv:val m (c::l)) (h:step m z c l=some (m',z')):val m' l:=by
 have:=aE6 (z:=z) hv
 rw [h] at this
 exact this
theorem kK (hv:val m (c::l)) (hc:c=120∨c=10):(∀n q w f,m≠ .skS n q w f)∧∀n,m≠ .skP n:=by
 constructor
 ·rintro n q w f rfl
  obtain ⟨h0,ht⟩:=hv.2
  obtain ⟨k,rfl⟩:∃k,n=k+1:=⟨n-1,by exact Q101 (.n2 _ _) h0 rfl⟩
  rw [List.take_succ_cons,List.replicate_succ,List.cons.injEq] at ht
  have:=hv.1
  simp [okM] at this
  lia
 ·rintro n rfl
  obtain ⟨h0,q,h1,h2,ht⟩:=hv.2
  obtain ⟨k,rfl⟩:∃k,n=k+1:=⟨n-1,by exact Q101 (.n2 _ _) h0 rfl⟩
  rw [List.take_succ_cons,List.replicate_succ,List.cons.injEq] at ht
  lia
theorem aG0 {w:Nat} (hq:c≠q):¬(c::l).take (w+1)=List.replicate (w+1) q:=by
 rw [List.take_succ_cons,List.replicate_succ,List.cons.injEq]
 exact fun h=>hq h.1
theorem run_xx (hv:val m (120::120::l)):run m z (120::120::l)=run m z (120::l):=by
 have hh:=kK hv (.inl rfl)
 induction m with
 | pl=>rfl
 | cm=>rfl
 | esc=>rfl
 | st q w first=>rfl
 | se q w first=>rfl
 | skS n q w f=>exact absurd rfl (hh.1 n q w f)
 | skP n=>exact absurd rfl (hh.2 n)
theorem run_nx (hv:val m (10::120::l)) (hl:l≠[]):run m z (10::120::l)=run m z (10::l):=by
 have hh:=kK hv (.inr rfl)
 induction m with
 | pl=>rfl
 | cm=>rfl
 | esc=>simp [run,step,hl]
 | st q w first=>
  have hq:(10:Nat)≠q:=fun e=>hv.1.2 e.symm
  simp only [run,step,aG0 hq,if_false,show ¬((10:Nat)=120) by decide]
  by_cases hw:w=0
  ·simp [hw,run,step]
  ·simp [hw,run,step]
 | se q w first=>rfl
 | skS n q w f=>exact absurd rfl (hh.1 n q w f)
 | skP n=>exact absurd rfl (hh.2 n)
def ends (l:List Nat):Prop:=l=[]∨l.getLast? =some 10
theorem eY (h:ends (c::l)):ends l:=by
 induction l with
 | nil=>exact .inl rfl
 | cons d l=>
  rcases h with h | h
  ·cases h
  ·rw [List.getLast?_cons_cons] at h
   exact .inr h
set_option tactic.hygienic true in
theorem run_sk (h:Sk l s):∀(m:Md) (z:Z),val m l→ends l→run m z l=run m z s:=by
 induction h with
 | nil=>intro m z _ _;rfl
 | cons h ih=>
  intro m z hv he
  rename_i c l s
  rw [uD,uD]
  rw [←aS8 hv.1 (.cons h) h]
  cases hst:step m z c l with
  | none=>rfl
  | some p=>exact ih p.1 p.2 (aE5 hv hst) (eY he)
 | dx h ih=>
  intro m z hv he
  rename_i l s
  rw [run_xx hv]
  have hh:=kK hv (.inl rfl)
  refine ih m z ⟨hv.1, ?_⟩ (eY he)
  induction m <;> first | trivial | exact absurd rfl (hh.1 _ _ _ _) | exact absurd rfl (hh.2 _)
 | dn h ih=>
  intro m z hv he
  rename_i l s
  have hh:=kK hv (.inr rfl)
  have hl:l≠[]:=by
   rintro rfl
   rcases he with he | he
   ·cases he
   ·simp at he
  rw [run_nx hv hl]
  refine ih m z ⟨hv.1, ?_⟩ ?_
  ·induction m <;> first | trivial | exact absurd rfl (hh.1 _ _ _ _) | exact absurd rfl (hh.2 _)
  ·rcases he with he | he
   ·cases he
   ·right
    rw [List.getLast?_cons_cons] at he
    induction l with
    | nil=>exact absurd rfl hl
    | cons d l=>rw [List.getLast?_cons_cons] at he ⊢;exact he
theorem rH (h:l≠[]) (he:ends l):ends (c::l):=by
 induction l with
 | nil=>exact absurd rfl h
 | cons d l=>
  rcases he with he | he
  ·cases he
  ·right;rw [List.getLast?_cons_cons];exact he
set_option tactic.hygienic true in
theorem Sk.ends (h:Sk l s):PT.ends l→PT.ends s:=by
 induction h with
 | nil=>exact fun h=>h
 | cons h ih=>
  intro he
  rename_i c l s
  by_cases hl:l=[]
  ·have hs:=h.nil_iff.mp hl
   subst hl;subst hs
   exact he
  ·exact rH (fun e=>hl (h.nil_iff.mpr e)) (ih (eY he))
 | dx h ih=>exact fun he=>ih (eY he)
 | dn h ih=>
  intro he
  rename_i l s
  refine ih ?_
  have hl:l≠[]:=by
   rintro rfl
   rcases he with he | he
   ·cases he
   ·simp at he
  exact rH hl (eY (eY he))
theorem Sk.many:∀(n:Nat),Sk (120::l) s→Sk (List.replicate n 120++120::l) s
 | 0,h=>h
 | n+1,h=>by
  have ih:=Sk.many n h
  induction n with
  | zero=>exact .dx h
  | succ n=>
   rw [List.replicate_succ,List.cons_append]
   rw [List.replicate_succ,List.cons_append] at ih ⊢
   exact .dx ih
end
end PT
end _M
end
section
open PySem Builtin Builtin.Str
namespace _M
namespace PT
section
variable {l y z:List Nat}
noncomputable def fH (y:List Nat):Nat→Nat→List Nat→List Nat
 | _,_,[]=>[]
 | 0,p,c::r=>if (c::r).take y.length=y then p::fH y (y.length-1) (p+1) r else fH y 0 (p+1) r
 | s+1,p,_::r=>fH y s (p+1) r
noncomputable def dP (y z:List Nat):Nat→List Nat→List Nat
 | _,[]=>[]
 | 0,c::r=>if (c::r).take y.length=y then z++dP y z (y.length-1) r else c::dP y z 0 r
 | s+1,_::r=>dP y z s r
theorem sE {y r:List Nat}{p c:Nat}:fH y 0 p (c::r)=if (c::r).take y.length=y then p::fH y (y.length-1) (p+1) r else fH y 0 (p+1) r:=rfl
theorem aH5 {y r:List Nat}{s p c:Nat}:fH y (s+1) p (c::r)=fH y s (p+1) r:=rfl
theorem rY {y z r:List Nat}{c:Nat}:dP y z 0 (c::r)=if (c::r).take y.length=y then z++dP y z (y.length-1) r else c::dP y z 0 r:=rfl
theorem rplG_s {y z r:List Nat}{s c:Nat}:dP y z (s+1) (c::r)=dP y z s r:=rfl
theorem sD {l y:List Nat} (hy:0<y.length):∀(m p free:Nat) (found:Array Nat),p+m=l.length+1→found.size≤p→
  (forIn (List.range' p m) (found,free) (StrLaws.occBody ⟨l.toArray⟩ ⟨y.toArray⟩ l.length (l.length+1))).run.fst.toList=found.toList++fH y (free-p) p (l.drop p)
 | 0,p,free,found,hp,_=>by
  have:l.drop p=[]:=List.drop_eq_nil_of_le (lin1 (.l .v0 .v1) (.q (.a .v1 .k0) (.a .v0 .k1)) (.w [1, -1]) rfl (.n2 _ _) hp)
  rw [this]
  cases free-p <;> simp [fH]
 | m+1,p,free,found,hp,hf=>by
  rw [List.range'_succ,List.forIn_cons]
  have hyl:(⟨y.toArray⟩:PySem.Str).length=y.length:=bP y
  unfold StrLaws.occBody
  rw [hyl]
  have hsub:(StrLaws.occBody ⟨l.toArray⟩ ⟨y.toArray⟩ l.length (l.length+1))=(StrLaws.occBody ⟨l.toArray⟩ ⟨y.toArray⟩ l.length (l.length+1)):=rfl
  have hs:subAt ⟨l.toArray⟩ ⟨y.toArray⟩ p=((l.drop p).take y.length==y):=by
   rw [StrLaws.subAt_eq,hyl]
  rw [hs]
  have cond:((((found,free).fst.size<l.length+1∧(found,free).snd≤p)∧p+y.length≤l.length)∧((l.drop p).take y.length==y)=true)↔(free≤p∧(l.drop p).take y.length=y):=by
   simp only [beq_iff_eq]
   constructor
   ·rintro ⟨⟨⟨_,h2⟩,_⟩,h4⟩;exact ⟨h2,h4⟩
   ·rintro ⟨h2,h4⟩
    have:((l.drop p).take y.length).length=y.length:=by rw [h4]
    rw [List.length_take,List.length_drop] at this
    exact ⟨⟨⟨by show found.size<_;exact lin2 (.t .v0 (.a .v1 .k1)) (.q (.a .v2 (.a .v3 .k1)) (.a .v1 .k1)) (.l .v0 .v2) (.w [1,1,1]) rfl (.n4 _ _ _ _) hp hf,h2⟩,by exact lin4 (.l (.a .v0 .v1) .v2) (.q (.a .v0 (.a .v3 .k1)) (.a .v2 .k1)) (.q .v5 .v1) (.M 5 .v1 .v4) (.b 4 .v2 .v0) (.d 3 (.d 6 (.w [0,1,1,0,1]) (.w [0,1,1,0,1,1])) (.d 6 (.w [0,1,0,1,1,0, -1]) (.w [0,1,0,1,1,1, -1]))) rfl (.n6 _ _ _ _ _ _) hp this rfl rfl⟩,h4⟩
  by_cases hc:free≤p∧(l.drop p).take y.length=y
  ·rw [if_pos (cond.mpr hc)]
   obtain ⟨h1,h2⟩:=hc
   have hlt:p<l.length:=by
    have:((l.drop p).take y.length).length=y.length:=by rw [h2]
    rw [List.length_take,List.length_drop] at this
    lia
   have ih:=sD (l:=l) (y:=y) hy m (p+1) (p+y.length) (found.push p) (Q102 (.n3 _ _ _) hp) (by simp;exact Q54 (.n2 _ _) hf)
   refine Eq.trans ih ?_
   rw [Array.toList_push,List.append_assoc]
   congr 1
   rw [List.drop_eq_getElem_cons hlt] at h2 ⊢
   rw [show free-p=0 by exact Q103 (.n3 _ _ _) h1 rfl,show p+y.length-(p+1)=y.length-1 by exact lin2 (.q .v2 .v3) (.b 3 .v1 .k1) (.b 2 (.a .v0 .v1) (.a .v0 .k1)) (.b (.d 1 (.d 4 (.w [0, -1,0,1,1]) (.w [1, -1,0,1,1])) (.w [0,1,1])) (.d 2 (.d 3 (.w [0, -1,0,1,1]) (.w [1, -1,0,1,1])) (.w [0,1,1]))) rfl (.n4 _ _ _ _) rfl rfl]
   conv=>rhs;rw [sE]
   rw [if_pos h2]
   rfl
  ·rw [if_neg (fun h=>hc (cond.mp h))]
   have ih:=sD (l:=l) (y:=y) hy m (p+1) free found (Q102 (.n3 _ _ _) hp) (Q21 (.n2 _ _) hf)
   refine Eq.trans ih ?_
   congr 1
   by_cases hlt:p<l.length
   ·rw [List.drop_eq_getElem_cons hlt]
    rw [List.drop_eq_getElem_cons hlt] at hc
    by_cases hfp:free≤p
    ·rw [show free-(p+1)=0 by exact lin2 (.q .v2 .k0) (.l .v0 .v1) (.b 2 .v0 (.a .v1 .k1)) (.b (.w [1]) (.d 2 (.w [1,0,0,1]) (.w [0,1,1]))) rfl (.n3 _ _ _) hfp rfl,show free-p=0 by exact Q103 (.n3 _ _ _) hfp rfl]
     conv=>rhs;rw [sE]
     rw [if_neg (fun h=>hc ⟨hfp,h⟩)]
    ·obtain ⟨s,hs⟩:∃s,free-p=s+1:=⟨free-p-1,by exact lin3 (.q .v2 (.a .v3 .k1)) (.n (.l .v0 .v1)) (.b 3 .v2 .k1) (.b 2 .v0 .v1) (.b (.d 2 (.w [0,1,1]) (.d 5 (.w [0, -1,0,1,1,1]) (.w [1,0,0,0,0,1]))) (.d 3 (.d 4 (.w [0, -1,0,0,1]) (.w [1, -1,0,0,1])) (.w [1,0,0,1]))) rfl (.n4 _ _ _ _) hfp rfl rfl⟩
     rw [show free-(p+1)=s by exact lin4 (.q .v3 .v2) (.n (.l .v0 .v1)) (.q .v4 (.a .v2 .k1)) (.b 3 .v0 (.a .v1 .k1)) (.b 4 .v0 .v1) (.b (.d 3 (.d 6 (.w [0,1,0, -1,1,0, -1]) (.w [1,0,1])) (.d 6 (.w [0,1,1, -1,1,0, -1]) (.w [1,0,0,0,0,1]))) (.d 3 (.d 6 (.w [0, -1,0,1,1,0,1]) (.w [1,0,1])) (.w [0,1,1]))) rfl (.n5 _ _ _ _ _) hfp hs rfl rfl,hs]
     conv=>rhs;rw [aH5]
   ·rw [List.drop_eq_nil_of_le (show l.length≤p+1 by exact lin1 (.l .v0 (.a .v1 .k1)) (.n (.t .v1 .v0)) (.w [1,1]) rfl (.n2 _ _) hlt),List.drop_eq_nil_of_le (show l.length≤p by exact Q8 (.n2 _ _) hlt)]
    cases free-(p+1) <;> cases free-p <;> simp [fH]
noncomputable def rA (z:List Nat):List (List Nat)→List Nat
 | []=>[]
 | [x]=>x
 | x::y::r=>x++z++rA z (y::r)
noncomputable def pcs (l:List Nat) (k:Nat) (a:Nat):List Nat→List (List Nat)
 | []=>[(l.drop a).take (l.length-a)]
 | c::cs=>(l.drop a).take (c-a)::pcs l k (c+k) cs
theorem kQ {l y z:List Nat} (hy:0<y.length):∀(r:List Nat) (p a s:Nat),l.drop p=r→p+r.length=l.length∨r=[]→(s=0∧a≤p)∨(0<s∧a=p+s)→
  rA z (pcs l y.length a (fH y s p r))=(l.drop a).take (p-a)++dP y z s r
 | [],p,a,s,hr,_,ha=>by
  have hp:l.length≤p:=by
   have:=congrArg List.length hr
   rw [List.length_drop] at this
   simp at this;exact lin2 (.l .v0 .v1) (.q .v2 .k0) (.b 2 .v0 .v1) (.d 2 (.w [0, -1,1,1]) (.w [1,0,1])) rfl (.n3 _ _ _) this rfl
  have e1:fH y s p []=[]:=by induction s <;> rfl
  have e2:dP y z s []=[]:=by induction s <;> rfl
  rw [e1,e2,List.append_nil]
  show (l.drop a).take (l.length-a)=_
  rcases ha with ⟨_,ha⟩ | ⟨_,rfl⟩
  ·rw [List.take_of_length_le (by rw [List.length_drop];exact Q39 (.n1 _)),List.take_of_length_le (by rw [List.length_drop];exact Q104 (.n5 _ _ _ _ _) hp rfl rfl)]
  ·rw [List.drop_eq_nil_of_le (by exact lin2 (.l .v0 (.a .v1 .v2)) (.l .v0 .v1) (.t .k0 .v2) (.w [1,1,1]) rfl (.n3 _ _ _) hp (by assumption))];simp
 | c::r,p,a,s,hr,hlen,ha=>by
  have hlen':p+(r.length+1)=l.length:=by
   rcases hlen with h | h
   ·rwa [List.length_cons] at h
   ·cases h
  have hr1:l.drop (p+1)=r:=by
   have:=congrArg List.tail hr
   rw [List.tail_drop] at this
   exact this
  have hne:∀(b:Nat) (cs:List Nat),∃x xs,pcs l y.length b cs=x::xs:=fun b cs=>by
   induction cs with
   | nil=>exact ⟨_,_,rfl⟩
   | cons c cs=>exact ⟨_,_,rfl⟩
  induction s with
  | succ s=>
   have ha':a=p+(s+1):=by rcases ha with ⟨h,_⟩ | ⟨_,h⟩ <;> first | (cases h;done) | exact h
   rw [aH5,rplG_s]
   rw [kQ hy r (p+1) a s hr1 (.inl (Q15 (.n3 _ _ _) hlen')) (by
    induction s with
    | zero=>exact .inl ⟨rfl,by lia⟩
    | succ s=>exact .inr ⟨by exact lin0 (.t .k0 (.a .v0 .k1)) (.w [1]) rfl (.n1 _),by lia⟩)]
   rw [show p+1-a=0 by lia,show p-a=0 by lia]
  | zero=>
   have ha':a≤p:=by rcases ha with ⟨_,h⟩ | ⟨h,_⟩ <;> lia
   rw [sE,rY]
   by_cases hm:(c::r).take y.length=y
   ·rw [if_pos hm,if_pos hm]
    show rA z ((l.drop a).take (p-a)::pcs l y.length (p+y.length) (fH y (y.length-1) (p+1) r))=_
    obtain ⟨x,xs,hx⟩:=hne (p+y.length) (fH y (y.length-1) (p+1) r)
    have ih:=kQ (z:=z) hy r (p+1) (p+y.length) (y.length-1) hr1 (.inl (Q15 (.n3 _ _ _) hlen')) (by
     by_cases h1:y.length=1
     ·exact .inl ⟨by exact lin2 (.q .v1 .k0) (.q .v0 .k1) (.b 1 .v0 .k1) (.b (.w [1]) (.d 2 (.w [0,1,1,1]) (.w [0,1,1]))) rfl (.n2 _ _) h1 rfl,by exact lin1 (.l (.a .v0 .v1) (.a .v0 .k1)) (.q .v1 .k1) (.w [1,1]) rfl (.n2 _ _) h1⟩
     ·exact .inr ⟨by exact lin3 (.t .k0 .v1) (.t .k0 .v0) (.n (.q .v0 .k1)) (.b 1 .v0 .k1) (.d 3 (.d 4 (.w [1,1]) (.w [1,0, -1,1])) (.d 4 (.w [1,0,0,0,1]) (.w [1,1]))) rfl (.n2 _ _) hy h1 rfl,by exact lin2 (.q (.a .v0 .v1) (.a (.a .v0 .k1) .v2)) (.t .k0 .v1) (.b 2 .v1 .k1) (.b (.d 2 (.w [0,1,1]) (.w [0,1,1,1])) (.d 2 (.w [0, -1,1]) (.w [1, -1,1]))) rfl (.n3 _ _ _) hy rfl⟩)
    rw [hx] at ih ⊢
    show _++z++rA z (x::xs)=_
    rw [ih,show p+1-(p+y.length)=0 by exact lin2 (.q .v2 .k0) (.t .k0 .v1) (.b 2 (.a .v0 .k1) (.a .v0 .v1)) (.b (.w [1]) (.d 2 (.w [0,1,1,1]) (.w [0,1,1]))) rfl (.n3 _ _ _) hy rfl]
    simp
   ·rw [if_neg hm,if_neg hm]
    rw [kQ hy r (p+1) a 0 hr1 (.inl (Q15 (.n3 _ _ _) hlen')) (.inl ⟨rfl,by lia⟩)]
    have e:(l.drop a).take (p+1-a)=(l.drop a).take (p-a)++[c]:=by
     rw [show p+1-a=(p-a)+1 by lia,List.take_succ]
     congr 1
     rw [List.getElem?_drop,show a+(p-a)=p by lia]
     have:l[p]? =some c:=by
      have:=congrArg List.head? hr
      rw [List.head?_drop] at this
      simpa using this
     rw [this];rfl
    rw [e,List.append_assoc];rfl
theorem aG3 (l:List Nat) (k:Nat):∀(cuts:List Nat) (a:Nat),(((a::cuts.map (· + k)).zip (cuts++[l.length])).map fun (i,j)=>(strSub ⟨l.toArray⟩ i j).cps.toList)=pcs l k a cuts
 | [],a=>by
  show [(strSub ⟨l.toArray⟩ a l.length).cps.toList]=_
  rw [StrLaws.strSub_toList];rfl
 | c::cs,a=>by
  have ih:=aG3 l k cs (c+k)
  show (strSub ⟨l.toArray⟩ a c).cps.toList::_=_
  rw [StrLaws.strSub_toList]
  exact congrArg _ ih
theorem vD (z:PySem.Str):∀ps:List PySem.Str,(PySem.Str.join z ps).cps.toList=rA z.cps.toList (ps.map fun p=>p.cps.toList)
 | []=>rfl
 | [x]=>rfl
 | x::y::r=>by
  have ih:=vD z (y::r)
  show (x++z++PySem.Str.join z (y::r)).cps.toList=x.cps.toList++z.cps.toList++rA z.cps.toList ((y::r).map fun p=>p.cps.toList)
  rw [←ih,PySem.Str.cps_append,PySem.Str.cps_append]
  simp
theorem aU9 (hy:0<y.length):occurrences ⟨l.toArray⟩ ⟨y.toArray⟩ 0 l.length (l.length+1)=fH y 0 0 l:=by
 rw [StrLaws.occ_eq]
 have:=sD (l:=l) hy (l.length+1) 0 0 #[] (lin0 (.q (.a .k0 (.a .v0 .k1)) (.a .v0 .k1)) (.b (.w [1]) (.w [1])) rfl (.n1 _)) (by simp)
 simpa using this
theorem qQ:∀(l:List Nat) (p:Nat),fH y 0 p l=[]→dP y z 0 l=l
 | [],_,_=>rfl
 | c::r,p,h=>by
  rw [sE] at h
  split at h
  ·cases h
  ·rename_i hn
   rw [rY]
   rw [if_neg hn,qQ r (p+1) h]
theorem wX (hy:0<y.length) (hz:0<z.length):(PySem.Txt.replace ⟨l.toArray⟩ ⟨y.toArray⟩ ⟨z.toArray⟩).cps.toList=dP y z 0 l:=by
 unfold PySem.Txt.replace
 have e1:(⟨l.toArray⟩:PySem.Str).length=l.length:=bP l
 have e2:(⟨y.toArray⟩:PySem.Str).length=y.length:=bP y
 rw [e1,e2,aU9 hy]
 by_cases h0:(fH y 0 0 l).isEmpty=true
 ·rw [if_pos (by rw [h0];rfl)]
  rw [qQ l 0 (by simpa using h0)]
 ·rw [if_neg (by
   have:(y.length==0)=false:=by rw [beq_eq_false_iff_ne];exact lin1 (.n (.q .v0 .k0)) (.t .k0 .v0) (.w [1,1]) rfl (.n1 _) hy
   rw [this];simpa using h0)]
  rw [StrLaws.glued_eq_join,vD]
  unfold partsBetween
  rw [List.map_map]
  have:=aG3 l y.length (fH y 0 0 l) 0
  rw [e1]
  have h3:((0::(fH y 0 0 l).map (· + y.length)).zip (fH y 0 0 l++[l.length])).map ((fun p:PySem.Str=>p.cps.toList)∘fun (i,j)=>strSub ⟨l.toArray⟩ i j)=pcs l y.length 0 (fH y 0 0 l):=this
  rw [h3]
  have:=kQ (l:=l) (y:=y) (z:=z) hy l 0 0 0 rfl (.inl (Nat.zero_add _)) (.inl ⟨rfl,Nat.le_refl 0⟩)
  rw [this];simp
theorem mC:∀(s:Nat) (l:List Nat),dP y z s l=dP y z 0 (l.drop s)
 | 0,l=>rfl
 | s+1,[]=>rfl
 | s+1,c::l=>by
  show dP y z s l=_
  rw [mC s l];rfl
theorem aE8 (k:Nat):∀(n:Nat) (l:List Nat),l.length≤n→Sk l (dP (List.replicate (k+1) 120) [120] 0 l)
 | 0,l,h=>by
  have:l=[]:=List.length_eq_zero_iff.mp (Q105 (.n1 _) h)
  subst this;exact .nil
 | n+1,[],_=> .nil
 | n+1,c::r,h=>by
  rw [rY]
  by_cases hm:(c::r).take (List.replicate (k+1) 120).length=List.replicate (k+1) 120
  ·rw [if_pos hm,mC]
   rw [List.length_replicate,List.take_succ_cons,List.replicate_succ,List.cons.injEq] at hm
   obtain ⟨rfl,hm⟩:=hm
   have hr:r=List.replicate k 120++r.drop k:=by
    conv=>lhs;rw [←List.take_append_drop k r,hm]
   have ih:=aE8 k n (r.drop k) (by rw [List.length_drop];simp at h;exact lin2 (.l .v3 .v2) (.l .v0 .v2) (.b 3 .v0 .v1) (.d 2 (.w [0,1,1,1]) (.w [0,1,1,1])) rfl (.n4 _ _ _ _) h rfl)
   have:=Sk.many k (Sk.cons (c:=120) ih)
   rw [List.length_replicate,Nat.add_sub_cancel]
   conv=>lhs;rw [hr]
   have e:120::(List.replicate k 120++r.drop k)=List.replicate k 120++120::r.drop k:=by
    have:∀(j:Nat),120::(List.replicate j 120++r.drop k)=List.replicate j 120++120::r.drop k:=by
     intro j
     induction j with
     | zero=>rfl
     | succ j ih=>rw [List.replicate_succ,List.cons_append,List.cons_append,ih]
    exact this k
   rw [e]
   exact this
  ·rw [if_neg hm]
   exact .cons (aE8 k n r (by simpa using h))
theorem sk_n:∀(n:Nat) (l:List Nat),l.length≤n→Sk l (dP [10,120] [10] 0 l)
 | 0,l,h=>by
  have:l=[]:=List.length_eq_zero_iff.mp (Q105 (.n1 _) h)
  subst this;exact .nil
 | n+1,[],_=> .nil
 | n+1,c::r,h=>by
  rw [rY]
  by_cases hm:(c::r).take ([10,120]:List Nat).length=[10,120]
  ·rw [if_pos hm,mC]
   obtain ⟨r',rfl,rfl⟩:∃r',c=10∧r=120::r':=by
    induction r with
    | nil=>simp at hm
    | cons d r=>simp at hm;exact ⟨r,hm.1,by rw [hm.2]⟩
   exact .dn (.cons (sk_n n r' (by simp at h;exact Q3 (.n2 _ _) h)))
  ·rw [if_neg hm]
   exact .cons (sk_n n r (by simpa using h))
end
end PT
end _M
end
section
open PySem
namespace _M
namespace PT
section
variable {x y:PM Fl}{f:Fl}{σ σ' σ'':St}{d i n:Nat}{S:List Nat}{b:Bool}
structure S1 where
 C:Addr
 k:Nat
 g:Nat
 S:List Nat
 cells:List PCell
noncomputable def vars1 (e:S1) (z:Z) (i:Int) (ch qu fl w:PV):List PV:=
 [.inst e.C e.k, .str e.S, .int z.cont, .int z.level, .int z.lno, .cell e.g, .bm e.g, .int i, .int e.S.length,ch,qu,fl,w]
noncomputable def jM (z:Z):PCell:= .list (z.good.map fun n:Nat=> .int n)
noncomputable def st1 (e:S1) (z:Z) (i:Int) (ch qu fl w:PV):St:=⟨vars1 e z i ch qu fl w,e.cells.set e.g (jM z)⟩
theorem aB {α β:Type}{x:PM α}{f:α→PM β}{a:α} (h:x σ= .ok a σ'):bnd x f σ=f a σ':=by unfold bnd;rw [h]
theorem nX (h:i<n):seqIndex? (i:Int) n=some i:=by
 have h0:¬((i:Int)<0):=by exact Q63 (.n1 _)
 have h1:(i:Int)<n:=by exact Q40 (.n2 _ _) h
 simp [seqIndex?,h0,h]
theorem cV {x j:PM PV}{c:Nat} (hx:x σ= .ok (.str S) σ) (hj:j σ= .ok (.int i) σ) (hc:S[i]? =some c) (hs:S.length≤aD):itm x j σ= .ok (.str [c]) σ:=by
 have hi:=aM hc
 show bnd x (fun a=>bnd j fun b=>bG a b) σ=_
 rw [aB hx,aB hj]
 unfold bG
 dsimp only
 rw [if_pos hs,nX hi]
 simp [List.getD,hc]
theorem aC (h:x σ= .ok .next σ'):jW x y σ=y σ':=by unfold jW;rw [aB h]
theorem aU8 (h:x σ= .ok f σ') (hf:f≠ .next):jW x y σ= .ok f σ':=by
 unfold jW;rw [aB h]
 induction f <;> first | rfl | exact absurd rfl hf
theorem dQ {β:Type}{c:PM Bool}{x y:PM β} (h:c σ= .ok b σ'):aP c x y σ=if b then x σ' else y σ':=by
 unfold aP;rw [aB h];induction b <;> rfl
theorem cU {β:Type}{c:PM Bool}{x y:PM β} (h:c σ= .ok true σ'):aP c x y σ=x σ':=by rw [dQ h];rfl
theorem bC {β:Type}{c:PM Bool}{x y:PM β} (h:c σ= .ok false σ'):aP c x y σ=y σ':=by rw [dQ h];rfl
theorem bU {c:PM Bool} (h:c σ= .ok false σ'):jW (aP c x nop) y σ=y σ':=aC ((bC h).trans rfl)
theorem aE9 {c:PM Bool} (h:c σ= .ok true σ') (hx:x σ'= .ok .next σ''):jW (aP c x nop) y σ=y σ'':=aC ((cU h).trans hx)
theorem iF {c:PM Bool} (h:c σ= .ok true σ') (hx:x σ'= .ok f σ'') (hf:f≠ .next):jW (aP c x nop) y σ= .ok f σ'':=aU8 ((cU h).trans hx) hf
theorem aO {x:PM PV}{a:PV} (h:x σ= .ok a σ') (hu:aN a=false):aF i x σ= .ok .next {σ' with vars:=σ'.vars.set i a}:=by
 unfold aF;rw [aB h];rw [if_neg (by rw [hu];decide)]
theorem lR (n a:Nat):nB n (a:Int)=min a n:=by
 unfold nB
 rw [if_neg (Int.not_lt.mpr (Int.natCast_nonneg a)),show min (a:Int) (n:Int)=((min a n:Nat):Int) from (Lean.Omega.Int.ofNat_min a n).symm,Int.max_eq_right (Int.natCast_nonneg _),Int.toNat_natCast]
theorem oP {x ja jb:PM PV}{a b:Nat} (hx:x σ= .ok (.str S) σ) (ha:ja σ= .ok (.int a) σ) (hb:jb σ= .ok (.int b) σ) (hs:S.length≤aD) (hal:a≤S.length):aU x ja jb σ= .ok (.str ((S.drop a).take (b-a))) σ:=by
 unfold aU
 rw [aB hx,aB ha,aB hb]
 unfold xA oN sB
 dsimp only
 rw [if_pos hs]
 dsimp only
 congr 2
 unfold eL
 dsimp only
 rw [lR,lR,Nat.min_eq_left hal]
 rcases Nat.le_total b S.length with h | h
 ·rw [Nat.min_eq_left h]
 ·rw [Nat.min_eq_right h,List.take_of_length_le (by rw [List.length_drop];exact Q39 (.n1 _)),List.take_of_length_le (by rw [List.length_drop];exact Q104 (.n5 _ _ _ _ _) h rfl rfl)]
variable {e:S1}{z:Z}{i:Nat}{ch qu fl w:PV}
theorem rd {c:Nat} (hc:e.S[i]? =some c) (hs:e.S.length≤aD):aF 9 (itm (vr 1) (vr 7)) (st1 e z i ch qu fl w)= .ok .next (st1 e z i (.str [c]) qu fl w):=by
 rw [aO (cV (x:=vr 1) (j:=vr 7) (S:=e.S) (i:=i) rfl rfl hc hs) rfl];rfl
theorem qL:bQ 7 1 (st1 e z n ch qu fl w)= .ok .next (st1 e z (n+1:Nat) ch qu fl w):=rfl
theorem eqc {c:Nat}{s:String} (hb:([c]==lit s)=b):eqM (vr 9) (cS s) (st1 e z i (.str [c]) qu fl w)= .ok b (st1 e z i (.str [c]) qu fl w):=by subst hb;rfl
structure Ok1 (e:S1) (z:Z):Prop where
 hg:e.g<e.cells.length
 small:z.good.length<100000
theorem cell_g {i:Int} (h:e.g<e.cells.length):bJ e.g (st1 e z i ch qu fl w)=some (z.good.map fun n:Nat=> .int n):=by
 unfold bJ st1
 dsimp only
 rw [List.getElem?_set_self h]
 rfl
theorem uF {i:Int} (h:Ok1 e z):cC (fK (vr 6) (vr 4)) (st1 e z i ch qu fl w)= .ok .next (st1 e {z with good:=z.good++[z.lno]} i ch qu fl w):=by
 have h1:fK (vr 6) (vr 4) (st1 e z i ch qu fl w)= .ok .none (st1 e {z with good:=z.good++[z.lno]} i ch qu fl w):=by
  show qA e.g (.int z.lno) (st1 e z i ch qu fl w)=_
  unfold qA
  rw [cell_g h.hg]
  dsimp only
  rw [if_pos (by rw [List.length_map];unfold aD;have:=h.small;exact lin1 (.t .v0 (.k 1048576)) (.t .v0 (.k 100000)) (.w [1,1]) rfl (.n1 _) this)]
  show Res.ok PV.none _=_
  congr 1
  unfold st1
  congr 1
  dsimp only
  rw [List.set_set]
  congr 1
  unfold jM
  simp
 unfold cC
 rw [aB h1]
theorem bC7 (h:Ok1 e z):aP (eqM (vr 3) (cI 0)) (cC (fK (vr 6) (vr 4))) nop (st1 e {z with lno:=z.lno+1} i ch qu fl w)= .ok .next (st1 e (nl z) i ch qu fl w):=by
 have hc:eqM (vr 3) (cI 0) (st1 e {z with lno:=z.lno+1} i ch qu fl w)= .ok ((z.level:Int)==0) (st1 e {z with lno:=z.lno+1} i ch qu fl w):=rfl
 rw [dQ hc]
 by_cases hl:z.level=0
 ·have:((z.level:Int)==0)=true:=by rw [hl];rfl
  rw [this,if_pos rfl,uF (z:={z with lno:=z.lno+1}) ⟨h.hg,h.small⟩]
  unfold nl
  rw [if_pos hl]
 ·have:((z.level:Int)==0)=false:=by rw [beq_eq_false_iff_ne];exact Q41 (.n1 _) hl
  rw [this,if_neg (by decide)]
  unfold nl
  rw [if_neg hl]
  rfl
theorem lI:bQ 4 1 (st1 e z i ch qu fl w)= .ok .next (st1 e {z with lno:=z.lno+1} i ch qu fl w):=rfl
theorem one_x (hc:e.S[i]? =some 120) (hs:e.S.length≤aD):eI (st1 e z i ch qu fl w)= .ok .cont (st1 e z (i+1:Nat) (.str [120]) qu fl w):=by
 unfold eI
 dsimp only [blk]
 rw [aC (rd hc hs),aC qL]
 exact iF (eqc (by decide)) rfl (fun h=>nomatch h)
theorem one_nl (h:Ok1 e z) (hc:e.S[i]? =some 10) (hs:e.S.length≤aD):eI (st1 e z i ch qu fl w)= .ok .cont (st1 e (nl z) (i+1:Nat) (.str [10]) qu fl w):=by
 unfold eI
 dsimp only [blk]
 rw [aC (rd hc hs),aC qL,bU (eqc (by decide))]
 refine iF (eqc (by decide)) ?_ (fun h=>nomatch h)
 rw [aC lI,aC (bC7 h)]
 rfl
theorem aG7 (hc:e.S[i]? =some 40) (hs:e.S.length≤aD):eI (st1 e z i ch qu fl w)= .ok .cont (st1 e {z with level:=z.level+1} (i+1:Nat) (.str [40]) qu fl w):=by
 unfold eI
 dsimp only [blk]
 rw [aC (rd hc hs),aC qL,bU (eqc (by decide)),bU (eqc (by decide))]
 exact iF (eqc (by decide)) rfl (fun h=>nomatch h)
theorem zX (hc:e.S[i]? =some 41) (hs:e.S.length≤aD):eI (st1 e z i ch qu fl w)= .ok .cont (st1 e {z with level:=z.level-1} (i+1:Nat) (.str [41]) qu fl w):=by
 unfold eI
 dsimp only [blk]
 rw [aC (rd hc hs),aC qL,bU (eqc (by decide)),bU (eqc (by decide)),bU (eqc (by decide))]
 refine iF (eqc (by decide)) ?_ (fun h=>nomatch h)
 by_cases hl:z.level=0
 ·have hb:bnd (vr 3) bO (st1 e z (i+1:Nat) (.str [41]) qu fl w)= .ok false (st1 e z (i+1:Nat) (.str [41]) qu fl w):=by
   show Res.ok ((z.level:Int) != 0) _=_
   rw [hl];rfl
  rw [bU hb]
  have:({z with level:=z.level-1}:Z)=z:=by cases z;simp at hl;subst hl;rfl
  rw [this];rfl
 ·have hb:bnd (vr 3) bO (st1 e z (i+1:Nat) (.str [41]) qu fl w)= .ok true (st1 e z (i+1:Nat) (.str [41]) qu fl w):=by
   show Res.ok ((z.level:Int) != 0) _=_
   have:((z.level:Int) != 0)=true:=by rw [bne_iff_ne];exact Q41 (.n1 _) hl
   rw [this]
  have hx:aF 3 (aA bH (vr 3) (cI 1)) (st1 e z (i+1:Nat) (.str [41]) qu fl w)= .ok .next (st1 e {z with level:=z.level-1} (i+1:Nat) (.str [41]) qu fl w):=by
   have:((z.level:Int)-1)=((z.level-1:Nat):Int):=by exact Q106 (.n2 _ _) hl rfl
   skip
   congr 1
   unfold st1 vars1
   rw [←this]
   rfl
  rw [aE9 hb hx]
  rfl
theorem orF {c:Nat} (h1:([c]==lit "\"")=false) (h2:([c]==lit "'")=false):orM (eqM (vr 9) (cS "\"")) (eqM (vr 9) (cS "'")) (st1 e z i (.str [c]) qu fl w)= .ok false (st1 e z i (.str [c]) qu fl w):=by
 unfold orM
 rw [aB (eqc h1)]
 exact eqc h2
theorem orT {c:Nat} (h:c=34∨c=39):orM (eqM (vr 9) (cS "\"")) (eqM (vr 9) (cS "'")) (st1 e z i (.str [c]) qu fl w)= .ok true (st1 e z i (.str [c]) qu fl w):=by
 unfold orM
 rcases h with rfl | rfl
 ·rw [aB (eqc (b:=true) (by decide))];rfl
 ·rw [aB (eqc (b:=false) (by decide))]
  exact eqc (by decide)
theorem asT {c:PM Bool} (h:c σ= .ok true σ'):bD c σ= .ok .next σ':=by unfold bD;rw [aB h];rfl
theorem aW8 (h:n<e.S.length):aA ltP (vr 7) (vr 8) (st1 e z n ch qu fl w)= .ok true (st1 e z n ch qu fl w):=by
 show Res.ok (decide ((n:Int)<e.S.length)) _=_
 rw [decide_eq_true (by exact Q40 (.n2 _ _) h)]
theorem bC9 (h:¬n<e.S.length):aA ltP (vr 7) (vr 8) (st1 e z n ch qu fl w)= .ok false (st1 e z n ch qu fl w):=by
 show Res.ok (decide ((n:Int)<e.S.length)) _=_
 rw [decide_eq_false (by exact Q107 (.n2 _ _) h)]
theorem yX (hd:e.S[i]? =some d) (hs:e.S.length≤aD):eqM (itm (vr 1) (vr 7)) (cS "\n") (st1 e z i ch qu fl w)= .ok ([d]==lit "\n") (st1 e z i ch qu fl w):=by
 unfold eqM aA
 rw [aB (cV (x:=vr 1) (j:=vr 7) (S:=e.S) (i:=i) rfl rfl hd hs)]
 rfl
theorem one_bs (hc:e.S[i]? =some 92) (hd:e.S[i+1]? =some d) (hs:e.S.length≤aD):
  eI (st1 e z i ch qu fl w)= .ok .next (st1 e (if d=10 then {z with lno:=z.lno+1,cont:=if i+2=e.S.length then 1 else z.cont} else z) (i+2:Nat) (.str [92]) qu fl w):=by
 have hlt:=aM hd
 unfold eI
 dsimp only [blk]
 rw [aC (rd hc hs),aC qL,bU (eqc (by decide)),bU (eqc (by decide)),bU (eqc (by decide)),bU (eqc (by decide)),bU (orF (by decide) (by decide)),bU (eqc (by decide)),aC (asT (eqc (by decide))),aC (asT (aW8 hlt))]
 by_cases h10:d=10
 ·subst h10
  rw [if_pos rfl]
  have hb:eqM (itm (vr 1) (vr 7)) (cS "\n") (st1 e z (i+1:Nat) (.str [92]) qu fl w)= .ok true (st1 e z (i+1:Nat) (.str [92]) qu fl w):=(yX hd hs).trans rfl
  have hc2:eqM (aA bA (vr 7) (cI 1)) (vr 8) (st1 e {z with lno:=z.lno+1} (i+1:Nat) (.str [92]) qu fl w)= .ok (decide (i+2=e.S.length)) (st1 e {z with lno:=z.lno+1} (i+1:Nat) (.str [92]) qu fl w):=by
   show Res.ok (((i+1:Nat):Int)+1==(e.S.length:Int)) _=_
   congr 1
   rw [Bool.eq_iff_iff,beq_iff_eq,decide_eq_true_eq]
   lia
  have hx:blk [bQ 4 1,aP (eqM (aA bA (vr 7) (cI 1)) (vr 8)) (aF 2 (cI 1)) nop] (st1 e z (i+1:Nat) (.str [92]) qu fl w)= .ok .next (st1 e {z with lno:=z.lno+1,cont:=if i+2=e.S.length then 1 else z.cont} (i+1:Nat) (.str [92]) qu fl w):=by
   dsimp only [blk]
   rw [aC lI,dQ hc2]
   by_cases he:i+2=e.S.length
   ·rw [decide_eq_true he,if_pos rfl,if_pos he];rfl
   ·rw [decide_eq_false he,if_neg (by decide),if_neg he];rfl
  rw [aE9 hb hx]
  rfl
 ·rw [if_neg h10]
  have hb:eqM (itm (vr 1) (vr 7)) (cS "\n") (st1 e z (i+1:Nat) (.str [92]) qu fl w)= .ok false (st1 e z (i+1:Nat) (.str [92]) qu fl w):=(yX hd hs).trans (by
   have:([d]==lit "\n")=false:=by
    rw [beq_eq_false_iff_ne];intro h;cases h;exact h10 rfl
   rw [this])
  rw [bU hb]
  rfl
theorem gN (n i:Nat):bE n (i:Int)=i:=by unfold bE;rw [if_neg (Int.not_lt.mpr (Int.natCast_nonneg i)),Int.max_eq_right (Int.natCast_nonneg _),Int.toNat_natCast]
theorem aG8 {j:Nat} (hc:e.S[i]? =some 35) (hs:e.S.length≤aD) (hj:dT e.S 10 (i+1) (e.S.length-(i+1))=some j):
  eI (st1 e z i ch qu fl w)= .ok .cont (st1 e z j (.str [35]) qu fl w):=by
 unfold eI
 dsimp only [blk]
 rw [aC (rd hc hs),aC qL,bU (eqc (by decide)),bU (eqc (by decide)),bU (eqc (by decide)),bU (eqc (by decide)),bU (orF (by decide) (by decide))]
 refine iF (eqc (by decide)) ?_ (fun h=>nomatch h)
 have hf:aF 7 (aH okStr (vr 1) [cS "\n",vr 7] fM) (st1 e z (i+1:Nat) (.str [35]) qu fl w)= .ok .next (st1 e z j (.str [35]) qu fl w):=by
  have h1:aH okStr (vr 1) [cS "\n",vr 7] fM (st1 e z (i+1:Nat) (.str [35]) qu fl w)= .ok (.int (toI (dT e.S 10 (bE e.S.length (i+1:Nat)) (e.S.length-bE e.S.length (i+1:Nat))))) (st1 e z (i+1:Nat) (.str [35]) qu fl w):=rfl
  rw [gN,hj] at h1
  rw [aO h1 rfl];rfl
 have ha:aA geP (vr 7) (cI 0) (st1 e z j (.str [35]) qu fl w)= .ok true (st1 e z j (.str [35]) qu fl w):=by
  show Res.ok (decide ((0:Int)≤(j:Int))) _=_
  rw [decide_eq_true (by exact Q9 (.n1 _))]
 rw [aC hf,aC (asT ha)]
 rfl
noncomputable abbrev wStr:PM Fl:=aV cR (aA ltP (vr 7) (vr 8)) gB (aP (eqM (aA bH (vr 4) (cI 1)) (vr 11)) (aF 2 (cI 2)) (aF 2 (cI 3)))
theorem zW {q k:Nat} (hq:q=34∨q=39) (hc:e.S[i]? =some q) (hs:e.S.length≤aD) (hk:k=if (e.S.drop i).take 3=[q,q,q] then 2 else 0)
  (hw:wStr (st1 e z (i+1+k:Nat) (.str [q]) (.str (List.replicate (k+1) q)) (.int z.lno) (.int k))= .ok .next σ'):eI (st1 e z i ch qu fl w)= .ok .cont σ':=by
 have hlt:=aM hc
 unfold eI
 dsimp only [blk]
 rw [aC (rd hc hs),aC qL,bU (eqc (by rcases hq with rfl | rfl <;> decide)),bU (eqc (by rcases hq with rfl | rfl <;> decide)),bU (eqc (by rcases hq with rfl | rfl <;> decide)),bU (eqc (by rcases hq with rfl | rfl <;> decide))]
 refine iF (orT hq) ?_ (fun h=>nomatch h)
 have h1:aF 10 (vr 9) (st1 e z (i+1:Nat) (.str [q]) qu fl w)= .ok .next (st1 e z (i+1:Nat) (.str [q]) (.str [q]) fl w):=rfl
 have hsl:aU (vr 1) (aA bH (vr 7) (cI 1)) (aA bA (vr 7) (cI 2)) (st1 e z (i+1:Nat) (.str [q]) (.str [q]) fl w)= .ok (.str ((e.S.drop i).take 3)) (st1 e z (i+1:Nat) (.str [q]) (.str [q]) fl w):=by
  have a1:aA bH (vr 7) (cI 1) (st1 e z (i+1:Nat) (.str [q]) (.str [q]) fl w)= .ok (.int i) (st1 e z (i+1:Nat) (.str [q]) (.str [q]) fl w):=by
   show Res.ok (PV.int (((i+1:Nat):Int)-1)) _=_
   congr 2;exact Q22 (.n1 _)
  have a2:aA bA (vr 7) (cI 2) (st1 e z (i+1:Nat) (.str [q]) (.str [q]) fl w)= .ok (.int (i+3:Nat)) (st1 e z (i+1:Nat) (.str [q]) (.str [q]) fl w):=by
   skip
   congr 2
  have:=oP (x:=vr 1) (S:=e.S) rfl a1 a2 hs (Q42 (.n2 _ _) hlt)
  rw [show i+3-i=3 by exact lin1 (.q .v1 (.k 3)) (.b 1 (.a .v0 (.k 3)) .v0) (.b (.d 1 (.w [0, -1,1]) (.w [1])) (.d 1 (.w [0,1,1]) (.w [1]))) rfl (.n2 _ _) rfl] at this
  exact this
 have hmul:aA uX (vr 10) (cI 3) (st1 e z (i+1:Nat) (.str [q]) (.str [q]) fl w)= .ok (.str [q,q,q]) (st1 e z (i+1:Nat) (.str [q]) (.str [q]) fl w):=rfl
 have hb:eqM (aU (vr 1) (aA bH (vr 7) (cI 1)) (aA bA (vr 7) (cI 2))) (aA uX (vr 10) (cI 3)) (st1 e z (i+1:Nat) (.str [q]) (.str [q]) fl w)= .ok ((e.S.drop i).take 3==[q,q,q]) (st1 e z (i+1:Nat) (.str [q]) (.str [q]) fl w):=by
  show bnd _ _ _=_
  rw [aB hsl,aB hmul]
  rfl
 have h2:aP (eqM (aU (vr 1) (aA bH (vr 7) (cI 1)) (aA bA (vr 7) (cI 2))) (aA uX (vr 10) (cI 3))) (aF 10 (aA uX (vr 10) (cI 3))) nop (st1 e z (i+1:Nat) (.str [q]) (.str [q]) fl w)=
   .ok .next (st1 e z (i+1:Nat) (.str [q]) (.str (List.replicate (k+1) q)) fl w):=by
  rw [dQ hb]
  by_cases h3:(e.S.drop i).take 3=[q,q,q]
  ·rw [if_pos h3] at hk
   subst hk
   rw [h3]
   have:([q,q,q]==[q,q,q])=true:=by simp
   rw [this];rfl
  ·rw [if_neg h3] at hk
   subst hk
   have:((e.S.drop i).take 3==[q,q,q])=false:=by rw [beq_eq_false_iff_ne];exact h3
   rw [this];rfl
 have h4:aF 11 (vr 4) (st1 e z (i+1:Nat) (.str [q]) (.str (List.replicate (k+1) q)) fl w)= .ok .next (st1 e z (i+1:Nat) (.str [q]) (.str (List.replicate (k+1) q)) (.int z.lno) w):=rfl
 have h5:aF 12 (aA bH (cD (vr 10)) (cI 1)) (st1 e z (i+1:Nat) (.str [q]) (.str (List.replicate (k+1) q)) (.int z.lno) w)= .ok .next (st1 e z (i+1:Nat) (.str [q]) (.str (List.replicate (k+1) q)) (.int z.lno) (.int k)):=by
  have hk':k=0∨k=2:=by rw [hk];split <;> simp
  rcases hk' with rfl | rfl <;> rfl
 have h6:aF 7 (aA bA (vr 7) (vr 12)) (st1 e z (i+1:Nat) (.str [q]) (.str (List.replicate (k+1) q)) (.int z.lno) (.int k))= .ok .next (st1 e z (i+1+k:Nat) (.str [q]) (.str (List.replicate (k+1) q)) (.int z.lno) (.int k)):=rfl
 rw [aC h1,aC h2,aC h4,aC h5,aC h6,aC hw]
 rfl
end
section
variable {c:Nat}{m:Md}{z z':Z}{l:List Nat}
variable {e:S1}{z:Z}{i q k:Nat}{ch fl:PV}
noncomputable abbrev stq (e:S1) (z:Z) (i:Nat) (ch:PV) (q k:Nat) (fl:PV):St:=st1 e z i ch (.str (List.replicate (k+1) q)) fl (.int k)
theorem yH {n:Nat} (hn:n=i+1) (hs:e.S.length≤aD) (hi:i<e.S.length):eqM (aU (vr 1) (aA bH (vr 7) (cI 1)) (aA bA (vr 7) (vr 12))) (vr 10) (stq e z n ch q k fl)=
  .ok ((e.S.drop i).take (k+1)==List.replicate (k+1) q) (stq e z n ch q k fl):=by
 subst hn
 have a1:aA bH (vr 7) (cI 1) (stq e z (i+1) ch q k fl)= .ok (.int i) (stq e z (i+1) ch q k fl):=by
  show Res.ok (PV.int (((i+1:Nat):Int)-1)) _=_
  congr 2;exact Q22 (.n1 _)
 have a2:aA bA (vr 7) (vr 12) (stq e z (i+1) ch q k fl)= .ok (.int (i+1+k:Nat)) (stq e z (i+1) ch q k fl):=by
  skip
  congr 2
 have hsl:=oP (x:=vr 1) (S:=e.S) rfl a1 a2 hs (Q42 (.n2 _ _) hi)
 rw [show i+1+k-i=k+1 by exact lin1 (.q .v2 (.a .v1 .k1)) (.b 2 (.a (.a .v0 .k1) .v1) .v0) (.b (.d 1 (.w [0, -1,1]) (.w [1, -1,1])) (.d 1 (.w [0,1,1]) (.w [0,1,1]))) rfl (.n3 _ _ _) rfl] at hsl
 show bnd _ _ _=_
 rw [aB hsl]
 rfl
theorem str_x (hc:e.S[i]? =some 120) (hs:e.S.length≤aD):gB (stq e z i ch q k fl)= .ok .cont (stq e z (i+1) (.str [120]) q k fl):=by
 unfold gB
 dsimp only [blk]
 rw [aC (rd hc hs),aC qL]
 exact iF (eqc (by decide)) rfl (fun h=>nomatch h)
theorem aS6 (hc:e.S[i]? =some c) (hs:e.S.length≤aD) (hx:c≠120) (hq:(e.S.drop i).take (k+1)=List.replicate (k+1) q):
  gB (stq e z i ch q k fl)= .ok .brk (stq e z (i+1+k) (.str [c]) q k fl):=by
 have hi:=aM hc
 unfold gB
 dsimp only [blk]
 rw [aC (rd hc hs),aC qL,bU (eqc (by rw [beq_eq_false_iff_ne];intro h;cases h;exact hx rfl))]
 refine iF ((yH rfl hs hi).trans (by rw [hq,beq_self_eq_true])) ?_ (fun h=>nomatch h)
 rfl
theorem rU {rest:PM Fl} (hc:e.S[i]? =some c) (hs:e.S.length≤aD) (hx:c≠120) (hq:¬(e.S.drop i).take (k+1)=List.replicate (k+1) q) {X Y:PM Fl}:
  jW (aF 9 (itm (vr 1) (vr 7))) (jW (bQ 7 1) (jW (aP (eqM (vr 9) (cS "x")) X nop)
   (jW (aP (eqM (aU (vr 1) (aA bH (vr 7) (cI 1)) (aA bA (vr 7) (vr 12))) (vr 10)) Y nop) rest))) (stq e z i ch q k fl)=rest (stq e z (i+1) (.str [c]) q k fl):=by
 have hi:=aM hc
 rw [aC (rd hc hs),aC qL,bU (eqc (by rw [beq_eq_false_iff_ne];intro h;cases h;exact hx rfl))]
 exact bU ((yH rfl hs hi).trans (by rw [beq_eq_false_iff_ne.mpr hq]))
theorem str_nl (h:Ok1 e z) (hc:e.S[i]? =some 10) (hs:e.S.length≤aD) (hq:¬(e.S.drop i).take (k+1)=List.replicate (k+1) q):
  gB (stq e z i ch q k fl)=if k=0 then .ok .brk (stq e (nl z) (i+1) (.str [10]) q k fl) else .ok .cont (stq e {z with lno:=z.lno+1} (i+1) (.str [10]) q k fl):=by
 unfold gB
 dsimp only [blk]
 rw [rU hc hs (by decide) hq]
 have hb:eqM (vr 9) (cS "\n") (stq e z (i+1) (.str [10]) q k fl)= .ok true (stq e z (i+1) (.str [10]) q k fl):=rfl
 have hw:eqM (vr 12) (cI 0) (stq e {z with lno:=z.lno+1} (i+1) (.str [10]) q k fl)= .ok ((k:Int)==0) (stq e {z with lno:=z.lno+1} (i+1) (.str [10]) q k fl):=rfl
 by_cases hk:k=0
 ·subst hk
  rw [if_pos rfl]
  refine iF hb ?_ (fun h=>nomatch h)
  rw [aC lI]
  refine iF (hw.trans rfl) ?_ (fun h=>nomatch h)
  rw [aC (bC7 h)]
  rfl
 ·rw [if_neg hk]
  refine iF hb ?_ (fun h=>nomatch h)
  rw [aC lI,bU (hw.trans (by rw [show ((k:Int)==0)=false by rw [beq_eq_false_iff_ne];exact Q41 (.n1 _) hk]))]
  rfl
theorem str_bs {d:Nat} (hc:e.S[i]? =some 92) (hd:e.S[i+1]? =some d) (hs:e.S.length≤aD) (hq:¬(e.S.drop i).take (k+1)=List.replicate (k+1) q):
  gB (stq e z i ch q k fl)= .ok .cont (stq e (if d=10 then {z with lno:=z.lno+1} else z) (i+2) (.str [92]) q k fl):=by
 have hlt:=aM hd
 unfold gB
 dsimp only [blk]
 rw [rU hc hs (by decide) hq,bU (eqc (by decide))]
 have hx:blk [bD (aA ltP (vr 7) (vr 8)),aP (eqM (itm (vr 1) (vr 7)) (cS "\n")) (bQ 4 1) nop,bQ 7 1,aL .cont] (stq e z (i+1) (.str [92]) q k fl)=
   .ok .cont (stq e (if d=10 then {z with lno:=z.lno+1} else z) (i+2) (.str [92]) q k fl):=by
  dsimp only [blk]
  rw [aC (asT (aW8 hlt))]
  by_cases h10:d=10
  ·subst h10
   rw [if_pos rfl,aE9 ((yX hd hs).trans rfl) lI]
   rfl
  ·rw [if_neg h10,bU ((yX hd hs).trans (by
    have:([d]==lit "\n")=false:=by
     rw [beq_eq_false_iff_ne];intro h;cases h;exact h10 rfl
    rw [this]))]
   rfl
 exact (cU (eqc (by decide))).trans hx
theorem aS7 (hc:e.S[i]? =some c) (hs:e.S.length≤aD) (hx:c≠120) (h10:c≠10) (h92:c≠92) (hq:¬(e.S.drop i).take (k+1)=List.replicate (k+1) q):
  gB (stq e z i ch q k fl)= .ok .next (stq e z (i+1) (.str [c]) q k fl):=by
 unfold gB
 dsimp only [blk]
 rw [rU hc hs hx hq,bU (eqc (by rw [beq_eq_false_iff_ne];intro h;cases h;exact h10 rfl))]
 exact (bC (eqc (by rw [beq_eq_false_iff_ne];intro h;cases h;exact h92 rfl))).trans rfl
noncomputable def fin:Md×Z→Option Z
 | (.pl,z)=>some z
 | (.st _ _ first,z)=>some {z with cont:=if z.lno=first+1 then 2 else 3}
 | _=>none
def Run (m:Md) (z:Z) (l:List Nat) (z':Z):Prop:=∃p,run m z l=some p∧fin p=some z'
theorem Run.cons {m':Md}{z1:Z} (h:Run m z (c::l) z') (hs:step m z c l=some (m',z1)):Run m' z1 l z':=by
 obtain ⟨p,h1,h2⟩:=h
 rw [uD] at h1
 rw [hs] at h1
 exact ⟨p,h1,h2⟩
theorem Run.some (h:Run m z (c::l) z'):∃m' z1,step m z c l=some (m',z1)∧Run m' z1 l z':=by
 obtain ⟨p,h1,h2⟩:=h
 cases hs:step m z c l with
 | none=>rw [uD] at h1;rw [hs] at h1;cases h1
 | some x=>exact ⟨x.1,x.2,rfl,Run.cons ⟨p,h1,h2⟩ hs⟩
end
section
variable {N first i q:Nat}{b x:PM Fl}{σ σ1 σ2:St}{l:List Nat}{z z':Z}{e:S1}
theorem gO {t:PM Bool} (ht:t σ= .ok true σ1) (hb:b σ1= .ok .cont σ2∨b σ1= .ok .next σ2):aV (N+1) t b x σ=aV N t b x σ2:=by
 conv=>lhs;rw [oD]
 rw [aB ht]
 simp only [if_true]
 rcases hb with hb | hb <;> rw [aB hb]
theorem zL {t:PM Bool} (ht:t σ= .ok true σ1) (hb:b σ1= .ok .brk σ2):aV (N+1) t b x σ= .ok .next σ2:=by
 conv=>lhs;rw [oD]
 rw [aB ht]
 simp only [if_true]
 rw [aB hb];rfl
theorem tV {t:PM Bool} (ht:t σ= .ok false σ1):aV (N+1) t b x σ=x σ1:=by
 conv=>lhs;rw [oD]
 rw [aB ht]
 simp only [Bool.false_eq_true,if_false]
theorem gL (h:i<l.length):∃c,l[i]? =some c∧l.drop i=c::l.drop (i+1):=
 ⟨l[i],List.getElem?_eq_getElem h,List.drop_eq_getElem_cons h⟩
theorem yL:∀{k:Nat}{l:List Nat},0<k→k≤l.length→Run (.skP k) z l z'→Run .pl z (l.drop k) z'
 | 0,_,h,_,_=>absurd h (Q108 .o)
 | k+1,[],_,h,_=>by simp at h
 | k+1,c::l,_,hl,h=>by
  by_cases hk:k=0
  ·subst hk
   exact h.cons rfl
  ·have:step (.skP (k+1)) z c l=some (.skP k,z):=by
    unfold step
    dsimp only
    rw [if_neg (by exact Q109 (.n1 _) hk)];rfl
   exact yL (k:=k) (l:=l) (Q43 (.n1 _) hk) (by simpa using hl) (h.cons this)
theorem yK {w:Nat}:∀{k:Nat}{l:List Nat},0<k→k≤l.length→Run (.skS k q w first) z l z'→Run (.st q w first) z (l.drop k) z'
 | 0,_,h,_,_=>absurd h (Q108 .o)
 | k+1,[],_,h,_=>by simp at h
 | k+1,c::l,_,hl,h=>by
  by_cases hk:k=0
  ·subst hk
   exact h.cons rfl
  ·have:step (.skS (k+1) q w first) z c l=some (.skS k q w first,z):=by
    unfold step
    dsimp only
    rw [if_neg (by exact Q109 (.n1 _) hk)];rfl
   exact yK (k:=k) (l:=l) (Q43 (.n1 _) hk) (by simpa using hl) (h.cons this)
structure Okl (e:S1) (z:Z) (i:Nat):Prop where
 hg:e.g<e.cells.length
 small:z.good.length+(e.S.length-i)<90000
 hs:e.S.length≤aD
 hi:i≤e.S.length
theorem Okl.ok (h:Okl e z i):Ok1 e z:=⟨h.hg,by have:=h.small;exact lin1 (.t .v0 (.k 100000)) (.t (.a .v0 .v1) (.k 90000)) (.w [1,1]) rfl (.n2 _ _) this⟩
theorem aJ1 (z:Z):(nl z).good.length≤z.good.length+1:=by
 unfold nl
 dsimp only
 split <;> simp
theorem hZ {k:Nat} (hq:q=34∨q=39):∀(N:Nat) (z:Z) (i:Nat) (ch:PV),Okl e z i→e.S.length-i<N→Run (.st q k first) z (e.S.drop i) z'→
  ∃(z1:Z) (j:Nat) (ch1 qu fl w:PV),aV N (aA ltP (vr 7) (vr 8)) gB (aP (eqM (aA bH (vr 4) (cI 1)) (vr 11)) (aF 2 (cI 2)) (aF 2 (cI 3))) (stq e z i ch q k (.int first))= .ok .next (st1 e z1 j ch1 qu fl w)∧
   i≤j∧Okl e z1 j∧Run .pl z1 (e.S.drop j) z'
 | 0,_,_,_,_,h,_=>absurd h (Q14 (.n1 _))
 | N+1,z,i,ch,hok,hN,hR=>by
  by_cases hlt:i<e.S.length
  ·refine cps fun GC hGC=> ?_
   obtain ⟨c,hc,hd⟩:=gL hlt
   refine hGC ?_
   have ht:=aW8 (e:=e) (z:=z) (ch:=ch) (qu:= .str (List.replicate (k+1) q)) (fl:= .int first) (w:= .int k) hlt
   have hR0:=hR
   rw [hd] at hR
   refine cps fun GC hGC=> ?_
   obtain ⟨m',z1,hst,hR1⟩:=hR.some
   refine hGC ?_
   by_cases hx:c=120
   ·subst hx
    have e1:step (.st q k first) z 120 (e.S.drop (i+1))=some (.st q k first,z):=rfl
    rw [e1] at hst;cases hst
    rw [gO ht (.inl (str_x hc hok.hs))]
    refine cps fun GC hGC=> ?_
    obtain ⟨z2,j,c1,a,b,d,h1,h2,h3,h4⟩:=hZ hq N z (i+1) _ ⟨hok.hg,by have:=hok.small;exact Q5 (.n5 _ _ _ _ _) this rfl rfl,hok.hs,hlt⟩ (Q44 (.n5 _ _ _ _ _) hN hlt rfl rfl) hR1
    refine hGC ?_
    exact ⟨z2,j,c1,a,b,d,h1,by exact Q3 (.n2 _ _) h2,h3,h4⟩
   by_cases hm:(e.S.drop i).take (k+1)=List.replicate (k+1) q
   ·rw [zL ht (aS6 hc hok.hs hx hm)]
    have hlen:k+1≤e.S.length-i:=by
     have:=congrArg List.length hm
     rw [List.length_take,List.length_drop,List.length_replicate] at this
     exact lin3 (.l (.a .v0 .k1) .v3) (.q .v4 (.a .v0 .k1)) (.b 3 .v1 .v2) (.M 4 (.a .v0 .k1) .v3) (.d 2 (.d 5 (.w [1,0,0,0,1]) (.w [0,1,0,0,1, -1])) (.d 5 (.w [1,0,0,0,1]) (.w [0,1,0,0,1, -1]))) rfl (.n5 _ _ _ _ _) this rfl rfl
    refine ⟨z,i+1+k,_,_,_,_,rfl,by exact lin0 (.l .v0 (.a (.a .v0 .k1) .v1)) (.w [1]) rfl (.n2 _ _),⟨hok.hg,by have:=hok.small;exact lin5 (.t (.a .v0 .v4) (.k 90000)) (.t .v2 .v1) (.l (.a .v3 .k1) .v5) (.t (.a .v0 .v5) (.k 90000)) (.b 4 .v1 (.a (.a .v2 .k1) .v3)) (.b 5 .v1 .v2) (.d 4 (.d 7 (.w [0, -1,0,1,1,0,0,1]) (.w [1,0,0,0,0,1])) (.w [1,1,1,1,1,1])) rfl (.n6 _ _ _ _ _ _) hlt hlen this rfl rfl,hok.hs,by exact lin3 (.l (.a (.a .v0 .k1) .v1) .v2) (.t .v0 .v2) (.l (.a .v1 .k1) .v3) (.b 3 .v2 .v0) (.d 3 (.w [0,1,1,0,1]) (.w [1,0,0,1])) rfl (.n4 _ _ _ _) hlt hlen rfl⟩, ?_⟩
    unfold step at hst
    dsimp only at hst
    rw [if_neg hx, ←hd,if_pos hm] at hst
    by_cases hk:k=0
    ·subst hk
     rw [if_pos rfl] at hst;cases hst
     exact hR1
    ·rw [if_neg hk] at hst;cases hst
     have:=yL (Q43 (.n1 _) hk) (by rw [List.length_drop];exact lin4 (.l .v0 .v3) (.t .v2 .v1) (.l (.a .v0 .k1) .v4) (.b 3 .v1 (.a .v2 .k1)) (.b 4 .v1 .v2) (.d 3 (.d 6 (.w [0,1,0, -1,1,0,1]) (.w [1,0,1])) (.d 6 (.w [0,1,1, -1,1,0,1]) (.w [1,0,0,0,0,1]))) rfl (.n5 _ _ _ _ _) hlt hlen rfl rfl) hR1
     rw [List.drop_drop] at this
     exact this
   unfold step at hst
   dsimp only at hst
   rw [if_neg hx, ←hd,if_neg hm] at hst
   by_cases h10:c=10
   ·subst h10
    rw [if_pos rfl] at hst
    have hb:=str_nl (ch:=ch) (fl:= .int first) hok.ok hc hok.hs hm
    by_cases hk:k=0
    ·rw [if_pos hk] at hst hb;cases hst
     rw [zL ht hb]
     exact ⟨nl z,i+1,_,_,_,_,rfl,by exact Q23 (.n1 _),⟨hok.hg,by have:=hok.small;have:=aJ1 z;lia,hok.hs,hlt⟩,hR1⟩
    ·rw [if_neg hk] at hst hb;cases hst
     rw [gO ht (.inl hb)]
     refine cps fun GC hGC=> ?_
     obtain ⟨z2,j,c1,a,b,d,h1,h2,h3,h4⟩:=hZ hq N {z with lno:=z.lno+1} (i+1) _ ⟨hok.hg,by have:=hok.small;show z.good.length+_<_;exact Q5 (.n5 _ _ _ _ _) this rfl rfl,hok.hs,hlt⟩ (Q44 (.n5 _ _ _ _ _) hN hlt rfl rfl) hR1
     refine hGC ?_
     exact ⟨z2,j,c1,a,b,d,h1,by exact Q3 (.n2 _ _) h2,h3,h4⟩
   rw [if_neg h10] at hst
   by_cases h92:c=92
   ·subst h92
    rw [if_pos rfl] at hst;cases hst
    by_cases hl2:i+1<e.S.length
    ·refine cps fun GC hGC=> ?_
     obtain ⟨d,hc2,hd2⟩:=gL hl2
     refine hGC ?_
     rw [hd2] at hR1
     refine cps fun GC hGC=> ?_
     obtain ⟨m2,z2,hst2,hR2⟩:=hR1.some
     have e2:m2= .st q k first∧z2=if d=10 then {z with lno:=z.lno+1} else z:=by
      unfold step at hst2
      dsimp only at hst2
      split at hst2 <;> cases hst2
      ·rename_i hh;exact ⟨rfl,(if_pos hh).symm⟩
      ·rename_i hh;exact ⟨rfl,(if_neg hh).symm⟩
     obtain ⟨rfl,rfl⟩:=e2
     refine hGC ?_
     rw [gO ht (.inl (str_bs hc hc2 hok.hs hm))]
     have hgl:(if d=10 then {z with lno:=z.lno+1} else z:Z).good=z.good:=by split <;> rfl
     refine cps fun GC hGC=> ?_
     obtain ⟨z2,j,c1,a,b,d,h1,h2,h3,h4⟩:=hZ hq N _ (i+2) _ ⟨hok.hg,by rw [hgl];have:=hok.small;exact Q110 (.n5 _ _ _ _ _) this rfl rfl,hok.hs,hl2⟩ (lin4 (.t .v3 .v2) (.t .v4 (.a .v2 .k1)) (.t .v1 .v0) (.b 3 .v0 (.a .v1 (.k 2))) (.b 4 .v0 .v1) (.d 3 (.d 6 (.w [0, -1,0,1,1,1]) (.w [1,0,1])) (.d 6 (.w [0, -1,0,1,1,1,1]) (.w [1,0,0,0,0,0,1]))) rfl (.n5 _ _ _ _ _) hN hlt rfl rfl) hR2
     refine hGC ?_
     exact ⟨z2,j,c1,a,b,d,h1,by exact lin1 (.l .v0 .v1) (.l (.a .v0 (.k 2)) .v1) (.w [1,1]) rfl (.n2 _ _) h2,h3,h4⟩
    ·rw [List.drop_eq_nil_of_le (by exact Q111 (.n2 _ _) hl2)] at hR1
     refine cps fun GC hGC=> ?_
     obtain ⟨p,g1,g2⟩:=hR1
     refine hGC ?_
     cases g1
     cases g2
   ·rw [if_neg h92] at hst;cases hst
    rw [gO ht (.inr (aS7 hc hok.hs hx h10 h92 hm))]
    refine cps fun GC hGC=> ?_
    obtain ⟨z2,j,c1,a,b,d,h1,h2,h3,h4⟩:=hZ hq N z (i+1) _ ⟨hok.hg,by have:=hok.small;exact Q5 (.n5 _ _ _ _ _) this rfl rfl,hok.hs,hlt⟩ (Q44 (.n5 _ _ _ _ _) hN hlt rfl rfl) hR1
    refine hGC ?_
    exact ⟨z2,j,c1,a,b,d,h1,by exact Q3 (.n2 _ _) h2,h3,h4⟩
  ·have ht:=bC9 (e:=e) (z:=z) (ch:=ch) (qu:= .str (List.replicate (k+1) q)) (fl:= .int first) (w:= .int k) hlt
   rw [tV ht]
   have hil:e.S.drop i=[]:=List.drop_eq_nil_of_le (Q8 (.n2 _ _) hlt)
   rw [hil] at hR
   refine cps fun GC hGC=> ?_
   obtain ⟨p,g1,g2⟩:=hR
   refine hGC ?_
   cases g1
   have hz:z'={z with cont:=if z.lno=first+1 then 2 else 3}:=(Option.some.inj g2).symm
   have hc:eqM (aA bH (vr 4) (cI 1)) (vr 11) (stq e z i ch q k (.int first))= .ok (decide (z.lno=first+1)) (stq e z i ch q k (.int first)):=by
    show Res.ok ((z.lno:Int)-1==(first:Int)) _=_
    congr 1
    rw [Bool.eq_iff_iff,beq_iff_eq,decide_eq_true_eq]
    lia
   refine ⟨z',i,ch, .str (List.replicate (k+1) q), .int first, .int k, ?_,Nat.le_refl _,⟨hok.hg,by rw [hz];exact hok.small,hok.hs,hok.hi⟩,by rw [hil];exact ⟨_,rfl,rfl⟩⟩
   rw [dQ hc,hz]
   by_cases hf:z.lno=first+1
   ·rw [decide_eq_true hf,if_pos rfl,if_pos hf];rfl
   ·rw [decide_eq_false hf,if_neg (by decide),if_neg hf];rfl
theorem lN {c:Nat}:∀{n lo j:Nat},lo≤j→j<lo+n→l[j]? =some c→(∀a,lo≤a→a<j→l[a]? ≠some c)→dT l c lo n=some j
 | 0,lo,j,h1,h2,_,_=>absurd h1 (lin1 (.n (.l .v0 .v1)) (.t .v1 (.a .v0 .k0)) (.w [1,1]) rfl (.n2 _ _) h2)
 | n+1,lo,j,h1,h2,h3,h4=>by
  rw [tF]
  by_cases he:lo=j
  ·subst he;rw [if_pos h3]
  ·rw [if_neg (h4 lo (Nat.le_refl _) (lin2 (.t .v0 .v1) (.l .v0 .v1) (.n (.q .v0 .v1)) (.d 2 (.w [1,1]) (.w [1,0,1])) rfl (.n2 _ _) h1 he))]
   exact lN (lin2 (.l (.a .v0 .k1) .v1) (.l .v0 .v1) (.n (.q .v0 .v1)) (.d 2 (.w [1,1]) (.w [1,0,1])) rfl (.n2 _ _) h1 he) (Q53 (.n3 _ _ _) h2) h3 fun a ha hb=>h4 a (Q3 (.n2 _ _) ha) hb
theorem aF4:∀(n i:Nat),l.length-i≤n→i≤l.length→Run .cm z (l.drop i) z'→∃j,i≤j∧l[j]? =some 10∧(∀a,i≤a→a<j→l[a]? ≠some 10)∧Run .pl z (l.drop j) z'
 | n,i,hn,hi,hR=>by
  by_cases hlt:i<l.length
  ·obtain ⟨c,hc,hd⟩:=gL hlt
   have hR0:=hR
   rw [hd] at hR
   by_cases h10:c=10
   ·subst h10
    refine ⟨i,Nat.le_refl _,hc,fun a h1 h2=>absurd h1 (lin1 (.n (.l .v0 .v1)) (.t .v1 .v0) (.w [1,1]) rfl (.n2 _ _) h2), ?_⟩
    have h1:=hR.cons (m':= .pl) (z1:=nl z) rfl
    rw [hd]
    obtain ⟨p,g1,g2⟩:=h1
    exact ⟨p,by rw [uD];exact g1,g2⟩
   ·have hst:step .cm z c (l.drop (i+1))=some (.cm,z):=by
     unfold step;dsimp only;rw [if_neg h10]
    cases n with
    | zero=>exact (show False from lin3 .f (.t .v0 .v1) (.l .v2 .k0) (.b 2 .v1 .v0) (.d 3 (.w [0, -1,0,1,1]) (.w [1,0,0,1])) rfl (.n3 _ _ _) hlt hn rfl).elim
    | succ n=>
     obtain ⟨j,h1,h2,h3,h4⟩:=aF4 n (i+1) (lin3 (.l .v3 .v2) (.l .v4 (.a .v2 .k1)) (.b 3 .v0 (.a .v1 .k1)) (.b 4 .v0 .v1) (.d 2 (.d 5 (.w [0, -1,0,1,1,1]) (.w [1,0,1])) (.w [0,1,1])) rfl (.n5 _ _ _ _ _) hn rfl rfl) hlt (hR.cons hst)
     refine ⟨j,by exact Q3 (.n2 _ _) h1,h2,fun a ha hb=> ?_,h4⟩
     by_cases he:a=i
     ·subst he;rw [hc];intro h;cases h;exact h10 rfl
     ·exact h3 a (Q27 (.n2 _ _) ha he) hb
  ·rw [List.drop_eq_nil_of_le (by exact Q8 (.n2 _ _) hlt)] at hR
   obtain ⟨p,g1,g2⟩:=hR
   cases g1
   cases g2
theorem dK:∀(N:Nat) (z:Z) (i:Nat) (ch qu fl w:PV),Okl e z i→2*(e.S.length-i)<N→N≤cR+1→Run .pl z (e.S.drop i) z'→e.S.length<90000→
  ∃(i':Int) (ch1 qu1 fl1 w1:PV),aV N (aA ltP (vr 7) (vr 8)) eI nop (st1 e z i ch qu fl w)= .ok .next (st1 e z' i' ch1 qu1 fl1 w1)
 | 0,_,_,_,_,_,_,_,h,_,_,_=>absurd h (lin0 (.n (.t (.m 2 .v0) .k0)) (.w [1]) rfl (.n1 _))
 | N+1,z,i,ch,qu,fl,w,hok,hN,hF,hR,hS=>by
  by_cases hlt:i<e.S.length
  ·obtain ⟨c,hc,hd⟩:=gL hlt
   have ht:=aW8 (e:=e) (z:=z) (ch:=ch) (qu:=qu) (fl:=fl) (w:=w) hlt
   have hR0:=hR
   rw [hd] at hR
   obtain ⟨m',z1,hst,hR1⟩:=hR.some
   unfold step at hst
   dsimp only at hst
   by_cases h1:c=120
   ·subst h1
    rw [if_pos rfl] at hst;cases hst
    rw [gO ht (.inl (one_x hc hok.hs))]
    exact dK N z (i+1) _ _ _ _ ⟨hok.hg,by have:=hok.small;exact Q5 (.n5 _ _ _ _ _) this rfl rfl,hok.hs,hlt⟩ (Q24 (.n5 _ _ _ _ _) hN hlt rfl rfl) (Q4 (.n2 _ _) hF) hR1 hS
   rw [if_neg h1] at hst
   by_cases h2:c=10
   ·subst h2
    rw [if_pos rfl] at hst;cases hst
    rw [gO ht (.inl (one_nl hok.ok hc hok.hs))]
    exact dK N (nl z) (i+1) _ _ _ _ ⟨hok.hg,by have:=hok.small;have:=aJ1 z;lia,hok.hs,hlt⟩ (Q24 (.n5 _ _ _ _ _) hN hlt rfl rfl) (Q4 (.n2 _ _) hF) hR1 hS
   rw [if_neg h2] at hst
   by_cases h3:c=40
   ·subst h3
    rw [if_pos rfl] at hst;cases hst
    rw [gO ht (.inl (aG7 hc hok.hs))]
    exact dK N {z with level:=z.level+1} (i+1) _ _ _ _ ⟨hok.hg,by have:=hok.small;show z.good.length+_<_;exact Q5 (.n5 _ _ _ _ _) this rfl rfl,hok.hs,hlt⟩ (Q24 (.n5 _ _ _ _ _) hN hlt rfl rfl) (Q4 (.n2 _ _) hF) hR1 hS
   rw [if_neg h3] at hst
   by_cases h4:c=41
   ·subst h4
    rw [if_pos rfl] at hst;cases hst
    rw [gO ht (.inl (zX hc hok.hs))]
    exact dK N {z with level:=z.level-1} (i+1) _ _ _ _ ⟨hok.hg,by have:=hok.small;show z.good.length+_<_;exact Q5 (.n5 _ _ _ _ _) this rfl rfl,hok.hs,hlt⟩ (Q24 (.n5 _ _ _ _ _) hN hlt rfl rfl) (Q4 (.n2 _ _) hF) hR1 hS
   rw [if_neg h4] at hst
   by_cases h5:c=34∨c=39
   ·rw [if_pos h5] at hst
    have ht3:(e.S.drop i).take 3=[c,c,c]↔(e.S.drop (i+1)).take 2=[c,c]:=by
     rw [hd,List.take_succ_cons,List.cons.injEq];simp
    have fin:∀(k:Nat),(k=if (e.S.drop i).take 3=[c,c,c] then 2 else 0)→i+1+k≤e.S.length→Run (.st c k z.lno) z (e.S.drop (i+1+k)) z'→
      ∃(i':Int) (ch1 qu1 fl1 w1:PV),aV (N+1) (aA ltP (vr 7) (vr 8)) eI nop (st1 e z i ch qu fl w)= .ok .next (st1 e z' i' ch1 qu1 fl1 w1):=by
     intro k hk hle hRk
     obtain ⟨z2,j,c1,a,b,d,g1,g2,g3,g4⟩:=hZ h5 cR z (i+1+k) (.str [c]) ⟨hok.hg,by have:=hok.small;exact lin3 (.t (.a .v0 .v4) (.k 90000)) (.t (.a .v0 .v5) (.k 90000)) (.b 4 .v1 (.a (.a .v2 .k1) .v3)) (.b 5 .v1 .v2) (.d 2 (.d 5 (.w [0, -1,0,1,1,1]) (.w [1, -1,0,1,1,1])) (.w [0,1,1,1])) rfl (.n6 _ _ _ _ _ _) this rfl rfl,hok.hs,hle⟩ (by unfold cR;exact lin2 (.t .v3 (.k 1000000)) (.t .v0 (.k 90000)) (.b 3 .v0 (.a (.a .v1 .k1) .v2)) (.d 2 (.w [0,1,1,1]) (.w [0,1,1])) rfl (.n4 _ _ _ _) hS rfl) hRk
     rw [gO ht (.inl (zW h5 hc hok.hs hk g1))]
     exact dK N z2 j _ _ _ _ g3 (lin5 (.t (.m 2 .v5) .v2) (.t (.m 2 .v6) (.a .v2 .k1)) (.t .v3 .v0) (.l (.a (.a .v3 .k1) .v4) .v1) (.b 5 .v0 .v1) (.b 6 .v0 .v3) (.d 4 (.d 7 (.w [0, -2,0,2,1,1,0,2]) (.w [1,0,0,0,0,0,1])) (.d 7 (.w [0, -2,0,2,1,1,2]) (.w [1,0,0,0,0,0,1]))) rfl (.n7 _ _ _ _ _ _ _) hN hlt g2 rfl rfl) (Q4 (.n2 _ _) hF) g4 hS
    by_cases h6:(e.S.drop (i+1)).take 2=[c,c]
    ·rw [if_pos h6] at hst;cases hst
     have hlen:2≤e.S.length-(i+1):=by
      have:=congrArg List.length h6
      rw [List.length_take,List.length_drop] at this
      simp at this;exact lin3 (.l (.k 2) .v2) (.q .v3 (.k 2)) (.b 2 .v0 (.a .v1 .k1)) (.M 3 (.k 2) .v2) (.d 2 (.d 5 (.w [1,0,0,0,1]) (.w [0,1,0,0,1, -1])) (.d 5 (.w [1,0,0,1]) (.w [0,1,0,1,0, -1]))) rfl (.n4 _ _ _ _) this rfl rfl
     have:=yK (by decide) (by rw [List.length_drop];exact lin1 (.l (.k 2) .v0) (.l (.k 2) .v0) (.w [1,1]) rfl (.n1 _) hlen) hR1
     rw [List.drop_drop] at this
     exact fin 2 (by rw [if_pos (ht3.mpr h6)]) (lin2 (.l (.a (.a .v0 .k1) (.k 2)) .v1) (.l (.k 2) .v2) (.b 2 .v1 (.a .v0 .k1)) (.d 2 (.w [0,1,1,1]) (.w [0,1,0,1])) rfl (.n3 _ _ _) hlen rfl) this
    ·rw [if_neg h6] at hst;cases hst
     exact fin 0 (by rw [if_neg (fun h=>h6 (ht3.mp h))]) (lin1 (.l (.a (.a .v0 .k1) .k0) .v1) (.t .v0 .v1) (.w [1,1]) rfl (.n2 _ _) hlt) hR1
   rw [if_neg h5] at hst
   by_cases h6:c=35
   ·subst h6
    rw [if_pos rfl] at hst;cases hst
    obtain ⟨j,g1,g2,g3,g4⟩:=aF4 _ (i+1) (Nat.le_refl _) hlt hR1
    have hj:=aM g2
    have hf:=lN (l:=e.S) (c:=10) (n:=e.S.length-(i+1)) g1 (lin2 (.t .v0 (.a (.a .v1 .k1) .v3)) (.t .v0 .v2) (.b 3 .v2 (.a .v1 .k1)) (.d 2 (.w [0, -1,1,1]) (.w [1, -1,1,1])) rfl (.n4 _ _ _ _) hj rfl) g2 g3
    rw [gO ht (.inl (aG8 hc hok.hs hf))]
    exact dK N z j _ _ _ _ ⟨hok.hg,by have:=hok.small;exact lin5 (.t (.a .v0 .v4) (.k 90000)) (.l (.a .v3 .k1) .v2) (.t .v2 .v1) (.t (.a .v0 .v5) (.k 90000)) (.b 4 .v1 .v2) (.b 5 .v1 .v3) (.d 4 (.d 7 (.w [0, -1,0,1,1,1,0,1]) (.w [1,0,1,0,0,1])) (.w [1,0,0,0,1])) rfl (.n6 _ _ _ _ _ _) g1 hj this rfl rfl,hok.hs,by exact Q42 (.n2 _ _) hj⟩ (lin5 (.t (.m 2 .v4) .v2) (.t (.m 2 .v5) (.a .v2 .k1)) (.l (.a .v3 .k1) .v1) (.t .v1 .v0) (.b 4 .v0 .v1) (.b 5 .v0 .v3) (.d 4 (.d 7 (.w [0, -2,0,2,1,1,2]) (.w [1,0,1,0,0,0,1])) (.w [1,0,0,0,0,1])) rfl (.n6 _ _ _ _ _ _) hN g1 hj rfl rfl) (Q4 (.n2 _ _) hF) g4 hS
   rw [if_neg h6] at hst
   by_cases h7:c=92
   ·subst h7
    rw [if_pos rfl] at hst;cases hst
    by_cases hl2:i+1<e.S.length
    ·obtain ⟨d,hc2,hd2⟩:=gL hl2
     rw [hd2] at hR1
     obtain ⟨m2,z2,hst2,hR2⟩:=hR1.some
     have e0:e.S.drop (i+1+1)=[]↔i+2=e.S.length:=by
      rw [List.drop_eq_nil_iff];lia
     have e2:m2= .pl∧z2=if d=10 then {z with lno:=z.lno+1,cont:=if i+2=e.S.length then 1 else z.cont} else z:=by
      unfold step at hst2
      dsimp only at hst2
      simp only [e0] at hst2
      by_cases hh:d=10
      ·rw [if_pos hh] at hst2 ⊢;cases hst2;exact ⟨rfl,rfl⟩
      ·rw [if_neg hh] at hst2 ⊢;cases hst2;exact ⟨rfl,rfl⟩
     obtain ⟨rfl,rfl⟩:=e2
     rw [gO ht (.inr (one_bs hc hc2 hok.hs))]
     have hgl:(if d=10 then {z with lno:=z.lno+1,cont:=if i+2=e.S.length then 1 else z.cont} else z:Z).good=z.good:=by split <;> rfl
     exact dK N _ (i+2) _ _ _ _ ⟨hok.hg,by rw [hgl];have:=hok.small;exact Q110 (.n5 _ _ _ _ _) this rfl rfl,hok.hs,hl2⟩ (lin4 (.t (.m 2 .v3) .v2) (.t (.m 2 .v4) (.a .v2 .k1)) (.t .v1 .v0) (.b 3 .v0 (.a .v1 (.k 2))) (.b 4 .v0 .v1) (.d 3 (.d 6 (.w [0, -2,0,2,1,1]) (.w [1,0,1])) (.d 6 (.w [0, -2,0,2,1,1,2]) (.w [1,0,0,0,0,0,1]))) rfl (.n5 _ _ _ _ _) hN hlt rfl rfl) (Q4 (.n2 _ _) hF) hR2 hS
    ·rw [List.drop_eq_nil_of_le (by exact Q111 (.n2 _ _) hl2)] at hR1
     obtain ⟨p,g1,g2⟩:=hR1
     cases g1
     cases g2
   ·rw [if_neg h7] at hst;cases hst
  ·have ht:=bC9 (e:=e) (z:=z) (ch:=ch) (qu:=qu) (fl:=fl) (w:=w) hlt
   rw [List.drop_eq_nil_of_le (by exact Q8 (.n2 _ _) hlt)] at hR
   obtain ⟨p,g1,g2⟩:=hR
   cases g1
   have hz:z=z':=Option.some.inj g2
   subst hz
   exact ⟨i,ch,qu,fl,w,by rw [tV ht];rfl⟩
end
section
variable {l s:List Nat}{z z':Z}{σ:St}{B:Ads}{j k:Nat}{vals vars:List PV}{v:PV}{cells:List PCell}
theorem Sk.len (h:Sk l s):s.length≤l.length:=by
 induction h with
 | nil=>exact Nat.le_refl _
 | cons _ ih=>simpa using ih
 | dx _ ih=>simp at ih ⊢;exact Q112 (.n2 _ _) ih
 | dn _ ih=>simp at ih ⊢;exact Q112 (.n2 _ _) ih
noncomputable def z0:Z:=⟨0,0,[0],0⟩
noncomputable def cT (z:Z):Nat:=if z.cont≠2∧z.cont≠3∧0<z.level then 4 else z.cont
noncomputable def eJ (z:Z):Nat:=z.good.getLastD 0
noncomputable def gH (z:Z):List Nat:=if eJ z≠z.lno then z.good++[z.lno] else z.good
theorem Run.sk (h:Sk l s) (he:ends l) (hR:Run .pl z l z'):Run .pl z s z':=by
 obtain ⟨p,h1,h2⟩:=hR
 exact ⟨p,by rw [←run_sk h .pl z ⟨trivial,trivial⟩ he];exact h1,h2⟩
noncomputable def wT (l:List Nat):List Nat:=
 let l:=dP (lit "xxxxxxxx") (lit "x") 0 l
 let l:=dP (lit "xxxx") (lit "x") 0 l
 let l:=dP (lit "xx") (lit "x") 0 l
 let l:=dP (lit "xx") (lit "x") 0 l
 dP (lit "\nx") (lit "\n") 0 l
theorem sk8 (l:List Nat):Sk l (dP (lit "xxxxxxxx") (lit "x") 0 l):=aE8 7 l.length l (Nat.le_refl _)
theorem sk4 (l:List Nat):Sk l (dP (lit "xxxx") (lit "x") 0 l):=aE8 3 l.length l (Nat.le_refl _)
theorem sk2 (l:List Nat):Sk l (dP (lit "xx") (lit "x") 0 l):=aE8 1 l.length l (Nat.le_refl _)
theorem skn (l:List Nat):Sk l (dP (lit "\nx") (lit "\n") 0 l):=sk_n l.length l (Nat.le_refl _)
theorem wV (he:ends l) (hR:Run .pl z l z'):Run .pl z (wT l) z':=by
 have e1:=(sk8 l).ends he
 have e2:=(sk4 _).ends e1
 have e3:=(sk2 _).ends e2
 have e4:=(sk2 _).ends e3
 exact ((((hR.sk (sk8 l) he).sk (sk4 _) e1).sk (sk2 _) e2).sk (sk2 _) e3).sk (skn _) e4
theorem wS (l:List Nat):(wT l).length≤l.length:=
 Nat.le_trans (skn _).len (Nat.le_trans (sk2 _).len (Nat.le_trans (sk2 _).len (Nat.le_trans (sk4 _).len (sk8 l).len)))
theorem ok_rep {i:Nat}{y z:List Nat} (hv:vr i σ= .ok (.str l) σ) (hl:l.length≤65536) (hy:0<y.length) (hz:0<z.length):
  aF i (fL (nH y z) (vr i)) σ= .ok .next {σ with vars:=σ.vars.set i (.str (dP y z 0 l))}:=by
 have h:fL (nH y z) (vr i) σ= .ok (.str (dP y z 0 l)) σ:=by
  unfold fL
  rw [aB hv]
  unfold nH xA
  dsimp only
  rw [if_pos hl,wX hy hz]
 rw [aO h rfl]
structure Obj1 (B:Ads) (k:Nat) (vals:List PV) (σ:St):Prop where
 cell:σ.cells[k]? =some (.dct 0 vals)
 len:vals.length=11
theorem mR (h:Obj1 B k vals σ):nA k 0 σ=some vals:=by
 unfold nA;rw [h.cell];rfl
theorem cK {x:PM PV} (hx:x σ= .ok (.inst B.C k) σ) (h:Obj1 B k vals σ) (hj:vals[j]? =some v) (hh:hand v=true):aX B.C 0 j x σ= .ok v σ:=by
 unfold aX
 rw [aB hx]
 unfold aP4 hM
 dsimp only
 rw [if_pos rfl]
 dsimp only
 rw [mR h]
 dsimp only
 rw [hj]
 dsimp only
 rw [if_pos hh]
theorem kT (h:Obj1 B k vals σ) (hu:aN v=false):lS B.C 0 j (.inst B.C k) v σ= .ok .next {σ with cells:=σ.cells.set k (.dct 0 (vals.set j v))}:=by
 unfold lS hM
 dsimp only
 rw [if_pos rfl]
 dsimp only
 rw [mR h]
 dsimp only
 rw [hu]
 rfl
theorem cA {fe:PM PV} (hv:vr 0 σ= .ok (.inst B.C k) σ) (h:Obj1 B k vals σ) (he:fe σ= .ok v σ) (hu:aN v=false):
  aW B.C 0 j fe (vr 0) σ= .ok .next {σ with cells:=σ.cells.set k (.dct 0 (vals.set j v))}:=by
 unfold aW
 rw [aB he,aB hv,kT h hu]
theorem Obj1.set (h:Obj1 B k vals ⟨vars,cells⟩):Obj1 B k (vals.set j v) ⟨vars,cells.set k (.dct 0 (vals.set j v))⟩:=
 ⟨by show (cells.set k _)[k]? =_;rw [List.getElem?_set_self (aM h.cell)],by rw [List.length_set];exact h.len⟩
noncomputable def u12:List PV:=List.replicate 12 .unb
theorem aN9 (h:ends l):ends (l.map aT):=by
 rcases h with h | h
 ·exact .inl (by rw [h];rfl)
 ·right
  rw [List.getLast?_map,h];rfl
noncomputable def cF (vals:List PV) (g:Nat) (z:Z):List PV:=((vals.set 3 (.int 1)).set 4 (.cell g)).set 5 (.int (cT z))
theorem zR {T:List Nat} (h:Obj1 B k vals ⟨vars,cells⟩) (hT:vals[2]? =some (.str T)) (hlv:vals[3]? =some (.int 0))
  (hasc:T.all (· < 128)=true) (hlen:T.length≤60000) (he:ends T) (hR:Run .pl z0 (T.map aT) z) (hgood:z.good≠[]) (hsm:z.good.length<90000)
  (hass:(cT z=0)↔(eJ z=z.lno)):
  aQ 13 (iW B) [.inst B.C k] ⟨vars,cells⟩= .ok .none ⟨vars,(cells.set k (.dct 0 (cF vals cells.length z)))++[.list ((gH z).map fun n:Nat=> .int n)]⟩:=by
 have hkl:k<cells.length:=aM h.cell
 let v0:List PV:= .inst B.C k::u12
 have hv0:cY 13 [.inst B.C k]=v0:=rfl
 let S:=wT (T.map aT)
 have hSl:S.length≤60000:=Nat.le_trans (wS _) (by rw [List.length_map];exact hlen)
 have hRS:Run .pl z0 S z:=wV (aN9 he) hR
 have H0:Obj1 B k vals ⟨v0,cells⟩:=⟨h.cell,h.len⟩
 let c1:=cells.set k (.dct 0 (vals.set 3 (.int 1)))
 have H1:Obj1 B k (vals.set 3 (.int 1)) ⟨v0,c1⟩:=H0.set
 have hc1:c1.length=cells.length:=by simp [c1]
 have s0:aA geP (aX B.C 0 3 (vr 0)) (cI 1) ⟨v0,cells⟩= .ok false ⟨v0,cells⟩:=by
  unfold aA
  rw [aB (cK (x:=vr 0) rfl H0 hlv rfl)]
  rfl
 have s1:aW B.C 0 3 (cI 1) (vr 0) ⟨v0,cells⟩= .ok .next ⟨v0,c1⟩:=cA rfl H0 rfl rfl
 have hT1:(vals.set 3 (.int 1))[2]? =some (.str T):=by rw [List.getElem?_set_ne (by decide)];exact hT
 have s2:aF 1 (aX B.C 0 2 (vr 0)) ⟨v0,c1⟩= .ok .next ⟨v0.set 1 (.str T),c1⟩:=aO (cK (x:=vr 0) rfl H1 hT1 rfl) rfl
 have s3:aF 1 (aH okStr (vr 1) [aI (.glob (.ref B.tab))] (trG B.tab aT)) ⟨v0.set 1 (.str T),c1⟩= .ok .next ⟨v0.set 1 (.str (T.map aT)),c1⟩:=by
  have:aH okStr (vr 1) [aI (.glob (.ref B.tab))] (trG B.tab aT) ⟨v0.set 1 (.str T),c1⟩= .ok (.str (T.map aT)) ⟨v0.set 1 (.str T),c1⟩:=by
   show trG B.tab aT [.str T, .glob (.ref B.tab)] _=_
   exact trG_go hasc (Q113 (.n1 _) hlen)
  rw [aO this rfl];rfl
 have rep:∀(l y zz:List Nat),l.length≤60000→0<y.length→0<zz.length→aF 1 (fL (nH y zz) (vr 1)) ⟨v0.set 1 (.str l),c1⟩= .ok .next ⟨v0.set 1 (.str (dP y zz 0 l)),c1⟩:=by
  intro l y zz hl hy hz
  rw [ok_rep (l:=l) rfl (Q113 (.n1 _) hl) hy hz];rfl
 have l0:(T.map aT).length≤60000:=by rw [List.length_map];exact hlen
 have l1:=Nat.le_trans (sk8 (T.map aT)).len l0
 have l2:=Nat.le_trans (sk4 _).len l1
 have l3:=Nat.le_trans (sk2 _).len l2
 have l4:=Nat.le_trans (sk2 _).len l3
 have s4:=rep _ (lit "xxxxxxxx") (lit "x") l0 (by decide) (by decide)
 have s5:=rep _ (lit "xxxx") (lit "x") l1 (by decide) (by decide)
 have s6:=rep _ (lit "xx") (lit "x") l2 (by decide) (by decide)
 have s7:=rep _ (lit "xx") (lit "x") l3 (by decide) (by decide)
 have s8:aF 1 (fL (nH (lit "\nx") (lit "\n")) (vr 1)) _= .ok .next ⟨v0.set 1 (.str S),c1⟩:=rep _ (lit "\nx") (lit "\n") l4 (by decide) (by decide)
 refine cps fun GC hGC=> ?_
 obtain ⟨g,hg⟩:∃g,g=cells.length:=⟨_,rfl⟩
 have hg1:g=c1.length:=by rw [hc1];exact hg
 let va:List PV:=[.inst B.C k, .str S, .int 0, .int 0, .int 0, .unb, .unb, .unb, .unb, .unb, .unb, .unb, .unb]
 let d2:PCell:= .dct 0 ((vals.set 3 (.int 1)).set 4 (.cell g))
 let c2:List PCell:=c1.set k d2++[PCell.list [.int 0]]
 have s9:aF 2 (cI 0) ⟨v0.set 1 (.str S),c1⟩= .ok .next ⟨[.inst B.C k, .str S, .int 0, .unb, .unb, .unb, .unb, .unb, .unb, .unb, .unb, .unb, .unb],c1⟩:=rfl
 have s10:mX (bF 3) (bF 4) (cI 0) ⟨[.inst B.C k, .str S, .int 0, .unb, .unb, .unb, .unb, .unb, .unb, .unb, .unb, .unb, .unb],c1⟩= .ok .next ⟨va,c1⟩:=rfl
 have s11:mX (fW B.C 0 4 (vr 0)) (bF 5) (jS [cI 0]) ⟨va,c1⟩= .ok .next ⟨va.set 5 (.cell g),c2⟩:=by
  have e1:jS [cI 0] ⟨va,c1⟩= .ok (.cell g) ⟨va,c1++[PCell.list [.int 0]]⟩:=by
   rw [hg1];rfl
  unfold mX
  rw [aB e1]
  have H2:Obj1 B k (vals.set 3 (.int 1)) ⟨va,c1++[PCell.list [.int 0]]⟩:=⟨by
   skip
   rw [List.getElem?_append_left (by rw [hc1];exact hkl)];exact H1.cell,H1.len⟩
  have e2:fW B.C 0 4 (vr 0) (.cell g) ⟨va,c1++[PCell.list [.int 0]]⟩= .ok .next ⟨va,c2⟩:=by
   show lS B.C 0 4 (.inst B.C k) (.cell g) _=_
   rw [kT H2 rfl]
   skip
   rw [List.set_append_left _ _ (by rw [hc1];exact hkl)]
  rw [aB e2]
  rfl
 have hc2:c2.length=g+1:=by simp [c2,hc1,hg]
 have hcg:c2[g]? =some (.list [.int 0]):=by
  skip
  rw [hg1,List.getElem?_append_right (by simp)]
  simp
 have s12:aF 6 (bnd (vr 5) bmG) ⟨va.set 5 (.cell g),c2⟩= .ok .next ⟨(va.set 5 (.cell g)).set 6 (.bm g),c2⟩:=by
  have:bnd (vr 5) bmG ⟨va.set 5 (.cell g),c2⟩= .ok (.bm g) ⟨va.set 5 (.cell g),c2⟩:=by
   show bmG (.cell g) _=_
   unfold bmG bJ
   dsimp only
   rw [hcg]
   rfl
  rw [aO this rfl]
 let e:S1:=⟨B.C,k,g,S,c2⟩
 have hst0:(St.mk [.inst B.C k, .str S, .int 0, .int 0, .int 0, .cell g, .bm g, .int 0, .int S.length, .unb, .unb, .unb, .unb] c2)=st1 e z0 (0:Nat) .unb .unb .unb .unb:=by
  unfold st1
  have:c2.set g (jM z0)=c2:=by
   apply List.ext_getElem?
   intro j
   by_cases hj:j=g
   ·subst hj
    rw [List.getElem?_set_self (by exact Q45 (.n2 _ _) hc2),hcg];rfl
   ·rw [List.getElem?_set_ne (Ne.symm hj)]
  skip
  rw [this];rfl
 have s13:fP 7 8 (cI 0) (cD (vr 1)) ⟨(va.set 5 (.cell g)).set 6 (.bm g),c2⟩= .ok .next (st1 e z0 (0:Nat) .unb .unb .unb .unb):=by
  rw [←hst0]
  have e1:cD (vr 1) ⟨(va.set 5 (.cell g)).set 6 (.bm g),c2⟩= .ok (.int S.length) ⟨(va.set 5 (.cell g)).set 6 (.bm g),c2⟩:=by
   show mK [.str S] _=_
   rw [iO (by unfold aD;exact Q0 (.n1 _) hSl)]
  unfold fP
  rw [aB (x:=cI 0) (a:= .int 0) (σ:=⟨(va.set 5 (.cell g)).set 6 (.bm g),c2⟩) (σ':=⟨(va.set 5 (.cell g)).set 6 (.bm g),c2⟩) rfl,aB e1]
  rfl
 obtain ⟨i',ch1,qu1,fl1,w1,s14⟩:=dK (e:=e) (z':=z) cR z0 0 .unb .unb .unb .unb ⟨by exact Q45 (.n2 _ _) hc2,by exact lin2 (.t (.a .k1 .v1) (.k 90000)) (.l .v0 (.k 60000)) (.b 1 .v0 .k0) (.d 2 (.w [0,1,1,1]) (.w [0,1,1])) rfl (.n2 _ _) hSl rfl,by unfold aD;exact Q0 (.n1 _) hSl,Nat.zero_le _⟩
  (by unfold cR;exact lin2 (.t (.m 2 .v1) (.k 1000000)) (.l .v0 (.k 60000)) (.b 1 .v0 .k0) (.d 2 (.w [0,2,1,2]) (.w [0,2,1])) rfl (.n2 _ _) hSl rfl) (Q23 (.n1 _)) hRS (lin1 (.t .v0 (.k 90000)) (.l .v0 (.k 60000)) (.w [1,1]) rfl (.n1 _) hSl)
 refine hGC ?_
 let zc:Z:={z with cont:=cT z}
 have s15:aP (cX (aA neP (vr 2) (cI 2)) (cX (aA neP (vr 2) (cI 3)) (aA gtP (vr 3) (cI 0)))) (aF 2 (cI 4)) nop (st1 e z i' ch1 qu1 fl1 w1)= .ok .next (st1 e zc i' ch1 qu1 fl1 w1):=by
  have b1:aA neP (vr 2) (cI 2) (st1 e z i' ch1 qu1 fl1 w1)= .ok (decide (z.cont≠2)) (st1 e z i' ch1 qu1 fl1 w1):=by
   show Res.ok ((z.cont:Int) != 2) _=_
   congr 1
   rw [Bool.eq_iff_iff,bne_iff_ne,decide_eq_true_eq];lia
  have b2:aA neP (vr 2) (cI 3) (st1 e z i' ch1 qu1 fl1 w1)= .ok (decide (z.cont≠3)) (st1 e z i' ch1 qu1 fl1 w1):=by
   show Res.ok ((z.cont:Int) != 3) _=_
   congr 1
   rw [Bool.eq_iff_iff,bne_iff_ne,decide_eq_true_eq];lia
  have b3:aA gtP (vr 3) (cI 0) (st1 e z i' ch1 qu1 fl1 w1)= .ok (decide (0<z.level)) (st1 e z i' ch1 qu1 fl1 w1):=by
   show Res.ok (decide ((0:Int)<(z.level:Int))) _=_
   congr 1
   rw [Bool.eq_iff_iff,decide_eq_true_eq,decide_eq_true_eq];lia
  have b:cX (aA neP (vr 2) (cI 2)) (cX (aA neP (vr 2) (cI 3)) (aA gtP (vr 3) (cI 0))) (st1 e z i' ch1 qu1 fl1 w1)= .ok (decide (z.cont≠2∧z.cont≠3∧0<z.level)) (st1 e z i' ch1 qu1 fl1 w1):=by
   unfold cX
   rw [aB b1]
   by_cases g1:z.cont≠2
   ·rw [decide_eq_true g1,if_pos rfl,aB b2]
    by_cases g2:z.cont≠3
    ·rw [decide_eq_true g2,if_pos rfl,b3]
     congr 1
     rw [Bool.eq_iff_iff,decide_eq_true_eq,decide_eq_true_eq]
     exact ⟨fun h=>⟨g1,g2,h⟩,fun h=>h.2.2⟩
    ·rw [decide_eq_false g2,if_neg (by decide),decide_eq_false (fun h=>g2 h.2.1)];rfl
   ·rw [decide_eq_false g1,if_neg (by decide),decide_eq_false (fun h=>g1 h.1)];rfl
  rw [dQ b]
  by_cases hh:z.cont≠2∧z.cont≠3∧0<z.level
  ·rw [decide_eq_true hh,if_pos rfl]
   have:zc={z with cont:=4}:=by show ({z with cont:=cT z}:Z)=_;unfold cT;rw [if_pos hh]
   rw [this];rfl
  ·rw [decide_eq_false hh,if_neg (by decide)]
   have:zc=z:=by show ({z with cont:=cT z}:Z)=_;unfold cT;rw [if_neg hh]
   rw [this];rfl
 have hkg:k≠g:=by exact Q114 (.n3 _ _ _) hkl hg
 have Hc:Obj1 B k ((vals.set 3 (.int 1)).set 4 (.cell g)) (st1 e zc i' ch1 qu1 fl1 w1):=⟨by
  show (c2.set g (jM zc))[k]? =_
  rw [List.getElem?_set_ne (Ne.symm hkg)]
  skip
  rw [List.getElem?_append_left (by simp;exact Q46 (.n3 _ _ _) hkl hc1),List.getElem?_set_self (by exact Q46 (.n3 _ _ _) hkl hc1)],by simp [h.len]⟩
 let e2:S1:=⟨B.C,k,g,S,c2.set k (.dct 0 (cF vals g z))⟩
 have hst2:∀(zz:Z),(c2.set g (jM zz)).set k (.dct 0 (cF vals g z))=(c2.set k (.dct 0 (cF vals g z))).set g (jM zz):=fun zz=>List.set_comm _ _ (Ne.symm hkg)
 have s16:aW B.C 0 5 (vr 2) (vr 0) (st1 e zc i' ch1 qu1 fl1 w1)= .ok .next (st1 e2 zc i' ch1 qu1 fl1 w1):=by
  rw [cA (j:=5) (fe:=vr 2) (v:= .int (cT z)) rfl Hc rfl rfl]
  show Res.ok Fl.next (St.mk _ ((c2.set g (jM zc)).set k (.dct 0 (cF vals g z))))=_
  rw [hst2];rfl
 have hg2:e2.g<e2.cells.length:=by rw [List.length_set];exact Q45 (.n2 _ _) hc2
 have hcl:bJ g (st1 e2 zc i' ch1 qu1 fl1 w1)=some (z.good.map fun n:Nat=> .int n):=by
  show (match ((c2.set k (.dct 0 (cF vals g z))).set g (jM zc))[g]? with | some (.list xs)=>some xs | _=>none)=_
  rw [List.getElem?_set_self hg2];rfl
 have hlast:itm (vr 5) fR (st1 e2 zc i' ch1 qu1 fl1 w1)= .ok (.int (eJ z)) (st1 e2 zc i' ch1 qu1 fl1 w1):=by
  show bG (.cell g) (.int (-1)) _=_
  unfold bG
  dsimp only
  rw [hcl]
  dsimp only
  have hn:0<z.good.length:=List.length_pos_iff.mpr hgood
  have e3:seqIndex? (-1) (z.good.map fun n:Nat=>PV.int n).length=some (z.good.length-1):=by
   rw [List.length_map]
   unfold seqIndex?
   simp
   exact ⟨⟨Q115 (.n1 _) hn,Q116 (.n1 _)⟩,Q117 (.n3 _ _ _) rfl rfl⟩
  rw [e3]
  dsimp only
  congr 1
  unfold eJ
  rw [List.getD_eq_getElem?_getD,List.getElem?_map,List.getLastD_eq_getLast?,List.getLast?_eq_getElem?]
  have e4:z.good[z.good.length-1]? =some z.good[z.good.length-1]:=List.getElem?_eq_getElem (by exact lin2 (.t .v1 .v0) (.t .k0 .v0) (.b 1 .v0 .k1) (.d 2 (.w [0,1,1]) (.w [0,1,1,1])) rfl (.n2 _ _) hn rfl)
  rw [e4];rfl
 have s17:bD (eqM (ofB (eqM (vr 2) (cI 0))) (ofB (eqM (itm (vr 5) fR) (vr 4)))) (st1 e2 zc i' ch1 qu1 fl1 w1)= .ok .next (st1 e2 zc i' ch1 qu1 fl1 w1):=by
  refine asT ?_
  have e5:eqM (itm (vr 5) fR) (vr 4) (st1 e2 zc i' ch1 qu1 fl1 w1)= .ok ((eJ z:Int)==(z.lno:Int)) (st1 e2 zc i' ch1 qu1 fl1 w1):=by
   show bnd _ _ _=_
   rw [aB hlast];rfl
  have e6:ofB (eqM (itm (vr 5) fR) (vr 4)) (st1 e2 zc i' ch1 qu1 fl1 w1)= .ok (.bool ((eJ z:Int)==(z.lno:Int))) (st1 e2 zc i' ch1 qu1 fl1 w1):=by
   unfold ofB;rw [aB e5];rfl
  have e7:ofB (eqM (vr 2) (cI 0)) (st1 e2 zc i' ch1 qu1 fl1 w1)= .ok (.bool ((cT z:Int)==0)) (st1 e2 zc i' ch1 qu1 fl1 w1):=rfl
  show bnd _ _ _=_
  rw [aB e7,aB e6]
  show Res.ok (((cT z:Int)==0)==((eJ z:Int)==(z.lno:Int))) _=_
  congr 1
  rw [beq_iff_eq,Bool.eq_iff_iff,beq_iff_eq,beq_iff_eq]
  constructor
  ·intro h';have:=hass.mp (lin1 (.q .v0 .k0) (.Q (.c .v0) .k0) (.b (.w [1, -1]) (.w [1,1])) rfl (.n1 _) h');exact lin1 (.Q (.c .v0) (.c .v1)) (.q .v0 .v1) (.b (.w [1, -1]) (.w [1,1])) rfl (.n2 _ _) this
  ·intro h';have:=hass.mpr (lin1 (.q .v0 .v1) (.Q (.c .v0) (.c .v1)) (.b (.w [1, -1]) (.w [1,1])) rfl (.n2 _ _) h');exact lin1 (.Q (.c .v0) .k0) (.q .v0 .k0) (.b (.w [1, -1]) (.w [1,1])) rfl (.n1 _) this
 have s18:aP (aA neP (itm (vr 5) fR) (vr 4)) (cC (fK (vr 6) (vr 4))) nop (st1 e2 zc i' ch1 qu1 fl1 w1)= .ok .next (st1 e2 {zc with good:=gH z} i' ch1 qu1 fl1 w1):=by
  have b:aA neP (itm (vr 5) fR) (vr 4) (st1 e2 zc i' ch1 qu1 fl1 w1)= .ok (decide (eJ z≠z.lno)) (st1 e2 zc i' ch1 qu1 fl1 w1):=by
   show bnd _ _ _=_
   rw [aB hlast]
   show Res.ok ((eJ z:Int) != (z.lno:Int)) _=_
   congr 1
   rw [Bool.eq_iff_iff,bne_iff_ne,decide_eq_true_eq];lia
  rw [dQ b]
  by_cases hh:eJ z≠z.lno
  ·rw [decide_eq_true hh,if_pos rfl,uF (e:=e2) (z:=zc) ⟨hg2,by exact lin1 (.t .v0 (.k 100000)) (.t .v0 (.k 90000)) (.w [1,1]) rfl (.n1 _) hsm⟩]
   unfold gH;rw [if_pos hh]
  ·rw [decide_eq_false hh,if_neg (by decide)]
   unfold gH;rw [if_neg hh];rfl
 have hfin:((c2.set k (.dct 0 (cF vals g z))).set g (jM {zc with good:=gH z}))=(cells.set k (.dct 0 (cF vals cells.length z)))++[PCell.list ((gH z).map fun n:Nat=> .int n)]:=by
  skip
  rw [List.set_append_left _ _ (by simp;exact Q46 (.n3 _ _ _) hkl hc1),List.set_set,List.set_append_right _ _ (by simp;exact lin2 (.l .v0 .v1) (.q .v0 .v2) (.q .v1 .v2) (.w [1,1, -1]) rfl (.n3 _ _ _) hc1 hg)]
  have e8:c1.set k (.dct 0 (cF vals g z))=cells.set k (.dct 0 (cF vals cells.length z)):=by
   skip
   rw [List.set_set,hg]
  rw [e8]
  congr 1
  have:g-(cells.set k (.dct 0 (cF vals cells.length z))).length=0:=by simp;exact lin2 (.q .v2 .k0) (.q .v0 .v1) (.b 2 .v0 .v1) (.b (.w [1]) (.d 2 (.w [0,1,1,1]) (.w [0,1,1]))) rfl (.n3 _ _ _) hg rfl
  rw [this];rfl
 have run:iW B ⟨v0,cells⟩= .ok .next (st1 e2 {zc with good:=gH z} i' ch1 qu1 fl1 w1):=by
  unfold iW
  dsimp only [blk]
  rw [bU s0,aC s1,aC s2,aC s3,aC s4,aC s5,aC s6,aC s7,aC s8,aC (x:=aF 2 (cI 0)) s9,aC s10,aC s11,aC s12,aC s13,aC s14,aC s15,aC s16,aC s17]
  exact s18
 unfold aQ
 rw [hv0,run]
 show Res.ok PV.none (St.mk vars ((c2.set k (.dct 0 (cF vals g z))).set g (jM {zc with good:=gH z})))=_
 rw [hfin]
end
section
variable {fx:PM PV}{x:PV}
inductive W2:List Nat→Prop where
 | nil:W2 []
 | ord {c:Nat}{r:List Nat}:RX.cL c=true→W2 r→W2 (c::r)
 | br {c:Nat}{r:List Nat}:(c=40∨c=91∨c=123∨c=41∨c=93∨c=125)→W2 r→W2 (c::r)
 | str {q:Nat}{r:List Nat}:(q=34∨q=39)→W2 ((q::r).drop (RX.eK q (q::r)))→W2 (q::r)
 | cm {a b:List Nat}:(∀x∈a,x≠10)→W2 b→W2 (35::(a++10::b))
 | bs {d:Nat}{r:List Nat}:W2 r→W2 (92::d::r)
set_option tactic.hygienic true in
theorem W2.drop {r:List Nat} (h:W2 r):W2 (r.dropWhile RX.cL):=by
 induction h with
 | nil=>exact .nil
 | ord hc _ ih=>rw [List.dropWhile_cons,hc];exact ih
 | br hc h ih=>
  rename_i c r
  have:RX.cL c=false:=by rcases hc with rfl | rfl | rfl | rfl | rfl | rfl <;> rfl
  rw [List.dropWhile_cons,this];exact .br hc h
 | str hq h ih=>
  rename_i q r
  have:RX.cL q=false:=by rcases hq with rfl | rfl <;> rfl
  rw [List.dropWhile_cons,this];exact .str hq h
 | cm ha hb _=>rw [List.dropWhile_cons,show RX.cL 35=false from rfl];exact .cm ha hb
 | bs h _=>rw [List.dropWhile_cons,show RX.cL 92=false from rfl];exact .bs h
structure S2 where
 C:Addr
 k:Nat
 g:Nat
 T:List Nat
 q:Nat
 a:Nat
 b:Nat
 cells:List PCell
noncomputable def bC0 (e:S2) (i:Int) (p:Nat) (no la m np ch:PV):List PV:=
 [.inst e.C e.k, .str e.T, .cell e.g, .int i, .int p, .int e.q,no,la, .cell e.a, .bm e.a, .cell e.b,m,np,ch]
noncomputable def st2 (e:S2) (i:Int) (p:Nat) (no la m np ch:PV) (sk:List PV) (bs:List PV):St:=⟨bC0 e i p no la m np ch,(e.cells.set e.a (.list sk)).set e.b (.list bs)⟩
structure OkS (e:S2):Prop where
 ha:e.a<e.cells.length
 hb:e.b<e.cells.length
 hab:e.a≠e.b
 hq:e.q≤e.T.length
 hT:e.T.length≤60000
structure Ok2 (e:S2) (p:Nat) (sk bs:List PV):Prop extends OkS e where
 hp:p≤e.q
 hs:sk.length+(e.q-p)≤100000
 hbs:bs.length+2*(e.q-p)≤200000
 hu:∀x∈sk,aN x=false
variable {e:S2}{i:Int}{p:Nat}{no la m np ch:PV}{sk bs:List PV}
theorem tL (h:OkS e):bJ e.a (st2 e i p no la m np ch sk bs)=some sk:=by
 show (match ((e.cells.set e.a (.list sk)).set e.b (.list bs))[e.a]? with | some (.list xs)=>some xs | _=>none)=_
 rw [List.getElem?_set_ne (Ne.symm h.hab),List.getElem?_set_self h.ha]
theorem aO8 (h:OkS e):bJ e.b (st2 e i p no la m np ch sk bs)=some bs:=by
 show (match ((e.cells.set e.a (.list sk)).set e.b (.list bs))[e.b]? with | some (.list xs)=>some xs | _=>none)=_
 rw [List.getElem?_set_self (by rw [List.length_set];exact h.hb)]
theorem bC5 (x:List PV):((e.cells.set e.a (.list sk)).set e.b (.list bs)).set e.a (.list x)=if e.a=e.b then ((e.cells.set e.a (.list sk)).set e.b (.list bs)).set e.a (.list x) else (e.cells.set e.a (.list x)).set e.b (.list bs):=by
 split
 ·rfl
 ·rename_i h
  rw [List.set_comm _ _ (Ne.symm h),List.set_set]
theorem push_a (h:OkS e) (hlen:sk.length<300000) (hx:fx (st2 e i p no la m np ch sk bs)= .ok x (st2 e i p no la m np ch sk bs)) (hu:aN x=false):
  cC (fK (vr 9) fx) (st2 e i p no la m np ch sk bs)= .ok .next (st2 e i p no la m np ch (sk++[x]) bs):=by
 have h1:fK (vr 9) fx (st2 e i p no la m np ch sk bs)= .ok .none (st2 e i p no la m np ch (sk++[x]) bs):=by
  unfold fK
  rw [aB (x:=vr 9) (a:= .bm e.a) rfl,aB hx]
  dsimp only
  unfold qA
  rw [tL h]
  dsimp only
  rw [if_pos (by unfold aD;exact Q118 (.n1 _) hlen),hu]
  show Res.ok PV.none (St.mk _ (((e.cells.set e.a (.list sk)).set e.b (.list bs)).set e.a (.list (sk++[x]))))=_
  rw [bC5,if_neg h.hab]
  rfl
 unfold cC
 rw [aB h1]
theorem mF (h:OkS e) (hlen:bs.length<300000) (hx:fx (st2 e i p no la m np ch sk bs)= .ok x (st2 e i p no la m np ch sk bs)) (hu:aN x=false):
  gY fx (st2 e i p no la m np ch sk bs)= .ok .next (st2 e i p no la m np ch sk (bs++[x])):=by
 have h1:aH okList (vr 10) [fx] jH (st2 e i p no la m np ch sk bs)= .ok .none (st2 e i p no la m np ch sk (bs++[x])):=by
  unfold aH
  rw [aB (x:=vr 10) (a:= .cell e.b) rfl]
  have:okList (.cell e.b) (st2 e i p no la m np ch sk bs)=true:=by
   show (bJ e.b (st2 e i p no la m np ch sk bs)).isSome=true
   rw [aO8 h];rfl
  rw [if_pos this]
  have ev:evL [fx] (st2 e i p no la m np ch sk bs)= .ok [x] (st2 e i p no la m np ch sk bs):=by
   unfold evL;rw [aB hx];rfl
  rw [aB ev]
  show qA e.b x _=_
  unfold qA
  rw [aO8 h]
  dsimp only
  rw [if_pos (by unfold aD;exact Q118 (.n1 _) hlen),hu]
  show Res.ok PV.none (St.mk _ (((e.cells.set e.a (.list sk)).set e.b (.list bs)).set e.b (.list (bs++[x]))))=_
  rw [List.set_set]
  rfl
 show cC _ _=_
 unfold cC
 rw [aB h1]
theorem qX (h:OkS e):cD (vr 8) (st2 e i p no la m np ch sk bs)= .ok (.int sk.length) (st2 e i p no la m np ch sk bs):=by
 show mK [.cell e.a] _=_
 rw [qY (tL h)]
noncomputable abbrev rest (e:S2) (p:Nat):List Nat:=(e.T.drop p).take (e.q-p)
theorem gC (h:Ok2 e p sk bs):(rest e p).length=e.q-p:=by
 rw [List.length_take,List.length_drop];have:=h.hq;exact lin4 (.q .v5 .v3) (.l .v0 .v2) (.b 3 .v0 .v1) (.M 5 .v3 .v4) (.b 4 .v2 .v1) (.b (.d 2 (.d 5 (.w [0, -1,0,0,1]) (.d 8 (.w [0, -1,0, -1,0,1,1,1]) (.w [1, -1,0, -1,0,1,1,1]))) (.w [0,1,1])) (.d 3 (.w [0,1,1]) (.w [1,1,1]))) rfl (.n6 _ _ _ _ _ _) this rfl rfl rfl
theorem iH {j:Nat} (h:Ok2 e p sk bs) {c:Nat} (hj:(rest e p)[j]? =some c):e.T[p+j]? =some c∧p+j<e.q:=by
 have hl:=aM hj
 rw [gC h] at hl
 unfold rest at hj
 rw [List.getElem?_take_of_lt hl,List.getElem?_drop] at hj
 exact ⟨hj,by exact lin2 (.t (.a .v0 .v1) .v2) (.t .v1 .v3) (.b 3 .v2 .v0) (.d 2 (.w [0,1,1,1]) (.w [0,1,0,1])) rfl (.n4 _ _ _ _) hl rfl⟩
theorem gD (n:Nat):(rest e p).drop n=rest e (p+n):=by
 unfold rest
 rw [List.drop_take,List.drop_drop,Nat.sub_sub]
noncomputable def matV (p:Nat):Option Nat→PV
 | some n=> .mat ((p:Int)+n)
 | none=> .none
theorem mat_ok {sc:List Nat→Option (Option Nat)} (h:Ok2 e p sk bs) {r:Option Nat} (hs:sc (rest e p)=some r):
  hY sc [vr 1,vr 4,vr 5] (st2 e i p no la m np ch sk bs)= .ok (matV p r) (st2 e i p no la m np ch sk bs):=by
 show dR sc e.T (p:Int) (e.q:Int) _=_
 unfold dR
 have:=h.hp;have:=h.hq;have:=h.hT
 rw [if_pos ⟨by exact Q9 (.n1 _),by exact Q10 (.n2 _ _) (by assumption),by exact Q10 (.n2 _ _) (by assumption),by exact Q25 (.n1 _) this⟩]
 rw [Int.toNat_natCast,show ((e.q:Int)-(p:Int)).toNat=e.q-p by exact Q13 (.n4 _ _ _ _) rfl rfl,hs]
 induction r <;> rfl
theorem pZ (h:Ok2 e p sk bs):∀(N j:Nat),j≤e.T.length→j<p+N→p≤j→
  ∃i':Int,aV N (cX (aA geP (vr 3) (vr 4)) (aA inP (itm (vr 1) (vr 3)) (cS " \t\n"))) (aF 3 (aA bH (vr 3) (cI 1))) nop (st2 e ((j:Int)-1) p no la m np ch sk bs)= .ok .next (st2 e i' p no la m np ch sk bs)∧i'<e.T.length∧(p:Int)-1≤i'
 | 0,j,_,h1,h2=>absurd h1 (lin1 (.n (.t .v0 (.a .v1 .k0))) (.l .v1 .v0) (.w [1,1]) rfl (.n2 _ _) h2)
 | N+1,j,hj,h1,h2=>by
  have hge:∀(x:Int),aA geP (vr 3) (vr 4) (st2 e x p no la m np ch sk bs)= .ok (decide ((p:Int)≤x)) (st2 e x p no la m np ch sk bs):=fun z_=>rfl
  by_cases hlt:p<j
  ·have hc:e.T[j-1]? =some e.T[j-1]:=List.getElem?_eq_getElem (by exact lin3 (.t .v3 .v1) (.l .v0 .v1) (.t .v2 .v0) (.b 3 .v0 .k1) (.d 3 (.w [0,1,1,1]) (.w [0,1,1,1,1])) rfl (.n4 _ _ _ _) hj hlt rfl)
   have hT:=h.hT
   have hin:aA inP (itm (vr 1) (vr 3)) (cS " \t\n") (st2 e ((j:Int)-1) p no la m np ch sk bs)= .ok ((lit " \t\n").contains e.T[j-1]) (st2 e ((j:Int)-1) p no la m np ch sk bs):=by
    have e1:((j:Int)-1)=((j-1:Nat):Int):=by exact Q47 (.n3 _ _ _) hlt rfl
    rw [e1]
    unfold aA
    rw [aB (cV (x:=vr 1) (j:=vr 3) (S:=e.T) (i:=j-1) rfl rfl hc (by unfold aD;exact Q0 (.n1 _) hT))]
    rfl
   have hcond:cX (aA geP (vr 3) (vr 4)) (aA inP (itm (vr 1) (vr 3)) (cS " \t\n")) (st2 e ((j:Int)-1) p no la m np ch sk bs)= .ok ((lit " \t\n").contains e.T[j-1]) (st2 e ((j:Int)-1) p no la m np ch sk bs):=by
    unfold cX
    rw [aB (hge _),decide_eq_true (by exact lin1 (.L (.c .v0) (.s (.c .v1) .k1)) (.t .v0 .v1) (.w [1,1]) rfl (.n2 _ _) hlt),if_pos rfl]
    exact hin
   by_cases hw:(lit " \t\n").contains e.T[j-1]=true
   ·rw [hw] at hcond
    have hb:aF 3 (aA bH (vr 3) (cI 1)) (st2 e ((j:Int)-1) p no la m np ch sk bs)= .ok .next (st2 e (((j-1:Nat):Int)-1) p no la m np ch sk bs):=by
     have e1:((j:Int)-1)=((j-1:Nat):Int):=by exact Q47 (.n3 _ _ _) hlt rfl
     rw [e1];rfl
    rw [gO hcond (.inr hb)]
    exact pZ h N (j-1) (lin2 (.l .v2 .v1) (.l .v0 .v1) (.b 2 .v0 .k1) (.d 2 (.w [0,1,1,1]) (.w [0,1,1,1])) rfl (.n3 _ _ _) hj rfl) (lin3 (.t .v3 (.a .v1 .v2)) (.t .v0 (.a .v1 (.a .v2 .k1))) (.t .v1 .v0) (.b 3 .v0 .k1) (.d 3 (.w [0,1,1,1]) (.w [0,1,1,1,1])) rfl (.n4 _ _ _ _) h1 hlt rfl) (lin2 (.l .v0 .v2) (.t .v0 .v1) (.b 2 .v1 .k1) (.d 2 (.w [0, -1,1,1]) (.w [1, -1,1,1])) rfl (.n3 _ _ _) hlt rfl)
   ·rw [show (lit " \t\n").contains e.T[j-1]=false by simpa using hw] at hcond
    exact ⟨(j:Int)-1,by rw [tV hcond];rfl,by exact Q119 (.n2 _ _) hj,by exact lin1 (.L (.s (.c .v0) .k1) (.s (.c .v1) .k1)) (.t .v0 .v1) (.w [1,1]) rfl (.n2 _ _) hlt⟩
  ·have hcond:cX (aA geP (vr 3) (vr 4)) (aA inP (itm (vr 1) (vr 3)) (cS " \t\n")) (st2 e ((j:Int)-1) p no la m np ch sk bs)= .ok false (st2 e ((j:Int)-1) p no la m np ch sk bs):=by
    unfold cX
    rw [aB (hge _),decide_eq_false (by exact lin1 (.n (.L (.c .v0) (.s (.c .v1) .k1))) (.n (.t .v0 .v1)) (.w [1,1]) rfl (.n2 _ _) hlt),if_neg (by decide)]
    rfl
   exact ⟨(j:Int)-1,by rw [tV hcond];rfl,by exact Q119 (.n2 _ _) hj,by exact lin1 (.L (.s (.c .v0) .k1) (.s (.c .v1) .k1)) (.l .v0 .v1) (.w [1,1]) rfl (.n2 _ _) h2⟩
end
section
variable {c:Nat}{b:Bool}{r:List Nat}
noncomputable def eM:PM Fl:=blk [
 aF 13 (itm (vr 1) (vr 4)),
 aP (aA inP (vr 13) (cS "([{")) (blk [cC (fK (vr 9) (vr 4)),gY (cZ (vr 4) (cD (vr 8))),aF 7 (vr 13),bQ 4 1,aL .cont]) nop,
 aP (aA inP (vr 13) (cS ")]}")) (blk [aP (bnd (vr 8) bO) (aB1 (vr 8) fR) nop,aF 7 (vr 13),bQ 4 1,gY (cZ (vr 4) (cD (vr 8))),aL .cont]) nop,
 aP (orM (eqM (vr 13) (cS "\"")) (eqM (vr 13) (cS "'"))) (blk [gY (cZ (vr 4) (aA bA (cD (vr 8)) (cI 1))),aF 7 (vr 13),aF 4 (aH okMat (hY jJ [vr 1,vr 4,vr 5]) [] nK),gY (cZ (vr 4) (cD (vr 8))),aL .cont]) nop,
 aP (eqM (vr 13) (cS "#")) (blk [gY (cZ (vr 4) (aA bA (cD (vr 8)) (cI 1))),aF 4 (aA bA (aH okStr (vr 1) [cS "\n",vr 4,vr 5] fM) (cI 1)),bD (aA gtP (vr 4) (cI 0)),gY (cZ (vr 4) (cD (vr 8))),aL .cont]) nop,
 bD (eqM (vr 13) (cS "\\")),
 bQ 4 1,
 bD (aA ltP (vr 4) (vr 5)),
 aP (aA neP (itm (vr 1) (vr 4)) (cS "\n")) (aF 7 (aA bA (vr 13) (itm (vr 1) (vr 4)))) nop,
 bQ 4 1]
theorem aF3:uC=jW (aF 11 (hY nC [vr 1,vr 4,vr 5])) (jW (aP (bnd (vr 11) bO) (blk [
  aF 12 (aH okMat (vr 11) [] nK),
  aF 3 (aA bH (vr 12) (cI 1)),
  aV cR (cX (aA geP (vr 3) (vr 4)) (aA inP (itm (vr 1) (vr 3)) (cS " \t\n"))) (aF 3 (aA bH (vr 3) (cI 1))) nop,
  aP (aA geP (vr 3) (vr 4)) (aF 7 (itm (vr 1) (vr 3))) nop,
  aF 4 (vr 12),
  aP (aA geP (vr 4) (vr 5)) (aL .brk) nop]) nop) eM):=rfl
variable {e:S2}{i:Int}{p:Nat}{no la m np ch:PV}{sk bs:List PV}
theorem rd2 (hc:e.T[p]? =some c) (hT:e.T.length≤60000):aF 13 (itm (vr 1) (vr 4)) (st2 e i p no la m np ch sk bs)= .ok .next (st2 e i p no la m np (.str [c]) sk bs):=by
 rw [aO (cV (x:=vr 1) (j:=vr 4) (S:=e.T) (i:=p) rfl rfl hc (by unfold aD;exact Q0 (.n1 _) hT)) rfl];rfl
theorem in2 {s:String} (hb:(lit s).contains c=b):aA inP (vr 13) (cS s) (st2 e i p no la m np (.str [c]) sk bs)= .ok b (st2 e i p no la m np (.str [c]) sk bs):=by subst hb;rfl
theorem eq2 {s:String} (hb:([c]==lit s)=b):eqM (vr 13) (cS s) (st2 e i p no la m np (.str [c]) sk bs)= .ok b (st2 e i p no la m np (.str [c]) sk bs):=by subst hb;rfl
theorem qU {x y:PM PV}{a b:PV}{σ:St} (hx:x σ= .ok a σ) (hy:y σ= .ok b σ):cZ x y σ= .ok (.seq true [a,b]) σ:=by
 have ev:evL [x,y] σ= .ok [a,b] σ:=by
  have e1:evL [y] σ= .ok [b] σ:=by unfold evL;rw [aB hy];rfl
  have e2:evL [x,y]=bnd x fun a=>bnd (evL [y]) fun as=>aL (a::as):=rfl
  rw [e2,aB hx,aB e1];rfl
 show cP true [x,y] σ=_
 unfold cP
 rw [aB ev];rfl
def qD (e:S2) (p:Nat) (r:Res Fl):Prop:=∃f i p' no la m np ch sk bs,(f=Fl.cont∨f=Fl.next)∧r= .ok f (st2 e i p' no la m np ch sk bs)∧p<p'∧Ok2 e p' sk bs∧W2 (rest e p')∧aN la=false
theorem zP (h:Ok2 e p sk bs) (hc:e.T[p]? =some c) (hp:p<e.q) (ho:c=40∨c=91∨c=123) (hw:W2 (rest e (p+1))):qD e p (eM (st2 e i p no la m np ch sk bs)):=by
 have hb:=h.hbs
 have hs:=h.hs
 have h1:cC (fK (vr 9) (vr 4)) (st2 e i p no la m np (.str [c]) sk bs)= .ok .next (st2 e i p no la m np (.str [c]) (sk++[.int p]) bs):=push_a h.toOkS (lin1 (.t .v0 (.k 300000)) (.l (.a .v0 .v1) (.k 100000)) (.w [1,1]) rfl (.n2 _ _) hs) rfl rfl
 have h2:gY (cZ (vr 4) (cD (vr 8))) (st2 e i p no la m np (.str [c]) (sk++[.int p]) bs)= .ok .next (st2 e i p no la m np (.str [c]) (sk++[.int p]) (bs++[.seq true [.int p, .int (sk++[PV.int p]).length]])):=
  mF h.toOkS (Q26 (.n2 _ _) hb) (qU (x:=vr 4) rfl (qX h.toOkS)) rfl
 refine ⟨.cont,i,p+1,no, .str [c],m,np, .str [c],sk++[.int p],bs++[.seq true [.int p, .int (sk++[PV.int p]).length]], .inl rfl, ?_,Nat.lt_succ_self p,⟨h.toOkS,hp,by simp;exact lin4 (.l (.a (.a .v0 .k1) .v3) (.k 100000)) (.t .v2 .v1) (.l (.a .v0 .v4) (.k 100000)) (.b 3 .v1 (.a .v2 .k1)) (.b 4 .v1 .v2) (.d 3 (.d 6 (.w [0, -1,0,1,1,0,1]) (.w [1,0,1])) (.d 6 (.w [0, -1,0,1,1,1,1]) (.w [1,0,0,0,0,1]))) rfl (.n5 _ _ _ _ _) hp hs rfl rfl,by simp;exact Q120 (.n5 _ _ _ _ _) hp hb rfl rfl,fun x hx=>(List.mem_append.mp hx).elim (h.hu x) (fun hx=>by rw [List.mem_singleton.mp hx];rfl)⟩,hw,rfl⟩
 unfold eM
 dsimp only [blk]
 rw [aC (rd2 hc h.hT)]
 refine iF (in2 (by rcases ho with rfl | rfl | rfl <;> rfl)) ?_ (fun h=>nomatch h)
 rw [aC h1,aC h2]
 rfl
theorem wP (h:Ok2 e p sk bs) (hc:e.T[p]? =some c) (hp:p<e.q) (ho:c=41∨c=93∨c=125) (hw:W2 (rest e (p+1))):qD e p (eM (st2 e i p no la m np ch sk bs)):=by
 have hb:=h.hbs
 have hs:=h.hs
 have ht:bnd (vr 8) bO (st2 e i p no la m np (.str [c]) sk bs)= .ok (!sk.isEmpty) (st2 e i p no la m np (.str [c]) sk bs):=by
  show bO (.cell e.a) _=_
  unfold bO
  dsimp only
  rw [tL h.toOkS]
 have hx:∃sk',(∀x∈sk',x∈sk)∧sk'.length≤sk.length∧aP (bnd (vr 8) bO) (aB1 (vr 8) fR) nop (st2 e i p no la m np (.str [c]) sk bs)= .ok .next (st2 e i p no la m np (.str [c]) sk' bs):=by
  rw [dQ ht]
  induction sk with
  | nil=>exact ⟨[],fun z_ h=>h,Nat.le_refl _,rfl⟩
  | cons x r=>
   refine ⟨(x::r).eraseIdx r.length,fun z_ hx=>(List.eraseIdx_sublist _ _).subset hx,by rw [List.length_eraseIdx_of_lt (by simp)];simp, ?_⟩
   show aB1 (vr 8) fR _=_
   unfold aB1
   rw [aB (x:=vr 8) (a:= .cell e.a) rfl,aB (x:=fR) (a:= .int (-1)) rfl]
   dsimp only
   rw [tL h.toOkS]
   have e3:seqIndex? (-1) (x::r).length=some r.length:=by
    unfold seqIndex?
    simp
    exact ⟨⟨Q121 (.n1 _),Q122 (.n1 _)⟩,Q123 (.n2 _ _) rfl⟩
   dsimp only
   rw [e3]
   dsimp only
   rw [if_pos (by exact ⟨lin0 (.L (.g (.k 1000000)) (.g .k1)) (.w [1]) rfl .o,lin0 (.L (.g .k1) (.k 1000000)) (.w [1]) rfl .o⟩)]
   show Res.ok Fl.next (St.mk _ (((e.cells.set e.a (.list (x::r))).set e.b (.list bs)).set e.a (.list ((x::r).eraseIdx r.length))))=_
   rw [bC5,if_neg h.hab]
   rfl
 obtain ⟨sk',hsub,hsk,hx⟩:=hx
 have h2:gY (cZ (vr 4) (cD (vr 8))) (st2 e i (p+1) no (.str [c]) m np (.str [c]) sk' bs)= .ok .next (st2 e i (p+1) no (.str [c]) m np (.str [c]) sk' (bs++[.seq true [.int (p+1:Nat), .int sk'.length]])):=
  mF h.toOkS (Q26 (.n2 _ _) hb) (qU (x:=vr 4) rfl (qX h.toOkS)) rfl
 refine ⟨.cont,i,p+1,no, .str [c],m,np, .str [c],sk',bs++[.seq true [.int (p+1:Nat), .int sk'.length]], .inl rfl, ?_,Nat.lt_succ_self p,⟨h.toOkS,hp,by exact lin4 (.l (.a .v0 .v4) (.k 100000)) (.l (.a .v3 .v5) (.k 100000)) (.l .v0 .v3) (.b 4 .v1 (.a .v2 .k1)) (.b 5 .v1 .v2) (.d 3 (.d 6 (.w [0, -1,0,1,1,1,1]) (.w [1,0,1])) (.w [0,1,1,1,1])) rfl (.n6 _ _ _ _ _ _) hs hsk rfl rfl,by simp;exact Q120 (.n5 _ _ _ _ _) hp hb rfl rfl,fun x hx=>h.hu x (hsub x hx)⟩,hw,rfl⟩
 unfold eM
 dsimp only [blk]
 rw [aC (rd2 hc h.hT),bU (in2 (by rcases ho with rfl | rfl | rfl <;> rfl))]
 refine iF (in2 (by rcases ho with rfl | rfl | rfl <;> rfl)) ?_ (fun h=>nomatch h)
 have hl:aF 7 (vr 13) (st2 e i p no la m np (.str [c]) sk' bs)= .ok .next (st2 e i p no (.str [c]) m np (.str [c]) sk' bs):=rfl
 have hi:bQ 4 1 (st2 e i p no (.str [c]) m np (.str [c]) sk' bs)= .ok .next (st2 e i (p+1) no (.str [c]) m np (.str [c]) sk' bs):=rfl
 rw [aC hx,aC hl,aC hi,aC h2]
 rfl
theorem or2 (hb:(decide (c=34)||decide (c=39))=b):orM (eqM (vr 13) (cS "\"")) (eqM (vr 13) (cS "'")) (st2 e i p no la m np (.str [c]) sk bs)= .ok b (st2 e i p no la m np (.str [c]) sk bs):=by
 have e1:([c]==lit "\"")=decide (c=34):=by rw [Bool.eq_iff_iff,beq_iff_eq,decide_eq_true_eq];simp [lit]
 have e2:([c]==lit "'")=decide (c=39):=by rw [Bool.eq_iff_iff,beq_iff_eq,decide_eq_true_eq];simp [lit]
 unfold orM
 rw [aB (eq2 e1)]
 subst hb
 by_cases h:c=34
 ·rw [decide_eq_true h];rfl
 ·rw [decide_eq_false h,if_neg (by decide),eq2 e2];rfl
theorem oS (q:Nat):∀(n:Nat) (l:List Nat),l.length≤n→RX.cB q l≤l.length
 | _,[],_=>Nat.le_refl _
 | 0,_::_,h=>by simp at h
 | n+1,c::r,h=>by
  rw [RX.iX]
  split
  ·induction r with
   | nil=>simp
   | cons d r=>simp at h;have:=oS q n r (Q3 (.n2 _ _) h);simp only [List.length_cons];exact Q124 (.n2 _ _) this
  split
  ·simp
  split
  ·simp
  ·have:=oS q n r (by simpa using h);simp only [List.length_cons];exact Q125 (.n2 _ _) this
theorem oR (q:Nat):∀(n:Nat) (l:List Nat),l.length≤n→RX.bN q l≤l.length
 | _,[],_=>Nat.le_refl _
 | 0,_::_,h=>by simp at h
 | n+1,c::r,h=>by
  rw [RX.kN]
  split
  ·induction r with
   | nil=>simp
   | cons d r=>simp at h;have:=oR q n r (Q3 (.n2 _ _) h);simp only [List.length_cons];exact Q124 (.n2 _ _) this
  split
  ·rename_i h3
   have:=congrArg List.length h3.2
   rw [List.length_take] at this
   simp at this
   simp only [List.length_cons];exact lin2 (.l (.k 3) (.a .v0 .k1)) (.q .v1 (.k 2)) (.M 1 (.k 2) .v0) (.d 2 (.w [1,0,1]) (.w [0,1,1, -1])) rfl (.n2 _ _) this rfl
  ·have:=oR q n r (by simpa using h);simp only [List.length_cons];exact Q125 (.n2 _ _) this
theorem yG {q:Nat}{l:List Nat} (h:l≠[]):RX.eK q l≤l.length∧0<RX.eK q l:=by
 unfold RX.eK
 split
 ·rename_i h3
  have:=congrArg List.length h3
  rw [List.length_take] at this
  simp at this
  have:=oR q _ (l.drop 3) (Nat.le_refl _)
  rw [List.length_drop] at this
  lia
 ·have:=oS q _ (l.drop 1) (Nat.le_refl _)
  rw [List.length_drop] at this
  have:0<l.length:=List.length_pos_iff.mpr h
  exact ⟨(by lia),lin0 (.t .k0 (.a .k1 .v0)) (.w [1]) rfl (.n1 _)⟩
theorem aE0 (h:Ok2 e p sk bs) (hc:e.T[p]? =some c) (hp:p<e.q) (hq:c=34∨c=39) (hr:rest e p=c::r) (hw:W2 ((c::r).drop (RX.eK c (c::r)))):
  qD e p (eM (st2 e i p no la m np ch sk bs)):=by
 have hb:=h.hbs
 have hs:=h.hs
 have hn:=yG (q:=c) (l:=c::r) (by simp)
 have hl:=gC h
 rw [hr] at hl
 obtain ⟨n,hnn⟩:∃n,n=RX.eK c (c::r):=⟨_,rfl⟩
 rw [←hnn] at hn hw
 have h1:gY (cZ (vr 4) (aA bA (cD (vr 8)) (cI 1))) (st2 e i p no la m np (.str [c]) sk bs)= .ok .next (st2 e i p no la m np (.str [c]) sk (bs++[.seq true [.int p, .int ((sk.length:Int)+1)]])):=by
  refine mF h.toOkS (Q26 (.n2 _ _) hb) (qU (x:=vr 4) rfl ?_) rfl
  unfold aA;rw [aB (qX h.toOkS)];rfl
 obtain ⟨bs1,hb1⟩:∃bs1,bs1=bs++[PV.seq true [.int p, .int ((sk.length:Int)+1)]]:=⟨_,rfl⟩
 rw [←hb1] at h1
 have hbl:bs1.length=bs.length+1:=by rw [hb1];simp
 have H1:Ok2 e p sk bs1∨True:= .inr trivial
 have hm:hY jJ [vr 1,vr 4,vr 5] (st2 e i p no (.str [c]) m np (.str [c]) sk bs1)= .ok (.mat ((p:Int)+n)) (st2 e i p no (.str [c]) m np (.str [c]) sk bs1):=by
  show dR jJ e.T (p:Int) (e.q:Int) _=_
  unfold dR
  have:=h.hp;have:=h.hq;have:=h.hT
  rw [if_pos ⟨by exact Q9 (.n1 _),by exact Q126 (.n2 _ _) hp,by exact Q10 (.n2 _ _) (by assumption),by exact Q25 (.n1 _) this⟩]
  have hsc:jJ (rest e p)=some (some n):=by
   rw [hr]
   unfold jJ
   dsimp only [List.head?_cons]
   rw [if_pos hq,hnn]
  rw [Int.toNat_natCast,show ((e.q:Int)-(p:Int)).toNat=e.q-p by exact Q127 (.n4 _ _ _ _) hp rfl rfl,hsc]
  rfl
 have h3:aF 4 (aH okMat (hY jJ [vr 1,vr 4,vr 5]) [] nK) (st2 e i p no (.str [c]) m np (.str [c]) sk bs1)= .ok .next (st2 e i (p+n) no (.str [c]) m np (.str [c]) sk bs1):=by
  have:aH okMat (hY jJ [vr 1,vr 4,vr 5]) [] nK (st2 e i p no (.str [c]) m np (.str [c]) sk bs1)= .ok (.int ((p:Int)+n)) (st2 e i p no (.str [c]) m np (.str [c]) sk bs1):=by
   unfold aH
   rw [aB hm];rfl
  rw [aO this rfl];rfl
 have h4:gY (cZ (vr 4) (cD (vr 8))) (st2 e i (p+n) no (.str [c]) m np (.str [c]) sk bs1)= .ok .next (st2 e i (p+n) no (.str [c]) m np (.str [c]) sk (bs1++[.seq true [.int (p+n:Nat), .int sk.length]])):=
  mF h.toOkS (Q128 (.n3 _ _ _) hb hbl) (qU (x:=vr 4) rfl (qX h.toOkS)) rfl
 refine ⟨.cont,i,p+n,no, .str [c],m,np, .str [c],sk,bs1++[.seq true [.int (p+n:Nat), .int sk.length]], .inl rfl, ?_,by exact lin1 (.t .v0 (.a .v0 .v1)) (.t .k0 .v1) (.w [1,1]) rfl (.n2 _ _) hn.2,⟨h.toOkS,by exact lin4 (.l (.a .v0 .v1) .v2) (.q .v3 .v4) (.l .v1 .v3) (.t .k0 .v1) (.b 4 .v2 .v0) (.d 4 (.w [0,1,1,1,1]) (.w [0,1,0,1,1,1])) rfl (.n5 _ _ _ _ _) hl hn.1 hn.2 rfl,by exact lin6 (.l (.a .v0 .v5) (.k 100000)) (.l (.a .v0 .v6) (.k 100000)) (.q .v4 .v6) (.l .v3 .v4) (.t .k0 .v3) (.b 5 .v1 (.a .v2 .v3)) (.b 6 .v1 .v2) (.d 5 (.d 8 (.w [0, -1,0,1,1,1,0,0,1]) (.w [1,0,1,0,0,0,0,0,1])) (.w [0,1,1,1,1,1,1])) rfl (.n7 _ _ _ _ _ _ _) hs hl hn.1 hn.2 rfl rfl,by simp;exact lin7 (.l (.a (.a .v0 .k1) (.m 2 .v6)) (.k 200000)) (.l (.a .v4 (.m 2 .v7)) (.k 200000)) (.q .v5 .v7) (.l .v3 .v5) (.t .k0 .v3) (.q .v0 (.a .v4 .k1)) (.b 6 .v1 (.a .v2 .v3)) (.b 7 .v1 .v2) (.d 6 (.d 9 (.w [0, -2,0,2,1,1,0,0,2,1]) (.w [1,0,1,0,0,0,0,0,1])) (.w [0,2,1,1,2,2,2,1])) rfl (.n8 _ _ _ _ _ _ _ _) hb hl hn.1 hn.2 hbl rfl rfl,h.hu⟩,by rw [←gD,hr];exact hw,rfl⟩
 unfold eM
 dsimp only [blk]
 rw [aC (rd2 hc h.hT),bU (in2 (by rcases hq with rfl | rfl <;> rfl)),bU (in2 (by rcases hq with rfl | rfl <;> rfl))]
 refine iF (or2 (by rcases hq with rfl | rfl <;> rfl)) ?_ (fun h=>nomatch h)
 have hla:aF 7 (vr 13) (st2 e i p no la m np (.str [c]) sk bs1)= .ok .next (st2 e i p no (.str [c]) m np (.str [c]) sk bs1):=rfl
 rw [aC h1,aC hla,aC h3,aC h4]
 rfl
theorem aS3 {a b:List Nat} (hla:aN la=false) (h:Ok2 e p sk bs) (hp:p<e.q) (hr:rest e p=35::(a++10::b)) (ha:∀x∈a,x≠10) (hw:W2 b):
  qD e p (eM (st2 e i p no la m np ch sk bs)):=by
 have hb:=h.hbs
 have hs:=h.hs
 have hq:=h.hq
 have hl:=gC h
 rw [hr] at hl
 simp only [List.length_cons,List.length_append] at hl
 have hc:e.T[p]? =some 35:=(iH (j:=0) h (by rw [hr];rfl)).1
 have hat:∀(j c:Nat),(35::(a++10::b))[j]? =some c→e.T[p+j]? =some c:=fun j c hj=>(iH (j:=j) h (by rw [hr];exact hj)).1
 have hnl:e.T[p+(a.length+1)]? =some 10:=hat (a.length+1) 10 (by simp)
 have hno:∀x,p≤x→x<p+(a.length+1)→e.T[x]? ≠some 10:=by
  intro x h1 h2 h3
  by_cases hx:x=p
  ·subst hx;rw [hc] at h3;cases h3
  ·obtain ⟨j,rfl⟩:∃j,x=p+(j+1):=⟨x-p-1,by exact lin4 (.q .v0 (.a .v1 (.a .v3 .k1))) (.l .v1 .v0) (.n (.q .v0 .v1)) (.b 3 .v2 .k1) (.b 2 .v0 .v1) (.b (.d 3 (.d 6 (.w [0,1,0,1,1]) (.w [0,1,1])) (.d 6 (.d 6 (.w [1,1]) (.w [1,0,0,0,1,1])) (.d 6 (.w [1,0,0,0,0,0,1]) (.w [1,1])))) (.d 3 (.d 6 (.w [0, -1,0, -1,1]) (.w [0,1,1])) (.d 6 (.w [0, -1,1, -1,1]) (.w [1,0,0, -1,1])))) rfl (.n4 _ _ _ _) h1 hx rfl rfl⟩
   have hj:j<a.length:=by exact lin1 (.t .v0 .v1) (.t (.a .v2 (.a .v0 .k1)) (.a .v2 (.a .v1 .k1))) (.w [1,1]) rfl (.n3 _ _ _) h2
   have:(35::(a++10::b))[j+1]? =some a[j]:=by
    rw [List.getElem?_cons_succ,List.getElem?_append_left hj,List.getElem?_eq_getElem hj]
   have h4:=hat (j+1) _ this
   rw [h4] at h3
   exact ha a[j] (List.getElem_mem hj) (Option.some.inj h3)
 have hf:dT e.T 10 p (e.q-p)=some (p+(a.length+1)):=lN (lin0 (.l .v0 (.a .v0 (.a .v1 .k1))) (.w [1]) rfl (.n2 _ _)) (lin1 (.t (.a .v0 (.a .v1 .k1)) (.a .v0 .v3)) (.q (.a (.a .v1 (.a .v2 .k1)) .k1) .v3) (.w [1,1]) rfl (.n4 _ _ _ _) hl) hnl hno
 have h1:gY (cZ (vr 4) (aA bA (cD (vr 8)) (cI 1))) (st2 e i p no la m np (.str [35]) sk bs)= .ok .next (st2 e i p no la m np (.str [35]) sk (bs++[.seq true [.int p, .int ((sk.length:Int)+1)]])):=by
  refine mF h.toOkS (Q26 (.n2 _ _) hb) (qU (x:=vr 4) rfl ?_) rfl
  unfold aA;rw [aB (qX h.toOkS)];rfl
 obtain ⟨bs1,hb1⟩:∃bs1,bs1=bs++[PV.seq true [.int p, .int ((sk.length:Int)+1)]]:=⟨_,rfl⟩
 rw [←hb1] at h1
 have hbl:bs1.length=bs.length+1:=by rw [hb1];simp
 have h3:aF 4 (aA bA (aH okStr (vr 1) [cS "\n",vr 4,vr 5] fM) (cI 1)) (st2 e i p no la m np (.str [35]) sk bs1)= .ok .next (st2 e i (p+a.length+2) no la m np (.str [35]) sk bs1):=by
  have e1:aH okStr (vr 1) [cS "\n",vr 4,vr 5] fM (st2 e i p no la m np (.str [35]) sk bs1)= .ok (.int (toI (dT e.T 10 (bE e.T.length (p:Int)) (min (bE e.T.length (e.q:Int)) e.T.length-bE e.T.length (p:Int))))) (st2 e i p no la m np (.str [35]) sk bs1):=rfl
  rw [gN,gN,Nat.min_eq_left hq,hf] at e1
  have e2:aA bA (aH okStr (vr 1) [cS "\n",vr 4,vr 5] fM) (cI 1) (st2 e i p no la m np (.str [35]) sk bs1)= .ok (.int (p+a.length+2:Nat)) (st2 e i p no la m np (.str [35]) sk bs1):=by
   unfold aA
   rw [aB e1]
   skip
   congr 2
  rw [aO e2 rfl];rfl
 have h5:bD (aA gtP (vr 4) (cI 0)) (st2 e i (p+a.length+2) no la m np (.str [35]) sk bs1)= .ok .next (st2 e i (p+a.length+2) no la m np (.str [35]) sk bs1):=by
  refine asT ?_
  show Res.ok (decide ((0:Int)<((p+a.length+2:Nat):Int))) _=_
  rw [decide_eq_true (by exact lin0 (.T .k0 (.c (.a (.a .v0 .v1) (.k 2)))) (.w [1]) rfl (.n2 _ _))]
 have h4:gY (cZ (vr 4) (cD (vr 8))) (st2 e i (p+a.length+2) no la m np (.str [35]) sk bs1)= .ok .next (st2 e i (p+a.length+2) no la m np (.str [35]) sk (bs1++[.seq true [.int (p+a.length+2:Nat), .int sk.length]])):=
  mF h.toOkS (Q128 (.n3 _ _ _) hb hbl) (qU (x:=vr 4) rfl (qX h.toOkS)) rfl
 have hd:rest e (p+a.length+2)=b:=by
  rw [Nat.add_assoc, ←gD,hr]
  simp
 refine ⟨.cont,i,p+a.length+2,no,la,m,np, .str [35],sk,bs1++[.seq true [.int (p+a.length+2:Nat), .int sk.length]], .inl rfl, ?_,by exact lin0 (.t .v0 (.a (.a .v0 .v1) (.k 2))) (.w [1]) rfl (.n2 _ _),⟨h.toOkS,by exact lin2 (.l (.a (.a .v0 .v1) (.k 2)) .v2) (.q (.a (.a .v1 (.a .v3 .k1)) .k1) .v4) (.b 4 .v2 .v0) (.d 2 (.w [0,1,1,1]) (.w [0,1,0,1])) rfl (.n5 _ _ _ _ _) hl rfl,by exact lin3 (.l (.a .v0 .v4) (.k 100000)) (.l (.a .v0 .v5) (.k 100000)) (.b 4 .v1 (.a (.a .v2 .v3) (.k 2))) (.b 5 .v1 .v2) (.d 2 (.d 5 (.w [0, -1,0,1,1,1]) (.w [1, -1,0,1,1,1])) (.w [0,1,1,1])) rfl (.n6 _ _ _ _ _ _) hs rfl rfl,by simp;exact lin5 (.l (.a (.a .v0 .k1) (.m 2 .v6)) (.k 200000)) (.l (.a .v4 (.m 2 .v7)) (.k 200000)) (.q (.a (.a .v3 (.a .v5 .k1)) .k1) .v7) (.q .v0 (.a .v4 .k1)) (.b 6 .v1 (.a (.a .v2 .v3) (.k 2))) (.b 7 .v1 .v2) (.d 4 (.d 7 (.w [0, -2,0,2,1,1,0,1]) (.w [1,0,1])) (.w [0,2,1,1,2,1])) rfl (.n8 _ _ _ _ _ _ _ _) hb hl hbl rfl rfl,h.hu⟩,by rw [hd];exact hw,hla⟩
 unfold eM
 dsimp only [blk]
 rw [aC (rd2 hc h.hT),bU (in2 (by rfl)),bU (in2 (by rfl)),bU (or2 (by rfl))]
 refine iF (eq2 (by rfl)) ?_ (fun h=>nomatch h)
 rw [aC h1,aC h3,aC h5,aC h4]
 rfl
theorem aS4 {d:Nat} (hla:aN la=false) (h:Ok2 e p sk bs) (hp:p<e.q) (hr:rest e p=92::d::r) (hw:W2 r):qD e p (eM (st2 e i p no la m np ch sk bs)):=by
 have hb:=h.hbs
 have hs:=h.hs
 have hT:=h.hT
 have hl:=gC h
 rw [hr] at hl
 simp only [List.length_cons] at hl
 have hc:e.T[p]? =some 92:=(iH (j:=0) h (by rw [hr];rfl)).1
 have hd:e.T[p+1]? =some d:=(iH (j:=1) h (by rw [hr];rfl)).1
 have hrest:rest e (p+2)=r:=by rw [←gD,hr];rfl
 have hlt:aA ltP (vr 4) (vr 5) (st2 e i (p+1) no la m np (.str [92]) sk bs)= .ok true (st2 e i (p+1) no la m np (.str [92]) sk bs):=by
  show Res.ok (decide (((p+1:Nat):Int)<(e.q:Int))) _=_
  rw [decide_eq_true (by exact lin3 (.T (.c (.a .v0 .k1)) (.c .v1)) (.t .v0 .v1) (.q (.a (.a .v2 .k1) .k1) .v3) (.b 3 .v1 .v0) (.d 3 (.w [0,1,1,0,1]) (.w [1,0,0,1])) rfl (.n4 _ _ _ _) hp hl rfl)]
 have hit:itm (vr 1) (vr 4) (st2 e i (p+1) no la m np (.str [92]) sk bs)= .ok (.str [d]) (st2 e i (p+1) no la m np (.str [92]) sk bs):=cV (x:=vr 1) (j:=vr 4) (S:=e.T) (i:=p+1) rfl rfl hd (by unfold aD;exact Q0 (.n1 _) hT)
 have hne:aA neP (itm (vr 1) (vr 4)) (cS "\n") (st2 e i (p+1) no la m np (.str [92]) sk bs)= .ok ([d] != lit "\n") (st2 e i (p+1) no la m np (.str [92]) sk bs):=by
  unfold aA;rw [aB hit];rfl
 have hx:∃la',aN la'=false∧aP (aA neP (itm (vr 1) (vr 4)) (cS "\n")) (aF 7 (aA bA (vr 13) (itm (vr 1) (vr 4)))) nop (st2 e i (p+1) no la m np (.str [92]) sk bs)= .ok .next (st2 e i (p+1) no la' m np (.str [92]) sk bs):=by
  rw [dQ hne]
  cases ([d] != lit "\n")
  ·exact ⟨la,hla,rfl⟩
  ·refine ⟨.str [92,d],rfl, ?_⟩
   have e1:aA bA (vr 13) (itm (vr 1) (vr 4)) (st2 e i (p+1) no la m np (.str [92]) sk bs)= .ok (.str [92,d]) (st2 e i (p+1) no la m np (.str [92]) sk bs):=by
    unfold aA
    rw [aB (x:=vr 13) (a:= .str [92]) rfl,aB hit]
    rfl
   rw [if_pos rfl,aO e1 rfl];rfl
 obtain ⟨la',hu',hx⟩:=hx
 refine ⟨.next,i,p+2,no,la',m,np, .str [92],sk,bs, .inr rfl, ?_,by exact Q129 (.n1 _),⟨h.toOkS,by exact lin3 (.l (.a .v0 (.k 2)) .v1) (.t .v0 .v1) (.q (.a (.a .v2 .k1) .k1) .v3) (.b 3 .v1 .v0) (.d 3 (.w [0,1,1,0,1]) (.w [1,0,0,1])) rfl (.n4 _ _ _ _) hp hl rfl,by exact lin3 (.l (.a .v0 .v3) (.k 100000)) (.l (.a .v0 .v4) (.k 100000)) (.b 3 .v1 (.a .v2 (.k 2))) (.b 4 .v1 .v2) (.d 2 (.d 5 (.w [0, -1,0,1,1,1]) (.w [1,0,1])) (.w [0,1,1,1])) rfl (.n5 _ _ _ _ _) hs rfl rfl,by exact lin3 (.l (.a .v0 (.m 2 .v3)) (.k 200000)) (.l (.a .v0 (.m 2 .v4)) (.k 200000)) (.b 3 .v1 (.a .v2 (.k 2))) (.b 4 .v1 .v2) (.d 2 (.d 5 (.w [0, -2,0,2,1,1]) (.w [1,0,1])) (.w [0,2,1,1])) rfl (.n5 _ _ _ _ _) hb rfl rfl,h.hu⟩,by rw [hrest];exact hw,hu'⟩
 unfold eM
 dsimp only [blk]
 have hi:bQ 4 1 (st2 e i p no la m np (.str [92]) sk bs)= .ok .next (st2 e i (p+1) no la m np (.str [92]) sk bs):=rfl
 rw [aC (rd2 hc h.hT),bU (in2 (by rfl)),bU (in2 (by rfl)),bU (or2 (by rfl)),bU (eq2 (by rfl)),aC (asT (eq2 (by rfl))),aC hi,aC (asT hlt),aC hx]
 rfl
end
section
variable {e:S2}{i:Int}{p:Nat}{no la m np ch:PV}{sk bs:List PV}
theorem bD3 {P:Nat→Bool}:∀l:List Nat,l.dropWhile P=l.drop (l.takeWhile P).length
 | []=>rfl
 | c::l=>by
  rw [List.dropWhile_cons,List.takeWhile_cons]
  cases P c
  ·rfl
  ·simp only [if_true,List.length_cons,List.drop_succ_cons];exact bD3 l
theorem tail_any {c:Nat}{r:List Nat} (hla:aN la=false) (h:Ok2 e p sk bs) (hp:p<e.q) (hr:rest e p=c::r) (ho:RX.cL c=false) (hw:W2 (rest e p)):qD e p (eM (st2 e i p no la m np ch sk bs)):=by
 have hc:e.T[p]? =some c:=(iH (j:=0) h (by rw [hr];rfl)).1
 have hr1:rest e (p+1)=r:=by rw [←gD,hr];rfl
 rw [hr] at hw
 cases hw with
 | ord hc' _=>rw [ho] at hc';cases hc'
 | br hb hw'=>
  by_cases h1:c=40∨c=91∨c=123
  ·exact zP h hc hp h1 (by rw [hr1];exact hw')
  ·exact wP h hc hp (by lia) (by rw [hr1];exact hw')
 | str hq hw'=>exact aE0 h hc hp hq hr hw'
 | cm ha hw'=>exact aS3 hla h hp hr ha hw'
 | bs hw'=>exact aS4 hla h hp hr hw'
theorem one2 (hla:aN la=false) (h:Ok2 e p sk bs) (hp:p<e.q) (hw:W2 (rest e p)):qD e p (uC (st2 e i p no la m np ch sk bs))∨
  ∃i' no' la' m' np' ch',aN la'=false∧uC (st2 e i p no la m np ch sk bs)= .ok .brk (st2 e i' e.q no' la' m' np' ch' sk bs):=by
 have hq:=h.hq
 have hT:=h.hT
 have hl:=gC h
 rw [aF3]
 refine cps fun GC hGC=> ?_
 obtain ⟨n,hn⟩:∃n,n=((rest e p).takeWhile RX.cL).length:=⟨_,rfl⟩
 refine hGC ?_
 have hnl:n≤e.q-p:=by rw [hn, ←hl];exact (List.takeWhile_sublist _).length_le
 have hd:=bD3 (P:=RX.cL) (rest e p)
 rw [←hn,gD] at hd
 have hw':=hw.drop
 rw [hd] at hw'
 have hh:∀c r,rest e (p+n)=c::r→RX.cL c=false:=fun c r hr=>by
  rw [hr] at hd
  exact RX.eZ (by rw [hd];rfl)
 have hm:hY nC [vr 1,vr 4,vr 5] (st2 e i p no la m np ch sk bs)= .ok (matV p (if n=0 then none else some n)) (st2 e i p no la m np ch sk bs):=by
  refine mat_ok h ?_
  unfold nC
  rw [←hn]
  split <;> rfl
 by_cases h0:n=0
 ·rw [if_pos h0] at hm
  have h1:aF 11 (hY nC [vr 1,vr 4,vr 5]) (st2 e i p no la m np ch sk bs)= .ok .next (st2 e i p no la .none np ch sk bs):=by rw [aO hm rfl];rfl
  have h2:bnd (vr 11) bO (st2 e i p no la .none np ch sk bs)= .ok false (st2 e i p no la .none np ch sk bs):=rfl
  rw [aC h1,bU h2]
  left
  rw [h0,Nat.add_zero] at hh
  cases hr:rest e p with
  | nil=>rw [hr] at hl;simp at hl;exact (show False from lin3 .f (.t .v0 .v1) (.q .k0 .v2) (.b 2 .v1 .v0) (.d 3 (.w [0, -1,0,1, -1]) (.w [1,0,0,1])) rfl (.n3 _ _ _) hp hl rfl).elim
  | cons c r=>exact tail_any hla h hp hr (hh c r hr) hw
 ·rw [if_neg h0] at hm
  have h1:aF 11 (hY nC [vr 1,vr 4,vr 5]) (st2 e i p no la m np ch sk bs)= .ok .next (st2 e i p no la (.mat ((p:Int)+n)) np ch sk bs):=by rw [aO hm rfl];rfl
  have h2:bnd (vr 11) bO (st2 e i p no la (.mat ((p:Int)+n)) np ch sk bs)= .ok true (st2 e i p no la (.mat ((p:Int)+n)) np ch sk bs):=rfl
  have h3:aF 12 (aH okMat (vr 11) [] nK) (st2 e i p no la (.mat ((p:Int)+n)) np ch sk bs)= .ok .next (st2 e i p no la (.mat ((p:Int)+n)) (.int (p+n:Nat)) ch sk bs):=rfl
  have h4:aF 3 (aA bH (vr 12) (cI 1)) (st2 e i p no la (.mat ((p:Int)+n)) (.int (p+n:Nat)) ch sk bs)= .ok .next (st2 e (((p+n:Nat):Int)-1) p no la (.mat ((p:Int)+n)) (.int (p+n:Nat)) ch sk bs):=rfl
  refine cps fun GC hGC=> ?_
  obtain ⟨i',h5,hi1,hi2⟩:=pZ (no:=no) (la:=la) (m:= .mat ((p:Int)+n)) (np:= .int (p+n:Nat)) (ch:=ch) h cR (p+n) (lin4 (.l (.a .v0 .v1) .v2) (.t .v0 .v3) (.l .v3 .v2) (.l .v1 .v4) (.b 4 .v3 .v0) (.d 4 (.w [0,1,1,0,1,1]) (.w [1,0,0,1])) rfl (.n5 _ _ _ _ _) hp hq hnl rfl) (by unfold cR;exact lin4 (.t (.a .v0 .v1) (.a .v0 (.k 1000000))) (.l .v2 .v3) (.l .v3 (.k 60000)) (.l .v1 .v4) (.b 4 .v2 .v0) (.d 4 (.w [0,1,1,1,1,1]) (.w [0,1,1,0,0,1])) rfl (.n5 _ _ _ _ _) hq hT hnl rfl) (Q130 (.n2 _ _))
  have h6:∃la',aN la'=false∧aP (aA geP (vr 3) (vr 4)) (aF 7 (itm (vr 1) (vr 3))) nop (st2 e i' p no la (.mat ((p:Int)+n)) (.int (p+n:Nat)) ch sk bs)= .ok .next (st2 e i' p no la' (.mat ((p:Int)+n)) (.int (p+n:Nat)) ch sk bs):=by
   have hb:aA geP (vr 3) (vr 4) (st2 e i' p no la (.mat ((p:Int)+n)) (.int (p+n:Nat)) ch sk bs)= .ok (decide ((p:Int)≤i')) (st2 e i' p no la (.mat ((p:Int)+n)) (.int (p+n:Nat)) ch sk bs):=rfl
   rw [dQ hb]
   by_cases hge:(p:Int)≤i'
   ·obtain ⟨j,rfl⟩:∃j:Nat,i'=j:=⟨i'.toNat,by exact lin2 (.Q .v0 (.c .v2)) (.L (.c .v1) .v0) (.N 2 .v0) (.b (.d 2 (.w [0,1,1]) (.w [0,1,1,1])) (.d 2 (.w [0, -1,1]) (.w [1, -1,1]))) rfl (.z _ (.n2 _ _)) hge rfl⟩
    have hj:j<e.T.length:=by exact lin1 (.t .v0 .v1) (.T (.c .v0) (.c .v1)) (.w [1,1]) rfl (.n2 _ _) hi1
    refine ⟨.str [e.T[j]],rfl, ?_⟩
    rw [decide_eq_true hge,if_pos rfl,aO (cV (x:=vr 1) (j:=vr 3) (S:=e.T) (i:=j) rfl rfl (List.getElem?_eq_getElem hj) (by unfold aD;exact Q0 (.n1 _) hT)) rfl]
    rfl
   ·refine ⟨la,hla, ?_⟩
    rw [decide_eq_false hge];rfl
  obtain ⟨la',hu6,h6⟩:=h6
  refine hGC ?_
  have h7:aF 4 (vr 12) (st2 e i' p no la' (.mat ((p:Int)+n)) (.int (p+n:Nat)) ch sk bs)= .ok .next (st2 e i' (p+n) no la' (.mat ((p:Int)+n)) (.int (p+n:Nat)) ch sk bs):=rfl
  have hb8:aA geP (vr 4) (vr 5) (st2 e i' (p+n) no la' (.mat ((p:Int)+n)) (.int (p+n:Nat)) ch sk bs)= .ok (decide ((e.q:Int)≤((p+n:Nat):Int))) (st2 e i' (p+n) no la' (.mat ((p:Int)+n)) (.int (p+n:Nat)) ch sk bs):=rfl
  rw [aC h1]
  by_cases hend:p+n=e.q
  ·right
   refine ⟨i',no,la', .mat ((p:Int)+n), .int (p+n:Nat),ch,hu6,iF h2 ?_ (fun h=>nomatch h)⟩
   dsimp only [blk]
   rw [aC h3,aC h4,aC h5,aC h6,aC h7,dQ hb8,decide_eq_true (by exact lin1 (.L (.c .v0) (.c (.a .v1 .v2))) (.q (.a .v1 .v2) .v0) (.w [1, -1]) rfl (.n3 _ _ _) hend),if_pos rfl,hend]
   rfl
  ·left
   have hx:blk [
     aF 12 (aH okMat (vr 11) [] nK),
     aF 3 (aA bH (vr 12) (cI 1)),
     aV cR (cX (aA geP (vr 3) (vr 4)) (aA inP (itm (vr 1) (vr 3)) (cS " \t\n"))) (aF 3 (aA bH (vr 3) (cI 1))) nop,
     aP (aA geP (vr 3) (vr 4)) (aF 7 (itm (vr 1) (vr 3))) nop,
     aF 4 (vr 12),
     aP (aA geP (vr 4) (vr 5)) (aL .brk) nop] (st2 e i p no la (.mat ((p:Int)+n)) np ch sk bs)= .ok .next (st2 e i' (p+n) no la' (.mat ((p:Int)+n)) (.int (p+n:Nat)) ch sk bs):=by
    dsimp only [blk]
    rw [aC h3,aC h4,aC h5,aC h6,aC h7,dQ hb8,decide_eq_false (by exact lin4 (.n (.L (.c .v0) (.c (.a .v1 .v2)))) (.t .v1 .v0) (.l .v2 .v3) (.n (.q (.a .v1 .v2) .v0)) (.b 3 .v0 .v1) (.d 4 (.d 5 (.w [1,0,0,1]) (.w [1,0,1,0,0,1])) (.w [1,0,0,1])) rfl (.n4 _ _ _ _) hp hnl hend rfl),if_neg (by decide)]
    rfl
   rw [aE9 h2 hx]
   have H':Ok2 e (p+n) sk bs:=⟨h.toOkS,by exact lin3 (.l (.a .v0 .v1) .v2) (.t .v0 .v2) (.l .v1 .v3) (.b 3 .v2 .v0) (.d 3 (.w [0,1,1,0,1]) (.w [1,0,0,1])) rfl (.n4 _ _ _ _) hp hnl rfl,by have:=h.hs;exact lin5 (.l (.a .v0 .v4) (.k 100000)) (.l .v3 .v5) (.n (.q .v3 .k0)) (.l (.a .v0 .v5) (.k 100000)) (.b 4 .v1 (.a .v2 .v3)) (.b 5 .v1 .v2) (.d 4 (.d 7 (.w [0, -1,0,1,1,0,1,1]) (.w [1,0,1,0,0,0,1])) (.w [0,1,1,1,1,1])) rfl (.n6 _ _ _ _ _ _) hnl h0 this rfl rfl,by have:=h.hbs;exact lin5 (.l (.a .v0 (.m 2 .v4)) (.k 200000)) (.l .v3 .v5) (.n (.q .v3 .k0)) (.l (.a .v0 (.m 2 .v5)) (.k 200000)) (.b 4 .v1 (.a .v2 .v3)) (.b 5 .v1 .v2) (.d 4 (.d 7 (.w [0, -2,0,2,1,0,2,1]) (.w [1,0,1,0,0,0,1])) (.w [0,2,1,2,2,1])) rfl (.n6 _ _ _ _ _ _) hnl h0 this rfl rfl,h.hu⟩
   have hl':=gC H'
   cases hr:rest e (p+n) with
   | nil=>rw [hr] at hl';simp at hl';exact (show False from lin6 .f (.l .v0 .v3) (.n (.q .v0 .k0)) (.n (.q (.a .v2 .v0) .v1)) (.q .k0 .v4) (.b 3 .v1 .v2) (.b 4 .v1 (.a .v2 .v0)) (.d 5 (.d 8 (.d 7 (.w [1,0, -1,0,0,0,0,0,0, -1]) (.w [1,1])) (.d 7 (.w [1,1]) (.w [1,0,0,0,1,0,1]))) (.w [0,1,0,1,1])) rfl (.n5 _ _ _ _ _) hnl h0 hend hl' rfl rfl).elim
   | cons c r=>
    refine cps fun GC hGC=> ?_
    obtain ⟨f,i2,p2,a2,b2,c2,d2,e2,f2,g2,k1,k2,k3,k4,k5⟩:=tail_any (hla:=hu6) (i:=i') (no:=no) (la:=la') (m:= .mat ((p:Int)+n)) (np:= .int (p+n:Nat)) (ch:=ch) H' (lin4 (.t (.a .v0 .v1) .v2) (.t .v0 .v2) (.l .v1 .v3) (.n (.q (.a .v0 .v1) .v2)) (.b 3 .v2 .v0) (.d 4 (.d 5 (.w [1,0,0,1]) (.w [1,0,1,0,0,1])) (.w [1,0,0,1])) rfl (.n4 _ _ _ _) hp hnl hend rfl) hr (hh c r hr) (by rw [hr];rw [hr] at hw';exact hw')
    refine hGC ?_
    exact ⟨f,i2,p2,a2,b2,c2,d2,e2,f2,g2,k1,k2,by exact lin2 (.t .v0 .v1) (.n (.q .v2 .k0)) (.t (.a .v0 .v2) .v1) (.w [1,1,1]) rfl (.n3 _ _ _) h0 k3,k4,k5⟩
theorem xW:∀(N:Nat) (i:Int) (p:Nat) (no la m np ch:PV) (sk bs:List PV),aN la=false→Ok2 e p sk bs→e.q-p<N→W2 (rest e p)→
  ∃i' p' no' la' m' np' ch' sk' bs',aV N (aA ltP (vr 4) (vr 5)) uC nop (st2 e i p no la m np ch sk bs)= .ok .next (st2 e i' p' no' la' m' np' ch' sk' bs')∧sk'.length≤100000∧bs'.length≤200000∧aN la'=false∧(∀x∈sk',aN x=false)
 | 0,_,_,_,_,_,_,_,_,_,_,_,h,_=>absurd h (Q14 (.n1 _))
 | N+1,i,p,no,la,m,np,ch,sk,bs,hla,hok,hN,hw=>by
  by_cases hp:p<e.q
  ·have ht:aA ltP (vr 4) (vr 5) (st2 e i p no la m np ch sk bs)= .ok true (st2 e i p no la m np ch sk bs):=by
    show Res.ok (decide ((p:Int)<(e.q:Int))) _=_
    rw [decide_eq_true (by exact Q40 (.n2 _ _) hp)]
   rcases one2 (i:=i) (no:=no) (la:=la) (m:=m) (np:=np) (ch:=ch) hla hok hp hw with ⟨f,i2,p2,a2,b2,c2,d2,e2,f2,g2,k1,k2,k3,k4,k5,k6⟩ | ⟨i2,a2,b2,c2,d2,e2,ku,k1⟩
   ·rw [gO ht (by rcases k1 with rfl | rfl;exact .inl k2;exact .inr k2)]
    exact xW N i2 p2 a2 b2 c2 d2 e2 f2 g2 k6 k4 (lin5 (.t .v4 .v2) (.t .v5 (.a .v2 .k1)) (.t .v3 .v0) (.t .v3 .v1) (.b 4 .v0 .v1) (.b 5 .v0 .v3) (.d 4 (.d 7 (.w [0, -1,0,1,1,1,0,1]) (.w [1,0,0,0,0,0,1])) (.d 7 (.w [0, -1,0,1,1,1,1]) (.w [1,0,0,0,0,0,1]))) rfl (.n6 _ _ _ _ _ _) hN hp k3 rfl rfl) k5
   ·exact ⟨i2,e.q,a2,b2,c2,d2,e2,sk,bs,zL ht k1,by have:=hok.hs;exact Q131 (.n2 _ _) this,by have:=hok.hbs;exact Q132 (.n2 _ _) this,ku,hok.hu⟩
  ·have ht:aA ltP (vr 4) (vr 5) (st2 e i p no la m np ch sk bs)= .ok false (st2 e i p no la m np ch sk bs):=by
    show Res.ok (decide ((p:Int)<(e.q:Int))) _=_
    rw [decide_eq_false (by exact Q107 (.n2 _ _) hp)]
   exact ⟨i,p,no,la,m,np,ch,sk,bs,by rw [tV ht];rfl,by have:=hok.hs;exact Q131 (.n2 _ _) this,by have:=hok.hbs;exact Q132 (.n2 _ _) this,hla,hok.hu⟩
end
section
variable {l:List Nat}{c q r:Nat}{no:PV}
theorem qR:∀{n j:Nat},j<n→l[j]? =some c→(∀a,j<a→a<n→l[a]? ≠some c)→dI l c n=some j
 | 0,j,h,_,_=>absurd h (Q14 (.n1 _))
 | n+1,j,h1,h2,h3=>by
  rw [kP]
  by_cases he:n=j
  ·subst he;rw [if_pos h2]
  ·rw [if_neg (h3 n (Q133 (.n2 _ _) h1 he) (Q28 (.n1 _)))]
   exact qR (Q133 (.n2 _ _) h1 he) h2 fun a ha hb=>h3 a ha (Q29 (.n2 _ _) hb)
theorem qS:∀{n:Nat},(∀a,a<n→l[a]? ≠some c)→dI l c n=none
 | 0,_=>rfl
 | n+1,h=>by
  rw [kP]
  rw [if_neg (h n (Q28 (.n1 _)))]
  exact qS fun a ha=>h a (Q29 (.n2 _ _) ha)
inductive Lines (T:List Nat):Nat→Nat→Nat→Prop where
 | nil {p:Nat}:Lines T p p 0
 | line {p q r m:Nat}:Lines T p q m→q<r→T[r-1]? =some 10→(∀a,q≤a→a<r-1→T[a]? ≠some 10)→(q=0∨(0<q∧T[q-1]? =some 10))→r≤T.length→Lines T p r (m+1)
theorem aA5 {T:List Nat} (hqr:q<r) (hr:r≤T.length) (hno:∀a,q≤a→a<r-1→T[a]? ≠some 10) (hq:q=0∨(0<q∧T[q-1]? =some 10)):
  toI (dI T 10 (min (bE T.length ((r:Int)-1)) T.length))+1=(q:Int):=by
 have e1:min (bE T.length ((r:Int)-1)) T.length=r-1:=by
  rw [show ((r:Int)-1)=((r-1:Nat):Int) by exact Q47 (.n3 _ _ _) hqr rfl,gN];exact lin3 (.q .v3 .v2) (.l .v0 .v1) (.b 2 .v0 .k1) (.M 3 .v2 .v1) (.b (.d 2 (.d 5 (.w [0, -1,0,0,1]) (.w [1,0,0,1,0,1])) (.w [0,1,1])) (.d 3 (.w [0,1,1]) (.w [1,1,1]))) rfl (.n4 _ _ _ _) hr rfl rfl
 rw [e1]
 rcases hq with rfl | ⟨hq0,hq⟩
 ·rw [qS (fun a ha=>hno a (Nat.zero_le _) ha)];rfl
 ·rw [qR (j:=q-1) (by exact lin4 (.t .v2 .v3) (.t .v0 .v1) (.t .k0 .v0) (.b 2 .v0 .k1) (.b 3 .v1 .k1) (.d 3 (.d 6 (.w [0, -1,0,1,1,1]) (.w [1,0,1,0,0,1])) (.d 6 (.w [0, -1,0,1,1,1,1]) (.w [1,0,0,0,0,1,1]))) rfl (.n4 _ _ _ _) hqr hq0 rfl rfl) hq (fun a ha hb=>hno a (Q32 (.n3 _ _ _) ha rfl) hb)]
  show ((q-1:Nat):Int)+1=q
  exact lin2 (.Q (.a (.c .v1) .k1) (.c .v0)) (.t .k0 .v0) (.b 1 .v0 .k1) (.b (.d 2 (.w [0, -1,1]) (.w [1, -1,1])) (.d 2 (.w [0,1,1]) (.w [0,1,1,1]))) rfl (.n2 _ _) hq0 rfl
noncomputable def bB (C:Addr) (k g:Nat) (T:List Nat) (i:Int) (p:Nat) (q no:PV):List PV:=
 [.inst C k, .str T, .cell g, .int i, .int p,q,no, .unb, .unb, .unb, .unb, .unb, .unb, .unb]
noncomputable abbrev upM:PM Fl:=aF 4 (aA bA (aH okStr (vr 1) [cS "\n",cI 0,aA bH (vr 4) (cI 1)] oW) (cI 1))
variable {C:Addr}{k g:Nat}{T:List Nat}{i:Int}{cells:List PCell}{qv:PV}
theorem up_ok (hqr:q<r) (hr:r≤T.length) (hno:∀a,q≤a→a<r-1→T[a]? ≠some 10) (hq:q=0∨(0<q∧T[q-1]? =some 10)):
  upM ⟨bB C k g T i r qv no,cells⟩= .ok .next ⟨bB C k g T i q qv no,cells⟩:=by
 have e1:aH okStr (vr 1) [cS "\n",cI 0,aA bH (vr 4) (cI 1)] oW ⟨bB C k g T i r qv no,cells⟩= .ok (.int (toI (dI T 10 (min (bE T.length ((r:Int)-1)) T.length)))) ⟨bB C k g T i r qv no,cells⟩:=rfl
 have e2:aA bA (aH okStr (vr 1) [cS "\n",cI 0,aA bH (vr 4) (cI 1)] oW) (cI 1) ⟨bB C k g T i r qv no,cells⟩= .ok (.int q) ⟨bB C k g T i r qv no,cells⟩:=by
  show bnd _ _ _=_
  rw [aB e1]
  show Res.ok (PV.int (toI (dI T 10 (min (bE T.length ((r:Int)-1)) T.length))+1)) _=_
  rw [aA5 hqr hr hno hq]
 show aF 4 _ _=_
 rw [aO e2 rfl];rfl
set_option tactic.hygienic true in
theorem aR6 {m:Nat} (h:Lines T q r m):∀(xs:List PV) (no:PV),xs.length=m→(∀x∈xs,aN x=false)→∃no',lM (bF 6) upM xs ⟨bB C k g T i r qv no,cells⟩= .ok .next ⟨bB C k g T i q qv no',cells⟩:=by
 induction h with
 | nil=>
  intro xs no hx _
  have:xs=[]:=List.length_eq_zero_iff.mp hx
  subst this
  exact ⟨no,rfl⟩
 | line hL hqr h10 hno hq hr ih=>
  rename_i q' r' m'
  intro xs no hx hu
  induction xs with
  | nil=>simp at hx
  | cons x xs=>
   have e1:bF 6 x ⟨bB C k g T i r' qv no,cells⟩= .ok .next ⟨bB C k g T i r' qv x,cells⟩:=by
    unfold bF
    rw [hu x (.head _)];rfl
   obtain ⟨no',h2⟩:=ih xs x (by simpa using hx) (fun y hy=>hu y (.tail _ hy))
   refine ⟨no', ?_⟩
   rw [forL_s]
   rw [aB e1,aB (up_ok hqr hr hno hq)]
   exact h2
theorem aF9 (a b:Int):(oV a b).length=(b-a).toNat:=by simp [oV]
theorem aF8 (a b:Int):∀x∈oV a b,aN x=false:=by
 intro x hx
 obtain ⟨j,_,rfl⟩:=List.mem_map.mp hx
 rfl
theorem aP2 {s a b:Nat}{pre:List Nat} (hg:cells[g]? =some (.list ((pre++[a,b]).map fun n:Nat=> .int n))) (hb:a≤b) (hb2:b≤100000) (hL:Lines T s T.length (b-a)) (hsT:s≤T.length) (h0:0<T.length) (hT:T.length≤60000) (hpre:pre.length≤100000)
  (hj:hK (T.drop s)=some none) {qv:PV}:
  ∃no',rX ⟨bB C k g T (pre.length+1:Nat) T.length qv no,cells⟩= .ok .brk ⟨bB C k g T (pre.length+1:Nat) s (.int T.length) no',cells⟩:=by
 have c1:bJ g ⟨bB C k g T (pre.length+1:Nat) T.length (.int T.length) no,cells⟩=some ((pre++[a,b]).map fun n:Nat=> .int n):=by
  unfold bJ;dsimp only;rw [hg]
 have hlen:((pre++[a,b]).map fun n:Nat=>PV.int n).length=pre.length+2:=by simp
 have i1:itm (vr 2) (aA bH (vr 3) (cI 1)) ⟨bB C k g T (pre.length+1:Nat) T.length (.int T.length) no,cells⟩= .ok (.int a) ⟨bB C k g T (pre.length+1:Nat) T.length (.int T.length) no,cells⟩:=by
  show bG (.cell g) (.int (((pre.length+1:Nat):Int)-1)) _=_
  rw [show (((pre.length+1:Nat):Int)-1)=(pre.length:Int) by exact Q22 (.n1 _)]
  unfold bG
  dsimp only
  rw [c1]
  dsimp only
  rw [hlen,nX (by exact Q129 (.n1 _))]
  dsimp only
  congr 1
  simp [List.getD]
 have i2:itm (vr 2) (vr 3) ⟨bB C k g T (pre.length+1:Nat) T.length (.int T.length) no,cells⟩= .ok (.int b) ⟨bB C k g T (pre.length+1:Nat) T.length (.int T.length) no,cells⟩:=by
  show bG (.cell g) (.int ((pre.length+1:Nat):Int)) _=_
  unfold bG
  dsimp only
  rw [c1]
  dsimp only
  rw [hlen,nX (by exact lin0 (.t (.a .v0 .k1) (.a .v0 (.k 2))) (.w [1]) rfl (.n1 _))]
  dsimp only
  congr 1
  rw [List.getD_eq_getElem?_getD,List.getElem?_map,List.getElem?_append_right (by exact Q23 (.n1 _)),show pre.length+1-pre.length=1 by exact Q134 (.n2 _ _) rfl]
  rfl
 have r1:aF7 (itm (vr 2) (aA bH (vr 3) (cI 1))) (itm (vr 2) (vr 3)) ⟨bB C k g T (pre.length+1:Nat) T.length (.int T.length) no,cells⟩= .ok (oV a b) ⟨bB C k g T (pre.length+1:Nat) T.length (.int T.length) no,cells⟩:=by
  have ev:evL [itm (vr 2) (aA bH (vr 3) (cI 1)),itm (vr 2) (vr 3)] ⟨bB C k g T (pre.length+1:Nat) T.length (.int T.length) no,cells⟩= .ok [.int a, .int b] ⟨bB C k g T (pre.length+1:Nat) T.length (.int T.length) no,cells⟩:=by
   have e1:evL [itm (vr 2) (vr 3)] ⟨bB C k g T (pre.length+1:Nat) T.length (.int T.length) no,cells⟩= .ok [.int b] ⟨bB C k g T (pre.length+1:Nat) T.length (.int T.length) no,cells⟩:=by unfold evL;rw [aB i2];rfl
   have e2:evL [itm (vr 2) (aA bH (vr 3) (cI 1)),itm (vr 2) (vr 3)]=bnd (itm (vr 2) (aA bH (vr 3) (cI 1))) fun a=>bnd (evL [itm (vr 2) (vr 3)]) fun as=>aL (a::as):=rfl
   rw [e2,aB i1,aB e1];rfl
  unfold aF7
  rw [aB ev]
  dsimp only
  rw [if_pos ⟨by exact Q135 (.n1 _),by exact lin2 (.L (.c .v0) (.k 1000000000)) (.l .v0 .v1) (.l .v1 (.k 100000)) (.w [1,1,1]) rfl (.n2 _ _) hb hb2,by exact Q135 (.n1 _),by exact lin1 (.L (.c .v0) (.k 1000000000)) (.l .v0 (.k 100000)) (.w [1,1]) rfl (.n1 _) hb2⟩]
  rfl
 obtain ⟨no',h2⟩:=aR6 (C:=C) (k:=k) (g:=g) (i:=(pre.length+1:Nat)) (cells:=cells) (qv:= .int T.length) hL (oV a b) no (by rw [aF9];exact Q13 (.n4 _ _ _ _) rfl rfl) (aF8 a b)
 refine ⟨no', ?_⟩
 unfold rX
 dsimp only [blk]
 have s1:bD (bnd (vr 4) bO) ⟨bB C k g T (pre.length+1:Nat) T.length qv no,cells⟩= .ok .next ⟨bB C k g T (pre.length+1:Nat) T.length qv no,cells⟩:=by
  refine asT ?_
  show Res.ok ((T.length:Int) != 0) _=_
  have:((T.length:Int) != 0)=true:=by rw [bne_iff_ne];exact Q136 (.n1 _) h0
  rw [this]
 have s2:aF 5 (vr 4) ⟨bB C k g T (pre.length+1:Nat) T.length qv no,cells⟩= .ok .next ⟨bB C k g T (pre.length+1:Nat) T.length (.int T.length) no,cells⟩:=rfl
 have s3:pR (aF7 (itm (vr 2) (aA bH (vr 3) (cI 1))) (itm (vr 2) (vr 3))) (bF 6) upM ⟨bB C k g T (pre.length+1:Nat) T.length (.int T.length) no,cells⟩= .ok .next ⟨bB C k g T (pre.length+1:Nat) s (.int T.length) no',cells⟩:=by
  unfold pR
  rw [aB r1]
  exact h2
 have hjm:hY hK [vr 1,vr 4] ⟨bB C k g T (pre.length+1:Nat) s (.int T.length) no',cells⟩= .ok .none ⟨bB C k g T (pre.length+1:Nat) s (.int T.length) no',cells⟩:=by
  show dR hK T (s:Int) (T.length:Int) _=_
  unfold dR
  rw [if_pos ⟨by exact Q9 (.n1 _),by exact Q10 (.n2 _ _) hsT,by exact Q137 (.n1 _),by exact Q25 (.n1 _) hT⟩,Int.toNat_natCast,List.take_of_length_le (by rw [List.length_drop];exact lin2 (.l .v2 .v3) (.b 2 .v0 .v1) (.N 3 (.s (.c .v0) (.c .v1))) (.d 1 (.d 4 (.w [0, -1,0,1,1]) (.w [1, -1,0,1,1])) (.w [0,1,1])) rfl (.n4 _ _ _ _) rfl rfl),hj]
  rfl
 have hb4:bnd (hY hK [vr 1,vr 4]) bO ⟨bB C k g T (pre.length+1:Nat) s (.int T.length) no',cells⟩= .ok false ⟨bB C k g T (pre.length+1:Nat) s (.int T.length) no',cells⟩:=by
  rw [aB hjm];rfl
 rw [aC s1,aC s2,aC s3,bC hb4]
 rfl
end
section
variable {σ:St}{B:Ads}{k:Nat}{vals:List PV}
theorem iI {x:PM PV}{σ':St} (h:x σ= .ok .none σ'):cC x σ= .ok .next σ':=by unfold cC;rw [aB h]
theorem nV {nv:Nat}{F:PM Fl}{r:Res PV} (hv:vr 0 σ= .ok (.inst B.C k) σ) (h:Obj1 B k vals σ) (hr:aQ nv F [.inst B.C k] σ=r):
  cG B.C 0 (vr 0) [] (aQ nv F) σ=r:=by
 unfold cG
 rw [aB hv]
 unfold hM
 dsimp only
 rw [if_pos rfl]
 dsimp only
 rw [mR h]
 exact hr
structure St1 (T:List Nat) (z:Z):Prop where
 asc:T.all (· < 128)=true
 len:T.length≤60000
 ends:ends T
 run:Run .pl z0 (T.map aT) z
 good:z.good≠[]
 sm:z.good.length<90000
 ass:(cT z=0)↔(eJ z=z.lno)
theorem of11 (h:vals.length=11):∃f:Nat→PV,vals=[f 0,f 1,f 2,f 3,f 4,f 5,f 6,f 7,f 8,f 9,f 10]:=
 ⟨fun i=>vals.getD i .other,show vals=(List.range 11).map fun i=>vals.getD i .other from List.ext_getElem (by rw [List.length_map,List.length_range];exact h) fun i h1 z_=>by
  rw [List.getElem_map,List.getElem_range,List.getD_eq_getElem?_getD,List.getElem?_eq_getElem h1];rfl⟩
theorem aD6 {T:List Nat}{g s:Nat}{z:Z}{la v9:PV} (h:vals.length=11) (hT:vals[2]? =some (.str T)):
  ((((((((cF vals g z).set 3 (.int 2)).set 6 (.int s)).set 7 (.int T.length)).set 8 la).set 9 v9).set 10 .other)).length=11∧((((((((cF vals g z).set 3 (.int 2)).set 6 (.int s)).set 7 (.int T.length)).set 8 la).set 9 v9).set 10 .other))[1]? =vals[1]? ∧((((((((cF vals g z).set 3 (.int 2)).set 6 (.int s)).set 7 (.int T.length)).set 8 la).set 9 v9).set 10 .other))[2]? =some (.str T)∧((((((((cF vals g z).set 3 (.int 2)).set 6 (.int s)).set 7 (.int T.length)).set 8 la).set 9 v9).set 10 .other))[3]? =some (.int 2)∧((((((((cF vals g z).set 3 (.int 2)).set 6 (.int s)).set 7 (.int T.length)).set 8 la).set 9 v9).set 10 .other))[5]? =some (.int (cT z))∧((((((((cF vals g z).set 3 (.int 2)).set 6 (.int s)).set 7 (.int T.length)).set 8 la).set 9 v9).set 10 .other))[6]? =some (.int s)∧((((((((cF vals g z).set 3 (.int 2)).set 6 (.int s)).set 7 (.int T.length)).set 8 la).set 9 v9).set 10 .other))[7]? =some (.int T.length):=by
 obtain ⟨f,rfl⟩:=of11 h
 exact ⟨rfl,rfl,hT,rfl,rfl,rfl,rfl⟩
theorem zQ {T:List Nat}{vars:List PV}{cells:List PCell}{z:Z}{s a b:Nat}{pre:List Nat} (h:Obj1 B k vals ⟨vars,cells⟩) (hT:vals[2]? =some (.str T)) (hlv:vals[3]? =some (.int 0))
  (S:St1 T z) (hgd:gH z=pre++[a,b]) (hab:a≤b) (hb2:b≤100000) (hpre:pre.length≤90000) (hL:Lines T s T.length (b-a)) (hsT:s≤T.length) (h0:0<T.length) (hj:hK (T.drop s)=some none) (hw:W2 (T.drop s)):
  ∃vals2 ex,aQ 14 (bW B) [.inst B.C k] ⟨vars,cells⟩= .ok .none ⟨vars,(cells.set k (.dct 0 vals2))++ex⟩∧vals2.length=11∧vals2[1]? =vals[1]? ∧vals2[2]? =some (.str T)∧vals2[3]? =some (.int 2)∧vals2[5]? =some (.int (cT z))∧vals2[6]? =some (.int s)∧vals2[7]? =some (.int T.length):=by
 have hkl:k<cells.length:=aM h.cell
 let v0:List PV:= .inst B.C k::List.replicate 13 .unb
 have hv0:cY 14 [.inst B.C k]=v0:=rfl
 have H0:Obj1 B k vals ⟨v0,cells⟩:=⟨h.cell,h.len⟩
 have s0:aA geP (aX B.C 0 3 (vr 0)) (cI 2) ⟨v0,cells⟩= .ok false ⟨v0,cells⟩:=by
  unfold aA
  rw [aB (cK (x:=vr 0) rfl H0 hlv rfl)]
  rfl
 refine cps fun GC hGC=> ?_
 obtain ⟨g,hg⟩:∃g,g=cells.length:=⟨_,rfl⟩
 let c1:List PCell:=(cells.set k (.dct 0 (cF vals g z)))++[.list ((pre++[a,b]).map fun n:Nat=> .int n)]
 have s1:cC (cG B.C 0 (vr 0) [] (aQ 13 (iW B))) ⟨v0,cells⟩= .ok .next ⟨v0,c1⟩:=by
  refine iI (nV rfl H0 ?_)
  rw [zR H0 hT hlv S.asc S.len S.ends S.run S.good S.sm S.ass,hgd, ←hg]
 have hc1l:c1.length=g+1:=by simp [c1,hg]
 have H1:Obj1 B k (cF vals g z) ⟨v0,c1⟩:=⟨by
  skip
  rw [List.getElem?_append_left (by simp;exact Q11 (.n2 _ _) hkl),List.getElem?_set_self hkl],by simp [cF,h.len]⟩
 have hv1l:(cF vals g z).length=11:=H1.len
 let va:=(cF vals g z).set 3 (.int 2)
 let c2:=c1.set k (.dct 0 va)
 have s2:aW B.C 0 3 (cI 2) (vr 0) ⟨v0,c1⟩= .ok .next ⟨v0,c2⟩:=cA rfl H1 rfl rfl
 have H2:Obj1 B k va ⟨v0,c2⟩:=H1.set
 have g2:va[2]? =some (.str T):=by simp [va,cF,hT]
 have g4:va[4]? =some (.cell g):=by simp [va,cF,h.len]
 have s3:fP 1 2 (aX B.C 0 2 (vr 0)) (aX B.C 0 4 (vr 0)) ⟨v0,c2⟩= .ok .next ⟨[.inst B.C k, .str T, .cell g, .unb, .unb, .unb, .unb, .unb, .unb, .unb, .unb, .unb, .unb, .unb],c2⟩:=by
  unfold fP
  rw [aB (cK (x:=vr 0) rfl H2 g2 rfl),aB (cK (x:=vr 0) rfl H2 g4 rfl)]
  rfl
 have hcg:c2[g]? =some (.list ((pre++[a,b]).map fun n:Nat=> .int n)):=by
  skip
  rw [List.getElem?_set_ne (by exact Q114 (.n3 _ _ _) hkl hg)]
  skip
  rw [List.getElem?_append_right (by simp;exact lin1 (.l .v0 .v1) (.q .v1 .v0) (.w [1, -1]) rfl (.n2 _ _) hg)]
  simp [hg]
 have cg2:bJ g ⟨[.inst B.C k, .str T, .cell g, .unb, .unb, .unb, .unb, .unb, .unb, .unb, .unb, .unb, .unb, .unb],c2⟩=some ((pre++[a,b]).map fun n:Nat=> .int n):=by
  unfold bJ;rw [hcg]
 have s4:aF 3 (aA bH (cD (vr 2)) (cI 1)) ⟨[.inst B.C k, .str T, .cell g, .unb, .unb, .unb, .unb, .unb, .unb, .unb, .unb, .unb, .unb, .unb],c2⟩= .ok .next ⟨[.inst B.C k, .str T, .cell g, .int (pre.length+1:Nat), .unb, .unb, .unb, .unb, .unb, .unb, .unb, .unb, .unb, .unb],c2⟩:=by
  have e1:cD (vr 2) ⟨[.inst B.C k, .str T, .cell g, .unb, .unb, .unb, .unb, .unb, .unb, .unb, .unb, .unb, .unb, .unb],c2⟩= .ok (.int ((pre.length+2:Nat):Int)) ⟨[.inst B.C k, .str T, .cell g, .unb, .unb, .unb, .unb, .unb, .unb, .unb, .unb, .unb, .unb, .unb],c2⟩:=by
   show mK [.cell g] _=_
   rw [qY (cg2)]
   simp
  have e2:aA bH (cD (vr 2)) (cI 1) ⟨[.inst B.C k, .str T, .cell g, .unb, .unb, .unb, .unb, .unb, .unb, .unb, .unb, .unb, .unb, .unb],c2⟩= .ok (.int ((pre.length+1:Nat):Int)) ⟨[.inst B.C k, .str T, .cell g, .unb, .unb, .unb, .unb, .unb, .unb, .unb, .unb, .unb, .unb, .unb],c2⟩:=by
   unfold aA
   rw [aB e1]
   show Res.ok (PV.int (((pre.length+2:Nat):Int)-1)) _=_
   congr 2
   exact lin0 (.Q (.s (.c (.a .v0 (.k 2))) .k1) (.c (.a .v0 .k1))) (.b (.w [1]) (.w [1])) rfl (.n1 _)
  rw [aO e2 rfl];rfl
 have s5:aF 4 (cD (vr 1)) ⟨[.inst B.C k, .str T, .cell g, .int (pre.length+1:Nat), .unb, .unb, .unb, .unb, .unb, .unb, .unb, .unb, .unb, .unb],c2⟩= .ok .next ⟨bB B.C k g T (pre.length+1:Nat) T.length .unb .unb,c2⟩:=by
  have e1:cD (vr 1) ⟨[.inst B.C k, .str T, .cell g, .int (pre.length+1:Nat), .unb, .unb, .unb, .unb, .unb, .unb, .unb, .unb, .unb, .unb],c2⟩= .ok (.int T.length) ⟨[.inst B.C k, .str T, .cell g, .int (pre.length+1:Nat), .unb, .unb, .unb, .unb, .unb, .unb, .unb, .unb, .unb, .unb],c2⟩:=by
   show mK [.str T] _=_
   rw [iO (by unfold aD;have:=S.len;exact Q0 (.n1 _) this)]
  rw [aO e1 rfl];rfl
 obtain ⟨no',hback⟩:=aP2 (C:=B.C) (k:=k) (cells:=c2) hcg hab hb2 hL hsT h0 S.len (lin1 (.l .v0 (.k 100000)) (.l .v0 (.k 90000)) (.w [1,1]) rfl (.n1 _) hpre) hj (qv:= .unb) (no:= .unb)
 have s6:aV cR (bnd (vr 3) bO) rX nop ⟨bB B.C k g T (pre.length+1:Nat) T.length .unb .unb,c2⟩= .ok .next ⟨bB B.C k g T (pre.length+1:Nat) s (.int T.length) no',c2⟩:=by
  have ht:bnd (vr 3) bO ⟨bB B.C k g T (pre.length+1:Nat) T.length .unb .unb,c2⟩= .ok true ⟨bB B.C k g T (pre.length+1:Nat) T.length .unb .unb,c2⟩:=by
   show Res.ok (((pre.length+1:Nat):Int) != 0) _=_
   have:(((pre.length+1:Nat):Int) != 0)=true:=by rw [bne_iff_ne];exact Q48 (.n1 _)
   rw [this]
  exact zL (N:=999999) ht hback
 have s7:eqM (vr 3) (cI 0) ⟨bB B.C k g T (pre.length+1:Nat) s (.int T.length) no',c2⟩= .ok false ⟨bB B.C k g T (pre.length+1:Nat) s (.int T.length) no',c2⟩:=by
  show Res.ok (((pre.length+1:Nat):Int)==0) _=_
  have:(((pre.length+1:Nat):Int)==0)=false:=by rw [beq_eq_false_iff_ne];exact Q48 (.n1 _)
  rw [this]
 have hc2l:c2.length=g+1:=by simp [c2,hc1l]
 let vb:List PV:=bB B.C k g T (pre.length+1:Nat) s (.int T.length) no'
 let c3:=c2.set k (.dct 0 (va.set 6 (.int s)))
 let vc:=(va.set 6 (.int s)).set 7 (.int T.length)
 let c4:=c3.set k (.dct 0 vc)
 have H2b:Obj1 B k va ⟨vb,c2⟩:=⟨H2.cell,H2.len⟩
 have H3:Obj1 B k (va.set 6 (.int s)) ⟨vb,c3⟩:=H2b.set
 have H4:Obj1 B k vc ⟨vb,c4⟩:=H3.set
 have s8:xX (fW B.C 0 6 (vr 0)) (fW B.C 0 7 (vr 0)) (vr 4) (vr 5) ⟨vb,c2⟩= .ok .next ⟨vb,c4⟩:=by
  unfold xX
  rw [aB (x:=vr 4) (a:= .int s) (σ:=⟨vb,c2⟩) (σ':=⟨vb,c2⟩) rfl,aB (x:=vr 5) (a:= .int T.length) (σ:=⟨vb,c2⟩) (σ':=⟨vb,c2⟩) rfl]
  have e1:fW B.C 0 6 (vr 0) (.int s) ⟨vb,c2⟩= .ok .next ⟨vb,c3⟩:=by
   show lS B.C 0 6 (.inst B.C k) (.int s) _=_
   rw [kT H2b rfl]
  rw [aB e1]
  show lS B.C 0 7 (.inst B.C k) (.int T.length) _=_
  rw [kT H3 rfl]
 have hc4l:c4.length=g+1:=by simp [c4,c3,hc2l]
 let pr:PV:= .seq true [.int s, .int 0]
 let c5:List PCell:=c4++[.list [], .list [pr]]
 let e:S2:=⟨B.C,k,g,T,T.length,g+1,g+2,c5⟩
 have hc5l:c5.length=g+3:=by simp [c5,hc4l]
 have hset:(c5.set (g+1) (.list [])).set (g+2) (.list [pr])=c5:=by
  apply List.ext_getElem?
  intro j
  by_cases h1:j=g+2
  ·subst h1
   rw [List.getElem?_set_self (by simp [hc5l])]
   skip
   rw [List.getElem?_append_right (by exact lin1 (.l .v0 (.a .v1 (.k 2))) (.q .v0 (.a .v1 .k1)) (.w [1,1]) rfl (.n2 _ _) hc4l),show g+2-c4.length=1 by exact lin2 (.q .v2 .k1) (.q .v1 (.a .v0 .k1)) (.b 2 (.a .v0 (.k 2)) .v1) (.b (.d 2 (.w [0, -1,1,1]) (.w [1,0,0,1])) (.d 2 (.w [0,1,1, -1]) (.w [0,1,1]))) rfl (.n3 _ _ _) hc4l rfl];rfl
  ·rw [List.getElem?_set_ne (Ne.symm h1)]
   by_cases h2:j=g+1
   ·subst h2
    rw [List.getElem?_set_self (by exact Q49 (.n2 _ _) hc5l)]
    skip
    rw [List.getElem?_append_right (by exact Q138 (.n2 _ _) hc4l),show g+1-c4.length=0 by exact Q139 (.n3 _ _ _) hc4l rfl];rfl
   ·rw [List.getElem?_set_ne (Ne.symm h2)]
 have s9:aF 7 (cS "") ⟨vb,c4⟩= .ok .next ⟨vb.set 7 (.str []),c4⟩:=rfl
 have s10:aF 8 (jS []) ⟨vb.set 7 (.str []),c4⟩= .ok .next ⟨(vb.set 7 (.str [])).set 8 (.cell (g+1)),c4++[.list []]⟩:=by
  have:jS [] ⟨vb.set 7 (.str []),c4⟩= .ok (.cell (g+1)) ⟨vb.set 7 (.str []),c4++[.list []]⟩:=by
   rw [←hc4l];rfl
  rw [aO this rfl]
 have s11:aF 9 (bnd (vr 8) bmG) ⟨(vb.set 7 (.str [])).set 8 (.cell (g+1)),c4++[.list []]⟩= .ok .next ⟨((vb.set 7 (.str [])).set 8 (.cell (g+1))).set 9 (.bm (g+1)),c4++[.list []]⟩:=by
  have:bnd (vr 8) bmG ⟨(vb.set 7 (.str [])).set 8 (.cell (g+1)),c4++[.list []]⟩= .ok (.bm (g+1)) ⟨(vb.set 7 (.str [])).set 8 (.cell (g+1)),c4++[.list []]⟩:=by
   show bmG (.cell (g+1)) _=_
   unfold bmG bJ
   dsimp only
   rw [List.getElem?_append_right (by exact Q138 (.n2 _ _) hc4l),show g+1-c4.length=0 by exact Q139 (.n3 _ _ _) hc4l rfl]
   rfl
  rw [aO this rfl]
 have s12:aF 10 (jS [cZ (vr 4) (cI 0)]) ⟨((vb.set 7 (.str [])).set 8 (.cell (g+1))).set 9 (.bm (g+1)),c4++[.list []]⟩= .ok .next (st2 e (pre.length+1:Nat) s no' (.str []) .unb .unb .unb [] [pr]):=by
  have:jS [cZ (vr 4) (cI 0)] ⟨((vb.set 7 (.str [])).set 8 (.cell (g+1))).set 9 (.bm (g+1)),c4++[.list []]⟩= .ok (.cell (g+2)) ⟨((vb.set 7 (.str [])).set 8 (.cell (g+1))).set 9 (.bm (g+1)),(c4++[.list []])++[.list [pr]]⟩:=by
   rw [show g+2=(c4++[PCell.list []]).length by simp [hc4l]]
   rfl
  rw [aO this rfl]
  show Res.ok Fl.next (St.mk _ ((c4++[PCell.list []])++[PCell.list [pr]]))=Res.ok Fl.next (St.mk _ ((c5.set (g+1) (.list [])).set (g+2) (.list [pr])))
  rw [hset,List.append_assoc]
  rfl
 have hok:Ok2 e s [] [pr]:=⟨⟨by exact Q49 (.n2 _ _) hc5l,by exact Q140 (.n2 _ _) hc5l,by exact lin0 (.n (.q (.a .v0 .k1) (.a .v0 (.k 2)))) (.w [-1]) rfl (.n1 _),Nat.le_refl _,S.len⟩,hsT,by have:=S.len;exact lin2 (.l (.a .k0 .v2) (.k 100000)) (.l .v0 (.k 60000)) (.b 2 .v0 .v1) (.d 2 (.w [0,1,1,1]) (.w [0,1,1])) rfl (.n3 _ _ _) this rfl,by have:=S.len;exact lin2 (.l (.a .k1 (.m 2 .v2)) (.k 200000)) (.l .v0 (.k 60000)) (.b 2 .v0 .v1) (.d 2 (.w [0,2,1,2]) (.w [0,2,1])) rfl (.n3 _ _ _) this rfl,fun x hx=>by cases hx⟩
 have hrest:rest e s=T.drop s:=by
  show (T.drop s).take (T.length-s)=_
  rw [List.take_of_length_le (by rw [List.length_drop];exact Q39 (.n1 _))]
 obtain ⟨i',p',no2,la',m',np',ch',sk',bs',s13,hsk,hbs,hla,hsu⟩:=xW (e:=e) cR (pre.length+1:Nat) s no' (.str []) .unb .unb .unb [] [pr] rfl hok (by unfold cR;have:=S.len;exact lin2 (.t .v2 (.k 1000000)) (.l .v0 (.k 60000)) (.b 2 .v0 .v1) (.d 2 (.w [0,1,1,1]) (.w [0,1,1])) rfl (.n3 _ _ _) this rfl) (by rw [hrest];exact hw)
 obtain ⟨vd,hvd⟩:∃vd,vd=bC0 e i' p' no2 la' m' np' ch':=⟨_,rfl⟩
 obtain ⟨c6,hc6⟩:∃c6,c6=(c5.set (g+1) (.list sk')).set (g+2) (.list bs'):=⟨_,rfl⟩
 refine hGC ?_
 have hst:st2 e i' p' no2 la' m' np' ch' sk' bs'=⟨vd,c6⟩:=by rw [hvd,hc6];rfl
 rw [hst] at s13
 have hv0d:∀c,vr 0 ⟨vd,c⟩= .ok (.inst B.C k) ⟨vd,c⟩:=by intro c;rw [hvd];rfl
 have hv7d:∀c,vr 7 ⟨vd,c⟩= .ok la' ⟨vd,c⟩:=by
  intro c;rw [hvd]
  show (if aN la' then Res.bad else Res.ok la' _)=_
  rw [hla];rfl
 have hv8d:∀c,vr 8 ⟨vd,c⟩= .ok (.cell (g+1)) ⟨vd,c⟩:=by intro c;rw [hvd];rfl
 have hv10d:∀c,vr 10 ⟨vd,c⟩= .ok (.cell (g+2)) ⟨vd,c⟩:=by intro c;rw [hvd];rfl
 have hc5k:c5[k]? =some (.dct 0 vc):=by
  skip
  rw [List.getElem?_append_left (by exact lin3 (.t .v0 .v1) (.t .v0 .v2) (.q .v3 .v2) (.q .v1 (.a .v3 .k1)) (.w [1,1, -1, -1]) rfl (.n4 _ _ _ _) hkl hg hc4l)];exact H4.cell
 have H5:Obj1 B k vc ⟨vd,c6⟩:=⟨by
  skip
  rw [hc6,List.getElem?_set_ne (by exact lin2 (.n (.q (.a .v0 (.k 2)) .v1)) (.t .v1 .v2) (.q .v0 .v2) (.w [1,1, -1]) rfl (.n3 _ _ _) hkl hg),List.getElem?_set_ne (by exact lin2 (.n (.q (.a .v0 .k1) .v1)) (.t .v1 .v2) (.q .v0 .v2) (.w [1,1, -1]) rfl (.n3 _ _ _) hkl hg)];exact hc5k,H4.len⟩
 let vd8:=vc.set 8 la'
 let c7:=c6.set k (.dct 0 vd8)
 have s14:aW B.C 0 8 (vr 7) (vr 0) ⟨vd,c6⟩= .ok .next ⟨vd,c7⟩:=cA (hv0d _) H5 (hv7d _) hla
 have H6:Obj1 B k vd8 ⟨vd,c7⟩:=H5.set
 have hc6a:c6[g+1]? =some (.list sk'):=by
  rw [hc6,List.getElem?_set_ne (by exact lin0 (.n (.q (.a .v0 (.k 2)) (.a .v0 .k1))) (.w [1]) rfl (.n1 _)),List.getElem?_set_self (by exact Q49 (.n2 _ _) hc5l)]
 have hc6b:c6[g+2]? =some (.list bs'):=by
  rw [hc6,List.getElem?_set_self (by rw [List.length_set];exact Q140 (.n2 _ _) hc5l)]
 have cla:∀v,bJ (g+1) ⟨vd,c6.set k (.dct 0 v)⟩=some sk':=by
  intro v;unfold bJ;dsimp only
  rw [List.getElem?_set_ne (by exact lin2 (.n (.q .v0 (.a .v1 .k1))) (.t .v0 .v2) (.q .v1 .v2) (.w [-1,1, -1]) rfl (.n3 _ _ _) hkl hg),hc6a]
 have clb:∀v,bJ (g+2) ⟨vd,c6.set k (.dct 0 v)⟩=some bs':=by
  intro v;unfold bJ;dsimp only
  rw [List.getElem?_set_ne (by exact lin2 (.n (.q .v0 (.a .v1 (.k 2)))) (.t .v0 .v2) (.q .v1 .v2) (.w [-1,1, -1]) rfl (.n3 _ _ _) hkl hg),hc6b]
 have e9:∃v9,aN v9=false∧aP (bnd (vr 8) bO) (itm (vr 8) fR) (aI .none) ⟨vd,c7⟩= .ok v9 ⟨vd,c7⟩:=by
  have ht:bnd (vr 8) bO ⟨vd,c7⟩= .ok (!sk'.isEmpty) ⟨vd,c7⟩:=by
   rw [aB (hv8d _)]
   show (match bJ (g+1) ⟨vd,c6.set k (.dct 0 vd8)⟩ with | some xs=>Res.ok (!xs.isEmpty) _ | none=> .bad)=_
   rw [cla]
  rw [dQ ht]
  cases hsk':sk' with
  | nil=>exact ⟨.none,rfl,rfl⟩
  | cons x r=>
   refine ⟨(x::r).getD r.length .other, ?_, ?_⟩
   ·have:r.length<(x::r).length:=by simp
    rw [List.getD_eq_getElem?_getD,List.getElem?_eq_getElem this]
    exact hsu _ (by rw [hsk'];exact List.getElem_mem this)
   ·show itm (vr 8) fR _=_
    unfold itm dM
    rw [aB (hv8d _),aB (x:=fR) (a:= .int (-1)) rfl]
    unfold bG
    dsimp only
    rw [cla,hsk']
    have e3:seqIndex? (-1) (x::r).length=some r.length:=by
     unfold seqIndex?
     simp
     exact ⟨⟨Q121 (.n1 _),Q122 (.n1 _)⟩,Q123 (.n2 _ _) rfl⟩
    dsimp only
    rw [e3]
 refine cps fun GC hGC=> ?_
 obtain ⟨v9,hv9,e9⟩:=e9
 refine hGC ?_
 let vd9:=vd8.set 9 v9
 let c8:=c7.set k (.dct 0 vd9)
 have s15:aW B.C 0 9 (aP (bnd (vr 8) bO) (itm (vr 8) fR) (aI .none)) (vr 0) ⟨vd,c7⟩= .ok .next ⟨vd,c8⟩:=cA (hv0d _) H6 e9 hv9
 have H7:Obj1 B k vd9 ⟨vd,c8⟩:=H6.set
 have hc8:c8=c6.set k (.dct 0 vd9):=by show (c6.set k _).set k _=_;rw [List.set_set]
 let vd10:=vd9.set 10 .other
 let c9:=c8.set k (.dct 0 vd10)
 have e10:bnd (evL [vr 10]) zO ⟨vd,c8⟩= .ok .other ⟨vd,c8⟩:=by
  have ev:evL [vr 10] ⟨vd,c8⟩= .ok [.cell (g+2)] ⟨vd,c8⟩:=by
   unfold evL;rw [aB (hv10d _)];rfl
  rw [aB ev,hc8]
  rw [aR9 (clb _)]
 have s16:aW B.C 0 10 (bnd (evL [vr 10]) zO) (vr 0) ⟨vd,c8⟩= .ok .next ⟨vd,c9⟩:=cA (hv0d _) H7 e10 rfl
 have run:bW B ⟨v0,cells⟩= .ok .next ⟨vd,c9⟩:=by
  unfold bW
  dsimp only [blk]
  rw [bU s0,aC s1,aC s2,aC s3,aC s4,aC s5,aC s6,bU s7,aC s8,aC (x:=aF 7 (cS "")) s9,aC s10,aC s11,aC s12,aC s13,aC s14,aC s15]
  exact s16
 have hc9:c9=(cells.set k (.dct 0 vd10))++c9.drop cells.length:=by
  have h9:c9=c6.set k (.dct 0 vd10):=by show c8.set k _=_;rw [hc8,List.set_set]
  apply List.ext_getElem?
  intro j
  by_cases hj:j<cells.length
  ·rw [List.getElem?_append_left (by rw [List.length_set];exact hj),h9]
   by_cases hk:j=k
   ·subst hk
    rw [List.getElem?_set_self (by rw [hc6];simp [hc5l];exact lin2 (.t .v0 (.a .v1 (.k 3))) (.q .v1 .v2) (.t .v0 .v2) (.w [1, -1,1]) rfl (.n3 _ _ _) hg hj),List.getElem?_set_self hj]
   ·rw [List.getElem?_set_ne (Ne.symm hk),List.getElem?_set_ne (Ne.symm hk),hc6,List.getElem?_set_ne (by exact lin2 (.n (.q (.a .v0 (.k 2)) .v1)) (.q .v0 .v2) (.t .v1 .v2) (.w [1, -1,1]) rfl (.n3 _ _ _) hg hj),List.getElem?_set_ne (by exact lin2 (.n (.q (.a .v0 .k1) .v1)) (.q .v0 .v2) (.t .v1 .v2) (.w [1, -1,1]) rfl (.n3 _ _ _) hg hj)]
    skip
    rw [List.getElem?_append_left (by exact lin3 (.t .v0 .v1) (.q .v2 .v3) (.q .v1 (.a .v2 .k1)) (.t .v0 .v3) (.w [1, -1, -1,1]) rfl (.n4 _ _ _ _) hg hc4l hj)]
    skip
    rw [List.getElem?_set_ne (Ne.symm hk),List.getElem?_set_ne (Ne.symm hk),List.getElem?_set_ne (Ne.symm hk)]
    skip
    rw [List.getElem?_append_left (by rw [List.length_set];exact hj),List.getElem?_set_ne (Ne.symm hk)]
  ·rw [List.getElem?_append_right (by rw [List.length_set];exact Q8 (.n2 _ _) hj),List.length_set,List.getElem?_drop]
   congr 1;exact lin2 (.q .v0 (.a .v1 .v2)) (.n (.t .v0 .v1)) (.b 2 .v0 .v1) (.b (.d 2 (.w [0,1,1]) (.w [0,1,1,1])) (.d 2 (.w [0, -1,1]) (.w [1, -1,1]))) rfl (.n3 _ _ _) hj rfl
 refine ⟨vd10,c9.drop cells.length, ?_,aD6 h.len hT⟩
 unfold aQ
 rw [hv0,run]
 skip
 rw [←hc9]
end
section
variable {c:Nat}{b:Bool}{pr:Option Nat}
noncomputable def hG:Option Nat→Bool
 | none=>true
 | some d=> !(lit "=<>!").contains d
noncomputable def nR (c:Nat):Bool:=c==40||c==91||c==123||c==41||c==93||c==125||c==34||c==39||c==35
inductive Sc:Nat→Option Nat→List Nat→Option (List Nat)→Prop where
 | nil {lv:Nat}{pr:Option Nat}:Sc lv pr [] none
 | op {lv c:Nat}{pr:Option Nat}{r:List Nat}{o:Option (List Nat)}:(c=40∨c=91∨c=123)→Sc (lv+1) (some c) r o→Sc lv pr (c::r) o
 | cl {lv c:Nat}{pr:Option Nat}{r:List Nat}{o:Option (List Nat)}:(c=41∨c=93∨c=125)→Sc (lv-1) (some c) r o→Sc lv pr (c::r) o
 | st {lv q:Nat}{pr:Option Nat}{r:List Nat}{o:Option (List Nat)}:(q=34∨q=39)→Sc lv ((q::r)[RX.eK q (q::r)-1]?) ((q::r).drop (RX.eK q (q::r))) o→Sc lv pr (q::r) o
 | cm {lv:Nat}{pr:Option Nat}{r:List Nat}:Sc lv pr (35::r) none
 | eq {pr:Option Nat}{d:Nat}{r:List Nat}:hG pr=true→d≠61→Sc 0 pr (61::d::r) (some (61::d::r))
 | ot {lv c:Nat}{pr:Option Nat}{r:List Nat}{o:Option (List Nat)}:nR c=false→(c=61→∃d r',r=d::r'∧¬(lv=0∧hG pr=true∧d≠61))→Sc lv (some c) r o→Sc lv pr (c::r) o
structure S3 where
 C:Addr
 k:Nat
 T:List Nat
 sp:Nat
 en:Nat
 cells:List PCell
noncomputable def st3 (e:S3) (i:Int) (fo:PV) (lv:Nat) (ch:PV):St:=⟨[.inst e.C e.k, .str e.T, .int i, .int e.sp, .int e.en,fo, .int lv,ch],e.cells⟩
variable {e:S3}{i lv:Nat}{fo ch:PV}
noncomputable abbrev eqC:PM Bool:=cX (eqM (vr 6) (cI 0)) (cX (eqM (vr 7) (cS "=")) (cX (orM (eqM (vr 2) (cI 0)) (aA uW (dM bG (vr 1) (aA bH (vr 2) (cI 1))) (cS "=<>!"))) (aA neP (dM bG (vr 1) (aA bA (vr 2) (cI 1))) (cS "="))))
noncomputable def fN:PM Fl:=blk [
  aF 7 (dM bG (vr 1) (vr 2)),
  aP (aA inP (vr 7) (cS "([{")) (blk [bQ 6 1,bQ 2 1])
  (aP (aA inP (vr 7) (cS ")]}")) (blk [aP (bnd (vr 6) bO) (aF 6 (aA bH (vr 6) (cI 1))) (aL .next),bQ 2 1])
  (aP (orM (eqM (vr 7) (cS "\"")) (eqM (vr 7) (cS "'"))) (aF 2 (aH okMat (hY jJ [vr 1,vr 2,vr 4]) [] nK))
  (aP (eqM (vr 7) (cS "#")) (aL .brk)
  (aP eqC
   (blk [aF 5 (cI 1),aL .brk])
   (bQ 2 1)))))]
theorem aO4 (B:Ads):aO5 B=aV cR (aA ltP (vr 2) (vr 4)) fN (aL .next):=rfl
theorem rd3 (hc:e.T[i]? =some c) (hT:e.T.length≤60000):aF 7 (dM bG (vr 1) (vr 2)) (st3 e i fo lv ch)= .ok .next (st3 e i fo lv (.str [c])):=by
 rw [aO (a:= .str [c]) (σ':=st3 e i fo lv ch) (cV (x:=vr 1) (j:=vr 2) (S:=e.T) rfl rfl hc (by unfold aD;exact Q0 (.n1 _) hT)) rfl];rfl
theorem in3 {s:String} (hb:(lit s).contains c=b):aA inP (vr 7) (cS s) (st3 e i fo lv (.str [c]))= .ok b (st3 e i fo lv (.str [c])):=by subst hb;rfl
theorem eq3 {s:String} (hb:([c]==lit s)=b):eqM (vr 7) (cS s) (st3 e i fo lv (.str [c]))= .ok b (st3 e i fo lv (.str [c])):=by subst hb;rfl
theorem or3 (hb:(decide (c=34)||decide (c=39))=b):orM (eqM (vr 7) (cS "\"")) (eqM (vr 7) (cS "'")) (st3 e i fo lv (.str [c]))= .ok b (st3 e i fo lv (.str [c])):=by
 subst hb
 unfold orM
 rw [aB (eq3 (b:=decide (c=34)) (by rw [Bool.eq_iff_iff,beq_iff_eq,decide_eq_true_eq];show [c]=[34]↔_;simp))]
 cases h:decide (c=34)
 ·simp only [Bool.false_eq_true,if_false,Bool.false_or]
  exact eq3 (by rw [Bool.eq_iff_iff,beq_iff_eq,decide_eq_true_eq];show [c]=[39]↔_;simp)
 ·rfl
theorem xQ {d:Nat} (hc:e.T[i]? =some c) (hT:e.T.length≤60000) (hpr:pr=if i=0 then none else e.T[i-1]?) (hd:c=61→e.T[i+1]? =some d):
  eqC (st3 e i fo lv (.str [c]))= .ok (decide (lv=0∧c=61∧hG pr=true∧d≠61)) (st3 e i fo lv (.str [c])):=by
 have b1:eqM (vr 6) (cI 0) (st3 e i fo lv (.str [c]))= .ok (decide (lv=0)) (st3 e i fo lv (.str [c])):=by
  show Res.ok ((lv:Int)==0) _=_
  congr 1
  rw [Bool.eq_iff_iff,beq_iff_eq,decide_eq_true_eq];lia
 have b2:eqM (vr 7) (cS "=") (st3 e i fo lv (.str [c]))= .ok (decide (c=61)) (st3 e i fo lv (.str [c])):=eq3 (by rw [Bool.eq_iff_iff,beq_iff_eq,decide_eq_true_eq];show [c]=[61]↔_;simp)
 unfold eqC cX
 rw [aB b1]
 by_cases h1:lv=0
 ·rw [decide_eq_true h1,if_pos rfl,aB b2]
  by_cases h2:c=61
  ·have hd:=hd h2
   rw [decide_eq_true h2,if_pos rfl]
   have b3:orM (eqM (vr 2) (cI 0)) (aA uW (dM bG (vr 1) (aA bH (vr 2) (cI 1))) (cS "=<>!")) (st3 e i fo lv (.str [c]))= .ok (hG pr) (st3 e i fo lv (.str [c])):=by
    unfold orM
    have e1:eqM (vr 2) (cI 0) (st3 e i fo lv (.str [c]))= .ok (decide (i=0)) (st3 e i fo lv (.str [c])):=by
     show Res.ok ((i:Int)==0) _=_
     congr 1
     rw [Bool.eq_iff_iff,beq_iff_eq,decide_eq_true_eq];lia
    rw [aB e1]
    by_cases h3:i=0
    ·rw [decide_eq_true h3,if_pos rfl,hpr,if_pos h3];rfl
    ·rw [decide_eq_false h3,if_neg (by decide),hpr,if_neg h3]
     have hlt:i-1<e.T.length:=by have:=aM hc;exact lin3 (.t .v2 .v1) (.n (.q .v0 .k0)) (.t .v0 .v1) (.b 2 .v0 .k1) (.d 3 (.w [0,1,1,0,1]) (.w [0,1,1,1,1])) rfl (.n3 _ _ _) h3 this rfl
     have h4:e.T[i-1]? =some e.T[i-1]:=List.getElem?_eq_getElem hlt
     have e2:dM bG (vr 1) (aA bH (vr 2) (cI 1)) (st3 e i fo lv (.str [c]))= .ok (.str [e.T[i-1]]) (st3 e i fo lv (.str [c])):=by
      refine cV (x:=vr 1) (S:=e.T) (i:=i-1) rfl ?_ h4 (by unfold aD;exact Q0 (.n1 _) hT)
      show Res.ok (PV.int ((i:Int)-1)) _=_
      rw [show ((i:Int)-1)=((i-1:Nat):Int) by exact Q106 (.n2 _ _) h3 rfl]
     unfold aA
     rw [h4]
     unfold aA at e2
     rw [aB e2]
     rfl
   rw [aB b3]
   by_cases h5:hG pr=true
   ·rw [h5,if_pos rfl]
    have e3:dM bG (vr 1) (aA bA (vr 2) (cI 1)) (st3 e i fo lv (.str [c]))= .ok (.str [d]) (st3 e i fo lv (.str [c])):=
     cV (x:=vr 1) (S:=e.T) (i:=i+1) rfl rfl hd (by unfold aD;exact Q0 (.n1 _) hT)
    unfold aA
    unfold aA at e3
    rw [aB e3]
    show Res.ok ([d] != lit "=") _=_
    congr 1
    rw [Bool.eq_iff_iff,bne_iff_ne,decide_eq_true_eq]
    show ([d]≠[61])↔_
    simp [h1,h2]
   ·have h5':hG pr=false:=by simpa using h5
    rw [h5',if_neg (by decide)]
    show Res.ok false _=_
    congr 1
    simp
  ·rw [decide_eq_false h2,if_neg (by decide)]
   show Res.ok false _=_
   congr 1
   simp [h2]
 ·rw [decide_eq_false h1,if_neg (by decide)]
  show Res.ok false _=_
  congr 1
  simp [h1]
theorem lt3 {j:Nat}:aA ltP (vr 2) (vr 4) (st3 e j fo lv ch)= .ok (decide (j<e.en)) (st3 e j fo lv ch):=by
 show Res.ok (decide ((j:Int)<(e.en:Int))) _=_
 congr 1
 rw [Bool.eq_iff_iff,decide_eq_true_eq,decide_eq_true_eq];lia
noncomputable abbrev lin (e:S3) (i:Nat):List Nat:=(e.T.take e.en).drop i
theorem eS {r:List Nat} (hen:e.en≤e.T.length) (h:lin e i=c::r):e.T[i]? =some c∧i<e.en∧lin e (i+1)=r:=by
 have h1:(lin e i)[0]? =some c:=by rw [h];rfl
 rw [List.getElem?_drop,Nat.add_zero,List.getElem?_take] at h1
 split at h1
 ·rename_i hi
  refine ⟨h1,hi, ?_⟩
  have:(lin e i).drop 1=r:=by rw [h];rfl
  rw [List.drop_drop] at this
  exact this
 ·cases h1
theorem aK5 (n:Nat):(lin e i).drop n=lin e (i+n):=List.drop_drop
theorem sX (hen:e.en≤e.T.length):(lin e i).length=e.en-i:=by
 rw [List.length_drop,List.length_take];exact lin4 (.q .v4 .v5) (.l .v0 .v1) (.b 5 .v0 .v2) (.b 4 .v3 .v2) (.M 3 .v0 .v1) (.b (.d 2 (.d 5 (.d 8 (.w [0, -1,0, -1,0,1,1]) (.w [0, -1,0, -1,0,1,1,1])) (.d 8 (.w [0, -1,1, -1,0,1,1]) (.w [0, -1,1, -1,0,1,1,1]))) (.w [0,1,1])) (.d 3 (.d 6 (.d 6 (.w [0, -1,0,1,0,1,1]) (.w [1, -1,0,1,0,1,1])) (.d 6 (.w [0, -1,1,1,0,1,1]) (.w [1, -1,1,1,0,1,1]))) (.w [0,1,1]))) rfl (.n6 _ _ _ _ _ _) hen rfl rfl rfl
noncomputable def fV (o:Option (List Nat)):PV:= .int (if o.isSome then 1 else 0)
set_option tactic.hygienic true in
theorem aB4 (hT:e.T.length≤60000) (hen:e.en≤e.T.length) {l:List Nat}{o:Option (List Nat)} (h:Sc lv pr l o):∀(i N:Nat) (ch:PV),lin e i=l→i≤e.en→pr=(if i=0 then none else e.T[i-1]?)→l.length<N→
  ∃i' lv' ch',aV N (aA ltP (vr 2) (vr 4)) fN (aL .next) (st3 e i (.int 0) lv ch)= .ok .next (st3 e (i':Nat) (fV o) lv' ch')∧i'≤e.en∧∀suf,o=some suf→lin e i'=suf:=by
 induction h with
 | nil=>
  intro i N ch hl hi hpr hN
  induction N with
  | zero=>exact (show False from Q1 (.n1 _) hN).elim
  | succ N=>
   have:=sX (i:=i) hen
   rw [hl] at this
   simp at this
   rw [tV (σ1:=st3 e i (.int 0) _ ch) (by rw [lt3,decide_eq_false (by exact lin2 (.n (.t .v0 .v1)) (.q .k0 .v2) (.b 2 .v1 .v0) (.d 2 (.w [0, -1,1, -1]) (.w [1,0,1])) rfl (.n3 _ _ _) this rfl)])]
   exact ⟨i,_,ch,rfl,hi,fun suf hs=>by cases hs⟩
 | op hc h ih=>
  rename_i lv c pr r o
  intro i N ch hl hi hpr hN
  obtain ⟨g1,g2,g3⟩:=eS hen hl
  induction N with
  | zero=>exact (show False from Q1 (.n1 _) hN).elim
  | succ N=>
   have hb:fN (st3 e i (.int 0) lv ch)= .ok .next (st3 e (i+1:Nat) (.int 0) (lv+1) (.str [c])):=by
    unfold fN
    dsimp only [blk]
    rw [aC (rd3 g1 hT),cU (in3 (by rcases hc with rfl | rfl | rfl <;> rfl))]
    rfl
   rw [gO (by rw [lt3,decide_eq_true g2]) (.inr hb)]
   exact ih (i+1) N _ g3 g2 (by rw [if_neg (by exact Q50 (.n1 _))];exact g1.symm) (by simp at hN;exact Q11 (.n2 _ _) hN)
 | cl hc h ih=>
  rename_i lv c pr r o
  intro i N ch hl hi hpr hN
  obtain ⟨g1,g2,g3⟩:=eS hen hl
  induction N with
  | zero=>exact (show False from Q1 (.n1 _) hN).elim
  | succ N=>
   have hb:fN (st3 e i (.int 0) lv ch)= .ok .next (st3 e (i+1:Nat) (.int 0) (lv-1) (.str [c])):=by
    unfold fN
    dsimp only [blk]
    rw [aC (rd3 g1 hT),bC (in3 (by rcases hc with rfl | rfl | rfl <;> rfl)),cU (in3 (by rcases hc with rfl | rfl | rfl <;> rfl))]
    have ht:bnd (vr 6) bO (st3 e i (.int 0) lv (.str [c]))= .ok ((lv:Int) != 0) (st3 e i (.int 0) lv (.str [c])):=rfl
    induction lv with
    | zero=>rfl
    | succ lv=>
     have ht':bnd (vr 6) bO (st3 e i (.int 0) (lv+1) (.str [c]))= .ok true (st3 e i (.int 0) (lv+1) (.str [c])):=by
      rw [ht]
      have:(((lv+1:Nat):Int) != 0)=true:=by rw [bne_iff_ne];exact Q48 (.n1 _)
      rw [this]
     have e1:aF 6 (aA bH (vr 6) (cI 1)) (st3 e i (.int 0) (lv+1) (.str [c]))= .ok .next (st3 e i (.int 0) lv (.str [c])):=by
      show Res.ok Fl.next (St.mk [_,_,_,_,_,_, .int (((lv+1:Nat):Int)-1),_] _)=_
      rw [show (((lv+1:Nat):Int)-1)=(lv:Int) by exact Q22 (.n1 _)];rfl
     rw [aE9 ht' e1]
     rfl
   rw [gO (by rw [lt3,decide_eq_true g2]) (.inr hb)]
   exact ih (i+1) N _ g3 g2 (by rw [if_neg (by exact Q50 (.n1 _))];exact g1.symm) (by simp at hN;exact Q11 (.n2 _ _) hN)
 | st hq h ih=>
  rename_i lv q pr r o
  intro i N ch hl hi hpr hN
  obtain ⟨g1,g2,g3⟩:=eS hen hl
  obtain ⟨n,hn⟩:∃n,n=RX.eK q (q::r):=⟨_,rfl⟩
  obtain ⟨n1,n2⟩:=yG (q:=q) (l:=q::r) (by simp)
  rw [←hn] at n1 n2
  have hll:=sX (i:=i) hen
  rw [hl] at hll
  induction N with
  | zero=>exact (show False from Q1 (.n1 _) hN).elim
  | succ N=>
   have hb:fN (st3 e i (.int 0) lv ch)= .ok .next (st3 e (i+n:Nat) (.int 0) lv (.str [q])):=by
    unfold fN
    dsimp only [blk]
    rw [aC (rd3 g1 hT),bC (in3 (by rcases hq with rfl | rfl <;> rfl)),bC (in3 (by rcases hq with rfl | rfl <;> rfl)),cU (or3 (by rcases hq with rfl | rfl <;> rfl))]
    have m1:hY jJ [vr 1,vr 2,vr 4] (st3 e i (.int 0) lv (.str [q]))= .ok (.mat ((i:Int)+n)) (st3 e i (.int 0) lv (.str [q])):=by
     show dR jJ e.T (i:Int) (e.en:Int) _=_
     unfold dR
     rw [if_pos ⟨by exact Q9 (.n1 _),by exact Q126 (.n2 _ _) g2,by exact Q10 (.n2 _ _) hen,by exact Q25 (.n1 _) hT⟩]
     have e1:(e.T.drop (i:Int).toNat).take ((e.en:Int)-(i:Int)).toNat=q::r:=by
      rw [Int.toNat_natCast,show ((e.en:Int)-(i:Int)).toNat=e.en-i by exact Q127 (.n4 _ _ _ _) g2 rfl rfl, ←hl, ←List.drop_take]
     rw [e1]
     unfold jJ
     simp only [List.head?_cons]
     rw [if_pos hq,hn]
     rfl
    have m2:aH okMat (hY jJ [vr 1,vr 2,vr 4]) [] nK (st3 e i (.int 0) lv (.str [q]))= .ok (.int ((i:Int)+n)) (st3 e i (.int 0) lv (.str [q])):=by
     unfold aH
     rw [aB m1]
     rfl
    rw [aO m2 rfl]
    rfl
   rw [gO (by rw [lt3,decide_eq_true g2]) (.inr hb)]
   rw [←hn] at ih
   refine ih (i+n) N _ (by rw [←aK5,hl]) (lin4 (.l (.a .v0 .v1) .v2) (.l .v1 .v3) (.t .k0 .v1) (.q .v3 .v4) (.b 4 .v2 .v0) (.d 4 (.w [0,1,1,1,0,1]) (.w [0,1,0,1,1,1])) rfl (.n5 _ _ _ _ _) n1 n2 hll rfl) ?_ (by rw [List.length_drop];simp at hN hll ⊢;exact lin3 (.t .v3 .v2) (.t .k0 .v1) (.t .v0 .v2) (.b 3 (.a .v0 .k1) .v1) (.d 3 (.w [0,1,1,1,1]) (.w [0,1,1,0,1])) rfl (.n4 _ _ _ _) n2 hN rfl)
   rw [if_neg (by exact lin1 (.n (.q (.a .v0 .v1) .k0)) (.t .k0 .v1) (.w [1,1]) rfl (.n2 _ _) n2), ←hl,List.getElem?_drop,List.getElem?_take_of_lt (by exact lin5 (.t (.a .v0 .v4) .v2) (.l .v1 .v3) (.t .k0 .v1) (.q .v3 .v5) (.b 4 .v1 .k1) (.b 5 .v2 .v0) (.d 4 (.d 7 (.w [0,1,0,1,1,1,0,1]) (.w [0,1,1,0,0,1,0,1])) (.d 7 (.w [0,1,0,1,1,1,1,1]) (.w [0,1,0,0,0,1,1,1]))) rfl (.n6 _ _ _ _ _ _) n1 n2 hll rfl rfl)]
   congr 1;exact lin3 (.q (.a .v0 .v2) .v3) (.t .k0 .v1) (.b 3 (.a .v0 .v1) .k1) (.b 2 .v1 .k1) (.b (.d 2 (.d 5 (.w [0, -1,0,1,1]) (.w [1, -1,0,1,1])) (.w [0,1,1])) (.d 3 (.d 4 (.w [0, -1,0,1,1]) (.w [1, -1,0,1,1])) (.d 4 (.w [0, -1,0,1,1,1]) (.w [1, -1,0,1,1,1])))) rfl (.n4 _ _ _ _) n2 rfl rfl
 | cm=>
  rename_i lv pr r
  intro i N ch hl hi hpr hN
  obtain ⟨g1,g2,g3⟩:=eS hen hl
  induction N with
  | zero=>exact (show False from Q1 (.n1 _) hN).elim
  | succ N=>
   have hb:fN (st3 e i (.int 0) lv ch)= .ok .brk (st3 e i (.int 0) lv (.str [35])):=by
    unfold fN
    dsimp only [blk]
    rw [aC (rd3 g1 hT),bC (in3 rfl),bC (in3 rfl),bC (or3 rfl),cU (eq3 rfl)]
    rfl
   rw [zL (by rw [lt3,decide_eq_true g2]) hb]
   exact ⟨i,_,_,rfl,hi,fun suf hs=>by cases hs⟩
 | eq hp hd=>
  rename_i pr d r
  intro i N ch hl hi hpr hN
  obtain ⟨g1,g2,g3⟩:=eS hen hl
  obtain ⟨g4,_,_⟩:=eS hen g3
  induction N with
  | zero=>exact (show False from Q1 (.n1 _) hN).elim
  | succ N=>
   have hb:fN (st3 e i (.int 0) 0 ch)= .ok .brk (st3 e i (.int 1) 0 (.str [61])):=by
    unfold fN
    dsimp only [blk]
    rw [aC (rd3 g1 hT),bC (in3 rfl),bC (in3 rfl),bC (or3 rfl),bC (eq3 rfl),cU (by rw [xQ g1 hT hpr (fun z_=>g4),decide_eq_true ⟨rfl,rfl,hp,hd⟩])]
    rfl
   rw [zL (by rw [lt3,decide_eq_true g2]) hb]
   exact ⟨i,_,_,rfl,hi,fun suf hs=>by rw [hl];cases hs;rfl⟩
 | ot hs hc h ih=>
  rename_i lv c pr r o
  intro i N ch hl hi hpr hN
  obtain ⟨g1,g2,g3⟩:=eS hen hl
  have hsp:c≠40∧c≠91∧c≠123∧c≠41∧c≠93∧c≠125∧c≠34∧c≠39∧c≠35:=by
   unfold nR at hs
   simp only [Bool.or_eq_false_iff,beq_eq_false_iff_ne] at hs
   obtain ⟨⟨⟨⟨⟨⟨⟨⟨a1,a2⟩,a3⟩,a4⟩,a5⟩,a6⟩,a7⟩,a8⟩,a9⟩:=hs
   exact ⟨a1,a2,a3,a4,a5,a6,a7,a8,a9⟩
  induction N with
  | zero=>exact (show False from Q1 (.n1 _) hN).elim
  | succ N=>
   have i1:(lit "([{").contains c=false:=by
    show ([40,91,123]:List Nat).contains c=false
    simp;exact ⟨lin1 (.n (.q .v0 (.k 40))) (.n (.q .v0 (.k 40))) (.d 1 (.w [1, -1]) (.w [1,1])) rfl (.n1 _) hsp.1,⟨lin2 (.n (.q .v0 (.k 91))) (.n (.q .v0 (.k 40))) (.n (.q .v0 (.k 91))) (.d 1 (.w [1, -1]) (.d 3 (.w [1,0, -1]) (.w [1,0,1]))) rfl (.n1 _) hsp.1 hsp.2.1,lin3 (.n (.q .v0 (.k 123))) (.n (.q .v0 (.k 40))) (.n (.q .v0 (.k 91))) (.n (.q .v0 (.k 123))) (.d 1 (.w [1, -1]) (.d 3 (.w [1,0, -1]) (.d 5 (.w [1,0,0, -1]) (.w [1,0,0,1])))) rfl (.n1 _) hsp.1 hsp.2.1 hsp.2.2.1⟩⟩
   have i2:(lit ")]}").contains c=false:=by
    show ([41,93,125]:List Nat).contains c=false
    simp;exact ⟨lin3 (.n (.q .v0 (.k 41))) (.n (.q .v0 (.k 40))) (.n (.q .v0 (.k 91))) (.n (.q .v0 (.k 41))) (.d 1 (.w [1, -1]) (.d 3 (.d 5 (.w [1,0,1]) (.w [1,0,0,1])) (.w [1,0,1]))) rfl (.n1 _) hsp.1 hsp.2.1 hsp.2.2.2.1,⟨lin3 (.n (.q .v0 (.k 93))) (.n (.q .v0 (.k 40))) (.n (.q .v0 (.k 91))) (.n (.q .v0 (.k 93))) (.d 1 (.w [1, -1]) (.d 3 (.w [1,0, -1]) (.d 5 (.w [1,0,0, -1]) (.w [1,0,0,1])))) rfl (.n1 _) hsp.1 hsp.2.1 hsp.2.2.2.2.1,lin3 (.n (.q .v0 (.k 125))) (.n (.q .v0 (.k 40))) (.n (.q .v0 (.k 91))) (.n (.q .v0 (.k 125))) (.d 1 (.w [1, -1]) (.d 3 (.w [1,0, -1]) (.d 5 (.w [1,0,0, -1]) (.w [1,0,0,1])))) rfl (.n1 _) hsp.1 hsp.2.1 hsp.2.2.2.2.2.1⟩⟩
   have hf:eqC (st3 e i (.int 0) lv (.str [c]))= .ok false (st3 e i (.int 0) lv (.str [c])):=by
    by_cases h61:c=61
    ·obtain ⟨d,r',hr,hno⟩:=hc h61
     rw [hr] at g3
     obtain ⟨g4,_,_⟩:=eS hen g3
     rw [xQ g1 hT hpr (fun z_=>g4),decide_eq_false (fun hh=>hno ⟨hh.1,hh.2.2⟩)]
    ·rw [xQ (d:=0) g1 hT hpr (fun hh=>absurd hh h61),decide_eq_false (fun hh=>h61 hh.2.1)]
   have hb:fN (st3 e i (.int 0) lv ch)= .ok .next (st3 e (i+1:Nat) (.int 0) lv (.str [c])):=by
    unfold fN
    dsimp only [blk]
    rw [aC (rd3 g1 hT),bC (in3 i1),bC (in3 i2),bC (or3 (by simp;exact ⟨lin3 (.n (.q .v0 (.k 34))) (.n (.q .v0 (.k 40))) (.n (.q .v0 (.k 91))) (.n (.q .v0 (.k 34))) (.d 1 (.d 3 (.d 5 (.w [1,0,0, -1]) (.w [1,0,0,1])) (.w [1,1])) (.w [1,1])) rfl (.n1 _) hsp.1 hsp.2.1 hsp.2.2.2.2.2.2.1,lin3 (.n (.q .v0 (.k 39))) (.n (.q .v0 (.k 40))) (.n (.q .v0 (.k 91))) (.n (.q .v0 (.k 39))) (.d 1 (.d 3 (.d 5 (.w [1,0,0, -1]) (.w [1,0,1])) (.w [1,1])) (.w [1,1])) rfl (.n1 _) hsp.1 hsp.2.1 hsp.2.2.2.2.2.2.2.1⟩)),bC (eq3 (by show ([c]==[35])=false;simp;exact lin3 (.n (.q .v0 (.k 35))) (.n (.q .v0 (.k 40))) (.n (.q .v0 (.k 91))) (.n (.q .v0 (.k 35))) (.d 1 (.d 3 (.d 5 (.w [1,0,0, -1]) (.w [1,0,0,1])) (.w [1,1])) (.w [1,1])) rfl (.n1 _) hsp.1 hsp.2.1 hsp.2.2.2.2.2.2.2.2)),bC hf]
    rfl
   rw [gO (by rw [lt3,decide_eq_true g2]) (.inr hb)]
   exact ih (i+1) N _ g3 g2 (by rw [if_neg (by exact Q50 (.n1 _))];exact g1.symm) (by simp at hN;exact Q11 (.n2 _ _) hN)
end
section
variable {Z y:List Nat}
noncomputable def eO (wd Y:List Nat):Option (List Nat)→Nat
 | some (_::r)=>if cJ r=some none then Y.length-r.length else wd.length
 | _=>wd.length
noncomputable def stW (C:Addr) (k:Nat) (T:List Nat) (i:Int) (a b c d f:PV) (cells:List PCell):St:=⟨[.inst C k, .str T, .int i,a,b,c,d,f],cells⟩
variable {C:Addr}{k:Nat}{T:List Nat}{a b c d f:PV}{cells:List PCell}
theorem aD1 {cond:PM Bool}{g:Nat→Bool} (hc:∀(i ch:Nat),T[i]? =some ch→cond (stW C k T i a b c d f cells)= .ok (g ch) (stW C k T i a b c d f cells)):
  ∀(w:List Nat) (i N:Nat) (e:Nat) (r:List Nat),(∀x∈w,g x=true)→T.drop i=w++e::r→g e=false→w.length<N→
   aV N cond (bQ 2 1) nop (stW C k T i a b c d f cells)= .ok .next (stW C k T (i+w.length:Nat) a b c d f cells)
 | [],i,N,e,r,_,hT,he,hN=>by
  induction N with
  | zero=>exact (show False from Q1 (.n1 _) hN).elim
  | succ N=>
   have h1:T[i]? =some e:=by
    have:(T.drop i)[0]? =some e:=by rw [hT];rfl
    rwa [List.getElem?_drop,Nat.add_zero] at this
   rw [tV (by rw [hc i e h1,he])]
   rfl
 | x::w,i,N,e,r,hw,hT,he,hN=>by
  induction N with
  | zero=>exact (show False from Q1 (.n1 _) hN).elim
  | succ N=>
   have h1:T[i]? =some x:=by
    have:(T.drop i)[0]? =some x:=by rw [hT];rfl
    rwa [List.getElem?_drop,Nat.add_zero] at this
   have h2:T.drop (i+1)=w++e::r:=by rw [←List.drop_drop,hT];rfl
   rw [gO (σ1:=stW C k T i a b c d f cells) (σ2:=stW C k T (i+1:Nat) a b c d f cells) (by rw [hc i x h1,hw x (.head _)]) (.inr rfl)]
   rw [aD1 hc w (i+1) N e r (fun y hy=>hw y (.tail _ hy)) h2 he (by simp at hN;exact Q11 (.n2 _ _) hN)]
   simp only [List.length_cons]
   congr 3;exact Q34 (.n2 _ _)
theorem Sc.len {lv:Nat}{pr:Option Nat}{l:List Nat}{o:Option (List Nat)} (h:Sc lv pr l o):∀suf,o=some suf→suf.length≤l.length:=by
 induction h with
 | nil=>intro suf hs;cases hs
 | op _ _ ih=>intro suf hs;have:=ih suf hs;simp;exact Q21 (.n2 _ _) this
 | cl _ _ ih=>intro suf hs;have:=ih suf hs;simp;exact Q21 (.n2 _ _) this
 | st _ _ ih=>intro suf hs;have:=ih suf hs;rw [List.length_drop] at this;exact lin2 (.l .v0 .v1) (.l .v0 .v3) (.b 3 .v1 .v2) (.d 2 (.w [0,1,1,1]) (.w [0,1,1,1])) rfl (.n4 _ _ _ _) this rfl
 | cm=>intro suf hs;cases hs
 | eq _ _=>intro suf hs;cases hs;exact Nat.le_refl _
 | ot _ _ _ ih=>intro suf hs;have:=ih suf hs;simp;exact Q21 (.n2 _ _) this
theorem aM4 {i:Nat} (hT:T.drop i=y++10::Z) (hy:10∉y):dT T 10 i (T.length-i)=some (i+y.length):=by
 have hg:∀j,j<y.length→T[i+j]? =y[j]? :=fun j hj=>by
  have:(T.drop i)[j]? =(y++10::Z)[j]? :=by rw [hT]
  rwa [List.getElem?_drop,List.getElem?_append_left hj] at this
 have hl:(T.drop i).length=y.length+(Z.length+1):=by rw [hT];simp
 rw [List.length_drop] at hl
 refine lN (Q130 (.n2 _ _)) (lin1 (.t (.a .v0 .v1) (.a .v0 .v3)) (.q .v3 (.a .v1 (.a .v2 .k1))) (.w [1, -1]) rfl (.n4 _ _ _ _) hl) ?_ ?_
 ·have:(T.drop i)[y.length]? =(y++10::Z)[y.length]? :=by rw [hT]
  rw [List.getElem?_drop] at this
  simpa using this
 ·intro j h1 h2 h3
  have:=hg (j-i) (lin3 (.t .v3 .v2) (.l .v1 .v0) (.t .v0 (.a .v1 .v2)) (.b 3 .v0 .v1) (.d 3 (.w [0,1,1,0,1]) (.w [0,1,1,1,1])) rfl (.n4 _ _ _ _) h1 h2 rfl)
  rw [show i+(j-i)=j by exact lin2 (.q (.a .v0 .v2) .v1) (.l .v0 .v1) (.b 2 .v1 .v0) (.b (.d 2 (.w [0, -1,1]) (.w [1, -1,1])) (.d 2 (.w [0,1,1]) (.w [0,1,1,1]))) rfl (.n3 _ _ _) h1 rfl,h3] at this
  exact hy (List.mem_of_getElem? this.symm)
theorem xR {B:Ads}{vals:List PV}{vars:List PV}{cells0:List PCell}{s tab:Nat}{W X wd rr:List Nat}{e0:Nat}{o:Option (List Nat)}
  (hstudy:cG B.C 0 (vr 0) [] (aQ 14 (bW B)) ⟨.inst B.C k::List.replicate 7 .unb,cells0⟩= .ok .none ⟨.inst B.C k::List.replicate 7 .unb,cells⟩)
  (H:Obj1 B k vals ⟨[],cells⟩) (h1:vals[1]? =some (.int tab)) (h2:vals[2]? =some (.str T)) (h5:vals[5]? =some (.int 1)) (h6:vals[6]? =some (.int s)) (htab:0<tab∧tab≤8)
  (hT:T.length≤60000) (hX:T.drop s=W++X) (hW:∀x∈W,x=32∨x=9) (hy:X=y++10::Z) (hny:10∉y) (hhd:∀x,X.head? =some x→x≠32∧x≠9)
  (hwd:y++[10]=wd++e0::rr) (hwn:∀x∈wd,x≠32∧x≠9∧x≠10) (he0:e0=32∨e0=9∨e0=10)
  (hSc:Sc 0 (if s+W.length=0 then none else T[s+W.length-1]?) (y++[10]) o) (hsuf:∀suf,o=some suf→∃c r,suf=c::r):
  aQ 8 (gM B) [.inst B.C k] ⟨vars,cells0⟩= .ok (.int ((aZ tab 0 ((T.drop s).take (W.length+eO wd (y++[10]) o))).length+1)) ⟨vars,cells⟩:=by
 let v0:List PV:= .inst B.C k::List.replicate 7 .unb
 have hv0:cY 8 [.inst B.C k]=v0:=rfl
 have HO:∀vs,Obj1 B k vals ⟨vs,cells⟩:=fun vs=>⟨H.cell,H.len⟩
 have hlen:(T.drop s).length=W.length+(y.length+(Z.length+1)):=by rw [hX,hy];simp
 rw [List.length_drop] at hlen
 have c1:cC (cG B.C 0 (vr 0) [] (aQ 14 (bW B))) ⟨v0,cells0⟩= .ok .next ⟨v0,cells⟩:=iI hstudy
 have c2:bD (eqM (aX B.C 0 5 (vr 0)) (cI 1)) ⟨v0,cells⟩= .ok .next ⟨v0,cells⟩:=by
  refine asT ?_
  show bnd _ _ _=_
  rw [aB (cK (x:=vr 0) rfl (HO _) h5 rfl)]
  rfl
 have c3:aF 1 (aX B.C 0 2 (vr 0)) ⟨v0,cells⟩= .ok .next ⟨v0.set 1 (.str T),cells⟩:=aO (cK (x:=vr 0) rfl (HO _) h2 rfl) rfl
 have c4:aF 2 (aX B.C 0 6 (vr 0)) ⟨v0.set 1 (.str T),cells⟩= .ok .next (stW B.C k T s .unb .unb .unb .unb .unb cells):=aO (cK (x:=vr 0) rfl (HO _) h6 rfl) rfl
 obtain ⟨x0,X',hx0⟩:∃x0 X',X=x0::X':=by
  cases hX':X with
  | nil=>rw [hy] at hX';simp at hX'
  | cons x0 X'=>exact ⟨x0,X',rfl⟩
 have hx0w:=hhd x0 (by rw [hx0];rfl)
 have cnd:∀{st:String}{a b c d f:PV} (i ch:Nat),T[i]? =some ch→aA inP (dM bG (vr 1) (vr 2)) (cS st) (stW B.C k T i a b c d f cells)= .ok ((lit st).contains ch) (stW B.C k T i a b c d f cells):=by
  intro st a b c d f i ch hch
  unfold aA
  rw [aB (cV (x:=vr 1) (j:=vr 2) (S:=T) (i:=i) rfl rfl hch (by unfold aD;exact Q0 (.n1 _) hT))]
  rfl
 have cndn:∀{st:String}{a b c d f:PV} (i ch:Nat),T[i]? =some ch→aA uW (dM bG (vr 1) (vr 2)) (cS st) (stW B.C k T i a b c d f cells)= .ok (!(lit st).contains ch) (stW B.C k T i a b c d f cells):=by
  intro st a b c d f i ch hch
  unfold aA
  rw [aB (cV (x:=vr 1) (j:=vr 2) (S:=T) (i:=i) rfl rfl hch (by unfold aD;exact Q0 (.n1 _) hT))]
  rfl
 let sp:=s+W.length
 have c5:aV cR (aA inP (dM bG (vr 1) (vr 2)) (cS " \t")) (bQ 2 1) nop (stW B.C k T s .unb .unb .unb .unb .unb cells)= .ok .next (stW B.C k T sp .unb .unb .unb .unb .unb cells):=by
  refine aD1 (g:=fun ch=>(lit " \t").contains ch) (fun i ch h=>cnd i ch h) W s cR x0 X' (fun x hx=> ?_) (by rw [hX,hx0]) ?_ (by unfold cR;exact lin3 (.t .v0 (.k 1000000)) (.l .v1 (.k 60000)) (.q .v5 (.a .v0 (.a .v3 (.a .v4 .k1)))) (.b 5 .v1 .v2) (.d 3 (.w [0,1,1,1, -1]) (.w [0,1,1,0, -1])) rfl (.n6 _ _ _ _ _ _) hT hlen rfl)
  ·rcases hW x hx with rfl | rfl <;> rfl
  ·show ([32,9]:List Nat).contains x0=false
   simp;exact ⟨Q141 (.n1 _) hx0w.1,Q142 (.n1 _) hx0w.1 hx0w.2⟩
 have c6:aF 3 (vr 2) (stW B.C k T sp .unb .unb .unb .unb .unb cells)= .ok .next (stW B.C k T sp (.int sp) .unb .unb .unb .unb cells):=rfl
 have hTsp:T.drop sp=y++10::Z:=by
  show T.drop (s+W.length)=_
  rw [←List.drop_drop,hX,List.drop_left,hy]
 let en:=sp+y.length+1
 have c7:aF 4 (aA bA (aH okStr (vr 1) [cS "\n",vr 3] fM) (cI 1)) (stW B.C k T sp (.int sp) .unb .unb .unb .unb cells)= .ok .next (stW B.C k T sp (.int sp) (.int en) .unb .unb .unb cells):=by
  have e1:aH okStr (vr 1) [cS "\n",vr 3] fM (stW B.C k T sp (.int sp) .unb .unb .unb .unb cells)= .ok (.int (toI (dT T 10 (bE T.length sp) (T.length-bE T.length sp)))) (stW B.C k T sp (.int sp) .unb .unb .unb .unb cells):=rfl
  rw [gN,aM4 hTsp hny] at e1
  have e2:aA bA (aH okStr (vr 1) [cS "\n",vr 3] fM) (cI 1) (stW B.C k T sp (.int sp) .unb .unb .unb .unb cells)= .ok (.int en) (stW B.C k T sp (.int sp) .unb .unb .unb .unb cells):=by
   show bnd _ _ _=_
   rw [aB e1]
   rfl
  rw [aO e2 rfl];rfl
 let e:S3:=⟨B.C,k,T,sp,en,cells⟩
 have c8:mX (bF 5) (bF 6) (cI 0) (stW B.C k T sp (.int sp) (.int en) .unb .unb .unb cells)= .ok .next (st3 e sp (.int 0) 0 .unb):=rfl
 have hen:e.en≤e.T.length:=by show sp+y.length+1≤T.length;show s+W.length+y.length+1≤_;exact lin2 (.l (.a (.a (.a .v0 .v1) .v2) .k1) .v3) (.q .v5 (.a .v1 (.a .v2 (.a .v4 .k1)))) (.b 5 .v3 .v0) (.d 2 (.w [0,1,1, -1]) (.w [0,1,0, -1])) rfl (.n6 _ _ _ _ _ _) hlen rfl
 have hlin:lin e sp=y++[10]:=by
  show (T.take en).drop sp=_
  rw [List.drop_take,hTsp,show en-sp=y.length+1 by show sp+y.length+1-sp=_;exact lin1 (.q .v2 (.a .v1 .k1)) (.b 2 (.a (.a .v0 .v1) .k1) .v0) (.b (.d 1 (.w [0, -1,1]) (.w [1, -1,1])) (.d 1 (.w [0,1,1]) (.w [0,1,1]))) rfl (.n3 _ _ _) rfl]
  rw [List.take_append,List.take_of_length_le (by exact Q23 (.n1 _)),show y.length+1-y.length=1 by exact Q134 (.n2 _ _) rfl]
  rfl
 obtain ⟨i',lv',ch',c9,hi',hsf⟩:=aB4 (e:=e) hT hen hSc sp cR .unb hlin (by show sp≤sp+y.length+1;exact lin0 (.l .v0 (.a (.a .v0 .v1) .k1)) (.w [1]) rfl (.n2 _ _)) rfl (by unfold cR;simp;lia)
 have c9':aO5 B (st3 e sp (.int 0) 0 .unb)= .ok .next (st3 e (i':Nat) (fV o) lv' ch'):=by rw [aO4];exact c9
 have wend:∀(j:Int) (fv:PV) (lv:PV) (ch:PV),bnd (vr 5) bO (stW B.C k T j (.int sp) (.int en) fv lv ch cells)= .ok false (stW B.C k T j (.int sp) (.int en) fv lv ch cells)→
   aP (sV (bnd (vr 5) bO)) (blk [aF 2 (vr 3),aV cR (aA uW (dM bG (vr 1) (vr 2)) (cS " \t\n")) (bQ 2 1) (aL .next)]) (aL .next) (stW B.C k T j (.int sp) (.int en) fv lv ch cells)=
    .ok .next (stW B.C k T (sp+wd.length:Nat) (.int sp) (.int en) fv lv ch cells):=by
  intro j fv lv ch hf
  have hn:sV (bnd (vr 5) bO) (stW B.C k T j (.int sp) (.int en) fv lv ch cells)= .ok true (stW B.C k T j (.int sp) (.int en) fv lv ch cells):=by
   unfold sV;rw [aB hf];rfl
  rw [cU hn]
  dsimp only [blk]
  have e1:aF 2 (vr 3) (stW B.C k T j (.int sp) (.int en) fv lv ch cells)= .ok .next (stW B.C k T sp (.int sp) (.int en) fv lv ch cells):=rfl
  rw [aC e1]
  refine aD1 (g:=fun ch=> !(lit " \t\n").contains ch) (fun i ch h=>cndn i ch h) wd sp cR e0 (rr++Z) (fun x hx=> ?_) ?_ ?_ ?_
  ·have:=hwn x hx
   show (!([32,9,10]:List Nat).contains x)=true
   simp;exact ⟨Q141 (.n1 _) this.1,⟨Q142 (.n1 _) this.1 this.2.1,lin3 (.n (.q .v0 (.k 10))) (.n (.q .v0 (.k 32))) (.n (.q .v0 (.k 9))) (.n (.q .v0 (.k 10))) (.d 1 (.d 3 (.w [1,0, -1]) (.d 5 (.w [1,1]) (.w [1,0,0,1]))) (.w [1,1])) rfl (.n1 _) this.1 this.2.1 this.2.2⟩⟩
  ·rw [hTsp,show y++10::Z=(y++[10])++Z by simp,hwd];simp
  ·rcases he0 with rfl | rfl | rfl <;> rfl
  ·have:=congrArg List.length hwd
   simp at this
   unfold cR;lia
 have main:∃fv st',aP (bnd (vr 5) bO) (blk [bQ 2 1,aF 5 (ofB (aA qJ (aH (hJ B.sp) (aI (.glob (.ref B.sp))) [aU (vr 1) (vr 2) (vr 4)] (mG B.sp cJ)) (aI .none)))]) (aL .next) (st3 e (i':Nat) (fV o) lv' ch')= .ok .next st'∧
   aP (sV (bnd (vr 5) bO)) (blk [aF 2 (vr 3),aV cR (aA uW (dM bG (vr 1) (vr 2)) (cS " \t\n")) (bQ 2 1) (aL .next)]) (aL .next) st'= .ok .next (stW B.C k T (sp+eO wd (y++[10]) o:Nat) (.int sp) (.int en) fv (.int lv') ch' cells):=by
  induction o with
  | none=>
   have e1:bnd (vr 5) bO (st3 e (i':Nat) (fV none) lv' ch')= .ok false (st3 e (i':Nat) (fV none) lv' ch'):=rfl
   exact ⟨.int 0,_,(bC e1).trans rfl,wend i' (.int 0) (.int lv') ch' rfl⟩
  | some suf=>
   obtain ⟨c0,r,rfl⟩:=hsuf suf rfl
   have hl:=hsf _ rfl
   obtain ⟨g1,g2,g3⟩:=eS hen hl
   have hlr:r.length=en-(i'+1):=by rw [←g3,sX hen]
   have e1:bnd (vr 5) bO (st3 e (i':Nat) (fV (some (c0::r))) lv' ch')= .ok true (st3 e (i':Nat) (fV (some (c0::r))) lv' ch'):=rfl
   have e2:bQ 2 1 (st3 e (i':Nat) (fV (some (c0::r))) lv' ch')= .ok .next (stW B.C k T (i'+1:Nat) (.int sp) (.int en) (.int 1) (.int lv') ch' cells):=rfl
   have e3:aU (vr 1) (vr 2) (vr 4) (stW B.C k T (i'+1:Nat) (.int sp) (.int en) (.int 1) (.int lv') ch' cells)= .ok (.str r) (stW B.C k T (i'+1:Nat) (.int sp) (.int en) (.int 1) (.int lv') ch' cells):=by
    rw [oP (x:=vr 1) (ja:=vr 2) (jb:=vr 4) (S:=T) (a:=i'+1) (b:=en) rfl rfl rfl (by unfold aD;exact Q0 (.n1 _) hT) (by have:i'<e.en:=g2;have:e.en≤T.length:=hen;exact lin2 (.l (.a .v0 .k1) .v1) (.l .v2 .v1) (.t .v0 .v2) (.w [1,1,1]) rfl (.n3 _ _ _) hen g2)]
    rw [←List.drop_take, ←g3]
   have e4:∀st,mG B.sp cJ [.glob (.ref B.sp), .str r] st=if cJ r=some none then .ok .none st else .ok (.mat (0+(((r.takeWhile RX.bS).length+1:Nat):Int))) st:=by
    intro st
    rw [aU1]
    unfold dR
    rw [if_pos ⟨by exact lin0 (.L .k0 .k0) (.w [1]) rfl .o,by exact lin1 (.L .k0 (.c .v0)) (.q .v0 .v1) (.w [1, -1]) rfl (.n2 _ _) hlr,by exact Q137 (.n1 _),by exact lin4 (.l .v0 (.k 4000000)) (.l .v1 (.k 60000)) (.l .v2 .v1) (.q .v0 .v4) (.b 4 .v2 (.a .v3 .k1)) (.d 4 (.w [0,1,1,1,1,1]) (.w [0,1,1,0,0,1])) rfl (.n5 _ _ _ _ _) hT hen hlr rfl⟩]
    simp only [Int.toNat_zero,List.drop_zero,Int.sub_zero,Int.toNat_natCast,List.take_length]
    unfold cJ
    by_cases hh:(List.dropWhile RX.bS r).head? =some 92
    ·simp only [if_pos hh]
     rw [if_neg (by simp)]
     rfl
    ·simp only [if_neg hh]
     rfl
   have e5:aH (hJ B.sp) (aI (.glob (.ref B.sp))) [aU (vr 1) (vr 2) (vr 4)] (mG B.sp cJ) (stW B.C k T (i'+1:Nat) (.int sp) (.int en) (.int 1) (.int lv') ch' cells)=mG B.sp cJ [.glob (.ref B.sp), .str r] (stW B.C k T (i'+1:Nat) (.int sp) (.int en) (.int 1) (.int lv') ch' cells):=by
    unfold aH
    rw [aB (x:=aI (.glob (.ref B.sp))) (a:= .glob (.ref B.sp)) rfl]
    have:hJ B.sp (.glob (.ref B.sp)) (stW B.C k T (i'+1:Nat) (.int sp) (.int en) (.int 1) (.int lv') ch' cells)=true:=by
     show (B.sp==B.sp)=true
     simp
    rw [if_pos this]
    have ev:evL [aU (vr 1) (vr 2) (vr 4)] (stW B.C k T (i'+1:Nat) (.int sp) (.int en) (.int 1) (.int lv') ch' cells)= .ok [.str r] (stW B.C k T (i'+1:Nat) (.int sp) (.int en) (.int 1) (.int lv') ch' cells):=by
     unfold evL;rw [aB e3];rfl
    rw [aB ev]
   by_cases hs:cJ r=some none
   ·have e6:ofB (aA qJ (aH (hJ B.sp) (aI (.glob (.ref B.sp))) [aU (vr 1) (vr 2) (vr 4)] (mG B.sp cJ)) (aI .none)) (stW B.C k T (i'+1:Nat) (.int sp) (.int en) (.int 1) (.int lv') ch' cells)= .ok (.bool true) (stW B.C k T (i'+1:Nat) (.int sp) (.int en) (.int 1) (.int lv') ch' cells):=by
     rw [e4,if_pos hs] at e5
     have e6':aA qJ (aH (hJ B.sp) (aI (.glob (.ref B.sp))) [aU (vr 1) (vr 2) (vr 4)] (mG B.sp cJ)) (aI .none) (stW B.C k T (i'+1:Nat) (.int sp) (.int en) (.int 1) (.int lv') ch' cells)= .ok true (stW B.C k T (i'+1:Nat) (.int sp) (.int en) (.int 1) (.int lv') ch' cells):=by
      unfold aA
      rw [aB e5]
      rfl
     unfold ofB
     rw [aB e6']
     rfl
    have e7:blk [bQ 2 1,aF 5 (ofB (aA qJ (aH (hJ B.sp) (aI (.glob (.ref B.sp))) [aU (vr 1) (vr 2) (vr 4)] (mG B.sp cJ)) (aI .none)))] (st3 e (i':Nat) (fV (some (c0::r))) lv' ch')= .ok .next (stW B.C k T (i'+1:Nat) (.int sp) (.int en) (.bool true) (.int lv') ch' cells):=by
     dsimp only [blk]
     rw [aC e2,aO e6 rfl];rfl
    refine ⟨.bool true,_,(cU e1).trans e7, ?_⟩
    have e8:sV (bnd (vr 5) bO) (stW B.C k T (i'+1:Nat) (.int sp) (.int en) (.bool true) (.int lv') ch' cells)= .ok false (stW B.C k T (i'+1:Nat) (.int sp) (.int en) (.bool true) (.int lv') ch' cells):=rfl
    rw [bC e8]
    have hcn:eO wd (y++[10]) (some (c0::r))=(y++[10]).length-r.length:=by
     show (if cJ r=some none then _ else _)=_
     rw [if_pos hs]
    rw [hcn]
    have:i'+1=sp+((y++[10]).length-r.length):=by
     have:i'<en:=g2
     rw [hlr];simp
     show i'+1=sp+(y.length+1-(sp+y.length+1-(i'+1)))
     have:sp≤i':=by
      have:=Sc.len hSc _ rfl
      rw [List.length_cons,hlr] at this
      simp at this
      lia
     lia
    rw [this];rfl
   ·have e6:ofB (aA qJ (aH (hJ B.sp) (aI (.glob (.ref B.sp))) [aU (vr 1) (vr 2) (vr 4)] (mG B.sp cJ)) (aI .none)) (stW B.C k T (i'+1:Nat) (.int sp) (.int en) (.int 1) (.int lv') ch' cells)= .ok (.bool false) (stW B.C k T (i'+1:Nat) (.int sp) (.int en) (.int 1) (.int lv') ch' cells):=by
     rw [e4,if_neg hs] at e5
     have e6':aA qJ (aH (hJ B.sp) (aI (.glob (.ref B.sp))) [aU (vr 1) (vr 2) (vr 4)] (mG B.sp cJ)) (aI .none) (stW B.C k T (i'+1:Nat) (.int sp) (.int en) (.int 1) (.int lv') ch' cells)= .ok false (stW B.C k T (i'+1:Nat) (.int sp) (.int en) (.int 1) (.int lv') ch' cells):=by
      unfold aA
      rw [aB e5]
      rfl
     unfold ofB
     rw [aB e6']
     rfl
    have e7:blk [bQ 2 1,aF 5 (ofB (aA qJ (aH (hJ B.sp) (aI (.glob (.ref B.sp))) [aU (vr 1) (vr 2) (vr 4)] (mG B.sp cJ)) (aI .none)))] (st3 e (i':Nat) (fV (some (c0::r))) lv' ch')= .ok .next (stW B.C k T (i'+1:Nat) (.int sp) (.int en) (.bool false) (.int lv') ch' cells):=by
     dsimp only [blk]
     rw [aC e2,aO e6 rfl];rfl
    refine ⟨.bool false,_,(cU e1).trans e7, ?_⟩
    have:eO wd (y++[10]) (some (c0::r))=wd.length:=by
     show (if cJ r=some none then _ else _)=_
     rw [if_neg hs]
    rw [this]
    exact wend (i'+1:Nat) (.bool false) (.int lv') ch' rfl
 obtain ⟨fv,st',main1,main2⟩:=main
 have hcut:eO wd (y++[10]) o≤y.length+1:=by
  have hw:=congrArg List.length hwd
  simp at hw
  unfold eO
  split
  ·split
   ·simp
   ·exact Q143 (.n3 _ _ _) hw
  ·exact Q143 (.n3 _ _ _) hw
 have c12:∀lv ch,mD (aA bA (bnd (evL [aH okStr (aU (vr 1) (aX B.C 0 6 (vr 0)) (vr 2)) [aX B.C 0 1 (vr 0)] vR]) mK) (cI 1)) (stW B.C k T (sp+eO wd (y++[10]) o:Nat) (.int sp) (.int en) fv lv ch cells)=
   .ok (.ret (.int ((aZ tab 0 ((T.drop s).take (W.length+eO wd (y++[10]) o))).length+1))) (stW B.C k T (sp+eO wd (y++[10]) o:Nat) (.int sp) (.int en) fv lv ch cells):=by
  intro lv ch
  obtain ⟨S,hS⟩:∃S,S=stW B.C k T (sp+eO wd (y++[10]) o:Nat) (.int sp) (.int en) fv lv ch cells:=⟨_,rfl⟩
  have r0:vr 0 S= .ok (.inst B.C k) S:=by rw [hS];rfl
  have HS:Obj1 B k vals S:=by rw [hS];exact HO _
  have a6:aX B.C 0 6 (vr 0) S= .ok (.int s) S:=cK r0 HS h6 rfl
  have a1:aX B.C 0 1 (vr 0) S= .ok (.int tab) S:=cK r0 HS h1 rfl
  have sl:aU (vr 1) (aX B.C 0 6 (vr 0)) (vr 2) S= .ok (.str ((T.drop s).take (W.length+eO wd (y++[10]) o))) S:=by
   rw [oP (S:=T) (a:=s) (b:=sp+eO wd (y++[10]) o) (by rw [hS];rfl) a6 (by rw [hS];rfl) (by unfold aD;exact Q0 (.n1 _) hT) (by lia)]
   rw [show sp+eO wd (y++[10]) o-s=W.length+eO wd (y++[10]) o by show s+W.length+_-s=_;exact lin1 (.q .v3 (.a .v1 .v2)) (.b 3 (.a (.a .v0 .v1) .v2) .v0) (.b (.d 1 (.w [0, -1,1]) (.w [1, -1,1])) (.d 1 (.w [0,1,1]) (.w [0,1,1]))) rfl (.n4 _ _ _ _) rfl]
  have ex:aH okStr (aU (vr 1) (aX B.C 0 6 (vr 0)) (vr 2)) [aX B.C 0 1 (vr 0)] vR S= .ok (.str (aZ tab 0 ((T.drop s).take (W.length+eO wd (y++[10]) o)))) S:=by
   unfold aH
   rw [aB sl]
   rw [if_pos (show okStr _ _=true from rfl)]
   have ev:evL [aX B.C 0 1 (vr 0)] S= .ok [.int tab] S:=by
    unfold evL;rw [aB a1];rfl
   rw [aB ev]
   rw [aY5 ⟨by exact Q33 (.n1 _) htab.1,by exact lin1 (.L (.c .v0) (.k 64)) (.l .v0 (.k 8)) (.w [1,1]) rfl (.n1 _) htab.2,by rw [List.length_take,List.length_drop];exact lin3 (.l .v5 (.k 65536)) (.l .v2 (.k 60000)) (.M 5 (.a .v0 .v1) .v4) (.b 4 .v2 .v3) (.d 2 (.d 5 (.w [0,1,1,1,1,1]) (.w [0,1,1,1,1])) (.d 5 (.w [0,1,0,1,1,1]) (.w [0,1,0,1,1]))) rfl (.n6 _ _ _ _ _ _) hT rfl rfl⟩,Int.toNat_natCast]
  have ln:bnd (evL [aH okStr (aU (vr 1) (aX B.C 0 6 (vr 0)) (vr 2)) [aX B.C 0 1 (vr 0)] vR]) mK S= .ok (.int (aZ tab 0 ((T.drop s).take (W.length+eO wd (y++[10]) o))).length) S:=by
   have ev:evL [aH okStr (aU (vr 1) (aX B.C 0 6 (vr 0)) (vr 2)) [aX B.C 0 1 (vr 0)] vR] S= .ok [.str (aZ tab 0 ((T.drop s).take (W.length+eO wd (y++[10]) o)))] S:=by
    unfold evL;rw [aB ex];rfl
   rw [aB ev]
   rw [iO]
   have q1:=gU tab ((T.drop s).take (W.length+eO wd (y++[10]) o)) 0
   have q2:((T.drop s).take (W.length+eO wd (y++[10]) o)).length≤60000:=by rw [List.length_take,List.length_drop];exact lin3 (.l .v5 (.k 60000)) (.l .v2 (.k 60000)) (.M 5 (.a .v0 .v1) .v4) (.b 4 .v2 .v3) (.d 2 (.d 5 (.w [0,1,1,1,1,1]) (.w [0,1,1,1,1])) (.d 5 (.w [0,1,0,1,1,1]) (.w [0,1,0,1,1]))) rfl (.n6 _ _ _ _ _ _) hT rfl rfl
   have q3:=Nat.mul_le_mul q2 (show tab+1≤9 by exact lin1 (.l (.a .v0 .k1) (.k 9)) (.l .v0 (.k 8)) (.w [1,1]) rfl (.n1 _) htab.2)
   unfold aD
   exact lin2 (.l .v0 (.k 1048576)) (.l .v0 .v1) (.l .v1 (.m 60000 (.k 9))) (.w [1,1,1]) rfl (.n2 _ _) q1 q3
  rw [←hS]
  have ad:aA bA (bnd (evL [aH okStr (aU (vr 1) (aX B.C 0 6 (vr 0)) (vr 2)) [aX B.C 0 1 (vr 0)] vR]) mK) (cI 1) S= .ok (.int ((aZ tab 0 ((T.drop s).take (W.length+eO wd (y++[10]) o))).length+1)) S:=by
   unfold aA
   rw [aB ln]
   rfl
  unfold mD
  rw [aB ad]
  rfl
 have run:gM B ⟨v0,cells0⟩= .ok (.ret (.int ((aZ tab 0 ((T.drop s).take (W.length+eO wd (y++[10]) o))).length+1))) (stW B.C k T (sp+eO wd (y++[10]) o:Nat) (.int sp) (.int en) fv (.int lv') ch' cells):=by
  unfold gM
  dsimp only [blk]
  rw [aC c1,aC c2,aC c3,aC c4,aC c5,aC c6,aC c7,aC c8,aC c9',aC main1,aC main2]
  exact c12 _ _
 unfold aQ
 rw [hv0,run]
 rfl
end
inductive M where
 | pl
 | cm
 | s1 (b:Bool) (f:Nat)
 | s3 (b:Bool) (f:Nat)
noncomputable abbrev qu (b:Bool):Nat:=bif b then 34 else 39
noncomputable def M.md:M→Md
 | .pl=> .pl
 | .cm=> .cm
 | .s1 b f=> .st (qu b) 0 f
 | .s3 b f=> .st (qu b) 2 f
noncomputable def aU2 (c:Nat):Bool:=aT c==120&&(RX.cL c&&(!nR c&&(c != 10&&c != 92&&hG (some c))))
noncomputable abbrev ln1 (z:Z):Z:={z with lno:=z.lno+1}
inductive U:Bool→M→Z→List Nat→M→Z→Prop where
 | ord {c:Nat}{z:Z}:aU2 c=true→U false .pl z [c] .pl z
 | cmp {c:Nat}{z:Z}:(c=33∨c=60∨c=61∨c=62)→U false .pl z [c,61] .pl z
 | sg {z:Z}{f:Bool}:(z.level=0→f=true)→U f .pl z [61] .pl z
 | op {c:Nat}{z:Z}:(c=40∨c=91∨c=123)→U false .pl z [c] .pl {z with level:=z.level+1}
 | cl {c:Nat}{z:Z}:(c=41∨c=93∨c=125)→U false .pl z [c] .pl {z with level:=z.level-1}
 | nl {z:Z}:z.level≠0→U true .pl z [10] .pl (ln1 z)
 | bs {z:Z}:U true .pl z [92,10] .pl (ln1 z)
 | q1 {z:Z}{c:Nat} (b:Bool):c≠qu b→c≠10→c≠92→U false .pl z [qu b,c] (.s1 b z.lno) z
 | q3 {z:Z}{c:Nat} (b:Bool):c≠qu b→c≠10→c≠92→U false .pl z [qu b,qu b,qu b,c] (.s3 b z.lno) z
 | cm {z:Z}{c:Nat}:c≠10→U false .pl z [35,c] .cm z
 | cc {c:Nat}{z:Z}:c≠10→U false .cm z [c] .cm z
 | cn {z:Z}:z.level≠0→U true .cm z [10] .pl (ln1 z)
 | c1 {c g:Nat}{z:Z}{b:Bool}:c≠qu b→c≠10→c≠92→U false (.s1 b g) z [c] (.s1 b g) z
 | e1 {g:Nat}{z:Z}{b:Bool}:U false (.s1 b g) z [92,qu b] (.s1 b g) z
 | l1 {g:Nat}{z:Z}{b:Bool}:U true (.s1 b g) z [92,10] (.s1 b g) (ln1 z)
 | n1 {g:Nat}{z:Z}{b:Bool}:z.level≠0→U true (.s1 b g) z [10] .pl (ln1 z)
 | x1 {g:Nat}{z:Z}{b:Bool}:U false (.s1 b g) z [qu b] .pl z
 | c3 {c g:Nat}{z:Z}{b:Bool}:c≠qu b→c≠10→c≠92→U false (.s3 b g) z [c] (.s3 b g) z
 | e3 {g:Nat}{z:Z}{b:Bool}:U false (.s3 b g) z [92,qu b] (.s3 b g) z
 | l3 {g:Nat}{z:Z}{b:Bool}:U true (.s3 b g) z [92,10] (.s3 b g) (ln1 z)
 | n3 {g:Nat}{z:Z}{b:Bool}:U true (.s3 b g) z [10] (.s3 b g) (ln1 z)
 | x3 {g:Nat}{z:Z}{b:Bool}:U false (.s3 b g) z [qu b,qu b,qu b] .pl z
inductive Path (n:Bool):M→Z→List Nat→M→Z→Prop where
 | nil {m:M}{z:Z}:Path n m z [] m z
 | cons {f:Bool}{m m' m'':M}{z z' z'':Z}{d S:List Nat}:(n=true→f=false)→U f m z d m' z'→Path n m' z' S m'' z''→Path n m z (d++S) m'' z''
theorem tf_ord {c:Nat} (h:aU2 c=true):aT c=120:=beq_iff_eq.mp (Bool.and_eq_true_iff.mp h).1
theorem qP {c d:Nat} (hd:d=34∨d=39∨d=92∨d=10) (h:c≠d):aT c≠d:=by
 have k:∀e∈[40,41,120],e≠d:=by rcases hd with rfl | rfl | rfl | rfl <;> decide
 unfold aT
 split
 ·exact k _ (by decide)
 ·split
  ·exact k _ (by decide)
  ·split
   ·exact h
   ·exact k _ (by decide)
theorem tk_ne {w t q:Nat}{r:List Nat} (h:t≠q):¬List.take (w+1) (t::r)=List.replicate (w+1) q:=fun e=>h (List.cons.inj e).1
theorem aF5 {m m':Md}{z z':Z}{c:Nat}{r:List Nat} (h:step m z c r=some (m',z')):run m z (c::r)=run m' z' r:=by
 show (match step m z c r with | some (m',z')=>run m' z' r | none=>none)=_
 rw [h]
theorem rV {b:Bool}{c g w:Nat}{z:Z}{R:List Nat} (h1:c≠qu b) (h2:c≠10) (h3:c≠92):run (.st (qu b) w g) z (aT c::R)=run (.st (qu b) w g) z R:=by
 have e1:=qP (d:=qu b) (by induction b <;> decide) h1
 have e2:=qP (d:=10) (by decide) h2
 have e3:=qP (d:=92) (by decide) h3
 refine aF5 (m:= .st (qu b) w g) ?_
 show (if aT c=120 then _ else _)=_
 by_cases e:aT c=120
 ·rw [if_pos e]
 ·rw [if_neg e,if_neg (tk_ne e1),if_neg e2,if_neg e3]
theorem q_run {b:Bool}{c:Nat}{z:Z}{a:Nat}{R:List Nat} (h1:c≠qu b):run .pl z (qu b::aT c::a::R)=run (.st (qu b) 0 z.lno) z (aT c::a::R):=by
 have e1:=qP (d:=qu b) (by induction b <;> decide) h1
 induction b
 ·exact aF5 (show (if [aT c,a]=[39,39] then _ else _)=_ from if_neg fun e=>e1 (List.cons.inj e).1)
 ·exact aF5 (show (if [aT c,a]=[34,34] then _ else _)=_ from if_neg fun e=>e1 (List.cons.inj e).1)
theorem u_run {f:Bool}{m m':M}{z z':Z}{d R:List Nat} (h:U f m z d m' z') (hR:R≠[]):run m.md z (d.map aT++R)=run m'.md z' R:=by
 obtain ⟨a,R,rfl⟩:=List.exists_cons_of_ne_nil hR
 clear hR
 induction h with
 | @ord c z h=>show run .pl z (aT c::_)=_;rw [tf_ord h];rfl
 | cmp h=>rcases h with rfl | rfl | rfl | rfl <;> rfl
 | sg=>rfl
 | op h=>rcases h with rfl | rfl | rfl <;> rfl
 | cl h=>rcases h with rfl | rfl | rfl <;> rfl
 | @nl z h=>
  show run .pl (nl z) _=_
  unfold nl
  rw [if_neg h];rfl
 | bs=>rfl
 | @q1 z c b h1 h2 h3=>
  have:aT (qu b)=qu b:=by induction b <;> rfl
  show run .pl z (aT (qu b)::aT c::a::R)=_
  rw [this,q_run h1]
  exact rV h1 h2 h3
 | @q3 z c b h1 h2 h3=>
  have:run .pl z (aT (qu b)::aT (qu b)::aT (qu b)::aT c::a::R)=run (.st (qu b) 2 z.lno) z (aT c::a::R):=by induction b <;> rfl
  exact this.trans (rV h1 h2 h3)
 | @cm z c h=>
  show run .cm z (aT c::a::R)=_
  exact aF5 (if_neg (qP (d:=10) (by decide) h))
 | cc h=>
  exact aF5 (if_neg (qP (d:=10) (by decide) h))
 | @cn z h=>
  show run .pl (nl z) _=_
  unfold nl
  rw [if_neg h];rfl
 | @c1 c g z b h1 h2 h3=>exact rV h1 h2 h3
 | @e1 g z b=>induction b <;> rfl
 | @l1 g z b=>induction b <;> rfl
 | @n1 g z b h=>
  have:run (M.s1 b g).md z (10::a::R)=run .pl (nl z) (a::R):=by induction b <;> rfl
  refine this.trans ?_
  unfold nl
  rw [if_neg h];rfl
 | @x1 g z b=>induction b <;> rfl
 | @c3 c g z b h1 h2 h3=>exact rV h1 h2 h3
 | @e3 g z b=>induction b <;> rfl
 | @l3 g z b=>induction b <;> rfl
 | @n3 g z b=>induction b <;> rfl
 | @x3 g z b=>induction b <;> rfl
theorem aG4 {n:Bool}{m m':M}{z z':Z}{S R:List Nat} (h:Path n m z S m' z') (hR:R≠[]):run m.md z (S.map aT++R)=run m'.md z' R:=by
 induction h with
 | nil=>rfl
 | cons _ u _ ih=>
  rw [List.map_append,List.append_assoc,u_run u (by intro e;exact hR (List.append_eq_nil_iff.mp e).2)]
  exact ih
theorem u_z {f:Bool}{m m':M}{z z':Z}{d:List Nat} (h:U f m z d m' z'):z'.lno=z.lno+d.count 10∧z'.good=z.good∧z'.cont=z.cont:=by
 have k:∀c:Nat,c≠10→[c].count 10=0:=fun c h=>by rw [List.count_singleton,if_neg (by simpa using h)]
 have ko:∀c:Nat,aU2 c=true→c≠10:=fun c h e=>by rw [e] at h;cases h
 have kb:∀c:Nat,(c=40∨c=91∨c=123)∨(c=41∨c=93∨c=125)→c≠10:=fun c h=>by rcases h with (rfl | rfl | rfl) | (rfl | rfl | rfl) <;> decide
 induction h with
 | ord h=>rw [k _ (ko _ h)];exact ⟨rfl,rfl,rfl⟩
 | cmp h=>rcases h with rfl | rfl | rfl | rfl <;> exact ⟨rfl,rfl,rfl⟩
 | op h=>rw [k _ (kb _ (.inl h))];exact ⟨rfl,rfl,rfl⟩
 | cl h=>rw [k _ (kb _ (.inr h))];exact ⟨rfl,rfl,rfl⟩
 | @q1 z c b _ h=>rw [show [qu b,c].count 10=[c].count 10 by induction b <;> rfl,k _ h];exact ⟨rfl,rfl,rfl⟩
 | @q3 z c b _ h=>rw [show [qu b,qu b,qu b,c].count 10=[c].count 10 by induction b <;> rfl,k _ h];exact ⟨rfl,rfl,rfl⟩
 | @cm z c h=>rw [show [35,c].count 10=[c].count 10 from rfl,k _ h];exact ⟨rfl,rfl,rfl⟩
 | cc h=>rw [k _ h];exact ⟨rfl,rfl,rfl⟩
 | c1 _ h=>rw [k _ h];exact ⟨rfl,rfl,rfl⟩
 | c3 _ h=>rw [k _ h];exact ⟨rfl,rfl,rfl⟩
 | @e1 g z b=>induction b <;> exact ⟨rfl,rfl,rfl⟩
 | @x1 g z b=>induction b <;> exact ⟨rfl,rfl,rfl⟩
 | @e3 g z b=>induction b <;> exact ⟨rfl,rfl,rfl⟩
 | @x3 g z b=>induction b <;> exact ⟨rfl,rfl,rfl⟩
 | _=>exact ⟨rfl,rfl,rfl⟩
theorem path_z {n:Bool}{m m':M}{z z':Z}{S:List Nat} (h:Path n m z S m' z'):z'.lno=z.lno+S.count 10∧z'.good=z.good∧z'.cont=z.cont:=by
 induction h with
 | nil=>exact ⟨rfl,rfl,rfl⟩
 | cons _ u _ ih=>
  obtain ⟨a,b,c⟩:=u_z u
  rw [ih.1,ih.2.1,ih.2.2,a,b,c,List.count_append,Nat.add_assoc]
  exact ⟨rfl,rfl,rfl⟩
section
variable {f:Bool}{m m':M}{z z':Z}{d R S:List Nat}{lv:Nat}{p:Option Nat}{o:Option (List Nat)}
noncomputable def sn:M→List Nat→Nat
 | .s1 b _,R=>RX.cB (qu b) R
 | .s3 b _,R=>RX.bN (qu b) R
 | _,_=>0
theorem dl (n:Nat):(d++R).drop (d.length+n)=R.drop n:=by rw [←List.drop_drop,List.drop_left]
theorem yJ {q c:Nat} (h1:c≠q) (h2:c≠10) (h3:c≠92):RX.cB q (c::R)=1+RX.cB q R:=by
 conv=>lhs;rw [RX.iX]
 rw [if_neg h3,if_neg h1,if_neg h2]
theorem nT {q c:Nat} (h1:c≠q) (h3:c≠92):RX.bN q (c::R)=1+RX.bN q R:=by
 conv=>lhs;rw [RX.kN]
 rw [if_neg h3,if_neg fun e=>h1 e.1]
theorem aT3 {q:Nat} (h:q≠92):RX.cB q (q::R)=1:=by
 conv=>lhs;rw [RX.iX]
 rw [if_neg h,if_pos rfl]
theorem aT4 {q:Nat} (h:10≠q):RX.cB q (10::R)=0:=by
 conv=>lhs;rw [RX.iX]
 rw [if_neg (by decide),if_neg h,if_pos rfl]
theorem qu_f (b:Bool):qu b=34∨qu b=39:=by induction b <;> decide
theorem aT7 (b:Bool):qu b≠92∧115≠qu b∧10≠qu b:=by induction b <;> decide
theorem rR (h:U f m z d m' z') (hs:m≠ .pl) (hc:m≠ .cm) (hn:m'= .pl→f=false):sn m (d++R)=d.length+sn m' R:=by
 induction h with
 | c1 h1 h2 h3=>exact yJ h1 h2 h3
 | @e1 g z b=>induction b <;> rfl
 | l1=>rfl
 | x1=>exact aT3 (aT7 _).1
 | c3 h1 h2 h3=>exact nT h1 h3
 | @e3 g z b=>induction b <;> rfl
 | l3=>rfl
 | n3=>exact nT (aT7 _).2.2 (by decide)
 | @x3 g z b=>induction b <;> (show RX.bN _ (_::_::_::R)=3;rfl)
 | n1=>exact absurd (hn rfl) (by decide)
 | cc=>exact absurd rfl hc
 | cn=>exact absurd rfl hc
 | _=>exact absurd rfl hs
def C2 (R:List Nat):Prop:=∃a b,R=a++10::b∧(∀x∈a,x≠10)∧W2 b
noncomputable def W2r:M→List Nat→Prop
 | .cm,R=>C2 R
 | m,R=>W2 (R.drop (sn m R))
theorem q1_eq {c:Nat} (b:Bool) (h1:c≠qu b) (h2:c≠10) (h3:c≠92):RX.eK (qu b) (qu b::c::R)=2+RX.cB (qu b) R:=by
 have:RX.eK (qu b) (qu b::c::R)=1+RX.cB (qu b) (c::R):=if_neg fun e=>h1 (List.cons.inj (List.cons.inj e).2).1
 rw [this,yJ h1 h2 h3, ←Nat.add_assoc]
theorem q3_eq {c:Nat} (b:Bool) (h1:c≠qu b) (h3:c≠92):RX.eK (qu b) (qu b::qu b::qu b::c::R)=4+RX.bN (qu b) R:=by
 have:RX.eK (qu b) (qu b::qu b::qu b::c::R)=3+RX.bN (qu b) (c::R):=if_pos rfl
 rw [this,nT h1 h3, ←Nat.add_assoc]
theorem kJ (e:sn m (d++R)=d.length+sn m' R) (hw:W2 (R.drop (sn m' R))):W2 ((d++R).drop (sn m (d++R))):=by rw [e,dl];exact hw
theorem w2_q {q:Nat} (hq:q=34∨q=39) (e:RX.eK q (q::d++R)=(q::d).length+sn m' R) (hw:W2 (R.drop (sn m' R))):W2 (q::d++R):=
 .str hq (show W2 ((q::d++R).drop (RX.eK q (q::d++R))) by rw [e,dl];exact hw)
theorem u_w2 (h:U f m z d m' z') (hw:W2r m' R):W2r m (d++R):=by
 induction h with
 | ord h=>exact .ord (Bool.and_eq_true_iff.mp (Bool.and_eq_true_iff.mp h).2).1 hw
 | cmp h=>rcases h with rfl | rfl | rfl | rfl <;> exact .ord rfl (.ord rfl hw)
 | sg=>exact .ord rfl hw
 | op h=>exact .br (h.imp_right fun h=>h.imp_right .inl) hw
 | cl h=>exact .br (.inr (.inr (.inr h))) hw
 | nl h=>exact .ord rfl hw
 | bs=>exact .bs hw
 | @q1 z c b h1 h2 h3=>exact w2_q (d:=[c]) (qu_f b) (m':= .s1 b z.lno) (q1_eq b h1 h2 h3) hw
 | @q3 z c b h1 h2 h3=>exact w2_q (d:=[_,_,c]) (qu_f b) (m':= .s3 b z.lno) (q3_eq b h1 h3) hw
 | @cm z c h=>obtain ⟨a,b,e,h1,h2⟩:=hw;rw [e];exact .cm (a:=c::a) (fc h h1) h2
 | cc h=>obtain ⟨a,b,e,h1,h2⟩:=hw;rw [e];exact ⟨_::a,b,rfl,fc h h1,h2⟩
 | cn h=>exact ⟨[],R,rfl,fn,hw⟩
 | n1 h=>show W2 ((10::R).drop (RX.cB _ (10::R)));rw [aT4 (aT7 _).2.2];exact .ord rfl hw
 | @c1 c g z b h1 h2 h3=>exact kJ (rR (.c1 h1 h2 h3 (z:=z)) nofun nofun nofun) hw
 | @e1 g z b=>exact kJ (rR (.e1 (z:=z)) nofun nofun nofun) hw
 | @l1 g z b=>exact kJ (rR (.l1 (z:=z)) nofun nofun nofun) hw
 | @x1 g z b=>exact kJ (rR (.x1 (z:=z)) nofun nofun fun z_=>rfl) hw
 | @c3 c g z b h1 h2 h3=>exact kJ (rR (.c3 h1 h2 h3 (z:=z)) nofun nofun nofun) hw
 | @e3 g z b=>exact kJ (rR (.e3 (z:=z)) nofun nofun nofun) hw
 | @l3 g z b=>exact kJ (rR (.l3 (z:=z)) nofun nofun nofun) hw
 | @n3 g z b=>exact kJ (rR (.n3 (z:=z)) nofun nofun nofun) hw
 | @x3 g z b=>exact kJ (rR (.x3 (z:=z)) nofun nofun fun z_=>rfl) hw
theorem aU0 {n:Bool} (h:Path n m z S m' z') (hw:W2r m' R):W2r m (S++R):=by
 induction h with
 | nil=>exact hw
 | cons _ u _ ih=>rw [List.append_assoc];exact u_w2 u (ih hw)
end
section
variable {b:Bk}{v:List PV}{t y:List Nat}{e:PM PV}{pv:PV}{σ:St}{j:Nat}
theorem aN7 (hx:e σ= .ok (.str y) σ) (hl:y.length≤60000):cD e σ= .ok (.int y.length) σ:=by
 have:evL [e] σ= .ok [.str y] σ:=by unfold evL;rw [aB hx];rfl
 unfold cD
 rw [aB this,iO (Nat.le_trans hl (by decide))]
theorem ev_hd (hx:e σ= .ok (.str y) σ) (hn:y≠[]) (hl:y.length≤60000):itm e (cI 0) σ= .ok (.str (y.take 1)) σ:=by
 obtain ⟨c,r,rfl⟩:=List.exists_cons_of_ne_nil hn
 exact cV (i:=0) hx rfl rfl (Nat.le_trans hl (by decide))
theorem aY6 {ja:PM PV}{a:Nat} (hx:e σ= .ok (.str y) σ) (ha:ja σ= .ok (.int a) σ) (hal:a≤y.length) (hl:y.length≤60000):aU e ja (aI .none) σ= .ok (.str (y.drop a)) σ:=by
 unfold aU
 rw [aB hx,aB ha,aB (x:=aI .none) (a:= .none) rfl]
 have:oN (.str y) (.int a) .none=some (.str (eL y (some a) none)):=if_pos (Nat.le_trans hl (by decide))
 rw [this]
 show Res.ok (PV.str (eL y (some (a:Int)) none)) σ=_
 unfold eL
 dsimp only
 rw [lR,Nat.min_eq_left hal,List.take_of_length_le (by rw [List.length_drop];exact Nat.le_refl _)]
theorem ev_eqT {x:PM PV}{u w:List Nat} (hx:e σ= .ok (.str u) σ) (hy:x σ= .ok (.str w) σ) (h:u=w):eqM e x σ= .ok true σ:=by
 unfold eqM aA
 rw [aB hx,aB hy,h]
 show Res.ok (w==w) σ=_
 rw [beq_self_eq_true]
theorem ev_eqF {x:PM PV}{u w:List Nat} (hx:e σ= .ok (.str u) σ) (hy:x σ= .ok (.str w) σ) (h:u≠w):eqM e x σ= .ok false σ:=by
 unfold eqM aA
 rw [aB hx,aB hy]
 show Res.ok (u==w) σ=_
 rw [beq_eq_false_iff_ne.mpr h]
theorem aY7 {x y:PM Bool} (hx:x σ= .ok false σ):cX x y σ= .ok false σ:=by unfold cX;rw [aB hx];rfl
theorem yW {x y:PM Bool}{q:Bool} (hx:x σ= .ok true σ) (hy:y σ= .ok q σ):cX x y σ= .ok q σ:=by unfold cX;rw [aB hx];exact hy
theorem ev_ne (hx:e σ= .ok (.str y) σ):aA neP e (cS "") σ= .ok (decide (y≠[])) σ:=by
 unfold aA
 rw [aB hx]
 induction y <;> rfl
end
section
variable {b:Bk}{v:List PV}{t y:List Nat}{e:PM PV}{pv:PV}{σ:St}{j:Nat}
end
section
variable {b:Bk}{S d L P R:List Nat}{zs z z':Z}{m m':M}{sg:Option Nat}
theorem nin {a c:List Nat}{x:Nat} (h:x∉a) (h':x∉c):x∉a++c:=fun e=>(List.mem_append.mp e).elim h h'
variable {b:Bk}
end
section
variable {b:Bk}{t S d P R:List Nat}{zs z z':Z}{m m':M}{sg:Option Nat}
end
section
variable {b:Bk}{S d L P R T:List Nat}{zs z z':Z}{m m':M}{sg:Option Nat}{n:Bool}
theorem aX0 {p k:Nat}{cur Z:List Nat} (hT:T=P++(cur++10::Z)) (h10:10∉cur) (hP:P=[]∨P.getLast? =some 10) (h:Lines T p P.length k):Lines T p (P++(cur++[10])).length (k+1):=by
 have hl:(P++(cur++[10])).length=P.length+cur.length+1:=by rw [List.length_append,List.length_append,Nat.add_assoc];rfl
 rw [hl]
 refine .line h (lin0 (.t (.v 0) (.a (.a (.v 0) (.v 1)) (.k 1))) (.w [1]) rfl (.n _ (.n _ .o))) ?_ (fun a h1 h2 e=> ?_) ?_ ?_
 ·rw [Nat.add_sub_cancel,hT,List.getElem?_append_right (Nat.le_add_right _ _),Nat.add_sub_cancel_left,List.getElem?_append_right (Nat.le_refl _),Nat.sub_self];rfl
 ·rw [Nat.add_sub_cancel] at h2
  rw [hT,List.getElem?_append_right h1,List.getElem?_append_left (by exact lin3 (.t (.v 3) (.v 2)) (.l (.v 1) (.v 0)) (.t (.v 0) (.a (.v 1) (.v 2))) (.b 3 (.v 0) (.v 1)) (.d 3 (.w [0,1,1,0,1]) (.w [0,1,1,1,1])) rfl (.n _ (.n _ (.n _ (.n _ .o)))) h1 h2 rfl)] at e
  exact h10 (List.mem_of_getElem? e)
 ·rcases hP with rfl | hP
  ·exact .inl rfl
  ·have hp:0<P.length:=List.length_pos_iff.mpr fun e=>by rw [e] at hP;cases hP
   refine .inr ⟨hp, ?_⟩
   rw [hT,List.getElem?_append_left (Nat.sub_lt hp Nat.one_pos), ←List.getLast?_eq_getElem?];exact hP
 ·rw [hT,List.length_append,List.length_append];show _≤P.length+(cur.length+(Z.length+1));exact lin0 (.l (.a (.a (.v 0) (.v 1)) (.k 1)) (.a (.v 0) (.a (.v 1) (.a (.v 2) (.k 1))))) (.w [1]) rfl (.n _ (.n _ (.n _ .o)))
theorem pH {p:Nat}:∀(S P cur:List Nat) (k:Nat),T=P++(cur++S)→10∉cur→(P=[]∨P.getLast? =some 10)→Lines T p P.length k→(S.getLast? =some 10∨(S=[]∧cur=[]))→Lines T p T.length (k+S.count 10)
 | [],P,cur,k,hT,_,_,h,he=>by
  rcases he with he | he
  ·cases he
  ·have e:T=P:=by rw [hT,he.2,List.append_nil,List.append_nil]
   rw [e] at h ⊢;exact h
 | c::S,P,cur,k,hT,h10,hP,h,he=>by
  have hS:c≠10∨¬S=[]→S.getLast? =some 10:=fun q=>by
   rcases he with he | he
   ·induction S with
    | nil=>cases he;exact absurd rfl (q.resolve_right fun q=>q rfl)
    | cons x r=>exact he
   ·cases he.1
  by_cases hc:c=10
  ·subst hc
   have:=pH S (P++(cur++[10])) [] (k+1) (by rw [hT,List.append_assoc,List.append_assoc];rfl) nofun (.inr (by rw [List.getLast?_append,List.getLast?_append];rfl)) (aX0 hT h10 hP h) (by
    by_cases e:S=[]
    ·exact .inr ⟨e,rfl⟩
    ·exact .inl (hS (.inr e)))
   rw [List.count_cons_self,show k+(S.count 10+1)=k+1+S.count 10 by exact lin0 (.q (.a (.v 0) (.a (.v 1) (.k 1))) (.a (.a (.v 0) (.k 1)) (.v 1))) (.b (.w [1]) (.w [1])) rfl (.n _ (.n _ .o))]
   exact this
  ·have:=pH S P (cur++[c]) k (by rw [hT,List.append_assoc];rfl) (nin h10 fun e=>hc (List.mem_singleton.mp e).symm) hP h (.inl (hS (.inl hc)))
   rw [List.count_cons_of_ne (by simpa using hc)]
   exact this
end
end PT
end _M
end
section
open PySem Builtin Builtin.Str StrLaws
namespace _M
namespace PT
section
variable {W wd r l y:List Nat}{e0:Nat}
noncomputable def cH:List Nat→List (List Nat)×List Nat→List (List Nat)×List Nat
 | [],st=>st
 | c::l,st=>cH l (if Unicode.isSpace c=true then (if st.2=[] then st else (st.1++[st.2],[])) else (st.1,st.2++[c]))
theorem aD0 (l:List Nat):dF l=(let q:=cH l ([],[]);if q.2=[] then q.1 else q.1++[q.2]):=by
 have key:∀(l:List Nat) (st:KWd.St) (q:List (List Nat)×List Nat),st.1.map (fun x=>x.cps.toList)=q.1→st.2.cps.toList=q.2→
   (List.foldl KWd.step st l).1.map (fun x=>x.cps.toList)=(cH l q).1∧(List.foldl KWd.step st l).2.cps.toList=(cH l q).2:=by
  intro l
  induction l with
  | nil=>exact fun z_ z_ h1 h2=>⟨h1,h2⟩
  | cons c l ih=>
   intro st q h1 h2
   have h0:st.2.length=0↔q.2=[]:=by rw [←h2];show st.2.cps.size=0↔_;simp
   refine ih _ _ ?_ ?_
   ·unfold KWd.step
    by_cases hs:Unicode.isSpace c=true
    ·rw [if_pos hs,if_pos hs]
     by_cases he:q.2=[]
     ·rw [if_pos he,if_pos (h0.mpr he)];exact h1
     ·rw [if_neg he,if_neg (fun e=>he (h0.mp e)),List.map_append,h1, ←h2];rfl
    ·rw [if_neg hs,if_neg hs];exact h1
   ·unfold KWd.step
    by_cases hs:Unicode.isSpace c=true
    ·rw [if_pos hs,if_pos hs]
     by_cases he:q.2=[]
     ·rw [if_pos he,if_pos (h0.mpr he)];exact h2
     ·rw [if_neg he,if_neg (fun e=>he (h0.mp e))];rfl
    ·rw [if_neg hs,if_neg hs,Str.cps_append,Array.toList_append,h2]
 have hw:dF l=(KWd.fin (KWd.scan ⟨l.toArray⟩)).map fun x=>x.cps.toList:=by
  unfold dF Txt.words
  have hx:=KWd.wordsOf_scan ⟨l.toArray⟩
  split
  ·rename_i h
   rw [eq_of_beq h] at hx
   rw [←hx]
   show [l]=[(strSub ⟨l.toArray⟩ 0 (⟨l.toArray⟩:PySem.Str).length).cps.toList]
   rw [strSub_toList]
   simp [PySem.Str.length]
  ·rw [←hx];rfl
 obtain ⟨k1,k2⟩:=key l ([],Str.empty) ([],[]) rfl rfl
 rw [hw]
 unfold KWd.fin KWd.scan
 have h0:(List.foldl KWd.step ([],Str.empty) l).2.length=0↔(cH l ([],[])).2=[]:=by rw [←k2];show Array.size _=0↔_;simp
 show List.map _ (if (List.foldl KWd.step ([],Str.empty) l).2.length=0 then _ else _)=_
 by_cases he:(cH l ([],[])).2=[]
 ·rw [if_pos (h0.mpr he),if_pos he];exact k1
 ·rw [if_neg (fun e=>he (h0.mp e)),if_neg he,List.map_append, ←k1, ←k2];rfl
theorem oC (a b:List Nat) (st:List (List Nat)×List Nat):cH (a++b) st=cH b (cH a st):=by
 induction a generalizing st with
 | nil=>rfl
 | cons c a ih=>exact ih _
theorem rQ (h:∀c∈W,Unicode.isSpace c=true) (ws:List (List Nat)):cH W (ws,[])=(ws,[]):=by
 induction W with
 | nil=>rfl
 | cons c W ih=>
  show cH W (if Unicode.isSpace c=true then _ else _)=_
  rw [if_pos (h c (.head _)),if_pos rfl]
  exact ih fun x hx=>h x (.tail _ hx)
theorem tU (h:∀c∈wd,Unicode.isSpace c=false) (ws:List (List Nat)):∀run,cH wd (ws,run)=(ws,run++wd):=by
 induction wd with
 | nil=>intro run;rw [List.append_nil];rfl
 | cons c w ih=>
  intro run
  show cH w (if Unicode.isSpace c=true then _ else _)=_
  rw [if_neg (by rw [h c (.head _)];decide),ih (fun x hx=>h x (.tail _ hx)),List.append_assoc];rfl
theorem wK (l:List Nat):∀(x:List Nat) (ws:List (List Nat)) run,∃ws' run',cH l (x::ws,run)=(x::ws',run'):=by
 induction l with
 | nil=>exact fun x ws run=>⟨ws,run,rfl⟩
 | cons c l ih=>
  intro x ws run
  show ∃ws' run',cH l (if Unicode.isSpace c=true then (if run=[] then (x::ws,run) else (x::(ws++[run]),[])) else (x::ws,run++[c]))=_
  by_cases h1:Unicode.isSpace c=true
  ·rw [if_pos h1]
   by_cases h2:run=[]
   ·rw [if_pos h2];exact ih _ _ _
   ·rw [if_neg h2];exact ih _ _ _
  ·rw [if_neg h1];exact ih _ _ _
theorem wL (l:List Nat):∀st,(cH l st).1.length≤st.1.length+l.length:=by
 induction l with
 | nil=>exact fun st=>Nat.le_refl _
 | cons c l ih=>
  intro st
  refine Nat.le_trans (ih _) ?_
  rw [List.length_cons,Nat.add_comm l.length, ←Nat.add_assoc]
  refine Nat.add_le_add_right ?_ _
  split
  ·split
   ·exact Nat.le_succ _
   ·rw [List.length_append];exact Nat.le_refl _
  ·exact Nat.le_succ _
theorem aC9 (hW:∀c∈W,Unicode.isSpace c=true) (hw:∀c∈wd,Unicode.isSpace c=false) (he:Unicode.isSpace e0=true) (hn:wd≠[]):
  (dF (W++(wd++e0::r)))[0]? =some wd∧(dF (W++(wd++e0::r))).length≤(W++(wd++e0::r)).length+1:=by
 have hlen:=wL (W++(wd++e0::r)) ([],[])
 rw [aD0]
 dsimp only
 refine ⟨?_, ?_⟩
 ·rw [oC,rQ hW,oC,tU hw]
  have e1:cH (e0::r) ([],[]++wd)=cH r ([wd],[]):=by
   show cH r (if Unicode.isSpace e0=true then (if wd=[] then _ else _) else _)=_
   rw [if_pos he,if_neg hn];rfl
  rw [e1]
  obtain ⟨a,b,e⟩:=wK r wd [] []
  rw [e]
  split <;> rfl
 ·split
  ·exact Nat.le_trans (Nat.le_trans hlen (by rw [List.length_nil,Nat.zero_add];exact Nat.le_refl _)) (Nat.le_succ _)
  ·rw [List.length_append]
   exact Nat.succ_le_succ (Nat.le_trans hlen (by rw [List.length_nil,Nat.zero_add];exact Nat.le_refl _))
theorem uH (x z:PySem.Str) (hi:Nat):∀(L:List Nat) (st:Array Nat×Nat),0<st.1.size→(forIn L st (occBody x z hi 1)).run.fst=st.1
 | [],_,_=>rfl
 | a::L,st,h=>by
  rw [List.forIn_cons]
  unfold occBody
  rw [if_neg fun e=>absurd e.1.1.1 (Nat.not_lt.mpr h)]
  exact uH x z hi L st h
theorem occ_first (x z:PySem.Str) (hi k:Nat) (hk:k+z.length≤hi) (hs:subAt x z k=true):∀(m p:Nat),p≤k→k<p+m→(∀i,p≤i→i<k→subAt x z i=false)→
  (forIn (List.range' p m) ((#[]:Array Nat),0) (occBody x z hi 1)).run.fst.toList=[k]
 | 0,p,h1,h2,_=>absurd h2 (Nat.not_lt.mpr h1)
 | m+1,p,h1,h2,h3=>by
  rw [List.range'_succ,List.forIn_cons]
  unfold occBody
  by_cases hp:p=k
  ·subst hp
   rw [if_pos ⟨⟨⟨by decide,Nat.zero_le _⟩,hk⟩,hs⟩]
   show (forIn _ (#[].push p,_) (occBody x z hi 1)).run.fst.toList=_
   rw [uH _ _ _ _ _ (by simp)]
   rfl
  ·rw [if_neg fun e=>by rw [h3 p (Nat.le_refl _) (Nat.lt_of_le_of_ne h1 hp)] at e;cases e.2]
   exact occ_first x z hi k hk hs m (p+1) (Nat.lt_of_le_of_ne h1 hp) (lin1 (.t (.v 0) (.a (.a (.v 1) (.k 1)) (.v 2))) (.t (.v 0) (.a (.v 1) (.a (.v 2) (.k 1)))) (.w [1,1]) rfl (.n _ (.n _ (.n _ .o))) h2) fun i q1 q2=>h3 i (Nat.le_of_succ_le q1) q2
theorem idx_hd (hW:∀c∈W,Unicode.isSpace c=true) (hw:∀c∈wd,Unicode.isSpace c=false) (hn:wd≠[]):pN (W++(wd++r)) wd=some W.length:=by
 obtain ⟨c,w,rfl⟩:=List.exists_cons_of_ne_nil hn
 have hsub:∀i,subAt ⟨(W++(c::w++r)).toArray⟩ ⟨(c::w).toArray⟩ i=(((W++(c::w++r)).drop i).take (c::w).length==c::w):=fun i=>by rw [StrLaws.subAt_eq,bP]
 unfold pN
 rw [StrLaws.occ_eq]
 have:=occ_first ⟨(W++(c::w++r)).toArray⟩ ⟨(c::w).toArray⟩ (⟨(W++(c::w++r)).toArray⟩:PySem.Str).length W.length (by rw [bP,bP,List.length_append,List.length_append];exact lin0 (.l (.a (.v 0) (.v 1)) (.a (.v 0) (.a (.v 1) (.v 2)))) (.w [1]) rfl (.n _ (.n _ (.n _ .o))))
  (by rw [hsub,List.drop_left,List.take_left];exact beq_self_eq_true _) ((⟨(W++(c::w++r)).toArray⟩:PySem.Str).length+1-0) 0 (Nat.zero_le _) (by rw [bP,List.length_append];exact lin1 (.t (.v 0) (.a (.k 0) (.v 2))) (.b 2 (.a (.a (.v 0) (.v 1)) (.k 1)) (.k 0)) (.d 1 (.w [0, -1,1]) (.w [1, -1,1])) rfl (.n _ (.n _ (.n _ .o))) rfl) fun i z_ h=>by
   rw [hsub,beq_eq_false_iff_ne]
   intro e
   rw [List.drop_append_of_le_length (Nat.le_of_lt h),List.drop_eq_getElem_cons h] at e
   have:=hW W[i] (List.getElem_mem h)
   rw [(List.cons.inj e).1,hw c (.head _)] at this
   cases this
 rw [this];rfl
end
end PT
end _M
end
section
open PySem
namespace _M
namespace PT
section
variable {b:Bk}{S d L P R T W wd:List Nat}{zs z z':Z}{m m':M}{sg:Option Nat}{n:Bool}
structure Geo (T:List Nat) (s:Nat) (W wd:List Nat) (cut:Nat):Prop where
 g:∃X y Z e0 rr o,T.drop s=W++X∧(∀x∈W,x=32∨x=9)∧X=y++10::Z∧10∉y∧(∀x,X.head? =some x→x≠32∧x≠9)∧y++[10]=wd++e0::rr∧(∀x∈wd,x≠32∧x≠9∧x≠10)∧(e0=32∨e0=9∨e0=10)∧
  Sc 0 (if s+W.length=0 then none else T[s+W.length-1]?) (y++[10]) o∧(∀suf,o=some suf→∃c r,suf=c::r)∧cut=W.length+eO wd (y++[10]) o
end
section
variable {b:Bk}{S P T:List Nat}{zs z:Z}{sg:Option Nat}
theorem aO1:∀(W X:List Nat),(∀c∈W,RX.bT c=true)→(W++X).dropWhile RX.bT=X.dropWhile RX.bT
 | [],_,_=>rfl
 | c::W,X,h=>by rw [List.cons_append,List.dropWhile_cons,h c (.head _)];exact aO1 W X fun x hx=>h x (.tail _ hx)
end
section
variable {b:Bk}{S P T W wd:List Nat}{zs z:Z}{sg:Option Nat}{B:Ads}{k s cut tab:Nat}{vals vals' vars:List PV}{cells cells0:List PCell}
theorem told (hstudy:cG B.C 0 (vr 0) [] (aQ 14 (bW B)) ⟨.inst B.C k::List.replicate 7 .unb,cells0⟩= .ok .none ⟨.inst B.C k::List.replicate 7 .unb,cells⟩)
  (H:Obj1 B k vals ⟨[],cells⟩) (h1:vals[1]? =some (.int tab)) (h2:vals[2]? =some (.str T)) (h5:vals[5]? =some (.int 1)) (h6:vals[6]? =some (.int s)) (htab:0<tab∧tab≤8) (hT:T.length≤60000) (G:Geo T s W wd cut):
  aQ 8 (gM B) [.inst B.C k] ⟨vars,cells0⟩= .ok (.int ((aZ tab 0 ((T.drop s).take cut)).length+1)) ⟨vars,cells⟩:=by
 refine cps fun GC hGC=> ?_
 obtain ⟨X,y,Z,e0,rr,o,a1,a2,a3,a4,a5,a6,a7,a8,a9,a10,a11⟩:=G.g
 refine hGC ?_
 rw [a11]
 exact xR hstudy H h1 h2 h5 h6 htab hT a1 a2 a3 a4 a5 a6 a7 a8 a9 a10
theorem again (h:Obj1 B k vals ⟨vars,cells⟩) (h3:vals[3]? =some (.int 2)):aQ 14 (bW B) [.inst B.C k] ⟨vars,cells⟩= .ok .none ⟨vars,cells⟩:=by
 have HO:Obj1 B k vals ⟨.inst B.C k::List.replicate 13 .unb,cells⟩:=⟨h.cell,h.len⟩
 have s0:aA geP (aX B.C 0 3 (vr 0)) (cI 2) ⟨.inst B.C k::List.replicate 13 .unb,cells⟩= .ok true ⟨.inst B.C k::List.replicate 13 .unb,cells⟩:=by
  unfold aA
  rw [aB (cK (x:=vr 0) rfl HO h3 rfl)]
  rfl
 have run:bW B ⟨.inst B.C k::List.replicate 13 .unb,cells⟩= .ok (.ret .none) ⟨.inst B.C k::List.replicate 13 .unb,cells⟩:=by
  unfold bW
  dsimp only [blk]
  exact iF s0 rfl nofun
 unfold aQ
 rw [show cY 14 [.inst B.C k]= .inst B.C k::List.replicate 13 .unb from rfl,run]
end
section
variable {i k nv tab:Nat}{vals vars:List PV}{σ:St}{F:PM Fl}{B:Ads}{cells:List PCell}
theorem aH4 {C:Addr}{σ':St}{fs:List (PM PV)}{as:List PV}{r:Res PV} (hC:C=B.C) (hv:vr i σ= .ok (.inst B.C k) σ) (h:Obj1 B k vals σ) (he:evL fs σ= .ok as σ')
  (hr:aQ nv F (.inst B.C k::as) σ'=r):cG C 0 (vr i) fs (aQ nv F) σ=r:=by
 subst hC
 unfold cG
 rw [aB hv]
 unfold hM
 dsimp only
 rw [if_pos rfl]
 dsimp only
 rw [mR h]
 dsimp only
 rw [aB he]
 exact hr
theorem uG {r:Res PV} (hv:vr i σ= .ok (.inst B.C k) σ) (h:Obj1 B k vals σ) (hr:cE nv F [.inst B.C k] σ=r):
  cG B.C 0 (vr i) [] (cE nv F) σ=r:=by
 unfold cG
 rw [aB hv]
 unfold hM
 dsimp only
 rw [if_pos rfl]
 dsimp only
 rw [mR h]
 exact hr
theorem wU {T:List Nat} (h:Obj1 B k vals ⟨vars,cells⟩) (hT:T.length≤60000) (he:T.getLast? =some 10):
  aQ 2 (fZ B) [.inst B.C k, .str T] ⟨vars,cells⟩= .ok .none ⟨vars,cells.set k (.dct 0 ((vals.set 2 (.str T)).set 3 (.int 0)))⟩:=by
 have H:Obj1 B k vals ⟨[.inst B.C k, .str T],cells⟩:=⟨h.cell,h.len⟩
 have hne:T≠[]:=fun e=>by rw [e] at he;cases he
 have hpos:0<T.length:=List.length_pos_iff.mpr hne
 have s0:bD (orM (eqM (cD (vr 1)) (cI 0)) (eqM (itm (vr 1) fR) (cS "\n"))) ⟨[.inst B.C k, .str T],cells⟩= .ok .next ⟨[.inst B.C k, .str T],cells⟩:=by
  refine asT ?_
  have e1:cD (vr 1) ⟨[.inst B.C k, .str T],cells⟩= .ok (.int T.length) ⟨[.inst B.C k, .str T],cells⟩:=by
   show mK [.str T] _=_
   rw [iO (by unfold aD;exact Q0 (.n1 _) hT)]
  have e2:eqM (cD (vr 1)) (cI 0) ⟨[.inst B.C k, .str T],cells⟩= .ok false ⟨[.inst B.C k, .str T],cells⟩:=by
   show bnd _ _ _=_
   rw [aB e1]
   show Res.ok ((T.length:Int)==0) _=_
   have:((T.length:Int)==0)=false:=by rw [beq_eq_false_iff_ne];exact Q136 (.n1 _) hpos
   rw [this]
  unfold orM
  rw [aB e2]
  simp only [Bool.false_eq_true,if_false]
  have e3:itm (vr 1) fR ⟨[.inst B.C k, .str T],cells⟩= .ok (.str [10]) ⟨[.inst B.C k, .str T],cells⟩:=by
   show bG (.str T) (.int (-1)) _=_
   unfold bG
   dsimp only
   rw [if_pos (by unfold aD;exact Q0 (.n1 _) hT)]
   have e4:seqIndex? (-1) T.length=some (T.length-1):=by
    unfold seqIndex?
    simp
    exact ⟨⟨Q115 (.n1 _) hpos,Q116 (.n1 _)⟩,Q117 (.n3 _ _ _) rfl rfl⟩
   rw [e4]
   dsimp only
   rw [List.getLast?_eq_getElem?] at he
   rw [List.getD_eq_getElem?_getD,he]
   rfl
  show bnd _ _ _=_
  rw [aB e3]
  rfl
 have s1:aW B.C 0 2 (vr 1) (vr 0) ⟨[.inst B.C k, .str T],cells⟩= .ok .next ⟨[.inst B.C k, .str T],cells.set k (.dct 0 (vals.set 2 (.str T)))⟩:=cA rfl H rfl rfl
 have H1:Obj1 B k (vals.set 2 (.str T)) ⟨[.inst B.C k, .str T],cells.set k (.dct 0 (vals.set 2 (.str T)))⟩:=H.set
 have s2:aW B.C 0 3 (cI 0) (vr 0) ⟨[.inst B.C k, .str T],cells.set k (.dct 0 (vals.set 2 (.str T)))⟩= .ok .next ⟨[.inst B.C k, .str T],cells.set k (.dct 0 ((vals.set 2 (.str T)).set 3 (.int 0)))⟩:=by
  rw [cA (fe:=cI 0) (v:= .int 0) rfl H1 rfl rfl,List.set_set]
 unfold aQ
 have hv:cY 2 [.inst B.C k, .str T]=[.inst B.C k, .str T]:=rfl
 rw [hv]
 have run:fZ B ⟨[.inst B.C k, .str T],cells⟩= .ok .next ⟨[.inst B.C k, .str T],cells.set k (.dct 0 ((vals.set 2 (.str T)).set 3 (.int 0)))⟩:=by
  unfold fZ
  dsimp only [blk]
  rw [aC s0,aC s1]
  exact s2
 rw [run]
end
section
variable {b:Bk}{t:List Nat}{tab w:Nat}{x0:PV}{cells:List PCell}{vars vs:List PV}{σ:St}
theorem jP {g:PV→PV→Option PV}{x y:PM PV}{a c r:PV} (hx:x σ= .ok a σ) (hy:y σ= .ok c σ) (hg:g a c=some r):aA g x y σ= .ok r σ:=by
 unfold aA
 rw [aB hx,aB hy,hg];rfl
theorem aM2 (w:Nat) (h:0<tab):Int.fmod (w:Int) (tab:Int)=((w%tab:Nat):Int):=by
 rw [Int.fmod_eq_emod_of_nonneg _ (Int.natCast_nonneg _)];rfl
noncomputable abbrev wB:PM Fl:=vY bA2 2 (aP (eqM (vr 3) (cS "\t")) (aA bH (vr 1) (aA eR (vr 2) (vr 1))) (cI 1))
theorem aD5 (ht:0<tab):∀(l:List Nat) (w:Nat) (sg:PV),(∀c∈l,c≠10∧c≠13)→
  ∃sg',lM (bF 3) wB (l.map fun c=> .str [c]) ⟨[x0, .int tab, .int w,sg],cells⟩= .ok .next ⟨[x0, .int tab, .int (w+(aZ tab w l).length:Nat),sg'],cells⟩
 | [],w,sg,_=>⟨sg,rfl⟩
 | c::l,w,sg,h=>by
  have step:∀n:Nat,aP (eqM (vr 3) (cS "\t")) (aA bH (vr 1) (aA eR (vr 2) (vr 1))) (cI 1) ⟨[x0, .int tab, .int w, .str [c]],cells⟩= .ok (.int n) ⟨[x0, .int tab, .int w, .str [c]],cells⟩→
    (aZ tab w (c::l)).length=n+(aZ tab (w+n) l).length→
    ∃sg',lM (bF 3) wB ((c::l).map fun c=> .str [c]) ⟨[x0, .int tab, .int w,sg],cells⟩= .ok .next ⟨[x0, .int tab, .int (w+(aZ tab w (c::l)).length:Nat),sg'],cells⟩:=by
   intro n hn he
   obtain ⟨sg',ih⟩:=aD5 ht l (w+n) (.str [c]) fun x hx=>h x (.tail _ hx)
   refine ⟨sg', ?_⟩
   have e1:wB ⟨[x0, .int tab, .int w, .str [c]],cells⟩= .ok .next ⟨[x0, .int tab, .int (w+n:Nat), .str [c]],cells⟩:=by
    show vY _ _ _ _=_
    unfold vY
    rw [aB (jP (g:=bA2) (x:=vr 2) (a:= .int w) rfl hn rfl)]
    rfl
   show bnd (bF 3 (.str [c])) _ _=_
   rw [aB (x:=bF 3 (.str [c])) (a:= .next) (σ':=⟨[x0, .int tab, .int w, .str [c]],cells⟩) rfl,aB e1]
   show lM _ _ _ _=_
   rw [ih,he,Nat.add_assoc]
  by_cases hc:c=9
  ·subst hc
   refine step (tab-w%tab) ?_ ?_
   ·rw [cU (ev_eqT (x:=cS "\t") (e:=vr 3) rfl rfl rfl)]
    have e2:aA eR (vr 2) (vr 1) ⟨[x0, .int tab, .int w, .str [9]],cells⟩= .ok (.int (w%tab:Nat)) ⟨[x0, .int tab, .int w, .str [9]],cells⟩:=by
     rw [←aM2 w ht]
     exact jP (a:= .int w) (c:= .int tab) rfl rfl (if_pos (fun e=>absurd (Int.natCast_eq_zero.mp e) (Nat.ne_of_gt ht)))
    refine jP (a:= .int tab) rfl e2 ?_
    show some (PV.int ((tab:Int)-(w%tab:Nat)))=_
    rw [Int.natCast_sub (Nat.le_of_lt (Nat.mod_lt _ ht))]
   ·conv=>lhs;rw [gK]
    rw [if_pos rfl,List.length_append,List.length_replicate]
  ·refine step 1 ?_ ?_
   ·rw [bC (ev_eqF (x:=cS "\t") (e:=vr 3) rfl rfl fun e=>hc (List.cons.inj e).1)];rfl
   ·obtain ⟨h1,h2⟩:=h c (.head _)
    conv=>lhs;rw [gK]
    rw [if_neg hc,beq_eq_false_iff_ne.mpr h1,beq_eq_false_iff_ne.mpr h2,List.length_cons,Nat.add_comm]
    rfl
end
section
variable {b:Bk}{t:List Nat}{g x2 x3 x4:PV}{r:List PV}
end
section
variable {b:Bk}{P S:List Nat}{zs z:Z}{sg:Option Nat}{x2 x3 x4:PV}
theorem ev_bm0 {σ:St}{f:PM PV}{l:List Nat}{g:List PV→PM PV} (hf:f σ= .ok (.str l) σ):aH okStr f [] g σ=g [.str l] σ:=by
 unfold aH
 rw [aB hf,if_pos (show okStr (.str l) σ=true from rfl)]
 rfl
theorem aN8 {σ:St}{f x:PM PV}{l:List Nat}{v:PV}{g:List PV→PM PV} (hf:f σ= .ok (.str l) σ) (hx:x σ= .ok v σ):aH okStr f [x] g σ=g [.str l,v] σ:=by
 have:evL [x] σ= .ok [v] σ:=by unfold evL;rw [aB hx];rfl
 unfold aH
 rw [aB hf,if_pos (show okStr (.str l) σ=true from rfl),aB this]
theorem ev_to {σ:St}{e jb:PM PV}{y:List Nat}{c:Nat} (hx:e σ= .ok (.str y) σ) (hb:jb σ= .ok (.int c) σ) (hc:c≤y.length) (hl:y.length≤60000):aU e (aI .none) jb σ= .ok (.str (y.take c)) σ:=by
 unfold aU
 rw [aB hx,aB (x:=aI .none) (a:= .none) rfl,aB hb]
 have:oN (.str y) .none (.int c)=some (.str (eL y none (some c))):=if_pos (Nat.le_trans hl (by decide))
 rw [this]
 show Res.ok (PV.str (eL y none (some (c:Int)))) σ=_
 unfold eL
 dsimp only
 rw [lR,Nat.min_eq_left hc,Nat.sub_zero,List.drop_zero]
end
section
variable {b:Bk}{t:List Nat}{n f:Bool}{m m':M}{z z':Z}{S d:List Nat}
end
section
variable {n f:Bool}{m m' m'' m2:M}{z z' z'' z2 zf:Z}{S S' d R l:List Nat}{ans:Bool}
theorem gF (h:Path n m z S m' z') (h':Path n m' z' S' m'' z''):Path n m z (S++S') m'' z'':=by
 induction h with
 | nil=>exact h'
 | cons h1 u1 _ ih=>rw [List.append_assoc];exact .cons h1 u1 (ih h')
noncomputable def rdq (b:Bool) (z:Z):List Nat→Option (M×Z×List Nat)
 | c::r=>if c≠qu b∧c≠10∧c≠92 then some (.s1 b z.lno,z,r) else match r with
  | d::e::r=>if c=qu b∧d=qu b∧e≠qu b∧e≠10∧e≠92 then some (.s3 b z.lno,z,r) else none
  | _=>none
 | []=>none
noncomputable def rdb (m:M) (z:Z):List Nat→Option (M×Z×List Nat)
 | 10::r=>some (m,ln1 z,r)
 | _=>none
noncomputable def unit (z:Z):M→List Nat→Option (M×Z×List Nat)
 | .pl,c::r=>
  if aU2 c=true then some (.pl,z,r)
  else if c=61 then some (.pl,z,r)
  else if c=40∨c=91∨c=123 then some (.pl,{z with level:=z.level+1},r)
  else if c=41∨c=93∨c=125 then some (.pl,{z with level:=z.level-1},r)
  else if c=10∧z.level≠0 then some (.pl,ln1 z,r)
  else if c=92 then rdb .pl z r
  else if c=34 then rdq true z r
  else if c=39 then rdq false z r
  else match r with
   | d::r=>if c=35∧d≠10 then some (.cm,z,r) else if (c=33∨c=60∨c=61∨c=62)∧d=61 then some (.pl,z,r) else none
   | _=>none
 | .cm,c::r=>if c≠10 then some (.cm,z,r) else if z.level≠0 then some (.pl,ln1 z,r) else none
 | .s1 b g,c::r=>if c=qu b then some (.pl,z,r) else if c=92 then rdb (.s1 b g) z r else if c≠10 then some (.s1 b g,z,r) else none
 | .s3 b g,c::r=>if c=92 then rdb (.s3 b g) z r else if c=10 then some (.s3 b g,ln1 z,r) else if c≠qu b then some (.s3 b g,z,r) else match r with
  | d::e::r=>if d=qu b∧e=qu b then some (.pl,z,r) else none
  | _=>none
 | _,[]=>none
noncomputable def zV:Nat→M→Z→List Nat→Option (M×Z)
 | _,m,z,[]=>some (m,z)
 | 0,_,_,_=>none
 | k+1,m,z,l=>match unit z m l with
  | some (m',z',r)=>zV k m' z' r
  | none=>none
theorem read_s {k c:Nat}{m:M}{z:Z}{l:List Nat}:zV (k+1) m z (c::l)=match unit z m (c::l) with
  | some (m',z',r)=>zV k m' z' r
  | none=>none:=rfl
noncomputable def Rd (m:M) (z:Z) (l:List Nat):Option (M×Z×List Nat)→Prop
 | some (m',z',r)=>∃f d,l=d++r∧U f m z d m' z'
 | none=>True
theorem Rd.ite {m:M}{z:Z}{l:List Nat}{c:Prop} [Decidable c] {a b:Option (M×Z×List Nat)} (ha:c→Rd m z l a) (hb:¬c→Rd m z l b):Rd m z l (if c then a else b):=by
 by_cases h:c
 ·rw [if_pos h];exact ha h
 ·rw [if_neg h];exact hb h
theorem wZ {l:List Nat} (u:U true m z [92,10] m (ln1 z)):Rd m z (92::l) (rdb m z l):=by
 unfold rdb
 split
 ·exact ⟨_,[92,10],rfl,u⟩
 ·trivial
set_option tactic.hygienic true in
theorem aG1 {b:Bool}{l:List Nat}:Rd .pl z (qu b::l) (rdq b z l):=by
 unfold rdq
 split
 ·rename_i c r
  refine Rd.ite (fun h=>⟨_,[qu b,c],rfl, .q1 b h.1 h.2.1 h.2.2⟩) fun z_=> ?_
  split
  ·rename_i d e r
   refine Rd.ite (fun h=> ?_) fun z_=>trivial
   obtain ⟨rfl,rfl,h⟩:=h
   exact ⟨_,[qu b,qu b,qu b,e],rfl, .q3 b h.1 h.2.1 h.2.2⟩
  ·trivial
 ·trivial
theorem aR7 {l:List Nat}:Rd m z l (unit z m l):=by
 cases l with
 | nil=>cases m <;> trivial
 | cons c r=>
  cases m with
  | pl=>
   refine Rd.ite (fun h=>⟨_,[c],rfl, .ord h⟩) fun z_=>Rd.ite (fun h=> ?_) fun z_=>Rd.ite (fun h=>⟨_,[c],rfl, .op h⟩) fun z_=>Rd.ite (fun h=>⟨_,[c],rfl, .cl h⟩) fun z_=>Rd.ite (fun h=> ?_) fun z_=>Rd.ite (fun h=> ?_) fun z_=>Rd.ite (fun h=> ?_) fun z_=>Rd.ite (fun h=> ?_) fun z_=> ?_
   ·subst h;exact ⟨true,[61],rfl, .sg fun z_=>rfl⟩
   ·obtain ⟨rfl,h⟩:=h;exact ⟨_,[10],rfl, .nl h⟩
   ·subst h;exact wZ .bs
   ·subst h;exact aG1 (b:=true)
   ·subst h;exact aG1 (b:=false)
   ·cases r with
    | nil=>trivial
    | cons d r=>exact Rd.ite (fun h=>by obtain ⟨rfl,h⟩:=h;exact ⟨_,[35,d],rfl, .cm h⟩) fun z_=>Rd.ite (fun h=>by obtain ⟨h,rfl⟩:=h;exact ⟨_,[c,61],rfl, .cmp h⟩) fun z_=>trivial
  | cm=>exact Rd.ite (fun h=>⟨_,[c],rfl, .cc h⟩) fun h=>Rd.ite (fun h2=>by have:=Decidable.not_not.mp h;subst this;exact ⟨_,[10],rfl, .cn h2⟩) fun z_=>trivial
  | s1 b g=>
   refine Rd.ite (fun h=> ?_) fun h1=>Rd.ite (fun h=> ?_) fun h2=>Rd.ite (fun h=>⟨_,[c],rfl, .c1 h1 h h2⟩) fun z_=>trivial
   ·subst h;exact ⟨_,[qu b],rfl, .x1⟩
   ·subst h;exact wZ .l1
  | s3 b g=>
   refine Rd.ite (fun h=> ?_) fun h1=>Rd.ite (fun h=> ?_) fun h2=>Rd.ite (fun h=>⟨_,[c],rfl, .c3 h h2 h1⟩) fun h3=> ?_
   ·subst h;exact wZ .l3
   ·subst h;exact ⟨_,[10],rfl, .n3⟩
   ·have:=Decidable.not_not.mp h3
    subst this
    cases r with
    | nil=>trivial
    | cons d r=>
     cases r with
     | nil=>trivial
     | cons e r=>exact Rd.ite (fun h=>by obtain ⟨rfl,rfl⟩:=h;exact ⟨_,[qu b,qu b,qu b],rfl, .x3⟩) fun z_=>trivial
theorem bX:∀{k:Nat}{m m':M}{z z':Z}{l:List Nat},zV k m z l=some (m',z')→Path false m z l m' z'
 | k,m,m',z,z',[],h=>by
  have:some (m,z)=some (m',z'):=by cases k <;> exact h
  cases this;exact .nil
 | 0,m,m',z,z',c::l,h=>nomatch h
 | k+1,m,m',z,z',c::l,h=>by
  have u:=aR7 (m:=m) (z:=z) (l:=c::l)
  rw [read_s] at h
  cases e:unit z m (c::l) with
  | none=>rw [e] at h;cases h
  | some q=>
   obtain ⟨m1,z1,r⟩:=q
   rw [e] at h u
   obtain ⟨f,d,e2,u⟩:=u
   rw [e2]
   exact .cons nofun u (bX h)
end
section
variable {m m' m2:M}{z z' z2 zf:Z}{S A e l:List Nat}{ans:Bool}{n k c:Nat}{g:List Nat}
structure FinE (m:M) (z:Z) (e:List Nat) (zf:Z) (ans:Bool):Prop where
 run:∃q,run m.md z (e.map aT)=some q∧fin q=some zf
 w2:W2r m e
 e:e=[10]∨e=[92,10]
 lno:zf.lno=z.lno+1
 good:(zf.good=z.good∧cT zf≠0)∨(zf.good=z.good++[zf.lno]∧cT zf=0)
 ans:cT zf=1↔ans=true
theorem gJ:FinE .pl ⟨0,n,g,0⟩ [92,10] ⟨0,n+1,g,1⟩ true:=
 ⟨⟨_,rfl,rfl⟩, .bs .nil, .inr rfl,rfl, .inl ⟨rfl,(by decide:(1:Nat)≠0)⟩,fun z_=>rfl,fun z_=>rfl⟩
theorem aM6:FinE .pl ⟨k+1,n,g,0⟩ [10] ⟨k+1,n+1,g,0⟩ false:=
 ⟨⟨_,rfl,rfl⟩, .ord rfl .nil, .inl rfl,rfl, .inl ⟨rfl,(by decide:(4:Nat)≠0)⟩,fun h=>absurd (show (4:Nat)=1 from h) (by decide),nofun⟩
theorem fin_c:FinE .cm ⟨k+1,n,g,0⟩ [10] ⟨k+1,n+1,g,0⟩ false:=
 ⟨⟨_,rfl,rfl⟩,⟨[],[],rfl,fn, .nil⟩, .inl rfl,rfl, .inl ⟨rfl,(by decide:(4:Nat)≠0)⟩,fun h=>absurd (show (4:Nat)=1 from h) (by decide),nofun⟩
theorem fin_e:FinE .pl ⟨0,n,g,0⟩ [10] ⟨0,n+1,g++[n+1],0⟩ false:=
 ⟨⟨_,rfl,rfl⟩, .ord rfl .nil, .inl rfl,rfl, .inr ⟨rfl,rfl⟩,fun h=>absurd (show (0:Nat)=1 from h) (by decide),nofun⟩
theorem cont_s {x y:Nat}:cT ⟨k,n,g,if x=y then 2 else 3⟩=if x=y then 2 else 3:=by
 by_cases h:x=y
 ·rw [if_pos h];exact if_neg fun h=>h.1 rfl
 ·rw [if_neg h];exact if_neg fun h=>h.2.1 rfl
theorem jF {x y:Nat}:cT ⟨k,n,g,if x=y then 2 else 3⟩≠0∧(cT ⟨k,n,g,if x=y then 2 else 3⟩=1↔false=true):=by
 rw [cont_s]
 split <;> decide
theorem aM5 (he:(∃b f,m= .s3 b f∧(e=[10]∨e=[92,10]))∨∃b f,m= .s1 b f∧e=[92,10]):∃f,FinE m ⟨k,n,g,0⟩ e ⟨k,n+1,g,if n+1=f+1 then 2 else 3⟩ false:=by
 rcases he with ⟨b,f,rfl,rfl | rfl⟩ | ⟨b,f,rfl,rfl⟩
 ·exact ⟨f,⟨(.st (qu b) 2 f,⟨k,n+1,g,0⟩),by induction b <;> rfl,by induction b <;> rfl⟩,by show W2 (List.drop (RX.bN _ [10]) _);rw [nT (aT7 b).2.2 (by decide)];exact .nil, .inl rfl,rfl, .inl ⟨rfl,jF.1⟩,jF.2⟩
 ·exact ⟨f,⟨(.st (qu b) 2 f,⟨k,n+1,g,0⟩),by induction b <;> rfl,by induction b <;> rfl⟩, .nil, .inr rfl,rfl, .inl ⟨rfl,jF.1⟩,jF.2⟩
 ·exact ⟨f,⟨(.st (qu b) 0 f,⟨k,n+1,g,0⟩),by induction b <;> rfl,by induction b <;> rfl⟩, .nil, .inr rfl,rfl, .inl ⟨rfl,jF.1⟩,jF.2⟩
structure LS (m:M) (z:Z) (l:List Nat) (ans:Bool) (m2:M) (z2:Z):Prop where
 fin:∃body e m' z' zf,l=body++e∧Path false m z body m' z'∧FinE m' z' e zf ans
 path:Path false m z l m2 z2
inductive Wk:M→Z→List (List Nat×Bool)→Prop
 | one {m m':M}{z z' zf:Z}{body e:List Nat} (p:Path false m z body m' z') (h:FinE m' z' e zf false):Wk m z [(body++e,false)]
 | cons {m m2:M}{z z2:Z}{l:List Nat}{ans:Bool}{r:List (List Nat×Bool)} (h:LS m z l ans m2 z2) (w:Wk m2 z2 r):Wk m z ((l,ans)::r)
theorem LS.of (body:List Nat) (h1:zV 60 m z body=some (m',z')) (hf:FinE m' z' e zf ans) (h2:zV 5 m' z' e=some (m2,z2)):LS m z (body++e) ans m2 z2:=
 ⟨⟨body,e,m',z',zf,rfl,bX h1,hf⟩,gF (bX h1) (bX h2)⟩
theorem LS.pre (p:Path false m z A m' z') (h:LS m' z' l ans m2 z2):LS m z (A++l) ans m2 z2:=by
 obtain ⟨⟨body,e,m1,z1,zf,rfl,h1,h2⟩,h3⟩:=h
 exact ⟨⟨A++body,e,m1,z1,zf,(List.append_assoc ..).symm,gF p h1,h2⟩,gF p h3⟩
noncomputable def iS:List (List Nat):=["c = d \\\n","\\\n","\t=\\\n","'=' != (e) \\\n",") = [a] \\\n"].map lit
theorem aK7:∀l∈iS,∀n g,LS .pl ⟨0,n,g,0⟩ l true .pl ⟨0,n+1,g,0⟩:=
 fc (fun z_ z_=>LS.of (lit "c = d ") rfl gJ rfl) <| fc (fun z_ z_=>LS.of [] rfl gJ rfl) <| fc (fun z_ z_=>LS.of (lit "\t=") rfl gJ rfl) <| fc (fun z_ z_=>LS.of (lit "'=' != (e) ") rfl gJ rfl) <| fc (fun z_ z_=>LS.of (lit ") = [a] ") rfl gJ rfl) fn
theorem later_wk:∀(ls:List (List Nat)) (n:Nat),(∀l∈ls,l∈iS)→Wk .pl ⟨0,n,g,0⟩ (ls.map (·,true)++[(lit "e\n",false)])
 | [],n,_=> .one (body:=lit "e") (bX (k:=5) rfl) fin_e
 | l::ls,n,h=> .cons (aK7 l (h l (.head _)) n g) (later_wk ls (n+1) fun x hx=>h x (.tail _ hx))
noncomputable def nN:List (List Nat):=["","  ","\t"," \t","\t\t "].map lit
theorem aD3:∀l∈nN,∀n g,Path false .pl ⟨0,n,g,0⟩ l .pl ⟨0,n,g,0⟩:=
 fc (fun z_ z_=>bX (k:=5) rfl) <| fc (fun z_ z_=>bX (k:=5) rfl) <| fc (fun z_ z_=>bX (k:=5) rfl) <| fc (fun z_ z_=>bX (k:=5) rfl) <| fc (fun z_ z_=>bX (k:=5) rfl) fn
noncomputable def tB:List (List Nat×List Nat×List Nat):=[("a ","="," b"),("if a",""," == b"),("f (a=1) ","=",""),("x['=']","=","c"),("(a,\tb) ","+=","\tc"),("return","",""),("yield a >= b",""," != c")].map fun p=>(lit p.1,lit p.2.1,lit p.2.2)
theorem aX6:∀p∈tB,∀n g,Path false .pl ⟨0,n,g,0⟩ (p.1++(p.2.1++p.2.2)) .pl ⟨0,n,g,0⟩:=
 fc (fun z_ z_=>bX (k:=30) rfl) <| fc (fun z_ z_=>bX (k:=30) rfl) <| fc (fun z_ z_=>bX (k:=30) rfl) <| fc (fun z_ z_=>bX (k:=30) rfl) <| fc (fun z_ z_=>bX (k:=30) rfl) <| fc (fun z_ z_=>bX (k:=30) rfl) <| fc (fun z_ z_=>bX (k:=30) rfl) fn
noncomputable def oB:List (List Nat×Bool×List (List Nat×Bool)):=[(" \\\n",true,[("b = c \\\n",true)]),("\\\n",true,[("=(a,\n",false),("=) \\\n",true)]),(" (\n",false,[("a = b)\\\n",true)]),(" [#]= b\n",false,[("\n",false),("]=c \\\n",true)]),(" \"\"\"=\n",false,[("= \\\n",false),("\"\"\"\\\n",true)]),(" '=\\\n",false,[("=' = c \\\n",true)])].map
 fun p=>(lit p.1,p.2.1,p.2.2.map fun q=>(lit q.1,q.2))
theorem aB9:∀p∈oB,∀(A:List Nat) (ls:List (List Nat)) n,Path false .pl ⟨0,n,g,0⟩ A .pl ⟨0,n,g,0⟩→(∀l∈ls,l∈iS)→Wk .pl ⟨0,n,g,0⟩ ((A++p.1,p.2.1)::(p.2.2++(ls.map (·,true)++[(lit "e\n",false)]))):=by
 refine fc (fun A ls n hA h=> ?_) <| fc (fun A ls n hA h=> ?_) <| fc (fun A ls n hA h=> ?_) <| fc (fun A ls n hA h=> ?_) <| fc (fun A ls n hA h=> ?_) <| fc (fun A ls n hA h=> ?_) fn
 ·exact .cons (.pre hA (LS.of (lit " ") rfl gJ rfl)) <| .cons (LS.of (lit "b = c ") rfl gJ rfl) <| later_wk ls _ h
 ·exact .cons (.pre hA (LS.of [] rfl gJ rfl)) <| .cons (LS.of (lit "=(a,") rfl aM6 rfl) <| .cons (LS.of (lit "=) ") rfl gJ rfl) <| later_wk ls _ h
 ·exact .cons (.pre hA (LS.of (lit " (") rfl aM6 rfl)) <| .cons (LS.of (lit "a = b)") rfl gJ rfl) <| later_wk ls _ h
 ·exact .cons (.pre hA (LS.of (lit " [#]= b") rfl fin_c rfl)) <| .cons (LS.of [] rfl aM6 rfl) <| .cons (LS.of (lit "]=c ") rfl gJ rfl) <| later_wk ls _ h
 ·obtain ⟨f1,h1⟩:=aM5 (k:=0) (n:=n) (g:=g) (.inl ⟨true,n,rfl, .inl rfl⟩)
  obtain ⟨f2,h2⟩:=aM5 (k:=0) (n:=n+1) (g:=g) (.inl ⟨true,n,rfl, .inr rfl⟩)
  exact .cons (.pre hA (LS.of (lit " \"\"\"=") rfl h1 rfl)) <| .cons (LS.of (lit "= ") rfl h2 rfl) <| .cons (LS.of (lit "\"\"\"") rfl gJ rfl) <| later_wk ls _ h
 ·obtain ⟨f1,h1⟩:=aM5 (k:=0) (n:=n) (g:=g) (.inr ⟨false,n,rfl,rfl⟩)
  exact .cons (.pre hA (LS.of (lit " '=") rfl h1 rfl)) <| .cons (LS.of (lit "=' = c ") rfl gJ rfl) <| later_wk ls _ h
end
section
variable {m:M}{z zf:Z}{P S T e:List Nat}{ans:Bool}{n c:Nat}{g:List Nat}
noncomputable def kE:List (List Nat):=["a = b\n","\n","  #c = d\n","\tif a:\n","f(a,\n =b)\n","'''\n= \\\n'''\n","c = \\\n d\n","# e (\n",") = (a)\n","x = 'it\n"].map lit
theorem aC4:∀q∈kE,∀n g R,run .pl ⟨0,n,g,0⟩ (q.map aT++R)=run .pl ⟨0,n+q.count 10,g++[n+q.count 10],0⟩ R:=
 fc (fun z_ z_ z_=>rfl) <| fc (fun z_ z_ z_=>rfl) <| fc (fun z_ z_ z_=>rfl) <| fc (fun z_ z_ z_=>rfl) <| fc (fun z_ z_ z_=>rfl) <| fc (fun z_ z_ z_=>rfl) <| fc (fun z_ z_ z_=>rfl) <| fc (fun z_ z_ z_=>rfl) <| fc (fun z_ z_ z_=>rfl) <| fc (fun z_ z_ z_=>rfl) fn
theorem zE:∀q∈kE,q.getLast? =some 10∧(∀c∈q,c<128)∧q.length≤12:=by decide +kernel
structure Pre (P:List Nat) (n:Nat) (g:List Nat):Prop where
 run:∀R,run .pl z0 (P.map aT++R)=run .pl ⟨0,n,g++[n],0⟩ R
 g:g.length≤P.length
 n:n≤P.length
 pe:P=[]∨P.getLast? =some 10
 asc:∀c∈P,c<128
theorem aT8:Pre [] 0 []:=⟨fun z_=>rfl,Nat.le_refl _,Nat.le_refl _, .inl rfl,fn⟩
theorem aT9 (h:Pre P n g) {q:List Nat} (hq:q∈kE):∃n' g',Pre (P++q) n' g':=by
 obtain ⟨q1,q2,_⟩:=zE q hq
 have hl:0<q.length:=by cases q with | nil=>cases q1 | cons=>exact Nat.succ_pos _
 refine ⟨n+q.count 10,g++[n],⟨fun R=> ?_, ?_, ?_, .inr (by rw [List.getLast?_append,q1];rfl),fp h.asc q2⟩⟩
 ·rw [List.map_append,List.append_assoc,h.run,aC4 q hq]
 ·have:=h.g
  rw [List.length_append,List.length_append]
  show g.length+1≤_
  exact lin2 (.l (.a .v0 .k1) (.a .v1 .v2)) (.t .k0 .v2) (.l .v0 .v1) (.w [1,1,1]) rfl (.n3 _ _ _) hl this
 ·have:=h.n
  have:=List.count_le_length (a:=10) (l:=q)
  rw [List.length_append]
  exact lin2 (.l (.a .v0 .v1) (.a .v2 .v3)) (.l .v0 .v2) (.l .v1 .v3) (.w [1,1,1]) rfl (.n4 _ _ _ _) (by assumption) this
theorem yM:∀(qs:List (List Nat)),(∀q∈qs,q∈kE)→∀{P:List Nat}{n:Nat}{g:List Nat},Pre P n g→∃n' g',Pre (P++qs.flatten) n' g'∧qs.flatten.length≤12*qs.length
 | [],_,P,n,g,h=>⟨n,g,by rw [List.flatten_nil,List.append_nil];exact h,Nat.le_refl _⟩
 | q::qs,hq,P,n,g,h=>by
  obtain ⟨n1,g1,h1⟩:=aT9 h (hq q (.head _))
  obtain ⟨n2,g2,h2,h3⟩:=yM qs (fun x hx=>hq x (.tail _ hx)) h1
  have:=(zE q (hq q (.head _))).2.2
  refine ⟨n2,g2,by rw [List.flatten_cons, ←List.append_assoc];exact h2, ?_⟩
  rw [List.flatten_cons,List.length_append,List.length_cons]
  exact lin2 (.l (.a .v0 .v1) (.m 12 (.a .v2 .k1))) (.l .v1 (.m 12 .v2)) (.l .v0 (.k 12)) (.w [1,1,1]) rfl (.n3 _ _ _) h3 this
structure TxtC (T P:List Nat) (c:Nat):Prop where
 g:∃zf pre a,St1 T zf∧gH zf=pre++[a,zf.lno]∧cT zf=c∧a≤zf.lno∧zf.lno≤100000∧pre.length≤90000∧Lines T P.length T.length (zf.lno-a)∧P.length≤T.length∧0<T.length∧hK (T.drop P.length)=some none∧W2 (T.drop P.length)
theorem txt3 (hP:Pre P n g) (p:Path false .pl ⟨0,n,g++[n],0⟩ S m z) (hf:FinE m z e zf ans) (hT:T=P++(S++e)) (hj:hK (S++e)=some none) (ha:∀c∈S++e,c<128) (hl:T.length≤60000):TxtC T P (cT zf):=by
 have hlen:T.length=P.length+(S.length+e.length):=by rw [hT,List.length_append,List.length_append]
 obtain ⟨q1,q2,q3⟩:=path_z p
 have he:e.length≤2∧1≤e.length∧e.count 10=1∧e.getLast? =some 10:=by rcases hf.e with h | h <;> rw [h] <;> decide
 have hS:S.count 10≤S.length:=List.count_le_length
 have hlast:(S++e).getLast? =some 10:=by rw [List.getLast?_append,he.2.2.2];rfl
 have hrun:∃q,run .pl z0 (T.map aT)=some q∧fin q=some zf:=by
  obtain ⟨q,r1,r2⟩:=hf.run
  refine ⟨q, ?_,r2⟩
  rw [hT,List.map_append,hP.run,List.map_append]
  refine (aG4 p ?_).trans r1
  rcases hf.e with h | h <;> rw [h] <;> exact List.cons_ne_nil _ _
 have hn:=hP.n
 have hg:=hP.g
 have hz:z.good=g++[n]:=q2
 have hlno:zf.lno=n+S.count 10+1:=by rw [hf.lno,q1]
 obtain ⟨h1,h2,h3⟩:gH zf=g++[n,zf.lno]∧(cT zf=0↔eJ zf=zf.lno)∧zf.good≠[]∧zf.good.length≤g.length+2:=by
  rcases hf.good with ⟨k1,k2⟩ | ⟨k1,k2⟩
  ·have hlg:eJ zf=n:=by unfold eJ;rw [k1,hz];simp
   have hne:eJ zf≠zf.lno:=by rw [hlg,hlno];exact lin0 (.n (.q .v0 (.a (.a .v0 .v1) .k1))) (.w [-1]) rfl (.n2 _ _)
   refine ⟨?_,⟨fun h=>absurd h k2,fun h=>absurd h hne⟩, ?_, ?_⟩
   ·unfold gH;rw [if_pos hne,k1,hz,List.append_assoc];rfl
   ·rw [k1,hz];exact fun h=>absurd (List.append_eq_nil_iff.mp h).2 (List.cons_ne_nil _ _)
   ·rw [k1,hz,List.length_append];exact Nat.le_succ _
  ·have hlg:eJ zf=zf.lno:=by unfold eJ;rw [k1];simp
   refine ⟨?_,⟨fun z_=>hlg,fun z_=>k2⟩, ?_, ?_⟩
   ·unfold gH;rw [if_neg fun h=>h hlg,k1,hz,List.append_assoc];rfl
   ·rw [k1];exact fun h=>absurd (List.append_eq_nil_iff.mp h).2 (List.cons_ne_nil _ _)
   ·rw [k1,hz,List.length_append,List.length_append];exact Nat.le_refl _
 refine ⟨zf,g,n,⟨List.all_eq_true.mpr fun c hc=> ?_,hl, .inr (by rw [hT,List.getLast?_append,hlast];rfl),hrun,h3.1,by have:=h3.2;exact lin5 (.t .v0 (.k 90000)) (.l .v1 (.k 60000)) (.q .v1 (.a .v2 (.a .v3 .v4))) (.l .k1 .v4) (.l .v5 .v2) (.l .v0 (.a .v5 (.k 2))) (.w [1,1, -1,1,1,1]) rfl (.n6 _ _ _ _ _ _) hl hlen he.2.1 hg h3.2,h2⟩,h1,rfl,by exact lin1 (.l .v0 .v1) (.q .v1 (.a (.a .v0 .v2) .k1)) (.w [1, -1]) rfl (.n3 _ _ _) hlno,by exact lin6 (.l .v0 (.k 100000)) (.l .v1 (.k 60000)) (.q .v1 (.a .v2 (.a .v3 .v4))) (.l .k1 .v4) (.l .v5 .v3) (.l .v6 .v2) (.q .v0 (.a (.a .v6 .v5) .k1)) (.w [1,1, -1,1,1,1,1]) rfl (.n7 _ _ _ _ _ _ _) hl hlen he.2.1 hS hn hlno,by exact lin4 (.l .v0 (.k 90000)) (.l .v1 (.k 60000)) (.q .v1 (.a .v2 (.a .v3 .v4))) (.l .k1 .v4) (.l .v0 .v2) (.w [1,1, -1,1,1]) rfl (.n5 _ _ _ _ _) hl hlen he.2.1 hg, ?_,by exact lin2 (.l .v0 .v1) (.q .v1 (.a .v0 (.a .v2 .v3))) (.l .k1 .v3) (.w [1, -1,1]) rfl (.n4 _ _ _ _) hlen he.2.1,by exact lin2 (.t .k0 .v0) (.q .v0 (.a .v1 (.a .v2 .v3))) (.l .k1 .v3) (.w [1, -1,1]) rfl (.n4 _ _ _ _) hlen he.2.1, ?_, ?_⟩
 ·rw [hT] at hc
  exact decide_eq_true (fp hP.asc ha c hc)
 ·have:=pH (T:=T) (p:=P.length) (S++e) P [] 0 hT nofun hP.pe .nil (.inl hlast)
  rw [Nat.zero_add,List.count_append,he.2.2.1] at this
  rw [show zf.lno-n=S.count 10+1 by exact lin2 (.q .v3 (.a .v2 .k1)) (.q .v0 (.a (.a .v1 .v2) .k1)) (.b 3 .v0 .v1) (.b (.d 2 (.w [0, -1,1, -1]) (.w [1, -1,1, -1])) (.d 2 (.w [0,1,1,1]) (.w [0,1,1]))) rfl (.n4 _ _ _ _) hlno rfl]
  exact this
 ·rw [hT,List.drop_left];exact hj
 ·rw [hT,List.drop_left];exact aU0 p hf.w2
end
section
variable {T P W wd w:List Nat}{B:Ads}{s cut tab c:Nat}{vals vars:List PV}{c0 c1:PCell}{cells:List PCell}
structure Sn3 (tab:Nat) (T:List Nat) (s:Nat) (vals:List PV):Prop where
 len:vals.length=11
 h1:vals[1]? =some (.int tab)
 h2:vals[2]? =some (.str T)
 h3:vals[3]? =some (.int 2)
 h6:vals[6]? =some (.int s)
 h7:vals[7]? =some (.int T.length)
theorem Sn3.forget {n:Nat} (h:Sn3 tab T s vals):Sn3 tab T s (vals.map (_M.forget n)):=by
 have k:∀{i:Nat}{v:PV},vals[i]? =some v→_M.forget n v=v→(vals.map (_M.forget n))[i]? =some v:=fun e q=>by rw [List.getElem?_map,e];exact congrArg some q
 exact ⟨by rw [List.length_map];exact h.len,k h.h1 rfl,k h.h2 rfl,k h.h3 rfl,k h.h6 rfl,k h.h7 rfl⟩
structure Fix (c0 c1:PCell):Prop where
 h0:eG 3 c0=c0
 h1:eG 3 c1=c1
theorem tM {v:PV}{d:List PV}{ex:List PCell}{as:List PV}{F:PM Fl}{nv:Nat}{e:PCell} (hf:Fix c0 c1) (hv:aF2 3 v=true) (h:aQ nv F as ⟨vars,[c0,c1,e]⟩= .ok v ⟨vars,c0::c1 :: .dct 0 d::ex⟩):
  cE nv F as ⟨vars,[c0,c1,e]⟩= .ok v ⟨vars,[c0,c1, .dct 0 (d.map (_M.forget 3))]⟩:=by
 unfold cE
 rw [h]
 have:fE 3 (c0::c1 :: .dct 0 d::ex) v=some v:=by unfold fE;rw [if_pos hv]
 show (match fE 3 (c0::c1 :: .dct 0 d::ex) v with | some qv=>Res.ok qv ⟨vars,[eG 3 c0,eG 3 c1, .dct 0 (d.map (_M.forget 3))]⟩ | none=> .bad)=_
 rw [this,hf.h0,hf.h1]
theorem xT {v:PV}{as vs':List PV}{F:PM Fl}{nv:Nat}{cells':List PCell} (h:aQ nv F as ⟨vars,cells⟩= .ok v ⟨vars,cells'⟩):aQ nv F as ⟨vs',cells⟩= .ok v ⟨vs',cells'⟩:=by
 obtain ⟨fl,σ₂,rv,hF,hfl,rfl,e⟩:=rK h
 have:=congrArg St.cells e
 dsimp only at this hF
 subst this
 unfold aQ
 rcases hfl with rfl | ⟨rfl,rfl⟩ <;> rw [hF]
theorem aS5 (hl:vals.length=11) (h1:vals[1]? =some (.int tab)) (h2:vals[2]? =some (.str T)) (h3:vals[3]? =some (.int 0)) (X:TxtC T P c):
  ∃v2 ex,(∀vars,aQ 14 (bW B) [.inst B.C 2] ⟨vars,[c0,c1, .dct 0 vals]⟩= .ok .none ⟨vars,c0::c1 :: .dct 0 v2::ex⟩)∧Sn3 tab T P.length v2∧v2[5]? =some (.int c):=by
 obtain ⟨zf,pre,a,x1,x2,x3,x4,x5,x6,x7,x8,x9,x10,x11⟩:=X.g
 have HO:Obj1 B 2 vals ⟨[],[c0,c1, .dct 0 vals]⟩:=⟨rfl,hl⟩
 obtain ⟨v2,ex,g1,g2,g3,g4,g5,g6,g7,g8⟩:=zQ HO h2 h3 x1 x2 x4 x5 x6 x7 x8 x9 x10 x11
 refine ⟨v2,ex,fun vars=> ?_,⟨g2,by rw [g3,h1],g4,g5,g7,g8⟩,by rw [g6,x3]⟩
 exact xT g1
theorem aJ3 {σ:St}{k:Nat}{nv:Nat}{F:PM Unit}{r:Res Unit} (hv:vr 0 σ= .ok (.inst B.C k) σ) (h:Obj1 B k vals σ) (hr:iU nv F [.inst B.C k] σ=r):pD B.C 0 (vr 0) (iU nv F) σ=r:=by
 unfold pD
 rw [aB hv]
 unfold hM
 dsimp only
 rw [if_pos rfl]
 dsimp only
 rw [mR h]
 exact hr
theorem aT6 {v2:List PV}{ex:List PCell}{e:PCell} (hs:∀vars,aQ 14 (bW B) [.inst B.C 2] ⟨vars,[c0,c1,e]⟩= .ok .none ⟨vars,c0::c1 :: .dct 0 v2::ex⟩) (he:e= .dct 0 vals) (hl:vals.length=11) (h2:Sn3 tab T s v2) (h5:v2[5]? =some (.int c)):
  iU 8 (mE B) [.inst B.C 2] ⟨vars,[c0,c1,e]⟩=if c=1 then .bad else .ok () ⟨vars,c0::c1 :: .dct 0 v2::ex⟩:=by
 subst he
 have HO:Obj1 B 2 vals ⟨.inst B.C 2::List.replicate 7 .unb,[c0,c1, .dct 0 vals]⟩:=⟨rfl,hl⟩
 have H2:Obj1 B 2 v2 ⟨.inst B.C 2::List.replicate 7 .unb,c0::c1 :: .dct 0 v2::ex⟩:=⟨rfl,h2.len⟩
 have s1:cC (cG B.C 0 (vr 0) [] (aQ 14 (bW B))) ⟨.inst B.C 2::List.replicate 7 .unb,[c0,c1, .dct 0 vals]⟩= .ok .next ⟨.inst B.C 2::List.replicate 7 .unb,c0::c1 :: .dct 0 v2::ex⟩:=iI (nV rfl HO (hs _))
 have s2:eqM (aX B.C 0 5 (vr 0)) (cI 1) ⟨.inst B.C 2::List.replicate 7 .unb,c0::c1 :: .dct 0 v2::ex⟩= .ok ((c:Int)==1) ⟨.inst B.C 2::List.replicate 7 .unb,c0::c1 :: .dct 0 v2::ex⟩:=by
  show bnd _ _ _=_
  rw [aB (cK (x:=vr 0) rfl H2 h5 rfl)]
  rfl
 have:mE B ⟨cY 8 [.inst B.C 2],[c0,c1, .dct 0 vals]⟩=if c=1 then .bad else .ok () ⟨.inst B.C 2::List.replicate 7 .unb,c0::c1 :: .dct 0 v2::ex⟩:=by
  show bnd _ _ _=_
  rw [show cY 8 [.inst B.C 2]= .inst B.C 2::List.replicate 7 .unb from rfl,aB s1]
  show bnd _ _ _=_
  rw [aB s2]
  by_cases h:c=1
  ·subst h;rfl
  ·rw [if_neg h,show ((c:Int)==1)=false by rw [beq_eq_false_iff_ne];exact lin1 (.n (.Q (.c .v0) .k1)) (.n (.q .v0 .k1)) (.d 1 (.w [1, -1]) (.w [1,1])) rfl (.n1 _) h];rfl
 unfold iU
 dsimp only
 rw [this]
 by_cases h:c=1
 ·rw [if_pos h,if_pos h]
 ·rw [if_neg h,if_neg h]
theorem ask_3 (hf:Fix c0 c1) (hl:vals.length=11) (h1:vals[1]? =some (.int tab)) (htab:0<tab∧tab≤8) (hT:T.length≤60000) (he:T.getLast? =some 10) (X:TxtC T P c) (G:c=1→Geo T P.length W wd cut):
  ∃v',cE 2 (xU B) [.inst B.C 2, .str T] ⟨vars,[c0,c1, .dct 0 vals]⟩= .ok (if c=1 then .int ((aZ tab 0 ((T.drop P.length).take cut)).length+1) else .str (lit "refused")) ⟨vars,[c0,c1, .dct 0 v']⟩∧Sn3 tab T P.length v':=by
 have hl1:((vals.set 2 (.str T)).set 3 (.int 0)).length=11:=by rw [List.length_set,List.length_set,hl]
 obtain ⟨va,hva⟩:∃va,va=(vals.set 2 (.str T)).set 3 (.int 0):=⟨_,rfl⟩
 have s0:cC (cG B.C 0 (vr 0) [vr 1] (aQ 2 (fZ B))) ⟨[.inst B.C 2, .str T],[c0,c1, .dct 0 vals]⟩= .ok .next ⟨[.inst B.C 2, .str T],[c0,c1, .dct 0 va]⟩:=by
  refine iI (aH4 (vals:=vals) rfl rfl ⟨rfl,hl⟩ (as:=[.str T]) rfl ?_)
  rw [hva]
  exact wU ⟨rfl,hl⟩ hT he
 obtain ⟨v2,ex,g1,g2,g3⟩:=aS5 (B:=B) (c0:=c0) (c1:=c1) (vals:=va) (by rw [hva];exact hl1) (by rw [hva,List.getElem?_set_ne (by decide),List.getElem?_set_ne (by decide)];exact h1)
  (by rw [hva,List.getElem?_set_ne (by decide),List.getElem?_set_self (by exact lin1 (.t (.k 2) .v0) (.q .v0 (.k 11)) (.w [1, -1]) rfl (.n1 _) hl)]) (by rw [hva,List.getElem?_set_self (by rw [List.length_set];exact lin1 (.t (.k 3) .v0) (.q .v0 (.k 11)) (.w [1, -1]) rfl (.n1 _) hl)]) X
 have hla:va.length=11:=by rw [hva];exact hl1
 have HO:Obj1 B 2 va ⟨[.inst B.C 2, .str T],[c0,c1, .dct 0 va]⟩:=⟨rfl,hla⟩
 have hx:=aJ3 (nv:=8) (F:=mE B) rfl HO (aT6 (vars:=[.inst B.C 2, .str T]) g1 rfl hla g2 g3)
 have fin:∀{v:PV}{d:List PV}{ex:List PCell},aF2 3 v=true→wO (bC1 B) (pD B.C 0 (vr 0) (iU 8 (mE B))) (lit "refused") ⟨[.inst B.C 2, .str T],[c0,c1, .dct 0 va]⟩= .ok (.ret v) ⟨[.inst B.C 2, .str T],c0::c1 :: .dct 0 d::ex⟩→
   cE 2 (xU B) [.inst B.C 2, .str T] ⟨vars,[c0,c1, .dct 0 vals]⟩= .ok v ⟨vars,[c0,c1, .dct 0 (d.map (_M.forget 3))]⟩:=by
  intro v d ex hv h
  refine tM (ex:=ex) hf hv ?_
  have run:xU B ⟨[.inst B.C 2, .str T],[c0,c1, .dct 0 vals]⟩= .ok (.ret v) ⟨[.inst B.C 2, .str T],c0::c1 :: .dct 0 d::ex⟩:=by
   show bnd _ _ _=_
   rw [aB s0]
   exact h
  unfold aQ
  rw [show cY 2 [.inst B.C 2, .str T]=[.inst B.C 2, .str T] from rfl]
  dsimp only
  rw [run]
 by_cases h:c=1
 ·rw [if_pos h] at hx ⊢
  have H2:Obj1 B 2 va ⟨.inst B.C 2::List.replicate 7 .unb,[c0,c1, .dct 0 va]⟩:=⟨rfl,hla⟩
  have t1:=told (B:=B) (k:=2) (vars:=[.inst B.C 2, .str T]) (nV rfl H2 (g1 _)) ⟨rfl,g2.len⟩ g2.h1 g2.h2 (by rw [g3,h];rfl) g2.h6 htab hT (G h)
  refine ⟨_,fin (d:=v2.map (_M.forget 3)) (ex:=[]) rfl ?_,(g2.forget (n:=3)).forget (n:=3)⟩
  unfold wO
  rw [hx]
  show bnd _ _ _=_
  rw [aB (uG rfl HO (tM hf rfl t1))]
  rfl
 ·rw [if_neg h] at hx ⊢
  refine ⟨_,fin (d:=v2) (ex:=ex) rfl ?_,g2.forget (n:=3)⟩
  unfold wO
  rw [hx]
end
section
variable {T P W wd w:List Nat}{B:Ads}{s tab:Nat}{vals vars:List PV}{c0 c1:PCell}{cells:List PCell}{e n:Nat}{r:List Nat}
noncomputable abbrev bst (B:Ads) (s n j:Nat) (T:List Nat) (cells:List PCell):St:=⟨[.inst B.C 2, .int s, .int n, .int j, .str T],cells⟩
noncomputable abbrev zB:PM Bool:=cX (aA ltP (vr 3) (vr 2)) (aA inP (itm (vr 4) (vr 3)) (cS " \t"))
theorem vW {j x:Nat} (h:T[j]? =some x) (hT:T.length≤60000):zB (bst B s T.length j T cells)= .ok (x==32||x==9) (bst B s T.length j T cells):=by
 have hj:j<T.length:=aM h
 have e1:aA ltP (vr 3) (vr 2) (bst B s T.length j T cells)= .ok true (bst B s T.length j T cells):=by
  show Res.ok (decide ((j:Int)<(T.length:Int))) _=_
  rw [decide_eq_true (Int.ofNat_lt.mpr hj)]
 have e2:itm (vr 4) (vr 3) (bst B s T.length j T cells)= .ok (.str [x]) (bst B s T.length j T cells):=cV rfl rfl h (by unfold aD;exact Q0 (.n1 _) hT)
 unfold zB cX
 rw [aB e1]
 show bnd _ _ _=_
 rw [aB e2]
 show Res.ok ([32,9].contains x) _=_
 congr 1
 unfold List.contains List.elem List.elem List.elem
 cases (x==32) <;> cases (x==9) <;> rfl
theorem bD5 (hT:T.length≤60000) (he:e≠32∧e≠9):∀(w:List Nat) (j N:Nat),(∀x∈w,x=32∨x=9)→T.drop j=w++e::r→w.length<N→
  aV N zB (bQ 3 1) nop (bst B s T.length j T cells)= .ok .next (bst B s T.length (j+w.length) T cells)
 | w,j,0,_,_,hN=>absurd hN (Nat.not_lt_zero _)
 | [],j,N+1,_,hd,_=>by
  have h1:T[j]? =some e:=by
   have:(T.drop j)[0]? =some e:=by rw [hd];rfl
   rwa [List.getElem?_drop,Nat.add_zero] at this
  rw [tV (by rw [vW h1 hT,beq_eq_false_iff_ne.mpr he.1,beq_eq_false_iff_ne.mpr he.2];rfl)]
  rfl
 | x::w,j,N+1,hw,hd,hN=>by
  have h1:T[j]? =some x:=by
   have:(T.drop j)[0]? =some x:=by rw [hd];rfl
   rwa [List.getElem?_drop,Nat.add_zero] at this
  have h2:T.drop (j+1)=w++e::r:=by rw [←List.drop_drop,hd];rfl
  have hx:(x==32||x==9)=true:=by rcases hw x (.head _) with rfl | rfl <;> rfl
  rw [gO (σ1:=bst B s T.length j T cells) (σ2:=bst B s T.length (j+1) T cells) (by rw [vW h1 hT,hx]) (.inr rfl),bD5 hT he w (j+1) N (fun y hy=>hw y (.tail _ hy)) h2 (Nat.lt_of_succ_lt_succ hN),List.length_cons,Nat.add_assoc,Nat.add_comm 1]
theorem base_3 (hf:Fix c0 c1) (X:Sn3 tab T s vals) (hT:T.length≤60000) (hW:∀x∈W,x=32∨x=9) (hd:T.drop s=W++e::r) (he:e≠32∧e≠9):
  cE 5 (rL B) [.inst B.C 2] ⟨vars,[c0,c1, .dct 0 vals]⟩= .ok (.str W) ⟨vars,[c0,c1, .dct 0 (vals.map (_M.forget 3))]⟩:=by
 have hlen:T.length-s=W.length+(r.length+1):=by rw [←List.length_drop,hd,List.length_append];rfl
 have H:∀v,Obj1 B 2 vals ⟨v,[c0,c1, .dct 0 vals]⟩:=fun v=>⟨rfl,X.len⟩
 refine tM (ex:=[]) hf rfl ?_
 have s1:cC (cG B.C 0 (vr 0) [] (aQ 14 (bW B))) ⟨[.inst B.C 2, .unb, .unb, .unb, .unb],[c0,c1, .dct 0 vals]⟩= .ok .next ⟨[.inst B.C 2, .unb, .unb, .unb, .unb],[c0,c1, .dct 0 vals]⟩:=
  iI (nV rfl (H _) (again (H _) X.h3))
 have s2:fP 1 2 (aX B.C 0 6 (vr 0)) (aX B.C 0 7 (vr 0)) ⟨[.inst B.C 2, .unb, .unb, .unb, .unb],[c0,c1, .dct 0 vals]⟩= .ok .next ⟨[.inst B.C 2, .int s, .int T.length, .unb, .unb],[c0,c1, .dct 0 vals]⟩:=by
  unfold fP
  rw [aB (cK (x:=vr 0) rfl (H _) X.h6 rfl),aB (cK (x:=vr 0) rfl (H _) X.h7 rfl)]
  rfl
 have s4:aF 4 (aX B.C 0 2 (vr 0)) ⟨[.inst B.C 2, .int s, .int T.length, .int s, .unb],[c0,c1, .dct 0 vals]⟩= .ok .next (bst B s T.length s T [c0,c1, .dct 0 vals]):=by
  rw [aO (cK (x:=vr 0) rfl (H _) X.h2 rfl) rfl]
  rfl
 have s5:aV cR zB (bQ 3 1) nop (bst B s T.length s T [c0,c1, .dct 0 vals])= .ok .next (bst B s T.length (s+W.length) T [c0,c1, .dct 0 vals]):=bD5 hT he W s cR hW hd (by unfold cR;exact lin3 (.t .v0 (.k 1000000)) (.l .v1 (.k 60000)) (.q .v4 (.a .v0 (.a .v3 .k1))) (.b 4 .v1 .v2) (.d 3 (.w [0,1,1,1, -1]) (.w [0,1,1,0, -1])) rfl (.n5 _ _ _ _ _) hT hlen rfl)
 have s6:aU (vr 4) (vr 1) (vr 3) (bst B s T.length (s+W.length) T [c0,c1, .dct 0 vals])= .ok (.str W) (bst B s T.length (s+W.length) T [c0,c1, .dct 0 vals]):=by
  rw [oP (x:=vr 4) (ja:=vr 1) (jb:=vr 3) (σ:=bst B s T.length (s+W.length) T [c0,c1, .dct 0 vals]) (S:=T) (a:=s) (b:=s+W.length) rfl rfl rfl (by unfold aD;exact Q0 (.n1 _) hT) (lin2 (.l .v0 .v1) (.q .v4 (.a .v2 (.a .v3 .k1))) (.b 4 .v1 .v0) (.d 2 (.w [1,0,1]) (.w [0,1,0, -1])) rfl (.n5 _ _ _ _ _) hlen rfl),Nat.add_sub_cancel_left,hd,List.take_left]
 have run:rL B ⟨[.inst B.C 2, .unb, .unb, .unb, .unb],[c0,c1, .dct 0 vals]⟩= .ok (.ret (.str W)) (bst B s T.length (s+W.length) T [c0,c1, .dct 0 vals]):=by
  unfold rL
  dsimp only [blk]
  rw [aC s1,aC s2,aC (x:=aF 3 (vr 1)) (σ':=⟨[.inst B.C 2, .int s, .int T.length, .int s, .unb],[c0,c1, .dct 0 vals]⟩) rfl,aC s4,aC s5]
  show bnd _ _ _=_
  rw [aB s6]
  rfl
 unfold aQ
 rw [show cY 5 [.inst B.C 2]=[.inst B.C 2, .unb, .unb, .unb, .unb] from rfl]
 dsimp only
 rw [run]
end
section
variable {T P W Z e l:List Nat}{hd:List Nat×List Nat×List Nat}{lv c:Nat}{p p':Option Nat}{o:Option (List Nat)}{r:List Nat}
noncomputable def scB:Nat→Nat→Option Nat→List Nat→Option (Option (List Nat))
 | 0,_,_,_=>none
 | _+1,_,_,[]=>some none
 | k+1,lv,p,c::r=>
  if c=40∨c=91∨c=123 then scB k (lv+1) (some c) r
  else if c=41∨c=93∨c=125 then scB k (lv-1) (some c) r
  else if c=34∨c=39 then scB k lv ((c::r)[RX.eK c (c::r)-1]?) ((c::r).drop (RX.eK c (c::r)))
  else if c=35 then some none
  else if c=61 then match r with
   | d::r=>if lv=0∧hG p=true∧d≠61 then some (some (61::d::r)) else scB k lv (some 61) (d::r)
   | []=>none
  else scB k lv (some c) r
theorem scB_s {k lv c:Nat}{p:Option Nat}{r:List Nat}:scB (k+1) lv p (c::r)=
  if c=40∨c=91∨c=123 then scB k (lv+1) (some c) r
  else if c=41∨c=93∨c=125 then scB k (lv-1) (some c) r
  else if c=34∨c=39 then scB k lv ((c::r)[RX.eK c (c::r)-1]?) ((c::r).drop (RX.eK c (c::r)))
  else if c=35 then some none
  else if c=61 then match r with
   | d::r=>if lv=0∧hG p=true∧d≠61 then some (some (61::d::r)) else scB k lv (some 61) (d::r)
   | []=>none
  else scB k lv (some c) r:=rfl
theorem mA:∀(k:Nat) {lv:Nat}{p:Option Nat}{l:List Nat},scB k lv p l=some o→Sc lv p l o
 | 0,_,_,_,h=>nomatch h
 | k+1,lv,p,[],h=>by cases h;exact .nil
 | k+1,lv,p,c::r,h=>by
  rw [scB_s] at h
  by_cases h1:c=40∨c=91∨c=123
  ·rw [if_pos h1] at h;exact .op h1 (mA k h)
  ·rw [if_neg h1] at h
   by_cases h2:c=41∨c=93∨c=125
   ·rw [if_pos h2] at h;exact .cl h2 (mA k h)
   ·rw [if_neg h2] at h
    by_cases h3:c=34∨c=39
    ·rw [if_pos h3] at h;exact .st h3 (mA k h)
    ·rw [if_neg h3] at h
     by_cases h4:c=35
     ·rw [if_pos h4] at h;cases h;subst h4;exact .cm
     ·rw [if_neg h4] at h
      by_cases h5:c=61
      ·rw [if_pos h5] at h
       subst h5
       cases r with
       | nil=>cases h
       | cons d r=>
        by_cases h6:lv=0∧hG p=true∧d≠61
        ·replace h:(if lv=0∧hG p=true∧d≠61 then some (some (61::d::r)) else scB k lv (some 61) (d::r))=some o:=h
         rw [if_pos h6] at h
         cases h
         obtain ⟨rfl,h7,h8⟩:=h6
         exact .eq h7 h8
        ·replace h:(if lv=0∧hG p=true∧d≠61 then some (some (61::d::r)) else scB k lv (some 61) (d::r))=some o:=h
         rw [if_neg h6] at h
         exact .ot rfl (fun z_=>⟨d,r,rfl,h6⟩) (mA k h)
      ·rw [if_neg h5] at h
       refine .ot ?_ (fun q=>absurd q h5) (mA k h)
       unfold nR
       simp only [not_or] at h1 h2 h3
       simp [h1.1,h1.2.1,h1.2.2,h2.1,h2.2.1,h2.2.2,h3.1,h3.2,h4]
theorem sc_pr (h:Sc lv p (c::r) o) (hc:c≠61):Sc lv p' (c::r) o:=by
 cases h with
 | op h1 h2=>exact .op h1 h2
 | cl h1 h2=>exact .cl h1 h2
 | st h1 h2=>exact .st h1 h2
 | cm=>exact .cm
 | eq h1 h2=>exact absurd rfl hc
 | ot h1 h2 h3=>exact .ot h1 (fun q=>absurd q hc) h3
noncomputable abbrev ws (c:Nat):Bool:=[32,9].contains c
noncomputable def nwB (c:Nat):Bool:=c != 32&&c != 9&&c != 10
noncomputable def body (hd:List Nat×List Nat×List Nat) (e:List Nat):List Nat:=hd.1++(hd.2.1++(hd.2.2++e))
noncomputable def wdB (l:List Nat):List Nat:=l.takeWhile nwB
noncomputable def mS (hd:List Nat×List Nat×List Nat) (e:List Nat):Nat:=
 if hd.2.1≠[]∧¬((hd.2.2++e).dropWhile ws).take 1=[92] then (hd.1++hd.2.1).length else (wdB (body hd e)).length
noncomputable def headB:List Nat→Bool
 | c::_=>[32,9,10,35,61].all (· != c)
 | []=>false
noncomputable def e0B:List Nat→Bool
 | c::_=> !nwB c&&Unicode.isSpace c
 | []=>false
noncomputable def scOk (hd:List Nat×List Nat×List Nat) (e:List Nat):Option (Option (List Nat))→Bool
 | some (some [])=>false
 | some o=>eO (wdB (body hd e)) (body hd e) o==mS hd e
 | none=>false
noncomputable def chk (hd:List Nat×List Nat×List Nat) (e:List Nat):Bool:=
 (body hd e==(body hd e).dropLast++[10])&&(!(body hd e).dropLast.contains 10&&(headB (body hd e)&&(e0B ((body hd e).drop (wdB (body hd e)).length)&&((wdB (body hd e)).all (fun c=> !Unicode.isSpace c) &&
  (scOk hd e (scB 100 0 none (body hd e))&&((body hd e).all (fun c=>decide (c<128)&&c != 13)&&(decide (mS hd e≤(body hd e).dropLast.length)&&((hd.2.2++e).dropWhile ws != []&&decide ((body hd e).length≤40)))))))))
theorem aZ0:∀hd∈tB,∀br∈oB,chk hd br.1=true:=by decide +kernel
structure First (hd:List Nat×List Nat×List Nat) (e:List Nat):Prop where
 y:body hd e=(body hd e).dropLast++[10]
 n:10∉(body hd e).dropLast
 h:∃c r,body hd e=c::r∧c≠32∧c≠9∧c≠10∧c≠35∧c≠61
 w:∃e0 r,body hd e=wdB (body hd e)++e0::r∧nwB e0=false∧Unicode.isSpace e0=true
 s:∀c∈wdB (body hd e),Unicode.isSpace c=false
 sc:∃o,Sc 0 none (body hd e) o∧(∀suf,o=some suf→suf≠[])∧eO (wdB (body hd e)) (body hd e) o=mS hd e
 a:∀c∈body hd e,c<128∧c≠13
 c:mS hd e≤(body hd e).dropLast.length
 d:(hd.2.2++e).dropWhile ws≠[]
 l:(body hd e).length≤40
theorem aM3 (h:chk hd e=true):First hd e:=by
 unfold chk at h
 simp only [Bool.and_eq_true,decide_eq_true_eq,Bool.not_eq_true',bne_iff_ne,beq_iff_eq] at h
 obtain ⟨h1,h2,h3,h4,h5,h6,h7,h8,h9,h10⟩:=h
 refine ⟨h1,fun q=> ?_, ?_, ?_,fun c hc=> ?_, ?_,fun c hc=> ?_,h8,h9,h10⟩
 ·rw [List.contains_iff_mem.mpr q] at h2;cases h2
 ·cases hb:body hd e with
  | nil=>rw [hb] at h3;cases h3
  | cons c r=>
   rw [hb] at h3
   have:=List.all_eq_true.mp h3
   exact ⟨c,r,rfl,fun q=>bne_iff_ne.mp (this 32 (by decide)) q.symm,fun q=>bne_iff_ne.mp (this 9 (by decide)) q.symm,fun q=>bne_iff_ne.mp (this 10 (by decide)) q.symm,fun q=>bne_iff_ne.mp (this 35 (by decide)) q.symm,fun q=>bne_iff_ne.mp (this 61 (by decide)) q.symm⟩
 ·have hs:wdB (body hd e)++(body hd e).drop (wdB (body hd e)).length=body hd e:=by
   conv=>rhs;rw [←List.takeWhile_append_dropWhile (p:=nwB) (l:=body hd e),lP]
   rfl
  cases hb:(body hd e).drop (wdB (body hd e)).length with
  | nil=>rw [hb] at h4;cases h4
  | cons c r=>
   rw [hb] at h4
   obtain ⟨k1,k2⟩:=Bool.and_eq_true_iff.mp h4
   exact ⟨c,r,by rw [←hb,hs],by simpa using k1,k2⟩
 ·have:=List.all_eq_true.mp h5 c hc
  simpa using this
 ·cases ho:scB 100 0 none (body hd e) with
  | none=>rw [ho] at h6;cases h6
  | some o=>
   rw [ho] at h6
   refine ⟨o,mA _ ho,fun suf hs=> ?_, ?_⟩
   ·subst hs
    cases suf with
    | nil=>cases h6
    | cons=>exact List.cons_ne_nil _ _
   ·rcases o with _ | (_ | ⟨x,xs⟩)
    ·exact beq_iff_eq.mp h6
    ·cases h6
    ·exact beq_iff_eq.mp h6
 ·have:=List.all_eq_true.mp h7 c hc
  simpa using this
theorem nwB_f {c:Nat} (h:nwB c=true):c≠32∧c≠9∧c≠10:=by
 unfold nwB at h
 simp only [Bool.and_eq_true,bne_iff_ne] at h
 exact ⟨h.1.1,h.1.2,h.2⟩
theorem nwB_n {c:Nat} (h:nwB c=false):c=32∨c=9∨c=10:=by
 by_cases h1:c=32
 ·exact .inl h1
 ·by_cases h2:c=9
  ·exact .inr (.inl h2)
  ·by_cases h3:c=10
   ·exact .inr (.inr h3)
   ·unfold nwB at h;simp [h1,h2,h3] at h
theorem aR4 {c:Nat} (h:c∈wdB l):nwB c=true:=List.all_eq_true.mp List.all_takeWhile c h
theorem geo3 (F:First hd e) (hW:∀x∈W,x=32∨x=9) (hT:T=P++(W++(body hd e++Z))):Geo T P.length W (wdB (body hd e)) (W.length+mS hd e):=by
 obtain ⟨c,r,hb,n1,n2,n3,n4,n5⟩:=F.h
 obtain ⟨e0,rr,w1,w2,w3⟩:=F.w
 obtain ⟨o,s1,s2,s3⟩:=F.sc
 refine ⟨body hd e++Z,(body hd e).dropLast,Z,e0,rr,o,by rw [hT,List.drop_left],hW, ?_,F.n,fun x hx=> ?_,by rw [←F.y];exact w1,fun x hx=>nwB_f (aR4 hx),nwB_n w2, ?_,fun suf hs=> ?_,by rw [←F.y,s3]⟩
 ·conv=>lhs;rw [F.y,List.append_assoc]
  rfl
 ·rw [hb] at hx
  rw [←Option.some.inj hx]
  exact ⟨n1,n2⟩
 ·rw [←F.y,hb]
  rw [hb] at s1
  exact sc_pr s1 n5
 ·obtain ⟨x,xs,h⟩:=List.exists_cons_of_ne_nil (s2 suf hs)
  exact ⟨x,xs,h⟩
theorem junk3 (F:First hd e) (hW:∀x∈W,x=32∨x=9):hK (W++(body hd e++Z))=some none:=by
 obtain ⟨c,r,hb,n1,n2,n3,n4,n5⟩:=F.h
 unfold hK
 rw [aO1 W _ (fun x hx=>by rcases hW x hx with rfl | rfl <;> rfl),hb,List.cons_append,List.dropWhile_cons,show RX.bT c=false by unfold RX.bT;rw [Bool.or_eq_false_iff];exact ⟨beq_eq_false_iff_ne.mpr n1,beq_eq_false_iff_ne.mpr n2⟩]
 show (if c=35∨c=10 then none else some none)=_
 rw [if_neg fun q=>q.elim n4 n3]
end
section
variable {T P S W Y l en:List Nat}{hd:List Nat×List Nat×List Nat}{B:Ads}{tab n:Nat}{g:List Nat}{m m':M}{z z' zf:Z}{vals:List PV}{c0 c1:PCell}{ans:Bool}{td line ansv:PV}
structure E3 where
 (v0 v1 v2 v3 v4 v5 v7 v9 v10 v11 v12 v13 v15:PV)
 W:List Nat
 due:Int
 C:Addr
noncomputable abbrev sl (e:E3) (ans:PV) (text:List Nat) (line td:PV) (cells:List PCell):St:=
 ⟨[e.v0,e.v1,e.v2,e.v3,e.v4,e.v5,ans,e.v7, .str e.W,e.v9,e.v10,e.v11,e.v12,e.v13, .int e.due,e.v15, .str text, .inst e.C 2,line,td],cells⟩
structure C3 (B:Ads) (P W:List Nat) (n:Nat) (g:List Nat) (hd:List Nat×List Nat×List Nat) (en:List Nat) (tab:Nat) (c0 c1:PCell) (e:E3):Prop where
 f:Fix c0 c1
 p:Pre P n g
 F:First hd en
 wh:∀x∈W,x=32∨x=9
 t:0<tab∧tab≤8
 eW:e.W=W
 eC:e.C=B.C
 due:e.due=(aZ tab 0 ((W++body hd en).take (W.length+mS hd en))).length+1
variable {e:E3}
theorem bE2 (F:First hd en):mS hd en≤(body hd en).length:=Nat.le_trans F.c (by rw [List.length_dropLast];exact Nat.sub_le _ _)
theorem bC3 (C:C3 B P W n g hd en tab c0 c1 e) {b x:List Nat} (hp:Path false .pl ⟨0,n,g++[n],0⟩ S m z) (hl:l=b++x) (hb:Path false m z b m' z') (hx:FinE m' z' x zf ans)
  (hS:S++l=W++(body hd en++Y)) (ha:∀c∈S++l,c<128) (hlen:P.length+(S++l).length≤5000) (h11:vals.length=11) (h1:vals[1]? =some (.int tab)):
  ∃v td',jL B (sl e (.bool ans) (P++S) (.str l) td [c0,c1, .dct 0 vals])= .ok .next (sl e (.bool ans) (P++(S++l)) (.str l) td' [c0,c1, .dct 0 v])∧v.length=11∧v[1]? =some (.int tab):=by
 obtain ⟨T,hT⟩:∃T,T=P++(S++l):=⟨_,rfl⟩
 have hTl:T.length≤5000:=by rw [hT,List.length_append];exact hlen
 have hT6:T.length≤60000:=Nat.le_trans hTl (by decide)
 have hTx:T=P++((S++b)++x):=by rw [hT,hl,List.append_assoc S]
 have hSl:(S++b)++x=S++l:=by rw [hl,List.append_assoc]
 have X:=txt3 C.p (gF hp hb) hx hTx (by rw [hSl,hS];exact junk3 C.F C.wh) (by rw [hSl];exact ha) hT6
 have hx10:x.getLast? =some 10:=by rcases hx.e with h | h <;> rw [h] <;> rfl
 have G:=geo3 (P:=P) (T:=T) C.F C.wh (by rw [hT,hS])
 have hdr:T.drop P.length=W++(body hd en++Y):=by rw [hT,List.drop_left,hS]
 obtain ⟨v1,a1,a2⟩:=ask_3 (B:=B) (vars:=(sl e (.bool ans) T (.str l) td [c0,c1, .dct 0 vals]).vars) C.f h11 h1 C.t hT6 (by rw [hTx,List.getLast?_append,List.getLast?_append,hx10];rfl) X (fun z_=>G)
 have htk:(T.drop P.length).take (W.length+mS hd en)=(W++body hd en).take (W.length+mS hd en):=by
  rw [hdr, ←List.append_assoc,List.take_append_of_le_length (by rw [List.length_append];exact Nat.add_le_add_left (bE2 C.F) _)]
 rw [htk, ←C.due] at a1
 have s1:vY bA1 16 (vr 18) (sl e (.bool ans) (P++S) (.str l) td [c0,c1, .dct 0 vals])= .ok .next (sl e (.bool ans) T (.str l) td [c0,c1, .dct 0 vals]):=by
  unfold vY
  rw [aB (jP (g:=bA1) (x:=vr 16) (y:=vr 18) (a:= .str (P++S)) (c:= .str l) (r:= .str ((P++S)++l)) rfl rfl (if_pos (by rw [←List.length_append,List.append_assoc, ←hT];unfold aD;exact lin1 (.l .v0 (.k 1048576)) (.l .v0 (.k 5000)) (.w [1,1]) rfl (.n1 _) hTl)))]
  rw [List.append_assoc, ←hT]
  rfl
 obtain ⟨tv,htv⟩:∃tv:PV,tv=if cT zf=1 then .int e.due else .str (lit "refused"):=⟨_,rfl⟩
 rw [←htv] at a1
 have s2:aF 19 (bnd (evL [vr 17,vr 16]) (cE 2 (xU B))) (sl e (.bool ans) T (.str l) td [c0,c1, .dct 0 vals])= .ok .next (sl e (.bool ans) T (.str l) tv [c0,c1, .dct 0 v1]):=by
  have ev:bnd (evL [vr 17,vr 16]) (cE 2 (xU B)) (sl e (.bool ans) T (.str l) td [c0,c1, .dct 0 vals])= .ok tv ⟨(sl e (.bool ans) T (.str l) td [c0,c1, .dct 0 vals]).vars,[c0,c1, .dct 0 v1]⟩:=by
   rw [aB (x:=evL [vr 17,vr 16]) (a:=[.inst e.C 2, .str T]) rfl,C.eC]
   exact a1
  rw [aO ev (by rw [htv];split <;> rfl)]
  rfl
 have s3:orM (aA neP (vr 19) (aP (bnd (vr 6) bO) (vr 14) (cS "refused"))) (cX (bnd (vr 6) bO) (sV (bnd (bnd (evL [vr 19,aI (.glob (.type "int"))]) isiG) bO))) (sl e (.bool ans) T (.str l) tv [c0,c1, .dct 0 v1])= .ok false (sl e (.bool ans) T (.str l) tv [c0,c1, .dct 0 v1]):=by
  cases ans with
  | true=>
   rw [if_pos (hx.ans.mpr rfl)] at htv
   subst htv
   have:aA neP (vr 19) (aP (bnd (vr 6) bO) (vr 14) (cS "refused")) (sl e (.bool true) T (.str l) (.int e.due) [c0,c1, .dct 0 v1])= .ok false (sl e (.bool true) T (.str l) (.int e.due) [c0,c1, .dct 0 v1]):=by
    show Res.ok (e.due != e.due) _=_
    rw [bne_self_eq_false]
   unfold orM
   rw [aB this]
   rfl
  | false=>
   rw [if_neg fun h=>nomatch hx.ans.mp h] at htv
   subst htv
   have:aA neP (vr 19) (aP (bnd (vr 6) bO) (vr 14) (cS "refused")) (sl e (.bool false) T (.str l) (.str (lit "refused")) [c0,c1, .dct 0 v1])= .ok false (sl e (.bool false) T (.str l) (.str (lit "refused")) [c0,c1, .dct 0 v1]):=by
    show Res.ok (lit "refused" != lit "refused") _=_
    rw [bne_self_eq_false]
   unfold orM
   rw [aB this]
   rfl
 obtain ⟨c,r,hb,n1,n2,_⟩:=C.F.h
 have b1:=base_3 (B:=B) (vars:=(sl e (.bool ans) T (.str l) tv [c0,c1, .dct 0 v1]).vars) C.f a2 hT6 C.wh (show T.drop P.length=W++c::(r++Y) by rw [hdr,hb];rfl) ⟨n1,n2⟩
 have s4:aA neP (cG B.C 0 (vr 17) [] (cE 5 (rL B))) (vr 8) (sl e (.bool ans) T (.str l) tv [c0,c1, .dct 0 v1])= .ok false (sl e (.bool ans) T (.str l) tv [c0,c1, .dct 0 (v1.map (_M.forget 3))]):=by
  unfold aA
  rw [aB (uG (k:=2) (vals:=v1) (by show Res.ok (PV.inst e.C 2) _=_;rw [C.eC]) ⟨rfl,a2.len⟩ b1)]
  show Res.ok (W != e.W) _=_
  rw [C.eW,bne_self_eq_false]
 refine ⟨v1.map (_M.forget 3),tv, ?_,(a2.forget (n:=3)).len,(a2.forget (n:=3)).h1⟩
 unfold jL
 dsimp only [blk]
 rw [aC s1,aC s2,bU s3,bC s4, ←hT]
 rfl
def Item (it:PV) (p:List Nat×Bool):Prop:=∀σ,nF tb3 [bF 18,bF 6] it σ=wN [bF 18,bF 6] [.str p.1, .bool p.2] σ
inductive Items:List PV→List (List Nat×Bool)→Prop
 | nil:Items [] []
 | cons {it:PV}{p:List Nat×Bool}{its:List PV}{ps:List (List Nat×Bool)} (h:Item it p) (H:Items its ps):Items (it::its) (p::ps)
def Bg (W:List Nat) (hd:List Nat×List Nat×List Nat) (en S:List Nat) (ps:List (List Nat×Bool)):Prop:=(∃Y,S=W++(body hd en++Y))∨(S=[]∧∃a r,ps=(W++body hd en,a)::r)
theorem Bg.go {a:Bool}{ps:List (List Nat×Bool)} (h:Bg W hd en S ((l,a)::ps)):∃Y,S++l=W++(body hd en++Y):=by
 rcases h with ⟨Y,rfl⟩ | ⟨rfl,a,r,h⟩
 ·exact ⟨Y++l,by rw [List.append_assoc,List.append_assoc]⟩
 ·cases h;exact ⟨[],by rw [List.append_nil];rfl⟩
theorem uZ {it:PV}{its:List PV}{σ1:St}{text:List Nat}{cells:List PCell} (hi:Item it (l,ans)) (h:jL B (sl e (.bool ans) text (.str l) td cells)= .ok .next σ1):
  lM (nF tb3 [bF 18,bF 6]) (jL B) (it::its) (sl e ansv text line td cells)=lM (nF tb3 [bF 18,bF 6]) (jL B) its σ1:=by
 have e1:nF tb3 [bF 18,bF 6] it (sl e ansv text line td cells)= .ok .next (sl e (.bool ans) text (.str l) td cells):=(hi _).trans rfl
 show bnd _ _ _=_
 rw [aB e1,aB h]
theorem aW9 (C:C3 B P W n g hd en tab c0 c1 e) {ps:List (List Nat×Bool)} (w:Wk m z ps):∀(S:List Nat) (its:List PV) (ansv line td:PV) (vals:List PV),Path false .pl ⟨0,n,g++[n],0⟩ S m z→Bg W hd en S ps→Items its ps→
  (∀c∈S,c<128)→(∀p∈ps,∀c∈p.1,c<128)→P.length+S.length+(ps.map (·.1.length)).sum≤5000→vals.length=11→vals[1]? =some (.int tab)→
  ∃σ',lM (nF tb3 [bF 18,bF 6]) (jL B) its (sl e ansv (P++S) line td [c0,c1, .dct 0 vals])= .ok .next σ':=by
 induction w with
 | @one m m' z z' zf b x hb hx=>
  intro S its ansv line td vals hp hg hi ha hpa hlen h11 h1
  cases hi with
  | cons hi hn=>
   cases hn
   obtain ⟨Y,hS⟩:=hg.go
   obtain ⟨v,t',q,_,_⟩:=bC3 C (td:=td) hp rfl hb hx hS (fp ha (hpa _ (.head _))) (by simp at hlen ⊢;exact lin1 (.l (.a .v0 (.a .v1 (.a .v2 .v3))) (.k 5000)) (.l (.a (.a .v0 .v1) (.a .v2 .v3)) (.k 5000)) (.w [1,1]) rfl (.n4 _ _ _ _) hlen) h11 h1
   exact ⟨_,(uZ hi q).trans rfl⟩
 | @cons m m2 z z2 l ans r h w ih=>
  intro S its ansv line td vals hp hg hi ha hpa hlen h11 h1
  cases hi with
  | cons hi hn=>
   obtain ⟨Y,hS⟩:=hg.go
   obtain ⟨⟨b,x,m1,z1,zf,hl,hb,hx⟩,hq⟩:=h
   have hpl:P.length+(S++l).length≤5000:=by simp at hlen ⊢;exact lin1 (.l (.a .v0 (.a .v1 .v2)) (.k 5000)) (.l (.a (.a .v0 .v1) (.a .v2 .v3)) (.k 5000)) (.w [1,1]) rfl (.n4 _ _ _ _) hlen
   obtain ⟨v,t',q,q1,q2⟩:=bC3 C (td:=td) hp hl hb hx hS (fp ha (hpa _ (.head _))) hpl h11 h1
   obtain ⟨σ',k⟩:=ih (S++l) _ (.bool ans) (.str l) t' v (gF hp hq) (.inl ⟨Y,hS⟩) hn (fp ha (hpa _ (.head _))) (fun p hp'=>hpa p (.tail _ hp')) (by simp at hlen ⊢;exact lin1 (.l (.a (.a .v0 (.a .v1 .v2)) .v3) (.k 5000)) (.l (.a (.a .v0 .v1) (.a .v2 .v3)) (.k 5000)) (.w [1,1]) rfl (.n4 _ _ _ _) hlen) q1 q2
   exact ⟨σ',(uZ hi q).trans k⟩
end
section
variable {σ:St}{x i:PM PV}{xs:List PV}{j k tab:Nat}{vars:List PV}{pre:List PCell}{f:Int→PV}{e:PV→PM PV}
theorem jC (n:Int) {kk:Int} (k:Nat) (hkk:kk=k) (hk:0<k):∃j:Nat,Int.fmod n kk=j∧j<k:=by
 subst hkk
 have h1:=Int.fmod_nonneg_of_pos n (Int.ofNat_lt.mpr hk:(0:Int)<k)
 have h2:=Int.fmod_lt_of_pos n (Int.ofNat_lt.mpr hk:(0:Int)<k)
 exact ⟨(Int.fmod n k).toNat,(Int.toNat_of_nonneg h1).symm,(Int.toNat_lt h1).mpr h2⟩
theorem gV {t:Bool} (hx:x σ= .ok (.seq t xs) σ) (hi:i σ= .ok (.int j) σ) (hj:j<xs.length) (hl:xs.length≤aD):itm x i σ= .ok (xs.getD j .other) σ:=by
 show bnd _ _ _=_
 rw [aB hx,aB hi]
 unfold bG
 dsimp only
 rw [if_pos hl,nX hj]
theorem mP {v kk:Int} (hk:kk≠0) (hx:x σ= .ok (.int v) σ) (hm:Int.fmod v kk=j):aA eR x (cI kk) σ= .ok (.int j) σ:=
 jP hx rfl (by show (if kk≠0 then some (PV.int (Int.fmod v kk)) else none)=_;rw [if_pos hk,hm])
theorem xP {v kk:Int} (hk:0<kk∧kk≤1000) (hx:x σ= .ok (.int v) σ):aA aM8 x (cI kk) σ= .ok (.int (v.fdiv kk)) σ:=
 jP hx rfl (if_pos hk)
theorem jE {y:PM PV}{a b:List Nat} (hx:x σ= .ok (.str a) σ) (hy:y σ= .ok (.str b) σ) (h:a.length+b.length≤60000):aA bA x y σ= .ok (.str (a++b)) σ:=
 jP hx hy (if_pos (by unfold aD;exact lin1 (.l (.a .v0 .v1) (.k 1048576)) (.l (.a .v0 .v1) (.k 60000)) (.w [1,1]) rfl (.n2 _ _) h))
theorem pX (he:∀(n:Int) σ,e (.int n) σ= .ok (f n) σ) (hu:∀n,aN (f n)=false):∀(l:List Int) (acc:List PV),acc.length+l.length≤1000→
  jQ pre.length (fun z_=>aL true) e (l.map .int) ⟨vars,pre++[.list acc]⟩= .ok (.cell pre.length) ⟨vars,pre++[.list (acc++l.map f)]⟩
 | [],acc,_=>by rw [List.map_nil,List.map_nil,List.append_nil];rfl
 | n::l,acc,hb=>by
  have e1:jH [.cell pre.length,f n] ⟨vars,pre++[.list acc]⟩= .ok .none ⟨vars,pre++[.list (acc++[f n])]⟩:=by
   show qA pre.length (f n) _=_
   unfold qA bJ
   dsimp only
   have hg:(pre++[PCell.list acc])[pre.length]? =some (.list acc):=by simp
   rw [hg]
   dsimp only
   rw [if_pos (by simp at hb;unfold aD;exact lin1 (.t .v0 (.k 1048576)) (.l (.a .v0 (.a .v1 .k1)) (.k 1000)) (.w [1,1]) rfl (.n2 _ _) hb),hu n]
   show Res.ok PV.none _=_
   rw [List.set_append_right _ _ (Nat.le_refl _),Nat.sub_self]
   rfl
  rw [List.map_cons]
  rw [yY]
  rw [if_pos (show lZ (.int n)=true from rfl),aB (x:=aL true) (a:=true) rfl]
  simp only [if_true]
  rw [aB (he n _),aB e1,pX he hu l (acc++[f n]) (by simp at hb ⊢;exact lin1 (.l (.a (.a .v0 .k1) .v1) (.k 1000)) (.l (.a .v0 (.a .v1 .k1)) (.k 1000)) (.w [1,1]) rfl (.n2 _ _) hb),List.append_assoc]
  rfl
noncomputable def hdV (p:List Nat×List Nat×List Nat):PV:= .seq true [.str p.1, .str p.2.1, .str p.2.2]
theorem aX5 (σ:St):bnd (evL []) (aQ 0 tC) σ= .ok (.seq false (tB.map hdV)) σ:=rfl
theorem aD2 (σ:St):bnd (evL []) (aQ 0 nO) σ= .ok (.seq false (nN.map .str)) σ:=rfl
theorem aX2 (σ:St):bnd (evL []) (aQ 0 kA) σ= .ok (.seq false (iS.map .str)) σ:=rfl
theorem vN {α:Type}{l:List α}{g:α→PV} (h:j<l.length):∃y∈l,(l.map g).getD j .other=g y:=by
 refine ⟨l[j],List.getElem_mem h, ?_⟩
 rw [List.getD_eq_getElem?_getD,List.getElem?_map,List.getElem?_eq_getElem h]
 rfl
structure BrV (p:PV) (br:List Nat×Bool×List (List Nat×Bool)):Prop where
 g:∃a fa its,p= .glob (.ref a)∧tb3 a=some (true,[.str br.1, .bool br.2.1, .glob (.ref fa)])∧tb3 fa=some (false,its)∧Items its br.2.2∧its.length≤2
theorem aP1:∀j,j<6→∃br∈oB,BrV (jG.getD j .other) br
 | 0,_=>⟨_, .head _,262,261,_,rfl,rfl,rfl, .cons (fun z_=>rfl) .nil,by decide⟩
 | 1,_=>⟨_, .tail _ (.head _),266,265,_,rfl,rfl,rfl, .cons (fun z_=>rfl) (.cons (fun z_=>rfl) .nil),by decide⟩
 | 2,_=>⟨_, .tail _ (.tail _ (.head _)),269,268,_,rfl,rfl,rfl, .cons (fun z_=>rfl) .nil,by decide⟩
 | 3,_=>⟨_, .tail _ (.tail _ (.tail _ (.head _))),273,272,_,rfl,rfl,rfl, .cons (fun z_=>rfl) (.cons (fun z_=>rfl) .nil),by decide⟩
 | 4,_=>⟨_, .tail _ (.tail _ (.tail _ (.tail _ (.head _)))),277,276,_,rfl,rfl,rfl, .cons (fun z_=>rfl) (.cons (fun z_=>rfl) .nil),by decide⟩
 | 5,_=>⟨_, .tail _ (.tail _ (.tail _ (.tail _ (.tail _ (.head _))))),280,279,_,rfl,rfl,rfl, .cons (fun z_=>rfl) .nil,by decide⟩
theorem aD4:∀W∈nN,(∀x∈W,x=32∨x=9)∧W.length≤3:=by decide +kernel
theorem aX3:∀l∈iS,(∀c∈l,c<128)∧l.length≤20:=by decide +kernel
theorem aM1:∀br∈oB,(∀p∈br.2.2,(∀c∈p.1,c<128)∧p.1.length≤20)∧br.2.2.length≤2:=by decide +kernel
theorem Items.app {a b:List PV}{p q:List (List Nat×Bool)} (h:Items a p) (h':Items b q):Items (a++b) (p++q):=by
 induction h with
 | nil=>exact h'
 | cons h _ ih=>exact .cons h ih
theorem aR3 {l:List Nat}{cells:List PCell} (hc:cells=[]) (ht:0<tab) (hl:∀c∈l,c<128∧c≠10∧c≠13):
  cE 4 jU [.str l, .int tab] ⟨vars,cells⟩= .ok (.int (aZ tab 0 l).length) ⟨vars,cells⟩:=by
 subst hc
 obtain ⟨sg',e⟩:=aD5 (x0:= .str l) (cells:=[]) ht l 0 .unb fun c hc=>(hl c hc).2
 rw [Nat.zero_add] at e
 have ht':aR8 (vr 0) ⟨[.str l, .int tab, .int (0:Nat), .unb],[]⟩= .ok (l.map fun c=> .str [c]) ⟨[.str l, .int tab, .int (0:Nat), .unb],[]⟩:=by
  unfold aR8
  rw [aB (x:=vr 0) (a:= .str l) rfl]
  dsimp only
  rw [if_pos (List.all_eq_true.mpr fun c hc=>decide_eq_true (hl c hc).1)]
  rfl
 have run:jU ⟨cY 4 [.str l, .int tab],[]⟩= .ok (.ret (.int (aZ tab 0 l).length)) ⟨[.str l, .int tab, .int (aZ tab 0 l).length,sg'],[]⟩:=by
  unfold jU
  dsimp only [blk]
  rw [aC (x:=aF 2 (cI 0)) (σ':=⟨[.str l, .int tab, .int (0:Nat), .unb],[]⟩) rfl,aC (x:=pR _ _ _) (by unfold pR;rw [aB ht'];exact e)]
  rfl
 unfold cE aQ
 rw [run]
 rfl
end
section
variable {σ:St}{B:Ads}{a:Addr}{ns:List Int}
noncomputable def ahI (n:Int):List Nat:=kE.getD (Int.fmod n 10).toNat []
noncomputable def laI (n:Int):List Nat:=iS.getD (Int.fmod n 5).toNat []
theorem lJ {l:List (List Nat)}{j:Nat} (h:j<l.length):l.getD j []∈l∧(l.map PV.str).getD j .other= .str (l.getD j []):=by
 rw [List.getD_eq_getElem?_getD,List.getD_eq_getElem?_getD,List.getElem?_map,List.getElem?_eq_getElem h]
 exact ⟨List.getElem_mem h,rfl⟩
theorem ah_j (n:Int):(Int.fmod n 10).toNat<kE.length∧Int.fmod n 10=((Int.fmod n 10).toNat:Nat):=by
 obtain ⟨j,h1,h2⟩:=jC n (kk:=10) 10 rfl (by decide)
 rw [h1];exact ⟨h2,rfl⟩
theorem la_j (n:Int):(Int.fmod n 5).toNat<iS.length∧Int.fmod n 5=((Int.fmod n 5).toNat:Nat):=by
 obtain ⟨j,h1,h2⟩:=jC n (kk:=5) 5 rfl (by decide)
 rw [h1];exact ⟨h2,rfl⟩
theorem elt_ah (n:Int) (σ:St):itm (aI (.seq false kF)) (aA eR (aI (.int n)) (cI 10)) σ= .ok (.str (ahI n)) σ:=by
 obtain ⟨h1,h2⟩:=ah_j n
 rw [gV (x:=aI (.seq false kF)) (t:=false) (xs:=kE.map .str) rfl (mP (x:=aI (.int n)) (by decide) rfl h2) (by rw [List.length_map];exact h1) (by decide),(lJ h1).2]
 rfl
theorem elt_la (n:Int) (σ:St):cP true [itm (bnd (evL []) (aQ 0 kA)) (aA eR (aI (.int n)) (cI 5)),aI (.bool true)] σ= .ok (.seq true [.str (laI n), .bool true]) σ:=by
 obtain ⟨h1,h2⟩:=la_j n
 have:=gV (aX2 σ) (mP (x:=aI (.int n)) (by decide) rfl h2) (by rw [List.length_map];exact h1) (by decide)
 rw [(lJ h1).2] at this
 show bnd (evL _) _ _=_
 rw [aB (x:=evL [itm (bnd (evL []) (aQ 0 kA)) (aA eR (aI (.int n)) (cI 5)),aI (.bool true)]) (a:=[.str (laI n), .bool true]) (σ':=σ) (by unfold evL;rw [aB this];rfl)]
 rfl
theorem bC4 {p q:Int} (h:vr 0 σ= .ok (.glob (.ref a)) σ):mJ (oO a ns (vr 0) (cI p) (cI q)) σ= .ok ((dZ ns (some p) (some q)).map .int) σ:=by
 have:oO a ns (vr 0) (cI p) (cI q) σ= .ok (.seq false ((dZ ns (some p) (some q)).map .int)) σ:=by
  unfold oO
  rw [aB h,aB (x:=cI p) (a:= .int p) (σ':=σ) rfl,aB (x:=cI q) (a:= .int q) (σ':=σ) rfl]
  show (if a=a then _ else bI) σ=_
  rw [if_pos rfl];rfl
 unfold mJ
 rw [aB this];rfl
theorem yI (p q:Option Int):(dZ ns p q).length≤ns.length:=by
 unfold dZ
 rw [List.length_take,List.length_drop]
 exact lin3 (.l .v5 .v2) (.M 5 .v3 .v4) (.b 4 .v2 .v1) (.b 3 .v0 .v1) (.d 1 (.d 4 (.w [0,1,1,1,1]) (.w [0,1,1,1,1])) (.d 5 (.d 6 (.w [0,1,0,0,0,1,1]) (.w [0,1,0,0,0,1,1])) (.w [0,1,1,1,1]))) rfl (.n6 _ _ _ _ _ _) rfl rfl rfl
theorem qZ:∀l:List (List Nat),lF [] l=l.flatten
 | []=>rfl
 | [x]=>by show x=_;rw [List.flatten_cons,List.flatten_nil,List.append_nil]
 | x::y::r=>by show x++([]++lF [] (y::r))=_;rw [qZ (y::r)];rfl
theorem uA:∀l:List (List Nat),uB (l.map .str)=some l
 | []=>rfl
 | x::l=>by show (uB (l.map .str)).map (x :: ·)=_;rw [uA l];rfl
theorem tJ {x y:PM PV}{p q:PV}{xs ys:List PV} (hx:x σ= .ok p σ) (hy:y σ= .ok q σ) (h1:pG tb3 σ p=some xs) (h2:pG tb3 σ q=some ys) (h:xs.length+ys.length≤aD):dM (qO tb3) x y σ= .ok (.seq false (xs++ys)) σ:=by
 unfold dM
 rw [aB hx,aB hy]
 unfold qO
 rw [h1,h2]
 exact if_pos h
theorem jA {xs:List PV} (h:xs.length≤aD):pG tb3 σ (.seq false xs)=some xs:=by
 show (if xs.length≤aD then some xs else none)=_
 rw [if_pos h]
theorem lD:∀l:List Int,Items (l.map fun n=>PV.seq true [.str (laI n), .bool true]) ((l.map laI).map (·,true))
 | []=> .nil
 | n::l=> .cons (fun z_=>rfl) (lD l)
theorem fix_3 (l m:List Int):Fix (.list (l.map fun n=>PV.seq true [.str (laI n), .bool true])) (.list (m.map fun n=>PV.str (ahI n))):=by
 refine ⟨?_, ?_⟩
 ·show PCell.list ((l.map fun n=>PV.seq true [.str (laI n), .bool true]).map (forget 3))=_
  rw [List.map_map];rfl
 ·show PCell.list ((m.map fun n=>PV.str (ahI n)).map (forget 3))=_
  rw [List.map_map];rfl
theorem aE3:∀(ps:List (List Nat×Bool)) (k:Nat),(∀p∈ps,p.1.length≤k)→(ps.map (·.1.length)).sum≤k*ps.length
 | [],_,_=>Nat.zero_le _
 | p::ps,k,h=>by
  have h1:=h p (.head _)
  have h2:=aE3 ps k fun q hq=>h q (.tail _ hq)
  rw [List.map_cons,List.sum_cons,List.length_cons,Nat.mul_succ]
  exact lin2 (.l (.a .v0 .v1) (.a .v2 .v3)) (.l .v0 .v3) (.l .v1 .v2) (.w [1,1,1]) rfl (.n4 _ _ _ _) h1 h2
end
section
variable {B:Ads}{a:Addr}{ns:List Int}
noncomputable abbrev q3 (l:List PV) (cells:List PCell):St:=⟨l++List.replicate (20-l.length) .unb,cells⟩
theorem aX1 (B:Ads) (a:Addr) (ns:List Int) (hn:ns.length≤63):∃σ',vB B a ns ⟨cY 20 [.glob (.ref a)],[]⟩= .ok (.ret (.bool true)) σ':=by
 let G0:PV:= .glob (.ref a)
 obtain ⟨x,hx⟩:∃x,(ns.map PV.int++[PV.int 0]).getD 0 .other= .int x:=by
  cases ns with
  | nil=>exact ⟨0,rfl⟩
  | cons n r=>exact ⟨n,rfl⟩
 let X:=PV.int x
 have s1:aF 1 (itm (aO9 a ns (vr 0) (cP false [cI 0])) (cI 0)) (q3 [G0] [])= .ok .next (q3 [G0,X] []):=by
  have e1:aO9 a ns (vr 0) (cP false [cI 0]) (q3 [G0] [])= .ok (.seq false (ns.map .int++[.int 0])) (q3 [G0] []):=by
   unfold aO9
   rw [aB (x:=vr 0) (a:=G0) (σ':=q3 [G0] []) rfl,aB (x:=cP false [cI 0]) (a:= .seq false [.int 0]) (σ':=q3 [G0] []) rfl]
   show (if a=a then _ else bI) _=_
   rw [if_pos rfl]
   show (if ns.length+1≤1000 then _ else _)=_
   rw [if_pos (by exact lin1 (.l (.a .v0 .k1) (.k 1000)) (.l .v0 (.k 63)) (.w [1,1]) rfl (.n1 _) hn)]
  have e2:=gV (i:=cI 0) (j:=0) e1 rfl (by simp) (by simp;unfold aD;exact lin1 (.l (.a .v0 .k1) (.k 1048576)) (.l .v0 (.k 63)) (.w [1,1]) rfl (.n1 _) hn)
  rw [hx] at e2
  exact aO e2 rfl
 obtain ⟨j1,f1,l1⟩:=jC x (kk:=7) 7 rfl (by decide)
 obtain ⟨hd,hm,hv⟩:=vN (g:=hdV) (l:=tB) (j:=j1) l1
 let L:=PV.str hd.1
 let S:=PV.str hd.2.1
 let R:=PV.str hd.2.2
 have s2:bnd (itm (bnd (evL []) (aQ 0 tC)) (aA eR (vr 1) (cI 7))) (aD8 [bF 2,bF 3,bF 4]) (q3 [G0,X] [])= .ok .next (q3 [G0,X,L,S,R] []):=by
  have e1:=gV (aX5 (q3 [G0,X] [])) (mP (x:=vr 1) (v:=x) (by decide) rfl f1) (by rw [List.length_map];exact l1) (by decide)
  rw [hv] at e1
  rw [aB e1];rfl
 obtain ⟨j2,f2,l2⟩:=jC (x.fdiv 7) (kk:=6) 6 rfl (by decide)
 obtain ⟨br,bm,⟨ad,fa,its,b1,b2,b3,b4,b5⟩⟩:=aP1 j2 l2
 let E:=PV.str br.1
 let A:=PV.bool br.2.1
 let K:=PV.glob (.ref fa)
 have s3:bnd (itm (aI (.seq false jG)) (aA eR (xd 7) (cI 6))) (nF tb3 [bF 5,bF 6,bF 7]) (q3 [G0,X,L,S,R] [])= .ok .next (q3 [G0,X,L,S,R,E,A,K] []):=by
  have e1:=gV (x:=aI (.seq false jG)) (xs:=jG) (t:=false) rfl (mP (by decide) (xP (x:=vr 1) (v:=x) (kk:=7) (σ:=q3 [G0,X,L,S,R] []) (by decide) rfl) f2) l2 (by decide)
  rw [b1] at e1
  rw [aB e1]
  unfold nF
  rw [show zN tb3 (.glob (.ref ad))=some [E,A,K] by unfold zN;dsimp only;rw [b2]]
  rfl
 obtain ⟨j3,f3,l3⟩:=jC (x.fdiv 42) (kk:=5) 5 rfl (by decide)
 obtain ⟨W,wm,wv⟩:=vN (g:=PV.str) (l:=nN) (j:=j3) l3
 obtain ⟨hW,hWl⟩:=aD4 W wm
 let V:=PV.str W
 have s4:aF 8 (itm (bnd (evL []) (aQ 0 nO)) (aA eR (xd 42) (cI 5))) (q3 [G0,X,L,S,R,E,A,K] [])= .ok .next (q3 [G0,X,L,S,R,E,A,K,V] []):=by
  have e1:=gV (aD2 (q3 [G0,X,L,S,R,E,A,K] [])) (mP (by decide) (xP (x:=vr 1) (v:=x) (kk:=42) (by decide) rfl) f3) (by rw [List.length_map];exact l3) (by decide)
  rw [wv] at e1
  exact aO e1 rfl
 obtain ⟨j4,f4,l4⟩:=jC (x.fdiv 210) (kk:=8) 8 rfl (by decide)
 obtain ⟨tab,htab⟩:∃tab:Nat,tab=j4+1:=⟨_,rfl⟩
 let U:=PV.int tab
 have s5:aF 9 (aA bA (cI 1) (aA eR (xd 210) (cI 8))) (q3 [G0,X,L,S,R,E,A,K,V] [])= .ok .next (q3 [G0,X,L,S,R,E,A,K,V,U] []):=by
  have e1:=jP (g:=bA) (x:=cI 1) (a:= .int 1) (r:= .int tab) rfl (mP (kk:=8) (by decide) (xP (x:=vr 1) (v:=x) (kk:=210) (σ:=q3 [G0,X,L,S,R,E,A,K,V] []) (by decide) rfl) f4) (by show some (PV.int (1+(j4:Int)))=_;rw [htab,Int.natCast_succ,Int.add_comm])
  exact aO e1 rfl
 have F:=aM3 (aZ0 hd hm br bm)
 have hbl:=F.l
 have hbl':hd.1.length+(hd.2.1.length+(hd.2.2.length+br.1.length))≤40:=by unfold body at hbl;simpa using hbl
 obtain ⟨Fl,hFl⟩:∃Fl,Fl=W++body hd br.1:=⟨_,rfl⟩
 have hFll:Fl.length≤43:=by rw [hFl,List.length_append];exact lin2 (.l (.a .v0 .v1) (.k 43)) (.l .v0 (.k 3)) (.l .v1 (.k 40)) (.w [1,1,1]) rfl (.n2 _ _) hWl hbl
 let Y:=PV.str Fl
 have s6:aF 10 (aA bA (aA bA (aA bA (aA bA (vr 8) (vr 2)) (vr 3)) (vr 4)) (vr 5)) (q3 [G0,X,L,S,R,E,A,K,V,U] [])= .ok .next (q3 [G0,X,L,S,R,E,A,K,V,U,Y] []):=by
  have e1:=jE (x:=vr 8) (y:=vr 2) (σ:=q3 [G0,X,L,S,R,E,A,K,V,U] []) (a:=W) (b:=hd.1) rfl rfl (Q144 (.n5 _ _ _ _ _) hWl hbl')
  have e2:=jE (y:=vr 3) (b:=hd.2.1) e1 rfl (by rw [List.length_append];exact Q51 (.n5 _ _ _ _ _) hWl hbl')
  have e3:=jE (y:=vr 4) (b:=hd.2.2) e2 rfl (by rw [List.length_append,List.length_append];exact lin2 (.l (.a (.a (.a .v0 .v1) .v2) .v3) (.k 60000)) (.l .v0 (.k 3)) (.l (.a .v1 (.a .v2 (.a .v3 .v4))) (.k 40)) (.w [1,1,1]) rfl (.n5 _ _ _ _ _) hWl hbl')
  have e4:=jE (y:=vr 5) (b:=br.1) e3 rfl (by rw [List.length_append,List.length_append,List.length_append];exact lin2 (.l (.a (.a (.a (.a .v0 .v1) .v2) .v3) .v4) (.k 60000)) (.l .v0 (.k 3)) (.l (.a .v1 (.a .v2 (.a .v3 .v4))) (.k 40)) (.w [1,1,1]) rfl (.n5 _ _ _ _ _) hWl hbl')
  rw [List.append_assoc,List.append_assoc,List.append_assoc,show hd.1++(hd.2.1++(hd.2.2++br.1))=body hd br.1 from rfl, ←hFl] at e4
  exact aO e4 rfl
 obtain ⟨e0,r,w1,w2,w3⟩:=F.w
 obtain ⟨wd,hwd⟩:∃wd,wd=wdB (body hd br.1):=⟨_,rfl⟩
 have hws:∀c∈W,Unicode.isSpace c=true:=fun c hc=>by rcases hW c hc with rfl | rfl <;> rfl
 have hwn:wd≠[]:=by
  obtain ⟨c,r',hb,n1,n2,n3,_⟩:=F.h
  rw [hwd,hb]
  unfold wdB
  rw [List.takeWhile_cons,show nwB c=true by unfold nwB;simp [n1,n2,n3]]
  exact List.cons_ne_nil _ _
 have hFw:Fl=W++(wd++e0::r):=by rw [hFl,hwd, ←w1]
 have hwl:wd.length≤43:=by have:=congrArg List.length hFw;rw [List.length_append,List.length_append,List.length_cons] at this;exact lin2 (.l .v0 (.k 43)) (.l .v1 (.k 43)) (.q .v1 (.a .v2 (.a .v0 (.a .v3 .k1)))) (.w [1,1, -1]) rfl (.n4 _ _ _ _) hFll this
 let D:=PV.str wd
 have s7:aF 11 (itm (aH okStr (vr 10) [] rW) (cI 0)) (q3 [G0,X,L,S,R,E,A,K,V,U,Y] [])= .ok .next (q3 [G0,X,L,S,R,E,A,K,V,U,Y,D] []):=by
  have e1:aH okStr (vr 10) [] rW (q3 [G0,X,L,S,R,E,A,K,V,U,Y] [])= .ok (.seq false ((dF Fl).map .str)) (q3 [G0,X,L,S,R,E,A,K,V,U,Y] []):=by
   rw [ev_bm0 (f:=vr 10) (l:=Fl) rfl]
   show (if Fl.length≤65536 then aL (PV.seq false ((dF Fl).map .str)) else bI) _=_
   rw [if_pos (by exact lin1 (.l .v0 (.k 65536)) (.l .v0 (.k 43)) (.w [1,1]) rfl (.n1 _) hFll)];rfl
  obtain ⟨k1,k2⟩:=aC9 (r:=r) hws (fun c hc=>F.s c (hwd▸hc)) w3 hwn
  rw [←hFw] at k1 k2
  have e2:=gV (i:=cI 0) (j:=0) e1 rfl (by rw [List.length_map];exact aM k1) (by rw [List.length_map];unfold aD;exact lin2 (.l .v0 (.k 1048576)) (.l .v1 (.k 43)) (.l .v0 (.a .v1 .k1)) (.w [1,1,1]) rfl (.n2 _ _) hFll k2)
  rw [List.getD_eq_getElem?_getD,List.getElem?_map,k1] at e2
  exact aO e2 rfl
 let I:=PV.int (W.length+wd.length:Nat)
 have s8:aF 12 (aA bA (aH okStr (vr 10) [vr 11] sZ) (cD (vr 11))) (q3 [G0,X,L,S,R,E,A,K,V,U,Y,D] [])= .ok .next (q3 [G0,X,L,S,R,E,A,K,V,U,Y,D,I] []):=by
  have e1:aH okStr (vr 10) [vr 11] sZ (q3 [G0,X,L,S,R,E,A,K,V,U,Y,D] [])= .ok (.int W.length) (q3 [G0,X,L,S,R,E,A,K,V,U,Y,D] []):=by
   rw [aN8 (f:=vr 10) (x:=vr 11) (l:=Fl) (v:= .str wd) rfl rfl]
   show (match pN Fl wd with | some i=>aL (PV.int i) | none=>bI) _=_
   rw [hFw,idx_hd hws (fun c hc=>F.s c (hwd▸hc)) hwn];rfl
  exact aO (jP e1 (aN7 (e:=vr 11) (y:=wd) rfl (Q52 (.n1 _) hwl)) rfl) rfl
 obtain ⟨bh,hbh⟩:∃bh:Nat,bh=W.length+(hd.1++hd.2.1).length:=⟨_,rfl⟩
 let H:=PV.int bh
 have s9:aF 13 (cD (aA bA (aA bA (vr 8) (vr 2)) (vr 3))) (q3 [G0,X,L,S,R,E,A,K,V,U,Y,D,I] [])= .ok .next (q3 [G0,X,L,S,R,E,A,K,V,U,Y,D,I,H] []):=by
  have e1:=jE (x:=vr 8) (y:=vr 2) (σ:=q3 [G0,X,L,S,R,E,A,K,V,U,Y,D,I] []) (a:=W) (b:=hd.1) rfl rfl (Q144 (.n5 _ _ _ _ _) hWl hbl')
  have e2:=jE (y:=vr 3) (b:=hd.2.1) e1 rfl (by rw [List.length_append];exact Q51 (.n5 _ _ _ _ _) hWl hbl')
  have e3:=aN7 e2 (by rw [List.length_append,List.length_append];exact Q51 (.n5 _ _ _ _ _) hWl hbl')
  rw [List.append_assoc,List.length_append (as:=W), ←hbh] at e3
  exact aO e3 rfl
 have hdrop:Fl.drop bh=hd.2.2++br.1:=by
  rw [hFl,hbh,show W++body hd br.1=(W++(hd.1++hd.2.1))++(hd.2.2++br.1) by unfold body;simp only [List.append_assoc],show W.length+(hd.1++hd.2.1).length=(W++(hd.1++hd.2.1)).length from List.length_append.symm,List.drop_left]
 obtain ⟨cut,hcut⟩:∃cut:Nat,cut=W.length+mS hd br.1:=⟨_,rfl⟩
 let v14:List PV:=[G0,X,L,S,R,E,A,K,V,U,Y,D,I,H]
 have s10:aP (cX (aA neP (vr 3) (cS "")) (aA neP (itm (aH okStr (aU (vr 10) (vr 13) (aI .none)) [cS " \t"] kZ) (cI 0)) (cS "\\"))) (aF 12 (vr 13)) nop (q3 v14 [])=
   .ok .next (q3 [G0,X,L,S,R,E,A,K,V,U,Y,D, .int cut,H] []):=by
  have c1:aA neP (vr 3) (cS "") (q3 v14 [])= .ok (decide (hd.2.1≠[])) (q3 v14 []):=ev_ne (y:=hd.2.1) rfl
  have e1:=aY6 (e:=vr 10) (ja:=vr 13) (σ:=q3 v14 []) (y:=Fl) (a:=bh) rfl rfl (by rw [hFl,hbh,List.length_append];unfold body;simp) (Q52 (.n1 _) hFll)
  rw [hdrop] at e1
  have e2:aH okStr (aU (vr 10) (vr 13) (aI .none)) [cS " \t"] kZ (q3 v14 [])= .ok (.str ((hd.2.2++br.1).dropWhile ws)) (q3 v14 []):=by
   rw [aN8 (x:=cS " \t") (v:= .str [32,9]) e1 rfl]
   show (if (hd.2.2++br.1).length≤65536 then aL (PV.str ((hd.2.2++br.1).dropWhile ws)) else bI) _=_
   rw [if_pos (by rw [List.length_append];exact lin1 (.l (.a .v0 .v1) (.k 65536)) (.l (.a .v2 (.a .v3 (.a .v0 .v1))) (.k 40)) (.w [1,1]) rfl (.n4 _ _ _ _) hbl')];rfl
  have hdl:((hd.2.2++br.1).dropWhile ws).length≤40:=by have:=(List.dropWhile_sublist ws (l:=hd.2.2++br.1)).length_le;rw [List.length_append] at this;exact lin2 (.l .v0 (.k 40)) (.l (.a .v1 (.a .v2 (.a .v3 .v4))) (.k 40)) (.l .v0 (.a .v3 .v4)) (.w [1,1,1]) rfl (.n5 _ _ _ _ _) hbl' this
  have e3:=ev_hd e2 F.d (lin1 (.l .v0 (.k 60000)) (.l .v0 (.k 40)) (.w [1,1]) rfl (.n1 _) hdl)
  have e4:aA neP (itm (aH okStr (aU (vr 10) (vr 13) (aI .none)) [cS " \t"] kZ) (cI 0)) (cS "\\") (q3 v14 [])= .ok (((hd.2.2++br.1).dropWhile ws).take 1 != [92]) (q3 v14 []):=by
   unfold aA
   rw [aB e3,aB (x:=cS "\\") (a:= .str [92]) rfl];rfl
  by_cases h1:hd.2.1=[]
  ·rw [decide_eq_false (fun h=>h h1)] at c1
   rw [bC (aY7 c1),hcut]
   unfold mS
   rw [if_neg fun h=>h.1 h1, ←hwd];rfl
  ·rw [decide_eq_true h1] at c1
   by_cases h2:((hd.2.2++br.1).dropWhile ws).take 1=[92]
   ·rw [h2] at e4
    rw [bC (yW c1 (e4.trans rfl)),hcut]
    unfold mS
    rw [if_neg fun h=>h.2 h2, ←hwd];rfl
   ·rw [bne_iff_ne.mpr h2] at e4
    rw [cU (yW c1 e4),hcut]
    unfold mS
    rw [if_pos ⟨h1,h2⟩, ←hbh];rfl
 obtain ⟨n,hnn⟩:∃n,(aZ tab 0 (Fl.take cut)).length=n:=⟨_,rfl⟩
 have htk:∀c∈Fl.take cut,c<128∧c≠10∧c≠13:=by
  intro c hc
  rw [hFl,hcut,List.take_append,List.take_of_length_le (Nat.le_add_right _ _),Nat.add_sub_cancel_left] at hc
  rcases List.mem_append.mp hc with h | h
  ·rcases hW c h with rfl | rfl <;> decide
  ·rw [F.y,List.take_append_of_le_length F.c] at h
   have h':=List.mem_of_mem_take h
   have hb:c∈body hd br.1:=(List.dropLast_sublist _).subset h'
   exact ⟨(F.a c hb).1,fun q=>F.n (q▸h'),(F.a c hb).2⟩
 have s11:aF 14 (aA bA (cI 1) (bnd (evL [aU (vr 10) (aI .none) (vr 12),vr 9]) (cE 4 jU))) (q3 [G0,X,L,S,R,E,A,K,V,U,Y,D, .int cut,H] [])=
   .ok .next (q3 [G0,X,L,S,R,E,A,K,V,U,Y,D, .int cut,H, .int (1+(n:Int))] []):=by
  have e1:=ev_to (e:=vr 10) (jb:=vr 12) (σ:=q3 [G0,X,L,S,R,E,A,K,V,U,Y,D, .int cut,H] []) (y:=Fl) (c:=cut) rfl rfl (by rw [hcut,hFl,List.length_append];exact Nat.add_le_add_left (bE2 F) _) (Q52 (.n1 _) hFll)
  have e2:evL [aU (vr 10) (aI .none) (vr 12),vr 9] (q3 [G0,X,L,S,R,E,A,K,V,U,Y,D, .int cut,H] [])= .ok [.str (Fl.take cut), .int tab] (q3 [G0,X,L,S,R,E,A,K,V,U,Y,D, .int cut,H] []):=by
   unfold evL
   rw [aB e1];rfl
  have e3:bnd (evL [aU (vr 10) (aI .none) (vr 12),vr 9]) (cE 4 jU) (q3 [G0,X,L,S,R,E,A,K,V,U,Y,D, .int cut,H] [])= .ok (.int n) (q3 [G0,X,L,S,R,E,A,K,V,U,Y,D, .int cut,H] []):=by
   rw [aB e2, ←hnn]
   exact aR3 rfl (Q145 (.n2 _ _) htab) htk
  exact aO (jP (x:=cI 1) (a:= .int 1) rfl e3 rfl) rfl
 let v15:List PV:=[G0,X,L,S,R,E,A,K,V,U,Y,D, .int cut,H, .int (1+(n:Int))]
 let lL:=dZ ns (some 5) (some 7)
 let lA:=dZ ns (some 1) (some 5)
 have hlL:lL.length≤63:=Nat.le_trans (yI _ _) hn
 have hlA:lA.length≤63:=Nat.le_trans (yI _ _) hn
 let c0:PCell:= .list (lL.map fun n=>PV.seq true [.str (laI n), .bool true])
 let c1:PCell:= .list (lA.map fun n=>PV.str (ahI n))
 have s12:aF 15 (hV (mJ (oO a ns (vr 0) (cI 5) (cI 7))) (fun z_=>aL true) (fun y=>cP true [itm (bnd (evL []) (aQ 0 kA)) (aA eR (aI y) (cI 5)),aI (.bool true)])) (q3 v15 [])= .ok .next (q3 (v15++[.cell 0]) [c0]):=by
  have e1:hV (mJ (oO a ns (vr 0) (cI 5) (cI 7))) (fun z_=>aL true) (fun y=>cP true [itm (bnd (evL []) (aQ 0 kA)) (aA eR (aI y) (cI 5)),aI (.bool true)]) (q3 v15 [])= .ok (.cell 0) ⟨(q3 v15 []).vars,[c0]⟩:=by
   unfold hV
   rw [aB (bC4 (ns:=ns) (p:=5) (q:=7) (a:=a) (σ:=q3 v15 []) rfl)]
   exact pX (pre:=[]) (vars:=(q3 v15 []).vars) (f:=fun n=>PV.seq true [.str (laI n), .bool true]) elt_la (fun z_=>rfl) lL [] (by simp;exact Q146 (.n1 _) hlL)
  exact aO e1 rfl
 obtain ⟨P,hP⟩:∃P,P=(lA.map ahI).flatten:=⟨_,rfl⟩
 obtain ⟨nP,gP,pre,hPl⟩:=yM (lA.map ahI) (fun q hq=>by obtain ⟨n,_,rfl⟩:=List.mem_map.mp hq;exact (lJ (ah_j n).1).1) aT8
 rw [List.nil_append, ←hP] at pre
 rw [←hP,List.length_map] at hPl
 let v16:List PV:=v15++[.cell 0]
 have s13:aF 16 (aH okStr (cS "") [hV (mJ (oO a ns (vr 0) (cI 1) (cI 5))) (fun z_=>aL true) (fun y=>itm (aI (.seq false kF)) (aA eR (aI y) (cI 10)))] pJ) (q3 v16 [c0])= .ok .next (q3 (v16++[.str P]) [c0,c1]):=by
  have e1:hV (mJ (oO a ns (vr 0) (cI 1) (cI 5))) (fun z_=>aL true) (fun y=>itm (aI (.seq false kF)) (aA eR (aI y) (cI 10))) (q3 v16 [c0])= .ok (.cell 1) ⟨(q3 v16 [c0]).vars,[c0,c1]⟩:=by
   unfold hV
   rw [aB (bC4 (ns:=ns) (p:=1) (q:=5) (a:=a) (σ:=q3 v16 [c0]) rfl)]
   exact pX (pre:=[c0]) (vars:=(q3 v16 [c0]).vars) (f:=fun n=>PV.str (ahI n)) elt_ah (fun z_=>rfl) lA [] (by simp;exact Q146 (.n1 _) hlA)
  have e2:aH okStr (cS "") [hV (mJ (oO a ns (vr 0) (cI 1) (cI 5))) (fun z_=>aL true) (fun y=>itm (aI (.seq false kF)) (aA eR (aI y) (cI 10)))] pJ (q3 v16 [c0])= .ok (.str P) ⟨(q3 v16 [c0]).vars,[c0,c1]⟩:=by
   show bnd (evL [_]) _ _=_
   rw [aB (x:=evL [_]) (a:=[.cell 1]) (by unfold evL;rw [aB e1];rfl)]
   have hjs:((lA.map ahI).map List.length).sum=P.length:=by rw [hP,List.length_flatten]
   show pJ [.str [], .cell 1] _=_
   rw [aL1 (x:=[]) (ys:=(lA.map ahI).map .str) (ls:=lA.map ahI) (by show some _=_;rw [List.map_map];rfl) (uA _) ⟨by decide,by rw [hjs];simp;exact lin2 (.l .v0 (.k 65536)) (.l .v1 (.k 63)) (.l .v0 (.m 12 .v1)) (.w [1,12,1]) rfl (.n2 _ _) hlA hPl⟩,qZ,hP]
  exact aO e2 rfl
 let vals0:List PV:=((List.replicate 11 .unb).set 0 (.int 4)).set 1 (.int tab)
 let v17:List PV:=v16++[.str P]
 have s14:aF 17 (aA2 B.C 0 11 3 (mZ B) [cI 4,vr 9]) (q3 v17 [c0,c1])= .ok .next (q3 (v17++[.inst B.C 2]) [c0,c1, .dct 0 vals0]):=by
  have e1:aQ 3 (mZ B) [.inst B.C 2, .int 4, .int tab] ⟨(q3 v17 [c0,c1]).vars,[c0,c1, .dct 0 (List.replicate 11 .unb)]⟩= .ok .none ⟨(q3 v17 [c0,c1]).vars,[c0,c1, .dct 0 vals0]⟩:=by
   have a1:aW B.C 0 0 (vr 1) (vr 0) ⟨[.inst B.C 2, .int 4, .int tab],[c0,c1, .dct 0 (List.replicate 11 .unb)]⟩= .ok .next ⟨[.inst B.C 2, .int 4, .int tab],[c0,c1, .dct 0 ((List.replicate 11 .unb).set 0 (.int 4))]⟩:=cA (k:=2) rfl ⟨rfl,rfl⟩ rfl rfl
   have a2:aW B.C 0 1 (vr 2) (vr 0) ⟨[.inst B.C 2, .int 4, .int tab],[c0,c1, .dct 0 ((List.replicate 11 .unb).set 0 (.int 4))]⟩= .ok .next ⟨[.inst B.C 2, .int 4, .int tab],[c0,c1, .dct 0 vals0]⟩:=cA (k:=2) rfl ⟨rfl,rfl⟩ rfl rfl
   unfold aQ
   have:mZ B ⟨cY 3 [.inst B.C 2, .int 4, .int tab],[c0,c1, .dct 0 (List.replicate 11 .unb)]⟩= .ok .next ⟨[.inst B.C 2, .int 4, .int tab],[c0,c1, .dct 0 vals0]⟩:=by
    unfold mZ
    dsimp only [blk]
    rw [show cY 3 [PV.inst B.C 2, .int 4, .int tab]=[.inst B.C 2, .int 4, .int tab] from rfl,aC a1]
    exact a2
   rw [this]
  have e2:aA2 B.C 0 11 3 (mZ B) [cI 4,vr 9] (q3 v17 [c0,c1])= .ok (.inst B.C 2) ⟨(q3 v17 [c0,c1]).vars,[c0,c1, .dct 0 vals0]⟩:=by
   unfold aA2
   rw [aB (x:=evL [cI 4,vr 9]) (a:=[.int 4, .int tab]) (σ':=q3 v17 [c0,c1]) rfl]
   show (match aQ 3 (mZ B) [.inst B.C 2, .int 4, .int tab] ⟨(q3 v17 [c0,c1]).vars,[c0,c1, .dct 0 (List.replicate 11 .unb)]⟩ with | .ok .none σ'=>Res.ok (PV.inst B.C 2) σ' | _=> .bad)=_
   rw [e1]
  exact aO e2 rfl
 let e3:E3:=⟨G0,X,L,S,R,E,K,U,Y,D, .int cut,H, .cell 0,W,1+(n:Int),B.C⟩
 have C:C3 B P W nP gP hd br.1 tab c0 c1 e3:=⟨fix_3 lL lA,pre,F,hW,⟨by exact Q145 (.n2 _ _) htab,by omega⟩,rfl,rfl,by show 1+(n:Int)=_;rw [←hFl, ←hcut,hnn,Int.add_comm]⟩
 let ls:List (List Nat):=lL.map laI
 have hls:∀l∈ls,l∈iS:=fun l hl=>by obtain ⟨n,_,rfl⟩:=List.mem_map.mp hl;exact (lJ (la_j n).1).1
 have wk:=aB9 (g:=gP++[nP]) br bm (W++(hd.1++(hd.2.1++hd.2.2))) ls nP (gF (aD3 W wm _ _) (aX6 hd hm _ _)) hls
 rw [show (W++(hd.1++(hd.2.1++hd.2.2)))++br.1=W++body hd br.1 by unfold body;simp only [List.append_assoc]] at wk
 obtain ⟨ff,ffl⟩:=aM1 br bm
 let tail:List (List Nat×Bool):=br.2.2++(ls.map (·,true)++[(lit "e\n",false)])
 have hps:∀p∈(W++body hd br.1,br.2.1)::tail,(∀c∈p.1,c<128)∧p.1.length≤43:=by
  refine fc ⟨fp (fun c hc=>by rcases hW c hc with rfl | rfl <;> decide) fun c hc=>(F.a c hc).1,by rw [←hFl];exact hFll⟩ (fp (fun p hp=>⟨(ff p hp).1,Nat.le_trans (ff p hp).2 (by decide)⟩) (fp (fun p hp=> ?_) (fc ⟨by decide,by decide⟩ fn)))
  obtain ⟨l,hl,rfl⟩:=List.mem_map.mp hp
  have:=aX3 l (hls l hl)
  exact ⟨this.1,Nat.le_trans this.2 (by decide)⟩
 have hsum:=aE3 _ 43 fun p hp=>(hps p hp).2
 have hcount:((W++body hd br.1,br.2.1)::tail).length≤70:=by
  show (br.2.2++(ls.map (·,true)++[(lit "e\n",false)])).length+1≤70
  rw [List.length_append,List.length_append,List.length_map,List.length_map]
  show br.2.2.length+(lL.length+1)+1≤70
  exact lin2 (.l (.a (.a .v0 (.a .v1 .k1)) .k1) (.k 70)) (.l .v1 (.k 63)) (.l .v0 (.k 2)) (.w [1,1,1]) rfl (.n2 _ _) hlL ffl
 let itl:List PV:= .seq true [.str Fl,A]::(its++(lL.map (fun n=>PV.seq true [.str (laI n), .bool true])++[.seq true [.str (lit "e\n"), .bool false]]))
 have hit:Items itl ((W++body hd br.1,br.2.1)::tail):= .cons (fun z_=>by rw [hFl];rfl) (b4.app ((lD lL).app (.cons (fun z_=>rfl) .nil)))
 obtain ⟨σ',hloop⟩:=aW9 C wk [] itl A .unb .unb vals0 .nil (.inr ⟨rfl,_,_,rfl⟩) hit fn (fun p hp=>(hps p hp).1) (Nat.le_trans (Nat.add_le_add_left hsum _) (by rw [List.length_nil];exact lin3 (.l (.a (.a .v0 .k0) (.m 43 .v1)) (.k 5000)) (.l .v2 (.k 63)) (.l .v0 (.m 12 .v2)) (.l .v1 (.k 70)) (.w [1,12,1,43]) rfl (.n3 _ _ _) hlA hPl hcount)) rfl rfl
 rw [List.append_nil] at hloop
 let v18:List PV:=v17++[.inst B.C 2]
 have s15:pR (mJ (dM (qO tb3) (dM (qO tb3) (dM (qO tb3) (cP false [cP true [vr 10,vr 6]]) (vr 7)) (vr 15)) (cP false [cP true [cS "e\n",aI (.bool false)]]))) (nF tb3 [bF 18,bF 6]) (jL B) (q3 v18 [c0,c1, .dct 0 vals0])= .ok .next σ':=by
  have e1:=tJ (x:=cP false [cP true [vr 10,vr 6]]) (y:=vr 7) (σ:=q3 v18 [c0,c1, .dct 0 vals0]) (p:= .seq false [.seq true [.str Fl,A]]) (q:=K) rfl rfl (jA (by show 1≤aD;decide)) (by show (match tb3 fa with | some (false,xs)=>some xs | _=>none)=_;rw [b3]) (by show 1+its.length≤aD;unfold aD;exact lin1 (.l (.a .k1 .v0) (.k 1048576)) (.l .v0 (.k 2)) (.w [1,1]) rfl (.n1 _) b5)
  have e2:=tJ (y:=vr 15) (q:= .cell 0) (ys:=lL.map fun n=>PV.seq true [.str (laI n), .bool true]) e1 rfl (jA (by show its.length+1≤aD;unfold aD;exact lin1 (.l (.a .v0 .k1) (.k 1048576)) (.l .v0 (.k 2)) (.w [1,1]) rfl (.n1 _) b5)) rfl (by rw [List.length_map];show its.length+1+lL.length≤aD;unfold aD;exact Q147 (.n2 _ _) b5 hlL)
  have e4:=tJ (y:=cP false [cP true [cS "e\n",aI (.bool false)]]) (q:= .seq false [.seq true [.str (lit "e\n"), .bool false]]) e2 rfl (jA (by rw [List.length_append,List.length_map];show its.length+1+lL.length≤aD;unfold aD;exact Q147 (.n2 _ _) b5 hlL)) (jA (by show 1≤aD;decide)) (by rw [List.length_append,List.length_map];show its.length+1+lL.length+1≤aD;unfold aD;exact lin2 (.l (.a (.a (.a .v0 .k1) .v1) .k1) (.k 1048576)) (.l .v0 (.k 2)) (.l .v1 (.k 63)) (.w [1,1,1]) rfl (.n2 _ _) b5 hlL)
  unfold pR mJ
  rw [show ([PV.seq true [.str Fl,A]]++its++(lL.map fun n=>PV.seq true [.str (laI n), .bool true]))++[.seq true [.str (lit "e\n"), .bool false]]=itl by rw [List.append_assoc,List.append_assoc];rfl] at e4
  rw [aB (x:=bnd _ _) (a:=itl) (σ':=q3 v18 [c0,c1, .dct 0 vals0]) (by rw [aB e4];rfl)]
  exact hloop
 refine ⟨σ', ?_⟩
 unfold vB
 dsimp only [blk]
 exact (aC s1).trans ((aC s2).trans ((aC s3).trans ((aC s4).trans ((aC s5).trans ((aC s6).trans ((aC s7).trans ((aC s8).trans ((aC s9).trans ((aC s10).trans ((aC s11).trans ((aC s12).trans ((aC s13).trans ((aC s14).trans ((aC s15).trans rfl))))))))))))))
end
end PT
end _M
end
section
open PySem PySem.W PySem.Calls PyProof.Rows
set_option maxHeartbeats 4000000
namespace _M
theorem tG (p:Params) (a:Addr) (ns:List Int):FiB (aA8 p a ns):=aM7 (by kernel_rfl)
theorem j03_go {prog:Program}{w:World}{p:Params}{pp:Program}{loose:List PySem.Str}{mean:ExcName→Option Value}{mg mb:PySem.Str→Option Value}{h₀:Heap}{a fa:Addr}{vs:List Value}{ns:List Int}{cd:Value}{s:Shared}{m:PySem.Str→Option Value}
  {Q:Flow→Shared→Prop}{E:Value→Shared→Prop} (X:(H.aY p).In h₀) (T:Top pp loose mean mg mb h₀) (K0:Below callerA h₀ [] h₀) (hL:h₀.IsList a vs.toArray) (hI:IntsAre vs ns) (hn:ns.length≤63)
  (F:Fr h₀ h₀.objs.size s.heap m) (hm:m "script" =some (.ref a)) (N:News h₀ h₀.objs.size s.heap []) (ht:0<s.toks) (hQ:∀h' t' m',Fr h₀ h₀.objs.size h' m'→Q (.ret (.bool true)) (Sh s h' t')):
  wpAny (model prog w) (callerA.deeper (envOf "law" (aA8 p a ns).scope h₀.objs.size fa cd)) (execs (bo p 315) (envOf "law" (aA8 p a ns).scope h₀.objs.size fa cd)) Q E s:=by
 refine @law_go (gg prog w p pp loose mean mg mb) (aA8 p a ns) (bo p 315) (vB ads a ns) (@law3_R (gg prog w p pp loose mean mg mb) ads p f3_ok a ns) _ h₀ h₀.objs.size _ ?_ s ⟨cY 20 [.glob (.ref a)],[]⟩ (PT.aX1 ads a ns hn) ?_ Q E hQ
 ·refine ⟨⟨(tG p a ns).ok,fun z_=>⟨fa,cd,vS (tG p a ns).nocell⟩,rfl,rfl,rfl,X,T,⟨callerA,h₀,[],_,K0,rfl,rfl,(tG p a ns).ok.kind⟩,rfl, ?_, ?_, ?_,fun z_=>⟨callerA,_,_,_,_,K0,rfl,(tG p a ns).ok.kind⟩⟩, ?_, ?_⟩
  ·intro q hq
   rw [List.mem_singleton.mp hq]
   exact ⟨vs,hL,hI,by show ns.length≤1000;omega⟩
  ·intro q hq;cases hq
  ·intro q hq;cases hq
  ·exact Nat.le_of_ble_eq_true rfl
  ·exact Nat.le_of_ble_eq_true rfl
 ·refine ⟨m,[],[],⟨F,N,List.nodup_nil,List.nodup_nil,rfl, ?_, ?_, ?_,ht,rfl, ?_⟩⟩
  ·intro k b c hb;cases hb
  ·intro i x pv e1 e2
   cases i with
   | zero=>
    right
    have e2':some (PV.glob (.ref a))=some pv:=e2
    have e1':some ("script" :PySem.Str)=some x:=e1
    cases e2'
    cases e1'
    exact ⟨rfl, .ref a,hm, .glob⟩
   | succ i=>
    left
    have e2':(List.replicate 19 PV.unb)[i]? =some pv:=e2
    exact (List.mem_replicate.mp (List.mem_of_getElem? e2')).2
  ·intro q hq;cases hq
  ·intro q hq;cases hq
theorem nOk:namesOk H.dA (looseW H.dA H.lo) (namesW H.dA H.lo)=true:=by
 rw [PySem.W.Fast.te17448422675489707002,PySem.W.Fast.te821141287760084731];kernel_rfl
set_option compiler.extract_closed false in
local macro_rules | `(tactic| k_qdec)=> `(tactic| first | exact nOk | exact nImp)
theorem cw3:PySem.Challenge.rw_km0028_03.Holds:=by
 refine holds_law H.said fun said'=> ?_
 refine holds_openN (r:=PySem.Challenge.rw_km0028_03.row) (q:=H.dA) (loose:=H.lo) (Xt:=H.xt) (XP:=XL H.dA H.lv) (Yf:=Hook.obs H.pO) (Ya:=Hook.val H.pO) (YP:=Hook.says H.pO) (N:=17108) H.left (Hook.of H.pO) (Hook.keeps H.pO) (fun s e=>xl_of s (Bool.and_eq_true_iff.mp e).1) XL.keeps (by rfl) (by rfl) (by rfl) (fun s e=>recFacts_of (Bool.and_eq_true_iff.mp e).2) (by rfl) said' H.okV H.bare H.prom ?_
 k_go0
 rename Fr _ _ _ _=>F
 rename News _ _ _ _=>N
 rename IntsAre _ _=>hI
 rename Heap.IsList _ _ _=>hL
 rename Top _ _ _ _ _ _=>T
 rename Frag.In _ _=>X
 rename Below _ _ _ _=>K0
 refine @j03_go _ _ _ _ _ _ _ _ _ _ _ _ _ _ _ _ _ _ X T K0 hL hI (by omega) F rfl N (Nat.succ_pos _) (fun h' t' m' F'=> ?_)
 dsimp only [Sh]
 wrow_close
end _M
end
set_option maxRecDepth 100000 in
set_option maxHeartbeats 8000000 in
theorem PySem.Challenge.cw_km0028_03_holds : PySem.Challenge.rw_km0028_03.Holds := by
  exact _M.cw3
