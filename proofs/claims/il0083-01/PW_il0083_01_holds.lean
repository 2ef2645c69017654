import PyProof.Rows.All
import Wide.All
import OpenK.AllK
import Wide.FinOn
import Lean
import PySem.Challenge.RW_il0083_01
set_option Elab.async false
set_option linter.all false
set_option maxRecDepth 100000
set_option autoImplicit false
set_option backward.match.sparseCases false
namespace Mine
open PySem PySem.W PySem.Calls PyProof.Rows
noncomputable abbrev pw:Program:=PySem.Challenge.pw_il0083_01
noncomputable abbrev top:List Stmt:=PySem.Challenge.pw_il0083_01.main.body
noncomputable abbrev sx:=Str.ofString
noncomputable def JR (b:List Stmt) (i:Nat):Arguments×List Stmt×Scope:=match b[i]? with
 |some (.FunctionDef _ a s _ _ _ c _ _ _)=>(a,s,c)
 |_=>(⟨[],[],none,[],[],none,[]⟩,[],⟨.function,[],false,false,[]⟩)
noncomputable def ZB (b:List Stmt) (i:Nat):List Stmt:=match b[i]? with
 |some (.ClassDef _ _ _ s _ _ _ _ _ _ _)=>s
 |_=>[]
noncomputable abbrev K (P:Params) (s:Str) (t:Tok) (v:Value):DictEntry:=⟨PyData.keyHash P s,.str s t,v⟩
noncomputable abbrev KR (P:Params) (s:String) (t:Tok) (a:Addr):DictEntry:=K P s t (.ref a)
noncomputable abbrev KB (P:Params) (s:String) (t:Tok):DictEntry:=K P s t (.builtin s)
noncomputable abbrev KT (P:Params) (s:String) (t:Tok):DictEntry:=K P s t (.type s)
noncomputable def zs (s:String):List Nat:=(sx s).cps.size::(sx s).cps.toList
noncomputable abbrev Io:Life:={}
noncomputable def ZH (n:Nat):Nat:=if n<10 then 48+n else 55+n
noncomputable def item (i:Nat):Value:=.str ⟨#[61,ZH (i/16),ZH (i%16)]⟩ (330+4*i)
noncomputable abbrev nn:=@BT.node
noncomputable abbrev lf (o:Obj):BT:=.node o .nil .nil
noncomputable abbrev e0:Obj:=⟨.type "tuple",none,(.seq #[] 0),#[]⟩
noncomputable abbrev f0:Obj:=⟨.none,none,(.fields #[]),#[]⟩
noncomputable def dO:Obj:=⟨.type "range",none,(.fields #[.int 0 325,.int 256 324,.int 1 326]),#[]⟩
noncomputable def dP (k:Nat):Obj:=⟨.type "range_iterator",none,(.fields #[.int (Int.ofNat k) 0,.int (Int.ofNat (256-k)) 0,.int 1 0]),#[]⟩
noncomputable def dQ (P:Params) (k:Nat):Obj:=⟨.type "dict",none,(.dict #[K P "c" 328 (.int (Int.ofNat (k-1)) (327+4*(k-1)))] 1),#[]⟩
noncomputable def o0 (P:Params):Obj:=⟨.type "dict",none,(.dict #[K P "__name__" 1 (.str "builtins" 160),K P "__doc__" 2 (.builtin "builtins.__doc__:str#opaque"),K P "__package__" 3 (.builtin "builtins.__package__:str#opaque"),K P "__loader__" 4 (.builtin "builtins.__loader__:shared#opaque"),K P "__spec__" 5 (.builtin "builtins.__spec__#opaque"),KB P "__build_class__" 6,KB P "__import__" 7,KB P "abs" 8,KB P "all" 9,KB P "any" 10,KB P "ascii" 11,KB P "bin" 12,KB P "breakpoint" 13,KB P "callable" 14,KB P "chr" 15,KB P "compile" 16,KB P "delattr" 17,KB P "dir" 18,KB P "divmod" 19,KB P "eval" 20,KB P "exec" 21,KB P "format" 22,KB P "getattr" 23,KB P "globals" 24,KB P "hasattr" 25,KB P "hash" 26,KB P "hex" 27,KB P "id" 28,KB P "input" 29,KB P "isinstance" 30,KB P "issubclass" 31,KB P "iter" 32,KB P "aiter" 33,KB P "len" 34,KB P "locals" 35,KB P "max" 36,KB P "min" 37,KB P "next" 38,KB P "anext" 39,KB P "oct" 40,KB P "ord" 41,KB P "pow" 42,KB P "print" 43,KB P "repr" 44,KB P "round" 45,KB P "setattr" 46,KB P "sorted" 47,KB P "sum" 48,KB P "vars" 49,K P "None" 50 (.none),K P "Ellipsis" 51 (.ellipsis),K P "NotImplemented" 52 (.notImplemented),K P "False" 53 (.bool false),K P "True" 54 (.bool true),KT P "bool" 55,KT P "memoryview" 56,KT P "bytearray" 57,KT P "bytes" 58,KT P "classmethod" 59,KT P "complex" 60,KT P "dict" 61,KT P "enumerate" 62,KT P "filter" 63,KT P "float" 64,KT P "frozenset" 65,KT P "property" 66,KT P "int" 67,KT P "list" 68,KT P "map" 69,KT P "object" 70,KT P "range" 71,KT P "reversed" 72,KT P "set" 73,KT P "slice" 74,KT P "staticmethod" 75,KT P "str" 76,KT P "super" 77,KT P "tuple" 78,KT P "type" 79,KT P "zip" 80,K P "__debug__" 81 (.bool true),KT P "BaseException" 82,KT P "BaseExceptionGroup" 83,KT P "Exception" 84,KT P "GeneratorExit" 85,KT P "KeyboardInterrupt" 86,KT P "SystemExit" 87,KT P "ArithmeticError" 88,KT P "AssertionError" 89,KT P "AttributeError" 90,KT P "BufferError" 91,KT P "EOFError" 92,KT P "ImportError" 93,KT P "LookupError" 94,KT P "MemoryError" 95,KT P "NameError" 96,KT P "OSError" 97,KT P "ReferenceError" 98,KT P "RuntimeError" 99,KT P "StopAsyncIteration" 100,KT P "StopIteration" 101,KT P "SyntaxError" 102,KT P "SystemError" 103,KT P "TypeError" 104,KT P "ValueError" 105,KT P "Warning" 106,KT P "FloatingPointError" 107,KT P "OverflowError" 108,KT P "ZeroDivisionError" 109,KT P "BytesWarning" 110,KT P "DeprecationWarning" 111,KT P "EncodingWarning" 112,KT P "FutureWarning" 113,KT P "ImportWarning" 114,KT P "PendingDeprecationWarning" 115,KT P "ResourceWarning" 116,KT P "RuntimeWarning" 117,KT P "SyntaxWarning" 118,KT P "UnicodeWarning" 119,KT P "UserWarning" 120,KT P "BlockingIOError" 121,KT P "ChildProcessError" 122,KT P "ConnectionError" 123,KT P "FileExistsError" 124,KT P "FileNotFoundError" 125,KT P "InterruptedError" 126,KT P "IsADirectoryError" 127,KT P "NotADirectoryError" 128,KT P "PermissionError" 129,KT P "ProcessLookupError" 130,KT P "TimeoutError" 131,KT P "IndentationError" 132,KT P "_IncompleteInputError" 133,KT P "IndexError" 134,KT P "KeyError" 135,KT P "ModuleNotFoundError" 136,KT P "NotImplementedError" 137,KT P "PythonFinalizationError" 138,KT P "RecursionError" 139,KT P "UnboundLocalError" 140,KT P "UnicodeError" 141,KT P "BrokenPipeError" 142,KT P "ConnectionAbortedError" 143,KT P "ConnectionRefusedError" 144,KT P "ConnectionResetError" 145,KT P "TabError" 146,KT P "UnicodeDecodeError" 147,KT P "UnicodeEncodeError" 148,KT P "UnicodeTranslateError" 149,KT P "ExceptionGroup" 150,K P "EnvironmentError" 151 (.type "OSError"),K P "IOError" 152 (.type "OSError"),KB P "open" 153,K P "quit" 154 (.builtin "builtins.quit#opaque"),K P "exit" 155 (.builtin "builtins.exit#opaque"),K P "copyright" 156 (.builtin "builtins.copyright#opaque"),K P "credits" 157 (.builtin "builtins.credits#opaque"),K P "license" 158 (.builtin "builtins.license#opaque"),K P "help" 159 (.builtin "builtins.help#opaque")] 159),#[]⟩
noncomputable def o1 (P:Params):Obj:=⟨.type "dict",none,(.dict #[KR P "builtins" 162 4,KR P "__main__" 163 5,KR P "_sre" 244 12] 3),#[]⟩
noncomputable def o2 (P:Params):Obj:=⟨.none,none,(.dict #[K P "\x69mport.loaded._sre" 183 (.bool true),K P "class._frozen_importlib.BuiltinImporter" 185 (.ref 14),K P "watched.\x69mport" 206 (.ref 18),K P "class._frozen_importlib.ModuleSpec" 216 (.ref 22),K P "sys.modules.booked-epoch" 245 (.int 3 0),K P "\x69mport.later-laid._sre" 270 (.bool true),K P "watched.library" 272 (.ref 27),K P "watched.library-objects" 0 (.str (Str.mk #[12]) 0),K P "watched.library-deep._sre" 273 (.str (Str.mk #[4,0,0,11,4,0,0,11,4,0,0,3,4,0,0,11,8,4,100,105,99,116,2]) 0)] 9),#[]⟩
noncomputable def o3 (P:Params):Obj:=⟨.type "dict",none,(.dict #[K P "__name__" 165 (.str "__main__" 164),K P "__doc__" 166 (.none),K P "__package__" 167 (.none),K P "__loader__" 168 (.builtin "__main__.__loader__#opaque"),K P "__spec__" 169 (.none),KR P "__annotations__" 170 6,KR P "__builtins__" 171 4,K P "__file__" 173 (.str "/claim/cut.py" 172),K P "__cached__" 174 (.none),KR P "_sre" 275 12] 10),#[]⟩
noncomputable def o4:Obj:=⟨.type "module",(some 0),.plain,#[]⟩
noncomputable def o5:Obj:=⟨.type "module",(some 3),.plain,#[]⟩
noncomputable def o6:Obj:=⟨.type "dict",none,(.dict #[] 0),#[]⟩
noncomputable def di (p0:String) (p1:Nat) (p2:Nat) (p3:Nat) (p4:Int) (p5:Nat) (p6:Int) (p7:Nat) (p8:Int) (p9:Nat):Obj:=⟨.type "code",none,(.fields #[.str (sx p0) p1,.str (sx p0) p2,.str "/claim/cut.py" p3,.int p4 0,.int 0 0,.int 0 0,.int 0 0,.int 0 0,.ref p5,.bool false,.int p6 0,.ref p7,.none,.none,.none,.none,.int p8 0,.int p4 0,.str "/claim/cut.py" p9]),#[]⟩
noncomputable def o9:=di "<module>" 176 177 178 1 7 175 8 179 180
noncomputable def dj (p0:Nat) (p1:Nat) (p2:String) (p3:Nat):Obj:=⟨.type "frame",none,.plain,#[some (.ref p0),some (.ref 3),some (.ref p1),none,some (.str (sx p2) p3),none,some (.ref 0)]⟩
noncomputable def Tc:=dj 9 3 "__main__" 164
noncomputable def Td (P:Params):Obj:=⟨.type "dict",none,(.dict #[K P "__name__" 247 (.str "_sre" 246),K P "__doc__" 248 (.none),K P "__package__" 250 (.str "" 249),K P "__loader__" 251 (.builtin "off-the-table:_sre.__loader__:shared#opaque"),K P "__spec__" 252 (.builtin "off-the-table:_sre.__spec__:shared#opaque"),K P "compile" 253 (.builtin "_sre.compile"),K P "template" 254 (.builtin "off-the-table:_sre.template:shared#opaque"),K P "getcodesize" 255 (.builtin "off-the-table:_sre.getcodesize:shared#opaque"),K P "ascii_iscased" 256 (.builtin "off-the-table:_sre.ascii_iscased:shared#opaque"),K P "unicode_iscased" 257 (.builtin "off-the-table:_sre.unicode_iscased:shared#opaque"),K P "ascii_tolower" 258 (.builtin "off-the-table:_sre.ascii_tolower:shared#opaque"),K P "unicode_tolower" 259 (.builtin "off-the-table:_sre.unicode_tolower:shared#opaque"),K P "MAGIC" 261 (.int 20230612 260),K P "CODESIZE" 263 (.int 4 262),K P "MAXREPEAT" 265 (.int 4294967295 264),K P "MAXGROUPS" 267 (.int 1073741823 266),K P "copyright" 269 (.str " SRE 2.2.2 Copyright (c) 1997-2002 by Secret Labs AB " 268)] 17),#[]⟩
noncomputable def Te:Obj:=⟨.type "module",(some 11),.plain,#[]⟩
noncomputable def Tf (P:Params):Obj:=⟨.type "dict",none,(.dict #[K P "__module__" 189 (.str "_frozen_importlib" 186),K P "__firstlineno__" 190 (.int 971 187),K P "__doc__" 191 (.builtin "_frozen_importlib.BuiltinImporter.__doc__:str#opaque"),K P "_ORIGIN" 192 (.str "built-in" 188),K P "find_spec" 193 (.builtin "_frozen_importlib.BuiltinImporter.find_spec#opaque"),K P "create_module" 194 (.builtin "_frozen_importlib.BuiltinImporter.create_module#opaque"),K P "exec_module" 195 (.builtin "_frozen_importlib.BuiltinImporter.exec_module#opaque"),K P "get_code" 196 (.builtin "_frozen_importlib.BuiltinImporter.get_code#opaque"),K P "get_source" 197 (.builtin "_frozen_importlib.BuiltinImporter.get_source#opaque"),K P "is_package" 198 (.builtin "_frozen_importlib.BuiltinImporter.is_package#opaque"),K P "load_module" 199 (.builtin "_frozen_importlib.BuiltinImporter.load_module#opaque"),KR P "__static_attributes__" 200 15,KR P "__dict__" 202 16,KR P "__weakref__" 204 17] 14),#[]⟩
noncomputable def Tg:Obj:=⟨.type "type",none,(.cls {name:="BuiltinImporter",bases:=[.type "object"],mro:=[.ref 14,.type "object"],ns:=13,qualname:="BuiltinImporter",hasDict:=true,slotNames:=[],subclasses:=[],abstract:=false,collection:=none,hasDel:=false}),#[]⟩
noncomputable def Ti:Obj:=⟨.type "getset_descriptor",none,(.fields #[.str "__dict__" 201,.ref 14,.builtin "function.__dict__",.builtin "function.__dict__#set"]),#[]⟩
noncomputable def Tj:Obj:=⟨.type "getset_descriptor",none,(.fields #[.str "__weakref__" 203,.ref 14,.builtin "ExceptionGroup.__weakref__",.none]),#[]⟩
noncomputable def Tk:Obj:=⟨.none,none,(.seq #[.int 13 0,.str (Str.mk ([6,189]++zs "__module__"++[6,186]++zs "_frozen_importlib"++[6,190]++zs "__firstlineno__"++[4,187,0,971,6,191]++zs "__doc__"++[9]++zs "_frozen_importlib.BuiltinImporter.__doc__:str#opaque"++[6,192]++zs "_ORIGIN"++[6,188]++zs "built-in"++[6,193]++zs "find_spec"++[9]++zs "_frozen_importlib.BuiltinImporter.find_spec#opaque"++[6,194]++zs "create_module"++[9]++zs "_frozen_importlib.BuiltinImporter.create_module#opaque"++[6,195]++zs "exec_module"++[9]++zs "_frozen_importlib.BuiltinImporter.exec_module#opaque"++[6,196]++zs "get_code"++[9]++zs "_frozen_importlib.BuiltinImporter.get_code#opaque"++[6,197]++zs "get_source"++[9]++zs "_frozen_importlib.BuiltinImporter.get_source#opaque"++[6,198]++zs "is_package"++[9]++zs "_frozen_importlib.BuiltinImporter.is_package#opaque"++[6,199]++zs "load_module"++[9]++zs "_frozen_importlib.BuiltinImporter.load_module#opaque"++[6,200]++zs "__static_attributes__"++[4,0,0,15,6,202]++zs "__dict__"++[4,0,0,16,6,204]++zs "__weakref__"++[4,0,0,17]).toArray) 0,.bool true,.bool true,.str "" 205,.int 21 0,.str (Str.mk ([6,227]++zs "__module__"++[6,217]++zs "_frozen_importlib"++[6,228]++zs "__firstlineno__"++[4,218,0,562,6,229]++zs "__doc__"++[9]++zs "_frozen_importlib.ModuleSpec.__doc__:str#opaque"++[6,230]++zs "__init__"++[9]++zs "_frozen_importlib.ModuleSpec.__init__#opaque"++[6,231]++zs "__repr__"++[9]++zs "_frozen_importlib.ModuleSpec.__repr__#opaque"++[6,232]++zs "__eq__"++[9]++zs "_frozen_importlib.ModuleSpec.__eq__#opaque"++[6,233]++zs "cached"++[9]++zs "_frozen_importlib.ModuleSpec.cached#opaque"++[6,234]++zs "parent"++[9]++zs "_frozen_importlib.ModuleSpec.parent#opaque"++[6,235]++zs "has_location"++[9]++zs "_frozen_importlib.ModuleSpec.has_location#opaque"++[6,236]++zs "__static_attributes__"++[4,0,0,23,6,238]++zs "__dict__"++[4,0,0,24,6,240]++zs "__weakref__"++[4,0,0,25,6,241]++zs "__hash__"++[0]).toArray) 0,.bool true,.bool true,.str "" 242] 1),#[]⟩
noncomputable def Tl:Obj:=⟨.type "list",none,(.seq #[] 0),#[]⟩
noncomputable def Tm (P:Params):Obj:=⟨.type "dict",none,(.dict #[K P "name" 208 (.str "_sre" 207),KR P "loader" 209 14,K P "origin" 210 (.str "built-in" 184),K P "loader_state" 211 (.none),K P "submodule_search_locations" 212 (.none),KR P "_uninitialized_submodules" 213 19,K P "_set_fileattr" 214 (.bool false),K P "_cached" 215 (.none),K P "_initializing" 243 (.bool false)] 9),#[]⟩
noncomputable def To (P:Params):Obj:=⟨.type "dict",none,(.dict #[K P "__module__" 227 (.str "_frozen_importlib" 217),K P "__firstlineno__" 228 (.int 562 218),K P "__doc__" 229 (.builtin "_frozen_importlib.ModuleSpec.__doc__:str#opaque"),K P "__init__" 230 (.builtin "_frozen_importlib.ModuleSpec.__init__#opaque"),K P "__repr__" 231 (.builtin "_frozen_importlib.ModuleSpec.__repr__#opaque"),K P "__eq__" 232 (.builtin "_frozen_importlib.ModuleSpec.__eq__#opaque"),K P "cached" 233 (.builtin "_frozen_importlib.ModuleSpec.cached#opaque"),K P "parent" 234 (.builtin "_frozen_importlib.ModuleSpec.parent#opaque"),K P "has_location" 235 (.builtin "_frozen_importlib.ModuleSpec.has_location#opaque"),KR P "__static_attributes__" 236 23,KR P "__dict__" 238 24,KR P "__weakref__" 240 25,K P "__hash__" 241 (.none)] 13),#[]⟩
noncomputable def Tq:Obj:=⟨.type "type",none,(.cls {name:="ModuleSpec",bases:=[.type "object"],mro:=[.ref 22,.type "object"],ns:=21,qualname:="ModuleSpec",hasDict:=true,slotNames:=[],subclasses:=[],abstract:=false,collection:=none,hasDel:=false}),#[]⟩
noncomputable def Ts:Obj:=⟨.type "tuple",none,(.seq #[.str "_cached" 219,.str "_set_fileattr" 220,.str "_uninitialized_submodules" 221,.str "loader" 222,.str "loader_state" 223,.str "name" 224,.str "origin" 225,.str "submodule_search_locations" 226] 0),#[]⟩
noncomputable def Tu:Obj:=⟨.type "getset_descriptor",none,(.fields #[.str "__dict__" 237,.ref 22,.builtin "function.__dict__",.builtin "function.__dict__#set"]),#[]⟩
noncomputable def Tv:Obj:=⟨.type "getset_descriptor",none,(.fields #[.str "__weakref__" 239,.ref 22,.builtin "ExceptionGroup.__weakref__",.none]),#[]⟩
noncomputable def Tw:Obj:=⟨.ref 22,(some 20),.plain,#[]⟩
noncomputable def Tx:Obj:=⟨.none,none,(.seq #[.int 11 0,.str (Str.mk ([6,247]++zs "__name__"++[6,246]++zs "_sre"++[6,248]++zs "__doc__"++[0,6,250]++zs "__package__"++[6,249,0,6,251]++zs "__loader__"++[4,0,0,14,6,252]++zs "__spec__"++[4,0,0,26,6,253]++zs "compile"++[9]++zs "_sre.compile"++[6,254]++zs "template"++[9]++zs "_sre.template"++[6,255]++zs "getcodesize"++[9]++zs "_sre.getcodesize"++[6,256]++zs "ascii_iscased"++[9]++zs "_sre.ascii_iscased"++[6,257]++zs "unicode_iscased"++[9]++zs "_sre.unicode_iscased"++[6,258]++zs "ascii_tolower"++[9]++zs "_sre.ascii_tolower"++[6,259]++zs "unicode_tolower"++[9]++zs "_sre.unicode_tolower"++[6,261]++zs "MAGIC"++[4,260,0,20230612,6,263]++zs "CODESIZE"++[4,262,0,4,6,265]++zs "MAXREPEAT"++[4,264,0,4294967295,6,267]++zs "MAXGROUPS"++[4,266,0,1073741823,6,269]++zs "copyright"++[6,268]++zs " SRE 2.2.2 Copyright (c) 1997-2002 by Secret Labs AB ").toArray) 0,.bool true,.bool false,.str "_sre" 271] 0),#[]⟩
noncomputable def TE (P:Params):Heap:=⟨#[o0 P,o1 P,o2 P,o3 P,o4,o5,o6,e0,f0,o9,Tc,Td P,Te,Tf P,Tg,e0,Ti,Tj,Tk,Tl,Tm P,To P,Tq,Ts,Tu,Tv,Tw,Tx],Io⟩
noncomputable def Ty:=di "<module>" 277 278 279 1 28 276 29 280 281
noncomputable def TF:=dj 30 3 "__main__" 164
noncomputable def gR (P:Params):Heap:=⟨#[o0 P,o1 P,o2 P,o3 P,o4,o5,o6,e0,f0,o9,Tc,Td P,Te,Tf P,Tg,e0,Ti,Tj,Tk,Tl,Tm P,To P,Tq,Ts,Tu,Tv,Tw,Tx,e0,f0,Ty,TF],Io⟩
noncomputable def iC (P:Params):BT:=(nn (o0 P) (nn (o1 P) (nn (o3 P) (nn e0 (nn e0 (lf TF) .nil) (lf Ts)) (nn (Td P) (lf Tl) (lf Tx))) (nn o5 (nn o9 (lf Tj) (lf Tv)) (nn (Tf P) (lf (To P)) (lf f0)))) (nn (o2 P) (nn o4 (nn f0 (lf Ti) (lf Tu)) (nn Te (lf (Tm P)) (lf e0))) (nn o6 (nn Tc (lf Tk) (lf Tw)) (nn Tg (lf Tq) (lf Ty)))))
noncomputable def ZI (P:Params):Obj:=⟨.type "dict",none,(.dict #[K P "__name__" 165 (.str "__main__" 164),K P "__doc__" 166 (.none),K P "__package__" 167 (.none),K P "__loader__" 168 (.builtin "__main__.__loader__#opaque"),K P "__spec__" 169 (.none),KR P "__annotations__" 170 6,KR P "__builtins__" 171 4,K P "__file__" 173 (.str "/claim/cut.py" 172),K P "__cached__" 174 (.none),KR P "_sre" 275 12,KR P "_wall" 288 38,KR P "_twin_re_1" 323 43] 12),#[]⟩
noncomputable def K3:Obj:=⟨.none,none,(.fields #[.int 2 0,.int 0 0,.ref 37]),#[]⟩
noncomputable def WW:Obj:=⟨.type "tuple",none,(.seq #[.str "k" 285] 0),#[]⟩
noncomputable def FN (p0:String) (p1:Nat):Obj:=⟨.none,none,(.func {name:=(sx p0),qualname:=(sx p0),params:=(JR top p1).1,body:=.stmts (JR top p1).2.1,scope:=(JR top p1).2.2,globals:=0,closure:=[],defaults:=.none,kwdefaults:=.none,doc:=.none,pyModule:=.none,annotations:=none,code:=.none,closureTuple:=.none,builtins:=0}),#[]⟩
noncomputable def WX:=FN "_wall" 1
noncomputable def ZJ (p0:String) (p1:Nat) (p2:String) (p3:Nat) (p4:Nat) (p5:Int) (p6:Int) (p7:Int) (p8:Nat) (p9:Nat) (p10:Nat) (p11:Nat) (d8:Nat) (d9:Int) (p14:Nat):Obj:=⟨.type "code",none,(.fields #[.str (sx p0) p1,.str (sx p2) p3,.str "/claim/cut.py" p4,.int p5 0,.int p6 0,.int 0 0,.int 0 0,.int p7 0,.ref p8,.bool true,.int 276 0,.ref p9,.none,.ref p10,.ref p11,.ref d8,.int d9 0,.int p5 0,.str "/claim/cut.py" p14]),#[]⟩
noncomputable def tq (s:String) (t:Nat) (l a f:Int) (b u:Nat):Obj:=ZJ s t s (t+1) (t+2) l a f b (b+1) (b+2) (b+3) (b+4) u (u+1)
noncomputable def WB:=tq "_wall" 282 2 1 3 32 286
noncomputable def Gk (p0:String) (p1:Nat) (p2:String) (p3:Nat) (p4:Nat):Obj:=⟨.type "function",none,(.func {name:=(sx p0),qualname:=(sx p0),params:=(JR top p1).1,body:=.stmts (JR top p1).2.1,scope:=(JR top p1).2.2,globals:=3,closure:=[],defaults:=.none,kwdefaults:=.none,doc:=.none,pyModule:=.str (sx p2) p3,annotations:=none,code:=.ref p4,closureTuple:=.none,builtins:=0}),#[]⟩
noncomputable def WC:=Gk "_wall" 1 "__main__" 164 37
noncomputable def WY:Obj:=⟨.type "list",none,(.seq #[.int 14 292,.int 8 293,.int 1 294,.int 3 295,.int 3 296,.int 1 297,.int 1 298,.int 61 299,.int 0 300,.int 16 301,.int 61 302,.int 24 303,.int 16 304,.int 2 305,.int 2 306,.int 13 307,.int 11 308,.int 9 309,.int 0 310,.int 67043328 311,.int 126 312,.int 126 313,.int 0 314,.int 0 315,.int 0 316,.int 0 317,.int 0 318,.int 1 319,.int 1 320] 0),#[]⟩
noncomputable def WZ:Obj:=⟨.type "dict",none,(.dict #[] 0),#[]⟩
noncomputable def W0:Obj:=⟨.type "tuple",none,(.seq #[.none] 0),#[]⟩
noncomputable def OM:Obj:=⟨.type "tuple",none,(.seq #[.int 14 0,.int 8 0,.int 1 0,.int 3 0,.int 3 0,.int 1 0,.int 1 0,.int 61 0,.int 0 0,.int 16 0,.int 61 0,.int 24 0,.int 16 0,.int 2 0,.int 2 0,.int 13 0,.int 11 0,.int 9 0,.int 0 0,.int 67043328 0,.int 126 0,.int 126 0,.int 0 0,.int 0 0,.int 0 0,.int 0 0,.int 0 0,.int 1 0,.int 1 0] 0),#[]⟩
noncomputable def PW:Obj:=⟨.type "re.Pattern",none,(.fields #[.str "=[a-fA-F0-9]{2}" 290,.int 256 322,.int 0 0,.none,.none,.ref 42,.int 0 0]),#[]⟩
noncomputable def tL (P:Params) (k:Nat) (l:Obj):BT:=(nn (o0 P) (nn (o1 P) (nn (ZI P) (nn e0 (nn e0 (lf TF) (lf (dQ P k))) (nn Ts (lf WY) .nil)) (nn (Td P) (nn Tl (lf e0) .nil) (nn Tx (lf PW) .nil))) (nn o5 (nn o9 (nn Tj (lf f0) .nil) (nn Tv (lf W0) .nil)) (nn (Tf P) (nn (To P) (lf WB) .nil) (nn K3 (lf (dP k)) .nil)))) (nn (o2 P) (nn o4 (nn f0 (nn Ti (lf e0) .nil) (nn Tu (lf WZ) .nil)) (nn Te (nn (Tm P) (lf WX) .nil) (nn e0 (lf dO) .nil))) (nn o6 (nn Tc (nn Tk (lf WW) .nil) (nn Tw (lf OM) .nil)) (nn Tg (nn Tq (lf WC) .nil) (nn Ty (lf l) .nil)))))
noncomputable def iD (P:Params):BT:=(nn (o0 P) (nn (o1 P) (nn (ZI P) (nn e0 (nn e0 (lf TF) .nil) (nn Ts (lf WY) .nil)) (nn (Td P) (nn Tl (lf e0) .nil) (nn Tx (lf PW) .nil))) (nn o5 (nn o9 (nn Tj (lf f0) .nil) (nn Tv (lf W0) .nil)) (nn (Tf P) (nn (To P) (lf WB) .nil) (lf K3)))) (nn (o2 P) (nn o4 (nn f0 (nn Ti (lf e0) .nil) (nn Tu (lf WZ) .nil)) (nn Te (nn (Tm P) (lf WX) .nil) (lf e0))) (nn o6 (nn Tc (nn Tk (lf WW) .nil) (nn Tw (lf OM) .nil)) (nn Tg (nn Tq (lf WC) .nil) (lf Ty)))))
noncomputable def dR (P:Params):Obj:=⟨.type "dict",none,(.dict #[K P "__name__" 165 (.str "__main__" 164),K P "__doc__" 166 (.none),K P "__package__" 167 (.none),K P "__loader__" 168 (.builtin "__main__.__loader__#opaque"),K P "__spec__" 169 (.none),KR P "__annotations__" 170 6,KR P "__builtins__" 171 4,K P "__file__" 173 (.str "/claim/cut.py" 172),K P "__cached__" 174 (.none),KR P "_sre" 275 12,KR P "_wall" 288 38,KR P "_twin_re_1" 323 43,KR P "_QUOPRI_MAP" 1351 46] 13),#[]⟩
noncomputable def ZK:Obj:=⟨.type "range",none,(.fields #[.int 0 325,.int 256 324,.int 1 326]),#[]⟩
noncomputable def ZL:Obj:=⟨.type "range_iterator",none,(.fields #[.int 256 0,.int 0 0,.int 1 0]),#[]⟩
noncomputable def xs:List Value:=(List.range 256).map item
noncomputable def En (a b:Nat):List Value:=(xs.drop a).take (b-a)
noncomputable def dk (l:List (List Value)):List Value:=l.flatten
noncomputable def rn (c n t:Nat):List Value:=(List.range n).map λi=>.str ⟨#[c+i]⟩ (t+3*i)
noncomputable def gT:List Value:=dk [rn 32 29 1578,En 61 62,rn 62 65 1665,En 127 256]
noncomputable def ZM:Obj:=⟨.type "list",none,(.seq xs.toArray 256),#[]⟩
noncomputable def ZN:Obj:=⟨.type "dict",none,(.dict #[] 2),#[]⟩
noncomputable def dl (p0:Nat):Obj:=⟨.type "StopIteration",none,(.fields #[.ref p0,.none,.none,.none,.bool false,.none]),#[]⟩
noncomputable def ZO:=dl 48
noncomputable def iE (P:Params):BT:=(nn (o0 P) (nn (o1 P) (nn (dR P) (nn e0 (nn e0 (lf TF) (lf ZN)) (nn Ts (lf WY) .nil)) (nn (Td P) (nn Tl (lf e0) .nil) (nn Tx (lf PW) .nil))) (nn o5 (nn o9 (nn Tj (lf f0) (lf ZO)) (nn Tv (lf W0) .nil)) (nn (Tf P) (nn (To P) (lf WB) .nil) (nn K3 (lf ZL) .nil)))) (nn (o2 P) (nn o4 (nn f0 (nn Ti (lf e0) (lf e0)) (nn Tu (lf WZ) .nil)) (nn Te (nn (Tm P) (lf WX) .nil) (nn e0 (lf ZK) .nil))) (nn o6 (nn Tc (nn Tk (lf WW) .nil) (nn Tw (lf OM) .nil)) (nn Tg (nn Tq (lf WC) .nil) (nn Ty (lf ZM) .nil)))))
noncomputable def dm:Obj:=⟨.type "slice",none,(.fields #[.none,.none,.none]),#[]⟩
noncomputable def dn:Obj:=⟨.type "slice",none,(.fields #[.none,.none,.none]),#[]⟩
noncomputable def iF:Obj:=⟨.type "list",none,(.seq xs.toArray 0),#[]⟩
noncomputable def gU (P:Params) (p0:Int) (p1:Nat):Obj:=⟨.type "dict",none,(.dict #[K P "__name__" 165 (.str "cpy313.email.quoprimime" 1362),K P "__doc__" 166 (.none),K P "__package__" 167 (.none),K P "__loader__" 168 (.builtin "__main__.__loader__#opaque"),K P "__spec__" 169 (.none),KR P "__annotations__" 170 6,KR P "__builtins__" 171 4,K P "__file__" 173 (.str "/claim/cut.py" 172),K P "__cached__" 174 (.none),KR P "_sre" 275 12,KR P "_wall" 288 38,KR P "_twin_re_1" 323 43,KR P "_QUOPRI_MAP" 1351 46,KR P "_QUOPRI_HEADER_MAP" 1352 51,KR P "_QUOPRI_BODY_MAP" 1353 53,K P "ascii_lowercase" 1355 (.str "abcdefghijklmnopqrstuvwxyz" 1354),K P "ascii_uppercase" 1357 (.str "ABCDEFGHIJKLMNOPQRSTUVWXYZ" 1356),K P "ascii_letters" 1359 (.str "abcdefghijklmnopqrstuvwxyzABCDEFGHIJKLMNOPQRSTUVWXYZ" 1358),K P "digits" 1361 (.str "0123456789" 1360),K P "c" 1372 (.int p0 p1)] 20),#[]⟩
noncomputable def dS (P:Params):Obj:=gU P 57 1569
noncomputable def dp:Obj:=⟨.type "bytes_iterator",none,(.fields #[.none,.int 67 0]),#[]⟩
noncomputable def dq:=dl 55
noncomputable def Eo (P:Params):Obj:=⟨.type "list",none,(.seq (dk [En 0 32,[.str "_" 1572,.str "!" 1376],En 34 42,[.str "*" 1379,.str "+" 1382,.str "=2C" 506,.str "-" 1373,.str "=2E" 514,.str "/" 1385],rn 48 10 1544,En 58 65,rn 65 26 1466,En 91 97,rn 97 26 1388,En 123 256]).toArray 0),#[]⟩
noncomputable def dT (P:Params):BT:=(nn (o0 P) (nn (o1 P) (nn (dS P) (nn e0 (nn e0 (lf TF) (lf ZN)) (nn Ts (lf WY) (lf e0))) (nn (Td P) (nn Tl (lf e0) (lf (Eo P))) (nn Tx (lf PW) .nil))) (nn o5 (nn o9 (nn Tj (lf f0) (lf ZO)) (nn Tv (lf W0) .nil)) (nn (Tf P) (nn (To P) (lf WB) (lf iF)) (nn K3 (lf ZL) .nil)))) (nn (o2 P) (nn o4 (nn f0 (nn Ti (lf e0) (lf e0)) (nn Tu (lf WZ) (lf dq))) (nn Te (nn (Tm P) (lf WX) (lf dn)) (nn e0 (lf ZK) .nil))) (nn o6 (nn Tc (nn Tk (lf WW) (lf dm)) (nn Tw (lf OM) .nil)) (nn Tg (nn Tq (lf WC) (lf dp)) (nn Ty (lf ZM) .nil)))))
noncomputable def P0 (P:Params):Obj:=⟨.type "list",none,(.seq (dk [En 0 9,rn 9 1 1860,En 10 32,gT]).toArray 0),#[]⟩
noncomputable def dU:Obj:=⟨.type "bytes_iterator",none,(.fields #[.none,.int 95 0]),#[]⟩
noncomputable def dW:=dl 58
noncomputable def gV:Obj:=⟨.type "tuple",none,(.seq #[.str "s" 1864] 0),#[]⟩
noncomputable def gW:=FN "unquote" 14
noncomputable def du:=tq "unquote" 1861 19 1 3 60 1865
noncomputable def ZP:=Gk "unquote" 14 "cpy313.email.quoprimime" 1362 65
noncomputable def ZC (p0:String) (p1:Nat):Obj:=⟨.type "tuple",none,(.seq #[.str (sx p0) p1] 0),#[]⟩
noncomputable def dX:=ZC "iso-8859-1" 1868
noncomputable def ZD (p0:String) (p1:Nat) (p2:String) (p3:Nat) (p4:String) (p5:Nat):Obj:=⟨.type "tuple",none,(.seq #[.str (sx p0) p1,.str (sx p2) p3,.str (sx p4) p5] 0),#[]⟩
noncomputable def gX:=ZD "header_bytes" 1872 "charset" 1873 "encoded" 1874
noncomputable def gY:=FN "header_encode" 15
noncomputable def dw:=tq "header_encode" 1869 21 2 3 68 1875
noncomputable def ZQ:Obj:=⟨.type "function",none,(.func {name:="header_encode",qualname:="header_encode",params:=(JR top 15).1,body:=.stmts (JR top 15).2.1,scope:=(JR top 15).2.2,globals:=3,closure:=[],defaults:=.ref 67,kwdefaults:=.none,doc:=.none,pyModule:=.str "cpy313.email.quoprimime" 1362,annotations:=none,code:=.ref 73,closureTuple:=.none,builtins:=0}),#[]⟩
noncomputable def gZ:Obj:=⟨.type "slice",none,(.fields #[.none,.none,.none]),#[]⟩
noncomputable def WD (P:Params):Obj:=⟨.type "list",none,(.seq (dk [En 0 9,rn 9 1 1860,rn 10 1 1885,En 11 13,rn 13 1 1882,En 14 32,gT]).toArray 0),#[]⟩
noncomputable def g6:Obj:=⟨.type "bytes_iterator",none,(.fields #[.none,.int 2 0]),#[]⟩
noncomputable def g7:=dl 78
noncomputable def ZR (p0:String) (p1:Nat) (p2:String) (p3:Nat):Obj:=⟨.type "tuple",none,(.seq #[.str (sx p0) p1,.str (sx p2) p3] 0),#[]⟩
noncomputable def g8:=ZR "match" 1889 "s" 1890
noncomputable def g9:=FN "_unquote_match" 19
noncomputable def dy:=tq "_unquote_match" 1886 30 1 3 80 1891
noncomputable def ZE:=Gk "_unquote_match" 19 "cpy313.email.quoprimime" 1362 85
noncomputable def hG:Obj:=⟨.type "tuple",none,(.seq #[.str "s" 1897] 0),#[]⟩
noncomputable def hH:=FN "header_decode" 20
noncomputable def dz:=tq "header_decode" 1894 33 1 3 87 1898
noncomputable def ZS:=Gk "header_decode" 20 "cpy313.email.quoprimime" 1362 92
noncomputable def hU:=ZD "x" 1906 "what" 1907 "kind" 1908
noncomputable def hV:=FN "_plain_name" 22
noncomputable def dY:=tq "_plain_name" 1903 37 2 3 94 1909
noncomputable def W2:=Gk "_plain_name" 22 "os" 1901 99
noncomputable def ZT:Obj:=⟨.type "tuple",none,(.seq #[.type "type"] 0),#[]⟩
noncomputable def ZU:Obj:=⟨.type "builtin_function_or_method",none,(.fields #[.builtin "type.__prepare__",.type "type"]),#[]⟩
noncomputable def ZV (P:Params):Obj:=⟨.type "dict",none,(.dict #[K P "__module__" 1921 (.str "abc" 1912),K P "__qualname__" 1923 (.str "ABCMeta" 1922),K P "__firstlineno__" 1925 (.int 43 1924),KR P "register" 1933 114,KR P "__static_attributes__" 1934 115] 5),#[]⟩
noncomputable def ZW:Obj:=⟨.none,none,(.fields #[.int 45 0,.int 4 0,.ref 113]),#[]⟩
noncomputable def W3:=di "ABCMeta" 1916 1917 1918 43 104 276 105 1919 1920
noncomputable def ZX:=dj 106 103 "abc" 1912
noncomputable def ZY:=ZR "cls" 1929 "subclass" 1930
noncomputable def TG (p0:String) (p1:String) (p2:Nat) (p3:Nat):Obj:=⟨.none,none,(.func {name:=(sx p0),qualname:=(sx p1),params:=(JR (ZB top p2) p3).1,body:=.stmts (JR (ZB top p2) p3).2.1,scope:=(JR (ZB top p2) p3).2.2,globals:=0,closure:=[],defaults:=.none,kwdefaults:=.none,doc:=.none,pyModule:=.none,annotations:=none,code:=.none,closureTuple:=.none,builtins:=0}),#[]⟩
noncomputable def ZZ:=TG "register" "ABCMeta.register" 24 0
noncomputable def W4:=ZJ "register" 1926 "ABCMeta.register" 1927 1928 45 2 3 108 109 110 111 112 1931 1932
noncomputable def TH (p0:String) (p1:String) (p2:Nat) (p3:Nat) (p4:String) (p5:Nat) (p6:Nat):Obj:=⟨.type "function",none,(.func {name:=(sx p0),qualname:=(sx p1),params:=(JR (ZB top p2) p3).1,body:=.stmts (JR (ZB top p2) p3).2.1,scope:=(JR (ZB top p2) p3).2.2,globals:=3,closure:=[],defaults:=.none,kwdefaults:=.none,doc:=.none,pyModule:=.str (sx p4) p5,annotations:=none,code:=.ref p6,closureTuple:=.none,builtins:=0}),#[]⟩
noncomputable def W5:=TH "register" "ABCMeta.register" 24 0 "abc" 1912 113
noncomputable def Z0 (P:Params):Obj:=⟨.type "dict",none,(.dict #[K P "__module__" 1921 (.str "abc" 1912),K P "__firstlineno__" 1925 (.int 43 1924),KR P "register" 1933 114,KR P "__static_attributes__" 1934 115,K P "__doc__" 1935 (.none)] 2),#[]⟩
noncomputable def Z1:Obj:=⟨.type "type",none,(.cls {name:="ABCMeta",bases:=[.type "type"],mro:=[.ref 117,.type "type",.type "object"],ns:=116,qualname:="ABCMeta",hasDict:=true,slotNames:=[],subclasses:=[.ref 150],abstract:=false,collection:=none,hasDel:=false}),#[some (.ref 101),none,some (.str "ABCMeta" 1914),some (.str "ABCMeta" 1922),some (.builtin "type.__new__"),some (.bool true)]⟩
noncomputable def Z2:Obj:=⟨.type "super",none,(.fields #[.ref 117,.ref 117,.ref 117]),#[]⟩
noncomputable def Z3:Obj:=⟨.type "builtin_function_or_method",none,(.fields #[.builtin "object.__init_subclass__",.ref 117]),#[]⟩
noncomputable def Z4:Obj:=⟨.type "tuple",none,(.seq #[.ref 117] 0),#[]⟩
noncomputable def Z5:Obj:=⟨.type "builtin_function_or_method",none,(.fields #[.builtin "type.__prepare__",.type "type"]),#[]⟩
noncomputable def Z6 (P:Params):Obj:=⟨.type "dict",none,(.dict #[K P "__module__" 1947 (.str "collections.abc" 1938),K P "__qualname__" 1949 (.str "_ABCLike" 1948),K P "__firstlineno__" 1951 (.int 48 1950),KR P "__instancecheck__" 1960 133,KR P "__subclasscheck__" 1968 140,KR P "register" 1976 147,KR P "__static_attributes__" 1977 148] 7),#[]⟩
noncomputable def Z7:Obj:=⟨.none,none,(.fields #[.int 50 0,.int 4 0,.ref 132,.int 56 0,.int 4 0,.ref 139,.int 61 0,.int 4 0,.ref 146]),#[]⟩
noncomputable def W6:=di "_ABCLike" 1942 1943 1944 48 123 276 124 1945 1946
noncomputable def Z8:=dj 125 122 "collections.abc" 1938
noncomputable def Z9:=ZD "cls" 1955 "\x69nstance" 1956 "C" 1957
noncomputable def aa:=TG "__instancecheck__" "_ABCLike.__instancecheck__" 26 0
noncomputable def W7:=ZJ "__instancecheck__" 1952 "_ABCLike.__instancecheck__" 1953 1954 50 2 3 127 128 129 130 131 1958 1959
noncomputable def W8:=TH "__instancecheck__" "_ABCLike.__instancecheck__" 26 0 "collections.abc" 1938 132
noncomputable def ab:=ZR "cls" 1964 "C" 1965
noncomputable def ac:=TG "__subclasscheck__" "_ABCLike.__subclasscheck__" 26 1
noncomputable def W9:=ZJ "__subclasscheck__" 1961 "_ABCLike.__subclasscheck__" 1962 1963 56 2 3 134 135 136 137 138 1966 1967
noncomputable def Xa:=TH "__subclasscheck__" "_ABCLike.__subclasscheck__" 26 1 "collections.abc" 1938 139
noncomputable def ae:=ZR "cls" 1972 "subclass" 1973
noncomputable def af:=TG "register" "_ABCLike.register" 26 2
noncomputable def Xb:=ZJ "register" 1969 "_ABCLike.register" 1970 1971 61 2 3 141 142 143 144 145 1974 1975
noncomputable def Xc:=TH "register" "_ABCLike.register" 26 2 "collections.abc" 1938 146
noncomputable def ah (P:Params):Obj:=⟨.type "dict",none,(.dict #[K P "__module__" 1947 (.str "collections.abc" 1938),K P "__firstlineno__" 1951 (.int 48 1950),KR P "__instancecheck__" 1960 133,KR P "__subclasscheck__" 1968 140,KR P "register" 1976 147,KR P "__static_attributes__" 1977 148,K P "__doc__" 1978 (.none)] 2),#[]⟩
noncomputable def ai:Obj:=⟨.type "type",none,(.cls {name:="_ABCLike",bases:=[.ref 117],mro:=[.ref 150,.ref 117,.type "type",.type "object"],ns:=149,qualname:="_ABCLike",hasDict:=true,slotNames:=[],subclasses:=[],abstract:=false,collection:=none,hasDel:=false}),#[some (.ref 120),none,some (.str "_ABCLike" 1940),some (.str "_ABCLike" 1948),some (.builtin "type.__new__"),some (.bool true)]⟩
noncomputable def aj:Obj:=⟨.type "super",none,(.fields #[.ref 150,.ref 150,.ref 150]),#[]⟩
noncomputable def ak:Obj:=⟨.type "builtin_function_or_method",none,(.fields #[.builtin "object.__init_subclass__",.ref 150]),#[]⟩
noncomputable def al:Obj:=⟨.type "tuple",none,(.seq #[.str "C" 1984] 0),#[]⟩
noncomputable def am:=FN "_abc_plain_meta" 27
noncomputable def Xd:=tq "_abc_plain_meta" 1981 63 1 3 153 1985
noncomputable def Xe:=Gk "_abc_plain_meta" 27 "collections.abc" 1938 158
noncomputable def an:Obj:=⟨.type "tuple",none,(.seq #[.str "path" 1993,.str "kind" 1994,.str "hook" 1995,.str "given" 1996] 0),#[]⟩
noncomputable def ao:=FN "fspath" 29
noncomputable def TJ:=tq "fspath" 1990 67 1 3 160 1997
noncomputable def P1:=Gk "fspath" 29 "os" 1988 165
noncomputable def ap:Obj:=⟨.type "tuple",none,(.seq #[.str "funcname" 2005,.str "args" 2006,.str "hasstr" 2007,.str "hasbytes" 2008,.str "s" 2009] 0),#[]⟩
noncomputable def aq:=FN "_check_arg_types" 31
noncomputable def Xf:=tq "_check_arg_types" 2002 84 1 7 167 2010
noncomputable def Xg:=Gk "_check_arg_types" 31 "cpy313.genericpath" 2000 172
noncomputable def ar:=ZC "path" 2018
noncomputable def au:=FN "_get_sep" 33
noncomputable def TK:=tq "_get_sep" 2015 96 1 3 174 2019
noncomputable def P2:=Gk "_get_sep" 33 "cpy313.posixpath" 2013 179
noncomputable def av:Obj:=⟨.type "tuple",none,(.seq #[.str "a" 2025,.str "p" 2026,.str "sep" 2027,.str "path" 2028,.str "b" 2029] 0),#[]⟩
noncomputable def aw:=FN "join" 34
noncomputable def TL:=tq "join" 2022 101 1 7 181 2030
noncomputable def ON:=Gk "join" 34 "cpy313.posixpath" 2013 186
noncomputable def ax:=ZD "p" 2036 "sep" 2037 "empty" 2038
noncomputable def ay:=FN "splitroot" 35
noncomputable def TM:=tq "splitroot" 2033 118 1 3 188 2039
noncomputable def P3:=Gk "splitroot" 35 "cpy313.posixpath" 2013 193
noncomputable def az:=ZD "p" 2045 "sep" 2046 "i" 2047
noncomputable def aA:=FN "basename" 36
noncomputable def TN:=tq "basename" 2042 132 1 3 195 2048
noncomputable def P4:=Gk "basename" 36 "cpy313.posixpath" 2013 200
noncomputable def aB:Obj:=⟨.type "tuple",none,(.seq #[.str "path" 2054,.str "sep" 2055,.str "dot" 2056,.str "dotdot" 2057,.str "_" 2058,.str "initial_slashes" 2059,.str "comps" 2060,.str "new_comps" 2061,.str "comp" 2062] 0),#[]⟩
noncomputable def aC:=FN "normpath" 37
noncomputable def TO:=tq "normpath" 2051 137 1 3 202 2063
noncomputable def P5:=Gk "normpath" 37 "cpy313.posixpath" 2013 207
noncomputable def aD:=FN "commonpath" 38
noncomputable def Xh (p0:String) (p1:Nat) (p2:Nat) (p3:Nat) (p4:Int) (p5:Int) (p6:Nat) (p7:Nat) (p8:Nat) (p9:Int) (p10:Nat):Obj:=⟨.type "code",none,(.fields #[.str (sx p0) p1,.str (sx p0) p2,.str "/claim/cut.py" p3,.int p4 0,.int p5 0,.int 0 0,.int 0 0,.int 3 0,.ref p6,.bool true,.int 276 0,.ref p7,.none,.none,.none,.ref p8,.int p9 0,.int p4 0,.str "/claim/cut.py" p10]),#[]⟩
noncomputable def TP:=Xh "commonpath" 2066 2067 2068 162 1 209 210 211 2069 2070
noncomputable def P6:=Gk "commonpath" 38 "cpy313.posixpath" 2013 212
noncomputable def aE:=ZC "mode" 2077
noncomputable def aF:=FN "S_IMODE" 40
noncomputable def TQ:=tq "S_IMODE" 2074 192 1 3 214 2078
noncomputable def P7:=Gk "S_IMODE" 40 "cpy313.stat" 2072 219
noncomputable def aG:=ZC "mode" 2084
noncomputable def aH:=FN "S_IFMT" 41
noncomputable def TR:=tq "S_IFMT" 2081 194 1 3 221 2085
noncomputable def P8:=Gk "S_IFMT" 41 "cpy313.stat" 2072 226
noncomputable def Xi (P:Params):Obj:=⟨.type "dict",none,(.dict #[K P "__name__" 165 (.str "law_il0083_01" 2171),K P "__doc__" 166 (.none),K P "__package__" 167 (.none),K P "__loader__" 168 (.builtin "__main__.__loader__#opaque"),K P "__spec__" 169 (.none),KR P "__annotations__" 170 6,KR P "__builtins__" 171 4,K P "__file__" 173 (.str "/claim/cut.py" 172),K P "__cached__" 174 (.none),KR P "_sre" 275 12,KR P "_wall" 288 38,KR P "_twin_re_1" 323 43,KR P "_QUOPRI_MAP" 1351 46,KR P "_QUOPRI_HEADER_MAP" 1352 51,KR P "_QUOPRI_BODY_MAP" 1353 53,K P "ascii_lowercase" 1355 (.str "abcdefghijklmnopqrstuvwxyz" 1354),K P "ascii_uppercase" 1357 (.str "ABCDEFGHIJKLMNOPQRSTUVWXYZ" 1356),K P "ascii_letters" 1359 (.str "abcdefghijklmnopqrstuvwxyzABCDEFGHIJKLMNOPQRSTUVWXYZ" 1358),K P "digits" 1361 (.str "0123456789" 1360),KR P "unquote" 1867 66,KR P "header_encode" 1877 74,KR P "_QUOPRI_BODY_ENCODE_MAP" 1878 76,KR P "_unquote_match" 1893 86,KR P "header_decode" 1900 93,KR P "_plain_name" 1911 100,KR P "ABCMeta" 1937 117,KR P "_ABCLike" 1980 150,KR P "_abc_plain_meta" 1987 159,KR P "fspath" 1999 166,KR P "_check_arg_types" 2012 173,KR P "_get_sep" 2021 180,KR P "join" 2032 187,KR P "splitroot" 2041 194,KR P "basename" 2050 201,KR P "normpath" 2065 208,KR P "commonpath" 2071 213,KR P "S_IMODE" 2080 220,KR P "S_IFMT" 2087 227,K P "S_IFDIR" 2089 (.int 16384 2088),K P "S_IFCHR" 2091 (.int 8192 2090),K P "S_IFBLK" 2093 (.int 24576 2092),K P "S_IFREG" 2095 (.int 32768 2094),K P "S_IFIFO" 2097 (.int 4096 2096),K P "S_IFLNK" 2099 (.int 40960 2098),K P "S_IFSOCK" 2101 (.int 49152 2100),KR P "S_ISDIR" 2108 234,K P "S_ISUID" 2110 (.int 2048 2109),K P "S_ISGID" 2112 (.int 1024 2111),K P "S_ISVTX" 2114 (.int 512 2113),K P "S_IRUSR" 2116 (.int 256 2115),K P "S_IWUSR" 2118 (.int 128 2117),K P "S_IXUSR" 2120 (.int 64 2119),K P "S_IRGRP" 2122 (.int 32 2121),K P "S_IWGRP" 2124 (.int 16 2123),K P "S_IXGRP" 2126 (.int 8 2125),K P "S_IROTH" 2128 (.int 4 2127),K P "S_IWOTH" 2130 (.int 2 2129),K P "S_IXOTH" 2132 (.int 1 2131),KR P "_filemode_table" 2158 267,KR P "filemode" 2170 274,KR P "_law_listing" 2184 281,KR P "_law_mode" 2191 288,KR P "_law_name" 2198 295,KR P "_law_parts" 2216 302,KR P "_law_left" 2228 309,KR P "_law_text" 2236 316,KR P "_law_steps" 2242 321,KR P "_law_foot" 2255 328,KR P "_law_shared" 2264 335,KR P "law" 2270 340] 72),#[]⟩
noncomputable def WE:Obj:=⟨.none,none,(.fields #[.int 2 0,.int 0 0,.ref 37,.int 19 0,.int 0 0,.ref 65,.int 21 0,.int 0 0,.ref 73,.int 30 0,.int 0 0,.ref 85,.int 33 0,.int 0 0,.ref 92,.int 37 0,.int 0 0,.ref 99,.int 43 0,.int 0 0,.ref 106,.int 48 0,.int 0 0,.ref 125,.int 63 0,.int 0 0,.ref 158,.int 67 0,.int 0 0,.ref 165,.int 84 0,.int 0 0,.ref 172,.int 96 0,.int 0 0,.ref 179,.int 101 0,.int 0 0,.ref 186,.int 118 0,.int 0 0,.ref 193,.int 132 0,.int 0 0,.ref 200,.int 137 0,.int 0 0,.ref 207,.int 162 0,.int 0 0,.ref 212,.int 192 0,.int 0 0,.ref 219,.int 194 0,.int 0 0,.ref 226,.int 203 0,.int 0 0,.ref 233,.int 218 0,.int 0 0,.ref 273,.int 236 0,.int 0 0,.ref 280,.int 243 0,.int 0 0,.ref 287,.int 245 0,.int 0 0,.ref 294,.int 247 0,.int 0 0,.ref 301,.int 271 0,.int 0 0,.ref 308,.int 283 0,.int 0 0,.ref 315,.int 285 0,.int 0 0,.ref 320,.int 299 0,.int 0 0,.ref 327,.int 308 0,.int 0 0,.ref 334,.int 313 0,.int 0 0,.ref 339]),#[]⟩
noncomputable def aI:=ZC "mode" 2105
noncomputable def aJ:=FN "S_ISDIR" 49
noncomputable def TS:=tq "S_ISDIR" 2102 203 1 3 228 2106
noncomputable def P9:=Gk "S_ISDIR" 49 "cpy313.stat" 2072 233
noncomputable def Dw (p0:Int) (p1:Nat) (p2:String) (p3:Nat):Obj:=⟨.type "tuple",none,(.seq #[.int p0 p1,.str (sx p2) p3] 0),#[]⟩
noncomputable def Xj:=Dw 40960 2098 "l" 2133
noncomputable def Xk:=Dw 49152 2100 "s" 2134
noncomputable def Xl:=Dw 32768 2094 "-" 2135
noncomputable def Xm:=Dw 24576 2092 "b" 2136
noncomputable def Xn:=Dw 16384 2088 "d" 2137
noncomputable def Xo:=Dw 8192 2090 "c" 2138
noncomputable def Xp:=Dw 4096 2096 "p" 2139
noncomputable def Xq:Obj:=⟨.type "tuple",none,(.seq #[.ref 235,.ref 236,.ref 237,.ref 238,.ref 239,.ref 240,.ref 241] 0),#[]⟩
noncomputable def Xr:=Dw 256 2115 "r" 2140
noncomputable def Xs:Obj:=⟨.type "tuple",none,(.seq #[.ref 243] 0),#[]⟩
noncomputable def Xu:=Dw 128 2117 "w" 2141
noncomputable def Xv:Obj:=⟨.type "tuple",none,(.seq #[.ref 245] 0),#[]⟩
noncomputable def Xw:=Dw 2112 2142 "s" 2143
noncomputable def Xx:=Dw 2048 2109 "S" 2144
noncomputable def Xy:=Dw 64 2119 "x" 2145
noncomputable def Xz:Obj:=⟨.type "tuple",none,(.seq #[.ref 247,.ref 248,.ref 249] 0),#[]⟩
noncomputable def XA:=Dw 32 2121 "r" 2146
noncomputable def XB:Obj:=⟨.type "tuple",none,(.seq #[.ref 251] 0),#[]⟩
noncomputable def XC:=Dw 16 2123 "w" 2147
noncomputable def XD:Obj:=⟨.type "tuple",none,(.seq #[.ref 253] 0),#[]⟩
noncomputable def XG:=Dw 1032 2148 "s" 2149
noncomputable def XH:=Dw 1024 2111 "S" 2150
noncomputable def XI:=Dw 8 2125 "x" 2151
noncomputable def XJ:Obj:=⟨.type "tuple",none,(.seq #[.ref 255,.ref 256,.ref 257] 0),#[]⟩
noncomputable def XK:=Dw 4 2127 "r" 2152
noncomputable def XL:Obj:=⟨.type "tuple",none,(.seq #[.ref 259] 0),#[]⟩
noncomputable def XM:=Dw 2 2129 "w" 2153
noncomputable def XN:Obj:=⟨.type "tuple",none,(.seq #[.ref 261] 0),#[]⟩
noncomputable def XO:=Dw 513 2154 "t" 2155
noncomputable def XQ:=Dw 512 2113 "T" 2156
noncomputable def XR:=Dw 1 2131 "x" 2157
noncomputable def XT:Obj:=⟨.type "tuple",none,(.seq #[.ref 263,.ref 264,.ref 265] 0),#[]⟩
noncomputable def XU:Obj:=⟨.type "tuple",none,(.seq #[.ref 242,.ref 244,.ref 246,.ref 250,.ref 252,.ref 254,.ref 258,.ref 260,.ref 262,.ref 266] 0),#[]⟩
noncomputable def aK:Obj:=⟨.type "tuple",none,(.seq #[.str "mode" 2162,.str "perm" 2163,.str "index" 2164,.str "table" 2165,.str "bit" 2166,.str "char" 2167] 0),#[]⟩
noncomputable def aL:=FN "filemode" 63
noncomputable def TT:=tq "filemode" 2159 218 1 3 268 2168
noncomputable def Qa:=Gk "filemode" 63 "cpy313.stat" 2072 273
noncomputable def aM:Obj:=⟨.type "tuple",none,(.seq #[.str "mode" 2176,.str "signs" 2177,.str "i" 2178,.str "figure" 2179,.str "special" 2180,.str "last" 2181] 0),#[]⟩
noncomputable def aN:=FN "_law_listing" 65
noncomputable def TU:=tq "_law_listing" 2173 236 1 3 275 2182
noncomputable def Qb:=Gk "_law_listing" 65 "law_il0083_01" 2171 280
noncomputable def aO:Obj:=⟨.type "tuple",none,(.seq #[.str "q" 2188] 0),#[]⟩
noncomputable def aP:=FN "_law_mode" 66
noncomputable def TV:=tq "_law_mode" 2185 243 1 3 282 2189
noncomputable def Qc:=Gk "_law_mode" 66 "law_il0083_01" 2171 287
noncomputable def aQ:=ZC "mode" 2195
noncomputable def aR:=FN "_law_name" 67
noncomputable def TW:=tq "_law_name" 2192 245 1 3 289 2196
noncomputable def Qd:=Gk "_law_name" 67 "law_il0083_01" 2171 294
noncomputable def aS:Obj:=⟨.type "tuple",none,(.seq #[.str "numbers" 2202,.str "first" 2203,.str "modes" 2204,.str "parts" 2205,.str "n" 2206,.str "act" 2207,.str "q" 2208,.str "mode" 2209,.str "other" 2210,.str "up" 2211,.str "raw" 2212,.str "items" 2213] 0),#[]⟩
noncomputable def aT:=FN "_law_parts" 68
noncomputable def TX:=tq "_law_parts" 2199 247 1 3 296 2214
noncomputable def Qe:=Gk "_law_parts" 68 "law_il0083_01" 2171 301
noncomputable def aU:Obj:=⟨.type "tuple",none,(.seq #[.str "pairs" 2220,.str "root" 2221,.str "left" 2222,.str "ups" 2223,.str "pair" 2224,.str "extra" 2225] 0),#[]⟩
noncomputable def aV:=FN "_law_left" 69
noncomputable def TY:=tq "_law_left" 2217 271 2 3 303 2226
noncomputable def Qf:=Gk "_law_left" 69 "law_il0083_01" 2171 308
noncomputable def aW:=ZR "root" 2232 "names" 2233
noncomputable def aX:=FN "_law_text" 70
noncomputable def TZ:=tq "_law_text" 2229 283 2 3 310 2234
noncomputable def Qg:=Gk "_law_text" 70 "law_il0083_01" 2171 315
noncomputable def aY:=FN "_law_steps" 71
noncomputable def T6:=Xh "_law_steps" 2237 2238 2239 285 2 317 318 319 2240 2241
noncomputable def Qh:=Gk "_law_steps" 71 "law_il0083_01" 2171 320
noncomputable def aZ:Obj:=⟨.type "tuple",none,(.seq #[.str "head" 2246,.str "meant" 2247,.str "known" 2248,.str "at" 2249,.str "places" 2250,.str "part" 2251,.str "mode" 2252] 0),#[]⟩
noncomputable def a5:=FN "_law_foot" 72
noncomputable def T8:=tq "_law_foot" 2243 299 3 3 322 2253
noncomputable def Qi:=Gk "_law_foot" 72 "law_il0083_01" 2171 327
noncomputable def a7:=ZD "one" 2259 "two" 2260 "count" 2261
noncomputable def a9:=FN "_law_shared" 73
noncomputable def Ua:=tq "_law_shared" 2256 308 2 3 329 2262
noncomputable def Qj:=Gk "_law_shared" 73 "law_il0083_01" 2171 334
noncomputable def ba:=FN "law" 74
noncomputable def Ub:=Xh "law" 2265 2266 2267 313 1 336 337 338 2268 2269
noncomputable def Qk:=Gk "law" 74 "law_il0083_01" 2171 339
noncomputable def dZ (P:Params):=gU P 9 1858
noncomputable def d1 (P:Params):BT:=(nn (o0 P) (nn (o1 P) (nn (dZ P) (nn e0 (nn e0 (lf TF) (lf ZN)) (nn Ts (lf WY) (lf e0))) (nn (Td P) (nn Tl (lf e0) (lf (Eo P))) (nn Tx (lf PW) (lf dW)))) (nn o5 (nn o9 (nn Tj (lf f0) (lf ZO)) (nn Tv (lf W0) (lf dU))) (nn (Tf P) (nn (To P) (lf WB) (lf (P0 P))) (nn K3 (lf ZL) .nil)))) (nn (o2 P) (nn o4 (nn f0 (nn Ti (lf e0) (lf e0)) (nn Tu (lf WZ) (lf dq))) (nn Te (nn (Tm P) (lf WX) (lf dn)) (nn e0 (lf ZK) .nil))) (nn o6 (nn Tc (nn Tk (lf WW) (lf dm)) (nn Tw (lf OM) (lf e0))) (nn Tg (nn Tq (lf WC) (lf dp)) (nn Ty (lf ZM) .nil)))))
noncomputable def d2 (P:Params):BT:=(nn (o0 P) (nn (o1 P) (nn (Xi P) (nn e0 (nn e0 (nn TF (nn e0 (nn e0 (lf XG) .nil) (nn e0 (lf aY) .nil)) (nn f0 (nn Xe (lf TV) .nil) (lf aG))) (nn ZN (nn g7 (nn ae (lf e0) .nil) (nn TO (lf Qj) .nil)) (nn e0 (nn f0 (lf e0) .nil) (lf Xn)))) (nn Ts (nn WY (nn e0 (nn f0 (lf XO) .nil) (nn aA (lf T8) .nil)) (nn (ZV P) (nn e0 (lf Qd) .nil) (lf e0))) (nn e0 (nn e0 (nn aj (lf aN) .nil) (lf f0)) (nn Z3 (nn av (lf f0) .nil) (lf Xw))))) (nn (Td P) (nn Tl (nn e0 (nn dX (nn aa (lf XK) .nil) (nn e0 (lf f0) .nil)) (nn dY (nn e0 (lf aQ) .nil) (lf P8))) (nn (Eo P) (nn e0 (nn Xc (lf e0) .nil) (nn aD (lf Ub) .nil)) (nn e0 (nn TK (lf aV) .nil) (lf Xr)))) (nn Tx (nn PW (nn gZ (nn W9 (lf XU) .nil) (nn f0 (lf a7) .nil)) (nn ZX (nn aq (lf e0) .nil) (lf Xj))) (nn dW (nn hH (nn al (lf f0) .nil) (lf TQ)) (nn e0 (nn ON (lf TZ) .nil) (lf XA)))))) (nn o5 (nn o9 (nn Tj (nn f0 (nn du (nn Z9 (lf XI) .nil) (nn TM (lf Qh) .nil)) (nn e0 (nn f0 (lf e0) .nil) (lf aH))) (nn ZO (nn f0 (nn af (lf TT) .nil) (nn e0 (lf f0) .nil)) (nn W4 (nn e0 (lf aU) .nil) (lf Xp)))) (nn Tv (nn W0 (nn dw (nn e0 (lf XR) .nil) (nn P4 (lf e0) .nil)) (nn ZW (nn ap (lf f0) .nil) (lf TS))) (nn dU (nn hG (nn e0 (lf Qb) .nil) (lf e0)) (nn Z5 (nn aw (lf e0) .nil) (lf Xy))))) (nn (Tf P) (nn (To P) (nn WB (nn f0 (nn W8 (lf XM) .nil) (nn az (lf e0) .nil)) (nn ZT (nn TJ (lf aR) .nil) (lf f0))) (nn (P0 P) (nn dy (nn (ah P) (lf aM) .nil) (lf P6)) (nn Z1 (nn e0 (lf Qf) .nil) (lf Xu)))) (nn WE (nn ZL (nn g6 (nn e0 (lf f0) .nil) (nn e0 (lf a9) .nil)) (nn f0 (nn Xg (lf TX) .nil) (lf Xl))) (nn f0 (nn ZS (nn am (lf e0) .nil) (lf e0)) (nn W6 (nn f0 (lf e0) .nil) (lf XC))))))) (nn (o2 P) (nn o4 (nn f0 (nn Ti (nn e0 (nn gW (nn f0 (lf XH) .nil) (nn ay (lf T6) .nil)) (nn hU (nn e0 (lf Qc) .nil) (lf e0))) (nn e0 (nn e0 (nn e0 (lf aL) .nil) (nn P5 (lf e0) .nil)) (nn ZZ (nn ar (lf f0) .nil) (lf Xo)))) (nn Tu (nn WZ (nn gY (nn ab (lf XQ) .nil) (nn TN (lf Qi) .nil)) (nn e0 (nn f0 (lf e0) .nil) (lf aJ))) (nn dq (nn f0 (nn ak (lf TU) .nil) (lf aE)) (nn Z4 (nn e0 (lf aW) .nil) (lf Xx))))) (nn Te (nn (Tm P) (nn WX (nn e0 (nn W7 (lf XL) .nil) (nn f0 (lf aZ) .nil)) (nn W2 (nn ao (lf e0) .nil) (lf e0))) (nn dn (nn g9 (nn e0 (lf f0) .nil) (nn TP (lf Qk) .nil)) (nn (Z0 P) (nn P2 (lf TY) .nil) (lf Xs)))) (nn e0 (nn ZK (nn (WD P) (nn Xa (lf e0) .nil) (nn aB (lf e0) .nil)) (nn e0 (nn Xf (lf aT) .nil) (lf Xk))) (nn e0 (nn dz (nn e0 (lf aO) .nil) (lf P7)) (nn Z7 (nn e0 (lf Qg) .nil) (lf XB)))))) (nn o6 (nn Tc (nn Tk (nn WW (nn ZP (nn e0 (lf XJ) .nil) (nn P3 (lf e0) .nil)) (nn hV (nn an (lf f0) .nil) (lf TR))) (nn dm (nn g8 (nn Xb (lf Qa) .nil) (nn f0 (lf ba) .nil)) (nn W5 (nn au (lf e0) .nil) (lf Xq)))) (nn Tw (nn OM (nn ZQ (nn ac (lf XT) .nil) (nn e0 (lf f0) .nil)) (nn W3 (nn e0 (lf aS) .nil) (lf P9))) (nn e0 (nn e0 (nn f0 (lf e0) .nil) (lf aF)) (nn (Z6 P) (nn TL (lf aX) .nil) (lf Xz))))) (nn Tg (nn Tq (nn WC (nn gX (nn e0 (lf XN) .nil) (nn e0 (lf a5) .nil)) (nn ZU (nn P1 (lf TW) .nil) (lf aI))) (nn dp (nn ZE (nn ai (lf e0) .nil) (lf e0)) (nn Z2 (nn f0 (lf e0) .nil) (lf Xv)))) (nn Ty (nn ZM (nn e0 (nn f0 (lf aK) .nil) (nn aC (lf Ua) .nil)) (nn ZY (nn e0 (lf Qe) .nil) (lf Xm))) (nn gV (nn e0 (nn Xd (lf aP) .nil) (lf f0)) (nn Z8 (nn ax (lf f0) .nil) (lf XD))))))))
noncomputable def MA (P:Params):Heap:=⟨#[o0 P,o1 P,o2 P,Xi P,o4,o5,o6,e0,f0,o9,Tc,Td P,Te,Tf P,Tg,e0,Ti,Tj,Tk,Tl,Tm P,To P,Tq,Ts,Tu,Tv,Tw,Tx,e0,WE,Ty,TF,e0,f0,WW,e0,WX,WB,WC,WY,WZ,W0,OM,PW,ZK,ZL,ZM,ZN,e0,ZO,dm,Eo P,dn,P0 P,dp,e0,dq,dU,e0,dW,e0,f0,gV,e0,gW,du,ZP,dX,e0,f0,gX,e0,gY,dw,ZQ,gZ,WD P,g6,e0,g7,e0,f0,g8,e0,g9,dy,ZE,e0,f0,hG,e0,hH,dz,ZS,e0,f0,hU,e0,hV,dY,W2,ZT,ZU,ZV P,e0,ZW,W3,ZX,e0,f0,ZY,e0,ZZ,W4,W5,e0,Z0 P,Z1,Z2,Z3,Z4,Z5,Z6 P,e0,Z7,W6,Z8,e0,f0,Z9,e0,aa,W7,W8,e0,f0,ab,e0,ac,W9,Xa,e0,f0,ae,e0,af,Xb,Xc,e0,ah P,ai,aj,ak,e0,f0,al,e0,am,Xd,Xe,e0,f0,an,e0,ao,TJ,P1,e0,f0,ap,e0,aq,Xf,Xg,e0,f0,ar,e0,au,TK,P2,e0,f0,av,e0,aw,TL,ON,e0,f0,ax,e0,ay,TM,P3,e0,f0,az,e0,aA,TN,P4,e0,f0,aB,e0,aC,TO,P5,e0,f0,aD,TP,P6,e0,f0,aE,e0,aF,TQ,P7,e0,f0,aG,e0,aH,TR,P8,e0,f0,aI,e0,aJ,TS,P9,Xj,Xk,Xl,Xm,Xn,Xo,Xp,Xq,Xr,Xs,Xu,Xv,Xw,Xx,Xy,Xz,XA,XB,XC,XD,XG,XH,XI,XJ,XK,XL,XM,XN,XO,XQ,XR,XT,XU,e0,f0,aK,e0,aL,TT,Qa,e0,f0,aM,e0,aN,TU,Qb,e0,f0,aO,e0,aP,TV,Qc,e0,f0,aQ,e0,aR,TW,Qd,e0,f0,aS,e0,aT,TX,Qe,e0,f0,aU,e0,aV,TY,Qf,e0,f0,aW,e0,aX,TZ,Qg,e0,f0,aY,T6,Qh,e0,f0,aZ,e0,a5,T8,Qi,e0,f0,a7,e0,a9,Ua,Qj,e0,f0,ba,Ub,Qk],Io⟩
noncomputable def XV:Env:={scope:=pw.main.scope,locals:=mainNs,globals:=mainNs,cells:=[],code:=.ref 30,frame:=some 31}
noncomputable def dA:List Stmt:=behindTheImports pw
noncomputable def cE:Code:=.body dA XV
noncomputable def sl (a b:Nat):List Stmt:=(dA.drop a).take (b-a)
noncomputable abbrev dB:List Frame:=[topFrame ⟨0,0,0,0⟩]
noncomputable abbrev th (a b:Nat) (p:Pos):Thread:=piecesOf (sl a b) XV cE p dB
noncomputable abbrev gt (w:World) (n:Nat) (s:SharedT) (t:Thread):=PySem.W.Fast.tw10295753902157049106 PySem.W.Fast.tw14364793385576792824 pw w 28 (some (.ref 6)) 1 n s t
theorem bd (w:World) (n:Nat) (s:SharedT) (t:Thread):segGoT treeTable pw w 28 (some (.ref 6)) 1 n s t=gt w n s t:=by rw[PySem.W.Fast.te10295753902157049106,PySem.W.Fast.te14364793385576792824]
noncomputable abbrev r1:String:="comprehension-iter-twice"
noncomputable abbrev r2:String:="special-get-raises"
noncomputable def d3 (x:Option (SharedT×Thread)):Thread:=match x with
 |some (_,t)=>t
 |none=>⟨.unsupported "",cE,⟨0,0,0,0⟩,[]⟩
noncomputable abbrev rt (w:World) (n:Nat) (s:SharedT) (t:Thread):=PySem.W.Fast.tw10110043849684766642 PySem.W.Fast.tw14364793385576792824 pw w 28 (some (.ref 6)) 1 n s t
theorem be (w:World) (n:Nat) (s:SharedT) (t:Thread):segRunT treeTable pw w 28 (some (.ref 6)) 1 n s t=rt w n s t:=by rw[PySem.W.Fast.te10110043849684766642,PySem.W.Fast.te14364793385576792824]
theorem Ex {w:World} {n:Nat} {s s':SharedT} {t:Thread} {f:Flow} {c:Code} {q:Pos} (h:rt w n s t=some (f,s',c,q)):segRun treeTable pw w 28 (some (.ref 6)) 1 n s.abs t=some (f,s'.abs,c,q):=segRun_of ((be w n s t).trans h)
theorem FO {w:World} {n:Nat} {s s':SharedT} {t t':Thread} (h:gt w n s t=some (s',t')):segGo treeTable pw w 28 (some (.ref 6)) 1 n s.abs t=some (s'.abs,t'):=segGo_of ((bd w n s t).trans h)
noncomputable def hY (w:World) (os:OsState):SharedT:=⟨iC w.params,32,Io,#[],{},282,os⟩
noncomputable def Tz (w:World) (os:OsState):SharedT:=⟨iD w.params,44,Io,#[],{},324,os⟩
noncomputable def Uc (w:World) (os:OsState):SharedT:=⟨iE w.params,50,Io,#[],{},1352,os⟩
noncomputable def bf (w:World) (os:OsState):SharedT:=⟨dT w.params,57,Io,#[],{},1575,os⟩
noncomputable def bg (w:World) (os:OsState):SharedT:=⟨d1 w.params,60,Io,#[],{},1861,os⟩
noncomputable def bh (w:World) (os:OsState):SharedT:=⟨d2 w.params,341,Io,#[],{},2271,os⟩
theorem p0 (w:World):(λos=>rt w 108 (hY w os) (th 0 2 ⟨0,0,0,0⟩))=λos=>some (Flow.next,Tz w os,cE,(⟨5,0,5,10⟩:Pos)):=by kernel_rfl
end Mine
set_option backward.match.sparseCases true
namespace Mine
open PySem PySem.W PySem.Calls PyProof.Rows
noncomputable abbrev NN:Nat:=40000
theorem bi (w:World):(fencedOpening treeTable pw w NN).map (λs=>(s.heap,s.gens,s.drawn,s.toks))=some (TE w.params,#[],{},276):=by kernel_rfl
theorem bj (w:World):((TE w.params).isNs mainGlobals&&(#[]:Array GenState).size==0,(TE w.params).objs.size,(TE w.params).nsMap mainGlobals "__annotations__")=(true,28,some (.ref 6)):=by kernel_rfl
theorem K4 (w:World):(λos=>topGo treeTable pw w 28 (some (.ref 6)) 12 (⟨TE w.params,#[],{},276,os⟩:Shared) (topStub pw))=λos=>some ((⟨gR w.params,#[],{},282,os⟩:Shared),(⟨denote treeTable cE,cE,⟨0,0,0,0⟩,dB⟩:Thread)):=by kernel_rfl
theorem XW (w:World):(λos=>segRun treeTable pw w 28 (some (.ref 6)) 1 1 (⟨gR w.params,#[],{},282,os⟩:Shared) (blockOf dA XV cE ⟨0,0,0,0⟩ dB))=λos=>some (Flow.next,(hY w os).abs,cE,(⟨0,0,0,0⟩:Pos)):=by kernel_rfl
theorem Ud (w:World):(λos=>topRun treeTable pw w 28 (some (.ref 6)) 2 (bh w os).abs ⟨doneF .next,cE,⟨313,0,345,87⟩,dB⟩)=λos=>some (⟨MA w.params,#[],{},2271,os⟩:Shared):=by kernel_rfl
theorem d4:dA=sl 0 2++(sl 2 3++(sl 3 12++(sl 12 13++(sl 13 74++[])))):=by kernel_rfl
noncomputable def KK (P:Params):Frag:=[(0,o0 P),(2,o2 P),(3,Xi P),(9,o9),(30,Ty),(37,WB),(38,WC),(42,OM),(43,PW),(51,Eo P),(65,du),(66,ZP),(67,dX),(73,dw),(74,ZQ),(85,dy),(86,ZE),(92,dz),(93,ZS),(99,dY),(100,W2),(106,W3),(113,W4),(114,W5),(125,W6),(132,W7),(133,W8),(139,W9),(140,Xa),(146,Xb),(147,Xc),(158,Xd),(159,Xe),(165,TJ),(166,P1),(172,Xf),(173,Xg),(179,TK),(180,P2),(186,TL),(187,ON),(193,TM),(194,P3),(200,TN),(201,P4),(207,TO),(208,P5),(212,TP),(213,P6),(219,TQ),(220,P7),(226,TR),(227,P8),(233,TS),(234,P9),(235,Xj),(236,Xk),(237,Xl),(238,Xm),(239,Xn),(240,Xo),(241,Xp),(242,Xq),(243,Xr),(244,Xs),(245,Xu),(246,Xv),(247,Xw),(248,Xx),(249,Xy),(250,Xz),(251,XA),(252,XB),(253,XC),(254,XD),(255,XG),(256,XH),(257,XI),(258,XJ),(259,XK),(260,XL),(261,XM),(262,XN),(263,XO),(264,XQ),(265,XR),(266,XT),(267,XU),(273,TT),(274,Qa),(280,TU),(281,Qb),(287,TV),(288,Qc),(294,TW),(295,Qd),(301,TX),(302,Qe),(308,TY),(309,Qf),(315,TZ),(316,Qg),(320,T6),(321,Qh),(327,T8),(328,Qi),(334,Ua),(335,Qj),(339,Ub),(340,Qk)]
noncomputable def hZ:List Addr:=[0,2,3,9,30,37,38,42,43,51,65,66,67,73,74,85,86,92,93,99,100,106,113,114,125,132,133,139,140,146,147,158,159,165,166,172,173,179,180,186,187,193,194,200,201,207,208,212,213,219,220,226,227,233,234,235,236,237,238,239,240,241,242,243,244,245,246,247,248,249,250,251,252,253,254,255,256,257,258,259,260,261,262,263,264,265,266,267,273,274,280,281,287,288,294,295,301,302,308,309,315,316,320,321,327,328,334,335,339,340]
noncomputable def loose:List Str:=[Str.ofString "_sre",Str.ofString "_wall",Str.ofString "_twin_re_1",Str.ofString "_QUOPRI_MAP",Str.ofString "_QUOPRI_HEADER_MAP",Str.ofString "_QUOPRI_BODY_MAP",Str.ofString "ascii_lowercase",Str.ofString "ascii_uppercase",Str.ofString "ascii_letters",Str.ofString "digits",Str.ofString "unquote",Str.ofString "header_encode",Str.ofString "_QUOPRI_BODY_ENCODE_MAP",Str.ofString "_unquote_match",Str.ofString "header_decode",Str.ofString "_plain_name",Str.ofString "ABCMeta",Str.ofString "_ABCLike",Str.ofString "_abc_plain_meta",Str.ofString "fspath",Str.ofString "_check_arg_types",Str.ofString "_get_sep",Str.ofString "join",Str.ofString "splitroot",Str.ofString "basename",Str.ofString "normpath",Str.ofString "commonpath",Str.ofString "S_IMODE",Str.ofString "S_IFMT",Str.ofString "S_IFDIR",Str.ofString "S_IFCHR",Str.ofString "S_IFBLK",Str.ofString "S_IFREG",Str.ofString "S_IFIFO",Str.ofString "S_IFLNK",Str.ofString "S_IFSOCK",Str.ofString "S_ISDIR",Str.ofString "S_ISUID",Str.ofString "S_ISGID",Str.ofString "S_ISVTX",Str.ofString "S_IRUSR",Str.ofString "S_IWUSR",Str.ofString "S_IXUSR",Str.ofString "S_IRGRP",Str.ofString "S_IWGRP",Str.ofString "S_IXGRP",Str.ofString "S_IROTH",Str.ofString "S_IWOTH",Str.ofString "S_IXOTH",Str.ofString "_filemode_table",Str.ofString "filemode",Str.ofString "_law_listing",Str.ofString "_law_mode",Str.ofString "_law_name",Str.ofString "_law_parts",Str.ofString "_law_left",Str.ofString "_law_text",Str.ofString "_law_steps",Str.ofString "_law_foot",Str.ofString "_law_shared"]
theorem ia (P:Params):hZ=(KK P).map (·.1):=by kernel_rfl
noncomputable def HK:Hook:=kHook KK hZ ia
noncomputable def qq:Program:=view pw [74]
noncomputable def Xt:Shared->Bool:=λs=>recOk (RowW.records PySem.Challenge.rw_il0083_01.row.toRowW) s
theorem XX (w:World):(λos=>((staticsOk (importedModules pw.main.body) (TE w.params) (MA w.params)&&namesBound pw (MA w.params)&&gensDone ⟨MA w.params,#[],{},2271,os⟩&&laidKept (TE w.params) (MA w.params)),
 openSeen qq loose (importedModules pw.main.body) Xt true ⟨MA w.params,#[],{},2271,os⟩,HK.obs ⟨MA w.params,#[],{},2271,os⟩))=λ_=>(true,openGood qq loose,HK.val w):=by kernel_rfl
noncomputable def IH:Obj:=⟨.type "list",none,(.seq #[.str (sx "=00") 330] 1),#[]⟩
noncomputable def Ql:Obj:=⟨.type "list",none,(.seq (xs.take 52).toArray 52),#[]⟩
noncomputable def NR:Obj:=⟨.type "list",none,(.seq (xs.take 103).toArray 103),#[]⟩
noncomputable def NS:Obj:=⟨.type "list",none,(.seq (xs.take 154).toArray 154),#[]⟩
noncomputable def NT:Obj:=⟨.type "list",none,(.seq (xs.take 205).toArray 205),#[]⟩
noncomputable def G7:Obj:=⟨.type "list",none,(.seq xs.toArray 256),#[]⟩
noncomputable def qL (w:World) (os:OsState) (k:Nat) (l:Obj):SharedT:=⟨tL w.params k l,48,Io,#[],{},327+4*k,os⟩
noncomputable abbrev Ue:Thread:=th 2 3 ⟨5,0,5,10⟩
noncomputable abbrev wf (w:World) (b1 b2:Bool):World:=(w.withFollow r2 b2).withFollow r1 b1
noncomputable def II (w:World) (os:OsState):Thread:=d3 (gt (wf w false false) 88 (Tz (wf w false false) os) Ue)
theorem iG (w:World):(λos=>gt (wf w false false) 88 (Tz (wf w false false) os) Ue)=λos=>some (qL (wf w false false) os 1 IH,II w os):=by kernel_rfl
theorem iH (w:World):(λos=>gt (wf w false true) 88 (Tz (wf w false true) os) Ue)=λos=>some (qL (wf w false true) os 1 IH,II w os):=by kernel_rfl
theorem iI (w:World):(λos=>gt (wf w true false) 78 (Tz (wf w true false) os) Ue)=λos=>some (qL (wf w true false) os 1 IH,II w os):=by kernel_rfl
theorem iJ (w:World):(λos=>gt (wf w true true) 78 (Tz (wf w true true) os) Ue)=λos=>some (qL (wf w true true) os 1 IH,II w os):=by kernel_rfl
theorem l1 (w:World):(λos=>gt w 1887 (qL w os 1 IH) (II w os))=λos=>some (qL w os 52 Ql,II w os):=by kernel_rfl
theorem iK (w:World):(λos=>gt w 1887 (qL w os 52 Ql) (II w os))=λos=>some (qL w os 103 NR,II w os):=by kernel_rfl
theorem d5 (w:World):(λos=>gt w 1887 (qL w os 103 NR) (II w os))=λos=>some (qL w os 154 NS,II w os):=by kernel_rfl
theorem d6 (w:World):(λos=>gt w 1887 (qL w os 154 NS) (II w os))=λos=>some (qL w os 205 NT,II w os):=by kernel_rfl
theorem d7 (w:World):(λos=>gt w 1887 (qL w os 205 NT) (II w os))=λos=>some (qL w os 256 G7,II w os):=by kernel_rfl
theorem ib (w:World):(λos=>rt w 50 (qL w os 256 G7) (II w os))=λos=>some (Flow.next,Uc w os,cE,(⟨6,0,6,11⟩:Pos)):=by kernel_rfl
theorem ic (w:World):(λos=>rt w 60 (qL w os 256 G7) (II w os))=λos=>some (Flow.next,Uc w os,cE,(⟨6,0,6,11⟩:Pos)):=by kernel_rfl
theorem dC (w:World) (os:OsState) (n:Nat) (hs:segRun treeTable pw w 28 (some (.ref 6)) 1 n (qL w os 256 G7).abs (II w os)=some (Flow.next,(Uc w os).abs,cE,(⟨6,0,6,11⟩:Pos))):
  segRun treeTable pw w 28 (some (.ref 6)) 1 (1887+(1887+(1887+(1887+(1887+n))))) (qL w os 1 IH).abs (II w os)=some (Flow.next,(Uc w os).abs,cE,(⟨6,0,6,11⟩:Pos)):=
 seg_go (FO (congrFun (l1 w) os)) (seg_go (FO (congrFun (iK w) os)) (seg_go (FO (congrFun (d5 w) os)) (seg_go (FO (congrFun (d6 w) os)) (seg_go (FO (congrFun (d7 w) os)) hs))))
theorem FP (w:World) (os:OsState) (b1 b2:Bool):II (wf w b1 b2) os=II w os:=by cases b1<;>cases b2<;>kernel_rfl
theorem iL (w:World) (os:OsState):segRun treeTable pw w 28 (some (.ref 6)) 1 (88+(1887+(1887+(1887+(1887+(1887+50)))))) (Tz w os).abs Ue=some (Flow.next,(Uc w os).abs,cE,(⟨6,0,6,11⟩:Pos)):=by
 refine byRow2 r1 (P:=λw=>segRun treeTable pw w 28 (some (.ref 6)) 1 (88+(1887+(1887+(1887+(1887+(1887+50)))))) (Tz w os).abs Ue=some (Flow.next,(Uc w os).abs,cE,(⟨6,0,6,11⟩:Pos))) (λw=>?_) (λw=>?_) w
 ·refine byRow2 r2 (P:=λw=>segRun treeTable pw (w.withFollow r1 false) 28 (some (.ref 6)) 1 (88+(1887+(1887+(1887+(1887+(1887+50)))))) (Tz (w.withFollow r1 false) os).abs Ue=some (Flow.next,(Uc (w.withFollow r1 false) os).abs,cE,(⟨6,0,6,11⟩:Pos))) (λw=>?_) (λw=>?_) w
  ·exact seg_go (FO (congrFun (iG w) os)) (FP w os false false▸dC (wf w false false) os 50 (Ex (congrFun (ib (wf w false false)) os)))
  ·exact seg_go (FO (congrFun (iH w) os)) (FP w os false true▸dC (wf w false true) os 50 (Ex (congrFun (ib (wf w false true)) os)))
 ·refine byRow2 r2 (P:=λw=>segRun treeTable pw (w.withFollow r1 true) 28 (some (.ref 6)) 1 (88+(1887+(1887+(1887+(1887+(1887+50)))))) (Tz (w.withFollow r1 true) os).abs Ue=some (Flow.next,(Uc (w.withFollow r1 true) os).abs,cE,(⟨6,0,6,11⟩:Pos))) (λw=>?_) (λw=>?_) w
  ·exact seg_go (n:=78) (N:=1887+(1887+(1887+(1887+(1887+60))))) (FO (congrFun (iI w) os)) (FP w os true false▸dC (wf w true false) os 60 (Ex (congrFun (ic (wf w true false)) os)))
  ·exact seg_go (n:=78) (N:=1887+(1887+(1887+(1887+(1887+60))))) (FO (congrFun (iJ w) os)) (FP w os true true▸dC (wf w true true) os 60 (Ex (congrFun (ic (wf w true true)) os)))
theorem p3:∀w:World,(λos=>rt w 3220 (Uc w os) (th 3 12 ⟨6,0,6,11⟩))=λos=>some (Flow.next,bf w os,cE,(⟨16,0,16,28⟩:Pos)):=byRow2 r2 (λw=>by kernel_rfl) (λw=>by kernel_rfl)
theorem d8:∀w:World,(λos=>rt w 4303 (bf w os) (th 12 13 ⟨16,0,16,28⟩))=λos=>some (Flow.next,bg w os,cE,(⟨17,9,17,110⟩:Pos)):=byRow2 r2 (λw=>by kernel_rfl) (λw=>by kernel_rfl)
theorem d9:∀w:World,(λos=>rt w 1960 (bg w os) (th 13 74 ⟨17,9,17,110⟩))=λos=>some (Flow.next,bh w os,cE,(⟨313,0,345,87⟩:Pos)):=byRow2 r2 (λw=>by kernel_rfl) (λw=>by kernel_rfl)
theorem eb (w:World) (os:OsState):topRun treeTable pw w 28 (some (.ref 6)) (12+(1+(108+((88+(1887+(1887+(1887+(1887+(1887+50))))))+(3220+(4303+(1960+2))))))) ⟨TE w.params,#[],{},276,os⟩ (topStub pw)=some ⟨MA w.params,#[],{},2271,os⟩:=
 go_top (congrFun (K4 w) os) (piece_block (congrFun (XW w) os) (by rw[d4];exact piece_app (Ex (congrFun (p0 w) os)) (piece_app (iL w os) (piece_app (Ex (congrFun (p3 w) os)) (piece_app (Ex (congrFun (d8 w) os)) (piece_app (Ex (congrFun (d9 w) os)) (piece_nil (congrFun (Ud w) os))))))))
theorem bk:LeftO pw qq loose Xt HK.obs HK.val NN:=LeftO.of_pieces (H₀:=TE) (H₁:=MA) (gs₀:=#[]) (gs₁:=#[]) (d₀:={}) (d₁:={}) (k₀:=276) (k₁:=2271) (m₀:=28) (ann:=some (.ref 6)) bi bj eb (by decide) XX
end Mine
open PySem in
theorem Mine.wpE {α:Type} {M:Model} {A:Around} {t t':Sem α} {Q:α->Shared->Prop} {E:Value->Shared->Prop} {s:Shared} (e:t=t') (h:wpAny M A t' Q E s):wpAny M A t Q E s:=e▸h
open PySem in
theorem Mine.sb {α β:Type} {t t':Sem α} {k:α->Sem β} (e:t=t'):(t>>=k)=(t'>>=k):=e▸rfl
theorem Mine.NU {α β:Type} {a c:α} {b d:β} {P:Prop} (h:(a,b)=(c,d)) (k:a=c->b=d->P):P:=k (congrArg Prod.fst h) (congrArg Prod.snd h)
theorem Mine.pj {α β:Type} {a c:α} {b d:β} {P:Prop} (h:some (a,b)=some (c,d)) (k:a=c->b=d->P):P:=k (congrArg Prod.fst (Option.some.inj h)) (congrArg Prod.snd (Option.some.inj h))
theorem Mine.B7 {P:Prop} (h:false=true):P:=nomatch h
theorem Mine.Aa {α:Type} {a:α} {P:Prop} (h:none=some a):P:=nomatch h
theorem Mine.ob {α β:Type} {o:Option α} {f:α->Option β} {b:β} {P:Prop} (h:o.bind f=some b) (k:∀a,o=some a->f a=some b->P):P:=by
 cases o with
 |none=>exact Mine.Aa h
 |some a=>exact k a rfl h
theorem Mine.om {α β:Type} {o:Option α} {f:α->β} {b:β} {P:Prop} (h:o.map f=some b) (k:∀a,o=some a->f a=b->P):P:=by
 cases o with
 |none=>exact Mine.Aa h
 |some a=>exact k a rfl (Option.some.inj h)
theorem Mine.Br {α β:Type} {o:Option α} {f:α->Option β} {b:β} {P:Prop} (k:∀a,o=some a->f a=some b->P) (h:o.bind f=some b):P:=Mine.ob h k
theorem Mine.FQ {α β:Type} {o:Option α} {f:α->β} {b:β} {P:Prop} (k:∀a,o=some a->f a=b->P) (h:o.map f=some b):P:=Mine.om h k
theorem Mine.ec {α:Type} (_:α):True:=trivial
theorem Mine.bnd {α β:Type} {o o':Option α} {f:α->Option β} (h:o=o'):o.bind f=o'.bind f:=congrArg (λo=>Option.bind o f) h
theorem Mine.S0 {αx:Type} {a b:αx->Prop} {P:Prop} (h:∃x,a x/\b x) (k:∀x,a x->b x->P):P:=h.elim λx p1=>k x p1.1 p1.2
theorem Mine.T0 {αx:Type} {a b:αx->Prop} {P:Prop} (k:∀x,a x->b x->P) (h:∃x,a x/\b x):P:=h.elim λx p1=>k x p1.1 p1.2
theorem Mine.S1 {αx:Type} {αy:Type} {a b:αx->αy->Prop} {P:Prop} (h:∃x,∃y,a x y/\b x y) (k:∀x,∀y,a x y->b x y->P):P:=h.elim λx p1=>p1.elim λy p2=>k x y p2.1 p2.2
theorem Mine.T1 {αx:Type} {αy:Type} {a b:αx->αy->Prop} {P:Prop} (k:∀x,∀y,a x y->b x y->P) (h:∃x,∃y,a x y/\b x y):P:=h.elim λx p1=>p1.elim λy p2=>k x y p2.1 p2.2
theorem Mine.S2 {αx:Type} {αy:Type} {a:αx->αy->Prop} {P:Prop} (h:∃x,∃y,a x y) (k:∀x,∀y,a x y->P):P:=h.elim λx p1=>p1.elim λy p2=>k x y p2
theorem Mine.T2 {αx:Type} {αy:Type} {a:αx->αy->Prop} {P:Prop} (k:∀x,∀y,a x y->P) (h:∃x,∃y,a x y):P:=h.elim λx p1=>p1.elim λy p2=>k x y p2
theorem Mine.S3 {αx:Type} {αy:Type} {a b c:αx->αy->Prop} {P:Prop} (h:∃x,∃y,a x y/\b x y/\c x y) (k:∀x,∀y,a x y->b x y->c x y->P):P:=h.elim λx p1=>p1.elim λy p2=>k x y p2.1 p2.2.1 p2.2.2
theorem Mine.T3 {αx:Type} {αy:Type} {a b c:αx->αy->Prop} {P:Prop} (k:∀x,∀y,a x y->b x y->c x y->P) (h:∃x,∃y,a x y/\b x y/\c x y):P:=h.elim λx p1=>p1.elim λy p2=>k x y p2.1 p2.2.1 p2.2.2
theorem Mine.S4 {αx:Type} {αy:Type} {αz:Type} {a b c d:αx->αy->αz->Prop} {P:Prop} (h:∃x,∃y,∃z,a x y z/\b x y z/\c x y z/\d x y z) (k:∀x,∀y,∀z,a x y z->b x y z->c x y z->d x y z->P):P:=h.elim λx p1=>p1.elim λy p2=>p2.elim λz p3=>k x y z p3.1 p3.2.1 p3.2.2.1 p3.2.2.2
theorem Mine.T4 {αx:Type} {αy:Type} {αz:Type} {a b c d:αx->αy->αz->Prop} {P:Prop} (k:∀x,∀y,∀z,a x y z->b x y z->c x y z->d x y z->P) (h:∃x,∃y,∃z,a x y z/\b x y z/\c x y z/\d x y z):P:=h.elim λx p1=>p1.elim λy p2=>p2.elim λz p3=>k x y z p3.1 p3.2.1 p3.2.2.1 p3.2.2.2
theorem Mine.S5 {αx:Type} {αy:Type} {αz:Type} {a b c:αx->αy->αz->Prop} {P:Prop} (h:∃x,∃y,∃z,a x y z/\b x y z/\c x y z) (k:∀x,∀y,∀z,a x y z->b x y z->c x y z->P):P:=h.elim λx p1=>p1.elim λy p2=>p2.elim λz p3=>k x y z p3.1 p3.2.1 p3.2.2
theorem Mine.T5 {αx:Type} {αy:Type} {αz:Type} {a b c:αx->αy->αz->Prop} {P:Prop} (k:∀x,∀y,∀z,a x y z->b x y z->c x y z->P) (h:∃x,∃y,∃z,a x y z/\b x y z/\c x y z):P:=h.elim λx p1=>p1.elim λy p2=>p2.elim λz p3=>k x y z p3.1 p3.2.1 p3.2.2
theorem Mine.S6 {αx:Type} {αy:Type} {αz:Type} {a:αx->αy->Prop} {b c:αx->αy->αz->Prop} {P:Prop} (h:∃x,∃y,a x y/\∃z,b x y z/\c x y z) (k:∀x,∀y,a x y->∀z,b x y z->c x y z->P):P:=h.elim λx p1=>p1.elim λy p2=>p2.2.elim λz p3=>k x y p2.1 z p3.1 p3.2
theorem Mine.S7 {a b c:Prop} {P:Prop} (h:(a/\b)/\c) (k:a->b->c->P):P:=k h.1.1 h.1.2 h.2
theorem Mine.T7 {a b c:Prop} {P:Prop} (k:a->b->c->P) (h:(a/\b)/\c):P:=k h.1.1 h.1.2 h.2
theorem Mine.S8 {αx:Type} {a b c:αx->Prop} {P:Prop} (h:∃x,a x/\b x/\c x) (k:∀x,a x->b x->c x->P):P:=h.elim λx p1=>k x p1.1 p1.2.1 p1.2.2
theorem Mine.S9 {αx:Type} {a:Prop} {b c:αx->Prop} {P:Prop} (h:a/\∃x,b x/\c x) (k:a->∀x,b x->c x->P):P:=h.2.elim λx p1=>k h.1 x p1.1 p1.2
theorem Mine.T9 {αx:Type} {a:Prop} {b c:αx->Prop} {P:Prop} (k:a->∀x,b x->c x->P) (h:a/\∃x,b x/\c x):P:=h.2.elim λx p1=>k h.1 x p1.1 p1.2
theorem Mine.ie {αx:Type} {αy:Type} {αz:Type} {αu:Type} {αv:Type} {a b c d e f g i:αx->αy->αz->αu->αv->Prop} {P:Prop} (h:∃x,∃y,∃z,∃u,∃v,a x y z u v/\b x y z u v/\c x y z u v/\d x y z u v/\e x y z u v/\f x y z u v/\g x y z u v/\i x y z u v) (k:∀x,∀y,∀z,∀u,∀v,a x y z u v->b x y z u v->c x y z u v->d x y z u v->e x y z u v->f x y z u v->g x y z u v->i x y z u v->P):P:=h.elim λx p1=>p1.elim λy p2=>p2.elim λz p3=>p3.elim λu p4=>p4.elim λv p5=>k x y z u v p5.1 p5.2.1 p5.2.2.1 p5.2.2.2.1 p5.2.2.2.2.1 p5.2.2.2.2.2.1 p5.2.2.2.2.2.2.1 p5.2.2.2.2.2.2.2
theorem Mine.dD {αx:Type} {αy:Type} {αz:Type} {αu:Type} {αv:Type} {a b c d e f g i:αx->αy->αz->αu->αv->Prop} {P:Prop} (k:∀x,∀y,∀z,∀u,∀v,a x y z u v->b x y z u v->c x y z u v->d x y z u v->e x y z u v->f x y z u v->g x y z u v->i x y z u v->P) (h:∃x,∃y,∃z,∃u,∃v,a x y z u v/\b x y z u v/\c x y z u v/\d x y z u v/\e x y z u v/\f x y z u v/\g x y z u v/\i x y z u v):P:=h.elim λx p1=>p1.elim λy p2=>p2.elim λz p3=>p3.elim λu p4=>p4.elim λv p5=>k x y z u v p5.1 p5.2.1 p5.2.2.1 p5.2.2.2.1 p5.2.2.2.2.1 p5.2.2.2.2.2.1 p5.2.2.2.2.2.2.1 p5.2.2.2.2.2.2.2
theorem Mine.WF {αx:Type} {αy:Type} {a b c d e:αx->αy->Prop} {P:Prop} (h:∃x,∃y,a x y/\b x y/\c x y/\d x y/\e x y) (k:∀x,∀y,a x y->b x y->c x y->d x y->e x y->P):P:=h.elim λx p1=>p1.elim λy p2=>k x y p2.1 p2.2.1 p2.2.2.1 p2.2.2.2.1 p2.2.2.2.2
theorem Mine.bl {αx:Type} {αy:Type} {αz:Type} {a d:αx->αy->Prop} {b c:αx->αy->αz->Prop} {P:Prop} (h:∃x,∃y,a x y/\(∃z,b x y z/\c x y z)/\d x y) (k:∀x,∀y,a x y->∀z,b x y z->c x y z->d x y->P):P:=h.elim λx p1=>p1.elim λy p2=>p2.2.1.elim λz p3=>k x y p2.1 z p3.1 p3.2 p2.2.2
theorem Mine.ig {a b c d:Prop} {P:Prop} (h:a/\b/\c/\d) (k:a->b->c->d->P):P:=k h.1 h.2.1 h.2.2.1 h.2.2.2
theorem Mine.bm {a b c d:Prop} {P:Prop} (k:a->b->c->d->P) (h:a/\b/\c/\d):P:=k h.1 h.2.1 h.2.2.1 h.2.2.2
theorem Mine.bn {αx:Type} {a:αx->Prop} {b:Prop} {P:Prop} (k:∀x,a x->b->P) (h:(∃x,a x)/\b):P:=h.1.elim λx p1=>k x p1 h.2
theorem Mine.bo {αx:Type} {αy:Type} {αz:Type} {a:Prop} {b c d e:αx->αy->αz->Prop} {P:Prop} (h:a/\∃x,∃y,∃z,b x y z/\c x y z/\d x y z/\e x y z) (k:a->∀x,∀y,∀z,b x y z->c x y z->d x y z->e x y z->P):P:=h.2.elim λx p1=>p1.elim λy p2=>p2.elim λz p3=>k h.1 x y z p3.1 p3.2.1 p3.2.2.1 p3.2.2.2
theorem Mine.iM {a b c:Prop} {P:Prop} (h:a/\b/\c) (k:a->b->c->P):P:=k h.1 h.2.1 h.2.2
theorem Mine.dE {a b c:Prop} {P:Prop} (k:a->b->c->P) (h:a/\b/\c):P:=k h.1 h.2.1 h.2.2
theorem Mine.dF {αx:Type} {αy:Type} {a b:Prop} {c:αx->αy->Prop} {P:Prop} (h:a/\b/\∃x,∃y,c x y) (k:a->b->∀x,∀y,c x y->P):P:=h.2.2.elim λx p1=>p1.elim λy p2=>k h.1 h.2.1 x y p2
theorem Mine.ed {αx:Type} {αy:Type} {a b c d e f g i:αx->αy->Prop} {P:Prop} (k:∀x,∀y,a x y->b x y->c x y->d x y->e x y->f x y->g x y->i x y->P) (h:∃x,∃y,a x y/\b x y/\c x y/\d x y/\e x y/\f x y/\g x y/\i x y):P:=h.elim λx p1=>p1.elim λy p2=>k x y p2.1 p2.2.1 p2.2.2.1 p2.2.2.2.1 p2.2.2.2.2.1 p2.2.2.2.2.2.1 p2.2.2.2.2.2.2.1 p2.2.2.2.2.2.2.2
theorem Mine.ee {αx:Type} {αy:Type} {αz:Type} {αu:Type} {a b c d e f g:αx->αy->αz->αu->Prop} {P:Prop} (h:∃x,∃y,∃z,∃u,a x y z u/\b x y z u/\c x y z u/\d x y z u/\e x y z u/\f x y z u/\g x y z u) (k:∀x,∀y,∀z,∀u,a x y z u->b x y z u->c x y z u->d x y z u->e x y z u->f x y z u->g x y z u->P):P:=h.elim λx p1=>p1.elim λy p2=>p2.elim λz p3=>p3.elim λu p4=>k x y z u p4.1 p4.2.1 p4.2.2.1 p4.2.2.2.1 p4.2.2.2.2.1 p4.2.2.2.2.2.1 p4.2.2.2.2.2.2
theorem Mine.ii {αx:Type} {αy:Type} {a b c d:αx->αy->Prop} {P:Prop} (k:∀x,∀y,a x y->b x y->c x y->d x y->P) (h:∃x,∃y,a x y/\b x y/\c x y/\d x y):P:=h.elim λx p1=>p1.elim λy p2=>k x y p2.1 p2.2.1 p2.2.2.1 p2.2.2.2
theorem Mine.ij {αx:Type} {αy:Type} {a b:αx->Prop} {c:αx->αy->Prop} {P:Prop} (k:∀x,a x->b x->∀y,c x y->P) (h:∃x,a x/\b x/\∃y,c x y):P:=h.elim λx p1=>p1.2.2.elim λy p2=>k x p1.1 p1.2.1 y p2
theorem Mine.ik {αx:Type} {αy:Type} {αz:Type} {a b c d e f g i:αx->αy->αz->Prop} {P:Prop} (h:∃x,∃y,∃z,a x y z/\b x y z/\c x y z/\d x y z/\e x y z/\f x y z/\g x y z/\i x y z) (k:∀x,∀y,∀z,a x y z->b x y z->c x y z->d x y z->e x y z->f x y z->g x y z->i x y z->P):P:=h.elim λx p1=>p1.elim λy p2=>p2.elim λz p3=>k x y z p3.1 p3.2.1 p3.2.2.1 p3.2.2.2.1 p3.2.2.2.2.1 p3.2.2.2.2.2.1 p3.2.2.2.2.2.2.1 p3.2.2.2.2.2.2.2
theorem Mine.iN {αx:Type} {αy:Type} {αz:Type} {αu:Type} {a b:αx->αy->αz->αu->Prop} {c:αx->Prop} {P:Prop} (h:∃x,(∃y,∃z,∃u,a x y z u/\b x y z u)/\c x) (k:∀x,∀y,∀z,∀u,a x y z u->b x y z u->c x->P):P:=h.elim λx p1=>p1.1.elim λy p2=>p2.elim λz p3=>p3.elim λu p4=>k x y z u p4.1 p4.2 p1.2
theorem Mine.iO {αx:Type} {αy:Type} {αz:Type} {αu:Type} {a b:αx->αy->αz->αu->Prop} {c:αx->Prop} {P:Prop} (k:∀x,∀y,∀z,∀u,a x y z u->b x y z u->c x->P) (h:∃x,(∃y,∃z,∃u,a x y z u/\b x y z u)/\c x):P:=h.elim λx p1=>p1.1.elim λy p2=>p2.elim λz p3=>p3.elim λu p4=>k x y z u p4.1 p4.2 p1.2
theorem Mine.il {αx:Type} {αy:Type} {αz:Type} {a:αx->αy->αz->Prop} {P:Prop} (h:∃x,∃y,∃z,a x y z) (k:∀x,∀y,∀z,a x y z->P):P:=h.elim λx p1=>p1.elim λy p2=>p2.elim λz p3=>k x y z p3
theorem Mine.im {αx:Type} {αy:Type} {αz:Type} {a b:αx->αy->αz->Prop} {P:Prop} (k:∀x,∀y,∀z,a x y z->b x y z->P) (h:∃x,∃y,∃z,a x y z/\b x y z):P:=h.elim λx p1=>p1.elim λy p2=>p2.elim λz p3=>k x y z p3.1 p3.2
theorem Mine.io {αx:Type} {αy:Type} {αz:Type} {a:Prop} {b c d:αx->αy->αz->Prop} {P:Prop} (h:a/\∃x,∃y,∃z,b x y z/\c x y z/\d x y z) (k:a->∀x,∀y,∀z,b x y z->c x y z->d x y z->P):P:=h.2.elim λx p1=>p1.elim λy p2=>p2.elim λz p3=>k h.1 x y z p3.1 p3.2.1 p3.2.2
theorem Mine.ip {αx:Type} {a b c d:αx->Prop} {P:Prop} (k:∀x,a x->b x->c x->d x->P) (h:∃x,a x/\b x/\c x/\d x):P:=h.elim λx p1=>k x p1.1 p1.2.1 p1.2.2.1 p1.2.2.2
theorem Mine.iq {αx:Type} {a:Prop} {b c d e f:αx->Prop} {P:Prop} (k:a->∀x,b x->c x->d x->e x->f x->P) (h:a/\∃x,b x/\c x/\d x/\e x/\f x):P:=h.2.elim λx p1=>k h.1 x p1.1 p1.2.1 p1.2.2.1 p1.2.2.2.1 p1.2.2.2.2
theorem Mine.iP {αx:Type} {αy:Type} {αz:Type} {αu:Type} {a b c d:αx->αy->αz->αu->Prop} {P:Prop} (h:∃x,∃y,∃z,∃u,a x y z u/\b x y z u/\c x y z u/\d x y z u) (k:∀x,∀y,∀z,∀u,a x y z u->b x y z u->c x y z u->d x y z u->P):P:=h.elim λx p1=>p1.elim λy p2=>p2.elim λz p3=>p3.elim λu p4=>k x y z u p4.1 p4.2.1 p4.2.2.1 p4.2.2.2
theorem Mine.ir {αx:Type} {αy:Type} {αz:Type} {αu:Type} {αv:Type} {αr:Type} {a b c:αx->αy->αz->αu->αv->αr->Prop} {P:Prop} (h:∃x,∃y,∃z,∃u,∃v,∃r,a x y z u v r/\b x y z u v r/\c x y z u v r) (k:∀x,∀y,∀z,∀u,∀v,∀r,a x y z u v r->b x y z u v r->c x y z u v r->P):P:=h.elim λx p1=>p1.elim λy p2=>p2.elim λz p3=>p3.elim λu p4=>p4.elim λv p5=>p5.elim λr p6=>k x y z u v r p6.1 p6.2.1 p6.2.2
theorem Mine.jH {a b c d e f g i:Prop} {P:Prop} (k:a->b->c->d->e->f->g->i->P) (h:((((((a/\b)/\c)/\d)/\e)/\f)/\g)/\i):P:=k h.1.1.1.1.1.1.1 h.1.1.1.1.1.1.2 h.1.1.1.1.1.2 h.1.1.1.1.2 h.1.1.1.2 h.1.1.2 h.1.2 h.2
theorem Mine.iQ {αx:Type} {αy:Type} {αz:Type} {αu:Type} {a b c d e f:αx->αy->αz->αu->Prop} {g i j:αx->Prop} {P:Prop} (k:∀x,∀y,∀z,∀u,a x y z u->b x y z u->c x y z u->d x y z u->e x y z u->f x y z u->g x->i x->j x->P) (h:∃x,(∃y,∃z,∃u,a x y z u/\b x y z u/\c x y z u/\d x y z u/\e x y z u/\f x y z u)/\g x/\i x/\j x):P:=h.elim λx p1=>p1.1.elim λy p2=>p2.elim λz p3=>p3.elim λu p4=>k x y z u p4.1 p4.2.1 p4.2.2.1 p4.2.2.2.1 p4.2.2.2.2.1 p4.2.2.2.2.2 p1.2.1 p1.2.2.1 p1.2.2.2
theorem Mine.iR {αx:Type} {αy:Type} {αz:Type} {a b:Prop} {c:αx->αy->Prop} {d e f g i:αz->Prop} {P:Prop} (k:a->b->∀x,∀y,c x y->∀z,d z->e z->f z->g z->i z->P) (h:a/\b/\(∃x,∃y,c x y)/\∃z,d z/\e z/\f z/\g z/\i z):P:=h.2.2.1.elim λx p1=>p1.elim λy p2=>h.2.2.2.elim λz p3=>k h.1 h.2.1 x y p2 z p3.1 p3.2.1 p3.2.2.1 p3.2.2.2.1 p3.2.2.2.2
set_option compiler.extract_closed false
open Lean in
def Mine.nd (i : SourceInfo) (k : String) (l : List Syntax) : Syntax := .node i (if k.startsWith "&" then `Lean.Parser ++ (k.drop 1).toString.toName else k.toName) l.reverse.toArray
open Lean in
def Mine.rpn (i : SourceInfo) (a st : List Syntax) (t : String) : List Syntax := match t.toList with
    | ['$'] => nd i "&Tactic.tacticSeq" [nd i "&Tactic.tacticSeq1Indented" [nd i "null" (st.take 1)]] :: st.drop 1
    | '@' :: c :: _ => a.getD (c.toNat - 48) .missing :: st
    | '#' :: c :: r => nd i (String.ofList r) (st.take (c.toNat - 48)) :: st.drop (c.toNat - 48)
    | '`' :: r => .ident i (String.ofList r).toRawSubstring (if r.isEmpty then .anonymous else (String.ofList r).toName) [] :: st
    | _ => .atom i t :: st
open Lean in
def Mine.mkS (i : SourceInfo) (a : List Syntax) (s : String) : Syntax := ((s.splitOn " ").foldl (rpn i a) []).headD .missing
open Lean in
def Mine.rwS (i : SourceInfo) (h : Syntax) (q : Syntax) (n : Nat) (a : Syntax) : Syntax := (List.range n).foldr (fun k a =>
    let r := q[k]
    if r.isAtom then a else mkS i [mkS i [r, r[1], h, mkS i [a, r[1]] "( ` #1hygieneInfo #2&Term.hygienicLParen @1 .. #1&Term.ellipsis #1null #2&Term.app ) #3&Term.paren", mkS i [] "? _ #2&Term.syntheticHole"] (if r[0].getNumArgs != 0 then if h.isMissing then "rewrite #0null #1&Tactic.optConfig [ @0 #1null ] #3&Tactic.rwRuleSeq #0null #4&Tactic.rewriteSeq" else "first | with_reducible replace @2 #1&Term.letId #0null #0null := `Eq.trans @3 @2 #2null #2&Term.app #5&Term.letIdDecl #1&Term.letDecl #2&Tactic.replace $ #2&Tactic.withReducible $ #2group | rewrite #0null #1&Tactic.optConfig [ @0 #1null ] #3&Tactic.rwRuleSeq at @2 #1null #1&Tactic.locationHyp #2&Tactic.location #1null #4&Tactic.rewriteSeq $ #2group #2null #2&Tactic.first" else if h.isMissing then if (r.find? fun x => x.getKind == `Lean.Parser.Term.byTactic || x.getKind == `Lean.Parser.Term.fun || x.getKind == `Lean.Parser.Term.dotIdent || x.getKind == `Lean.Parser.Term.anonymousCtor).isSome then "first | ( with_reducible ( first | refine `Eq.trans @3 @4 #2null #2&Term.app #2&Tactic.refine $ #2group | refine `Eq.trans ( ` #1hygieneInfo #2&Term.hygienicLParen `Mine.bnd @3 #1null #2&Term.app ) #3&Term.paren @4 #2null #2&Term.app #2&Tactic.refine $ #2group | refine `Eq.trans ( ` #1hygieneInfo #2&Term.hygienicLParen `Mine.bnd ( ` #1hygieneInfo #2&Term.hygienicLParen `Mine.bnd @3 #1null #2&Term.app ) #3&Term.paren #1null #2&Term.app ) #3&Term.paren @4 #2null #2&Term.app #2&Tactic.refine $ #2group | ( ( fail_if_success exact `True.intro #2&Tactic.exact $ #2&Tactic.failIfSuccess $ ) #3&Tactic.paren ; first | refine `Mine.wpE @3 @4 #2null #2&Term.app #2&Tactic.refine $ #2group | refine `Mine.wpE ( ` #1hygieneInfo #2&Term.hygienicLParen `Mine.sb @3 #1null #2&Term.app ) #3&Term.paren @4 #2null #2&Term.app #2&Tactic.refine $ #2group #2null #2&Tactic.first #3null #1&Tactic.tacticSeq1Indented #1&Tactic.tacticSeq ) #3&Tactic.paren $ #2group #4null #2&Tactic.first $ ) #3&Tactic.paren $ #2&Tactic.withReducible $ ) #3&Tactic.paren $ #2group | rewrite #0null #1&Tactic.optConfig [ @0 #1null ] #3&Tactic.rwRuleSeq #0null #4&Tactic.rewriteSeq $ #2group #2null #2&Tactic.first" else "first | ( with_reducible ( first | refine `Eq.trans @3 @4 #2null #2&Term.app #2&Tactic.refine $ #2group | refine `Eq.trans ( ` #1hygieneInfo #2&Term.hygienicLParen `Mine.bnd @3 #1null #2&Term.app ) #3&Term.paren @4 #2null #2&Term.app #2&Tactic.refine $ #2group | refine `Eq.trans ( ` #1hygieneInfo #2&Term.hygienicLParen `Mine.bnd ( ` #1hygieneInfo #2&Term.hygienicLParen `Mine.bnd @3 #1null #2&Term.app ) #3&Term.paren #1null #2&Term.app ) #3&Term.paren @4 #2null #2&Term.app #2&Tactic.refine $ #2group | ( ( fail_if_success exact `True.intro #2&Tactic.exact $ #2&Tactic.failIfSuccess $ ) #3&Tactic.paren ; first | refine `Mine.wpE @3 @4 #2null #2&Term.app #2&Tactic.refine $ #2group | refine `Mine.wpE ( ` #1hygieneInfo #2&Term.hygienicLParen `Mine.sb @3 #1null #2&Term.app ) #3&Term.paren @4 #2null #2&Term.app #2&Tactic.refine $ #2group #2null #2&Tactic.first #3null #1&Tactic.tacticSeq1Indented #1&Tactic.tacticSeq ) #3&Tactic.paren $ #2group #4null #2&Tactic.first $ ) #3&Tactic.paren $ #2&Tactic.withReducible $ ) #3&Tactic.paren $ #2group | ( ( fail_if_success fail_if_success rewrite #0null #1&Tactic.optConfig [ @0 #1null ] #3&Tactic.rwRuleSeq #0null #4&Tactic.rewriteSeq $ #2&Tactic.failIfSuccess $ #2&Tactic.failIfSuccess $ ) #3&Tactic.paren ; refine ( ` #1hygieneInfo #2&Term.hygienicLParen `Eq.symm @3 #1null #2&Term.app ) #3&Term.paren ▸ @4 #1null #3&Term.subst #2&Tactic.refine #3null #1&Tactic.tacticSeq1Indented #1&Tactic.tacticSeq ) #3&Tactic.paren $ #2group | rewrite #0null #1&Tactic.optConfig [ @0 #1null ] #3&Tactic.rwRuleSeq #0null #4&Tactic.rewriteSeq $ #2group #3null #2&Tactic.first" else "first | ( with_reducible ( first | replace @2 #1&Term.letId #0null #0null := `Eq.trans ( ` #1hygieneInfo #2&Term.hygienicLParen `Eq.symm @3 #1null #2&Term.app ) #3&Term.paren @2 #2null #2&Term.app #5&Term.letIdDecl #1&Term.letDecl #2&Tactic.replace $ #2group | replace @2 #1&Term.letId #0null #0null := `Eq.trans ( ` #1hygieneInfo #2&Term.hygienicLParen `Mine.bnd ( ` #1hygieneInfo #2&Term.hygienicLParen `Eq.symm @3 #1null #2&Term.app ) #3&Term.paren #1null #2&Term.app ) #3&Term.paren @2 #2null #2&Term.app #5&Term.letIdDecl #1&Term.letDecl #2&Tactic.replace $ #2group #2null #2&Tactic.first $ ) #3&Tactic.paren $ #2&Tactic.withReducible $ ) #3&Tactic.paren $ #2group | rewrite #0null #1&Tactic.optConfig [ @0 #1null ] #3&Tactic.rwRuleSeq at @2 #1null #1&Tactic.locationHyp #2&Tactic.location #1null #4&Tactic.rewriteSeq $ #2group #2null #2&Tactic.first"), a] "( @0 ; @1 #3null #1&Tactic.tacticSeq1Indented #1&Tactic.tacticSeq ) #3&Tactic.paren") a
set_option compiler.extract_closed false
open Lean in
local macro_rules
  | `(tactic| rw $s:rwRuleSeq $[$l:location]?) => do
    let q := s.raw[1]
    let i := SourceInfo.fromRef (← getRef)
    let l := (l.map fun l => l.raw[1][0]).getD .missing
    if let .original .. := q[0].getHeadInfo then
      if l.isMissing || l.getNumArgs == 1 && l[0].isIdent then return Mine.rwS i l[0] q q.getNumArgs (Mine.mkS i [] "try with_reducible rfl #1&Tactic.tacticRfl $ #2&Tactic.withReducible $ #2&Tactic.tacticTry_")
      else Macro.throwUnsupported
    else Macro.throwUnsupported
open Lean in
local macro_rules
  | `(tactic| trivial) => return Mine.mkS (SourceInfo.fromRef (← getRef)) [] "first | exact `Nat.le_refl _ #1&Term.hole #1null #2&Term.app #2&Tactic.exact $ #2group | exact `Nat.le_add_right _ #1&Term.hole _ #1&Term.hole #2null #2&Term.app #2&Tactic.exact $ #2group | exact `Nat.le_add_right _ #1&Term.hole 2 #1num #2null #2&Term.app #2&Tactic.exact $ #2group #3null #2&Tactic.first"
open Lean in
local macro_rules
  | `(tactic| show $t) => return Mine.mkS (SourceInfo.fromRef (← getRef)) [t] "refine ( ` #1hygieneInfo #2&Term.hygienicLParen ? _ #2&Term.syntheticHole : @0 #1null ) #5&Term.typeAscription #2&Tactic.refine"
set_option maxHeartbeats 2000000
set_option genSizeOf false
set_option genInjectivity false
set_option tactic.hygienic false
namespace Mine
open PySem PySem.Calls PyProof.Rows PySem.W
theorem Gn {M:Model} {Γ:Ctx} {p:Pos} {t:Sem Fin} {fs:List Frame} {s s':Shared} {e:End} (h:Runs M Γ p t fs s e s'):s.toks<=s'.toks:=by
 induction h with
 |done|raise|yield=>exact Nat.le_refl _
 |again _ _ ih|rule _ ih|«at» _ ih|load _ _ ih|update _ _ ih|loadIfAlive _ ih|point _ ih|alloc _ ih|ask _ ih|choose _ _ ih|os _ ih|handled _ ih|genState _ _ ih|stack _ ih|thread _ ih|newGen _ ih|callSusp _ ih|resumeJustStarted _ _ _ ih|resumeThrowFresh _ _ ih|resumeRunning _ _ ih|resumeFinished _ _ ih|segSuspOut _ _ ih=>exact ih
 |fresh _ ih=>exact Nat.le_trans (Nat.le_succ _) ih
 |call _ _ ih1 ih2|segRet _ _ ih1 ih2|segGen _ _ ih1 ih2=>exact Nat.le_trans ih1 ih2
 |resumeFresh _ _ _ _ ih1 ih2|resumeSuspended _ _ _ _ ih1 ih2|segSuspGen _ _ _ _ ih1 ih2=>exact Nat.le_trans ih1 ih2
theorem MD {M:Model} {Γ:Ctx} {p:Pos} {g:Nat} {r:Resume} {s s':Shared} {res:GenResult} (h:Wakes M Γ p g r s res s'):s.toks<=s'.toks:=by
 unfold Wakes at h
 split at h
 ·exact h.elim
 ·split at h
  ·revert h
   refine Mine.ii λe s₁ h1 _ _ eq1=>?_
   subst eq1
   exact (Gn h1:(s.setGen g .running).toks<=s₁.toks)
  ·obtain ⟨_,rfl⟩:=h;exact Nat.le_refl _
  ·obtain ⟨_,rfl⟩:=h;exact Nat.le_refl _
 ·revert h
  refine Mine.ii λe s₁ h1 _ _ eq1=>?_
  subst eq1
  exact (Gn h1:(s.setGen g .running).toks<=s₁.toks)
 ·obtain ⟨_,rfl⟩:=h;exact Nat.le_refl _
 ·obtain ⟨_,rfl⟩:=h;exact Nat.le_refl _
theorem NV {α:Type} (M:Model) (Γ:Ctx) (t:Sem α) (n:Nat):∀ (Q:α->Pos->Shared->Prop) (E:Value->Pos->Shared->Prop) (p:Pos) (s:Shared),n<=s.toks->Sem.wp M Γ t (λa p s'=>n<=s'.toks->Q a p s') (λa p s'=>n<=s'.toks->E a p s') p s->Sem.wp M Γ t Q E p s:=by
 induction t with
 |pure a=>intro Q E p s hn h;exact h hn
 |raise e=>intro Q E p s hn h;exact h hn
 |unsupported|finish|register|yield|fork|await=>intro Q E p s hn h;exact h.elim
 |rule _ k ih=>intro Q E p s hn h;exact ih () Q E p s hn h
 |«at» p' k ih=>intro Q E p s hn h;exact ih () Q E p' s hn h
 |load a _ k ih=>intro Q E p s hn h;obtain ⟨o,h1,h2⟩:=h;exact ⟨o,h1,ih o Q E p s hn h2⟩
 |update a _ f k ih=>intro Q E p s hn h;exact ⟨h.1,ih () Q E p _ hn h.2⟩
 |alloc o k ih=>intro Q E p s hn h;exact ih _ Q E p _ hn h
 |loadIfAlive a k ih=>intro Q E p s hn h;exact ih _ Q E p s hn h
 |point _ k ih=>intro Q E p s hn h;exact ih () Q E p s hn h
 |fresh k ih=>intro Q E p s hn h;exact ih _ Q E p _ (Nat.le_succ_of_le hn) h
 |ask k ih=>intro Q E p s hn h;exact ih _ Q E p s hn h
 |choose src m k ih=>intro Q E p s hn h;exact ⟨h.1,ih _ Q E p _ hn h.2⟩
 |os q _ k ih=>intro Q E p s hn h;exact ih _ Q E p _ hn h
 |call c hh _ _ k ih=>intro Q E p s hn h;obtain ⟨r,s',h1,h2⟩:=h;exact ⟨r,s',h1,ih r Q E p s' (Nat.le_trans hn (Gn h1)) h2⟩
 |handled own k ih=>intro Q E p s hn h;exact ih _ Q E p s hn h
 |newGen c k ih=>intro Q E p s hn h;exact ih _ Q E p _ hn h
 |genState g k ih=>intro Q E p s hn h;obtain ⟨st,h1,h2⟩:=h;exact ⟨st,h1,ih _ Q E p s hn h2⟩
 |resume g r _ k ih=>intro Q E p s hn h;obtain ⟨res,s',h1,h2⟩:=h;exact ⟨res,s',h1,ih _ Q E p s' (Nat.le_trans hn (MD h1)) h2⟩
 |stack k ih=>intro Q E p s hn h;exact ih _ Q E p s hn h
 |thread k ih=>intro Q E p s hn h;exact ih _ Q E p s hn h
theorem Qm {α:Type} {M:Model} {A:Around} {t:Sem α} {Q:α->Shared->Prop} {E:Value->Shared->Prop} {s:Shared} (h:wpAny M A t (λa s'=>s.toks<=s'.toks->Q a s') (λa s'=>s.toks<=s'.toks->E a s') s):wpAny M A t Q E s:=
 λΓ p hΓ=>NV M Γ t s.toks _ _ p s (Nat.le_refl _) (h Γ p hΓ)
theorem AV {α:Type} {M:Model} {A:Around} {t:Sem α} {Q:α->Shared->Prop} {E:Value->Shared->Prop} {s:Shared} (h:wpAny M A t (λa s'=>s.toks<=s'.toks->Q a s') E s):wpAny M A t Q E s:=
 Qm (wpAny_mono h (λZ Z h=>h) λZ Z h Z=>h)
section
open PySem.SeqAt
theorem bp {p q n m:Nat} (hp:p<=q) (hq:q+2<n) (h:m<=2*(n-(q+3))+1):m+1<=2*(n-p):=by
 have e:n-(q+3)+3<=n-p:=Nat.le_trans (Nat.le_of_eq (by rw[Nat.sub_add_eq];exact Nat.sub_add_cancel (Nat.le_sub_of_add_le (Nat.add_comm 3 q▸hq)))) (Nat.sub_le_sub_left hp n)
 exact Nat.le_trans (Nat.succ_le_succ h) (Nat.le_trans (Nat.add_le_add_left (by decide:2<=2*3) (2*(n-(q+3)))) (Nat.mul_add 2 _ 3▸Nat.mul_le_mul_left 2 e))
theorem ef {L n:Nat}:((L:Int)-1+ -1*(n:Int)).toNat=L-1-n:=by
 rw[Int.neg_mul,Int.one_mul,<-Int.sub_eq_add_neg,Int.sub_sub,Nat.sub_sub]
 exact Int.toNat_sub L (1+n)
theorem eg {L n:Nat} (h:n+1<=L):L-1-n<L:=Nat.lt_of_le_of_lt (Nat.sub_le _ _) (Nat.sub_lt (Nat.lt_of_lt_of_le (Nat.succ_pos _) h) Nat.one_pos)
theorem Uf (n:Nat) (k:Int):clipAt n k<=n:=Int.ofNat_le.mp (clipAt_cast n k▸Int.max_le.mpr ⟨Int.natCast_nonneg _,Int.min_le_right _ _⟩)
theorem XY {n:Nat}:min 1 n+1+(n-1)<=n+1:=by
 cases n with
 |zero=>decide
 |succ n=>rw[Nat.min_eq_left (Nat.succ_le_succ (Nat.zero_le n))];exact Nat.le_of_eq (Nat.add_comm 2 n)
theorem ei {s i k:Nat} (h:s-i=k+1):s-(i+1)=k:=by rw[Nat.sub_succ,h];rfl
theorem ek {s i x:Nat} (h:s-i=0) (hi:i<=s) (hx:s=x):x=i:=hx▸Nat.le_antisymm (Nat.le_of_sub_eq_zero h) hi
theorem eq {s i k:Nat} (h:s-i=k+1):i<s:=Nat.lt_of_sub_pos (h▸Nat.succ_pos k)
theorem et {n:Nat} (h:min 6 n=0):n=0:=by
 rcases Nat.le_total 6 n with g|g
 ·rw[Nat.min_eq_left g] at h;exact absurd h (by decide)
 ·exact (Nat.min_eq_right g).symm.trans h
theorem bq (t r:Nat):(t*4096+r)%2=r%2:=(congrArg (· %2) ((Nat.add_comm _ _).trans (congrArg (r+ ·) (Nat.mul_assoc t 2048 2).symm))).trans (Nat.add_mul_mod_self_right r (t*2048) 2)
theorem ew {t r:Nat}:((t:Int)=4/\((r%2:Nat):Int)=1)↔t=4/\r%2=1:=and_congr (Int.ofNat_inj (n:=4)) (Int.ofNat_inj (n:=1))
theorem eA {t r:Nat} (h:r<4096):(t*4096+r)/4096=t:=by rw[Nat.mul_comm,Nat.mul_add_div (by decide),Nat.div_eq_of_lt h];rfl
theorem eB {n k:Nat}:n+(0+1)-(k+1)<=n:=by rw[Nat.zero_add,Nat.add_sub_add_right];exact Nat.sub_le _ _
theorem eC {n i x y c:Nat} (h:n+1+i=x) (hc:c<=x/\c<=y) (hn:¬ c<x):i<y:=Nat.lt_of_lt_of_le (h▸Nat.lt_add_of_pos_left (Nat.succ_pos n):i<x) (Nat.le_trans (Nat.not_lt.mp hn) hc.2)
theorem XZ {a b:Nat} (ha:a<=30) (hb:b<=30):a+3+b<=16777216:=Nat.le_trans (Nat.add_le_add (Nat.add_le_add_right ha 3) hb) (by decide)
theorem br {a b:Nat} (ha:a<=30) (hb:b<=30):a+(b+1+1+1)<=80:=Nat.le_trans (Nat.add_le_add ha (Nat.add_le_add_right hb 3)) (by decide)
theorem eD {x z a b:Nat} (h1:b<=x+(x+1)*z) (h2:a<=z+1):a+b<=x+1+(x+1+1)*z:=Nat.le_trans (Nat.add_le_add h2 h1) (Nat.le_of_eq (by rw[Nat.succ_mul (x+1) z];ac_rfl))
theorem bt {r n p:Nat} (h:r+1+1=n-(p+1)):p+2<n:=Nat.add_lt_of_lt_sub' (a:=p+1) (b:=1) (h▸Nat.succ_lt_succ (Nat.succ_pos r))
theorem bu {a b r L:Nat} (h:a+(b-a+(r+1))<L):b+1+r<L:=by
 refine Nat.lt_of_le_of_lt ?_ h
 rw[<-Nat.add_assoc,Nat.add_assoc b 1 r,Nat.add_comm 1 r]
 exact Nat.add_le_add_right (Nat.sub_le_iff_le_add'.mp (Nat.le_refl _)) _
theorem bv {p s:Nat} (h:p+2<s):min 2 ((s:Int)-((p+1:Nat):Int)).toNat=2:=by
 rw[Int.toNat_sub]
 exact Nat.min_eq_left (Nat.le_sub_of_add_le (Nat.add_comm 2 (p+1)▸h))
theorem eE {a b c:Nat} (h1:b<=2*c) (h2:a<=2):a+b<=2*(c+1):=Nat.le_trans (Nat.add_le_add h2 h1) (Nat.le_of_eq (Nat.add_comm 2 _))
end
inductive D where
 |none
 |bool (b:Bool)
 |int (i:Int)
 |str (s:List Nat)
 |bytes (b:Array UInt8)
 |tuple (ds:List D)
 |list (ds:List D)
 |dict (ks:List (List Nat)) (ds:List D)
 |val (v:Value)
 |obj (o:Obj)
 |mat (s:List Nat) (b e:Nat)
 deriving Inhabited
noncomputable abbrev Ap:Nat:=16777216
noncomputable abbrev Az:=List (Addr×Obj)
noncomputable abbrev Bs (vs:List Value) (n:Nat):Obj:={cls:=.type "tuple",data:=.seq vs.toArray n}
noncomputable abbrev AZ (vs:List Value) (n:Nat):Obj:={cls:=.type "list",data:=.seq vs.toArray n}
noncomputable abbrev S (s:List Nat):Str:=⟨s.toArray⟩
inductive Ip (P:Params):List DictEntry->List (List Nat)->Prop
 |nil:Ip P [] []
 |cons {e:DictEntry} {r:List DictEntry} {k:List Nat} {ks:List (List Nat)} {t:Tok}:e.key=.str (S k) t->e.hash=PyData.keyHash P (S k)->Ip P r ks->Ip P (e::r) (k::ks)
mutual
inductive Ax (P:Params) (N:Az):Value->D->Prop
 |none:Ax P N .none .none
 |bool (b:Bool):Ax P N (.bool b) (.bool b)
 |int (i:Int) (t:Tok):Ax P N (.int i t) (.int i)
 |str (s:List Nat) (t:Tok) (h:s.length<=Ap):Ax P N (.str (S s) t) (.str s)
 |bytes (b:Array UInt8) (t:Tok) (h:b.size<=Ap):Ax P N (.bytes b t) (.bytes b)
 |tuple {a:Addr} {vs:List Value} {n:Nat} {ds:List D}:(a,Bs vs n)∈N->vs.length<=Ap->Ar P N vs ds->Ax P N (.ref a) (.tuple ds)
 |list {a:Addr} {vs:List Value} {n:Nat} {ds:List D}:(a,AZ vs n)∈N->vs.length<=Ap->Ar P N vs ds->Ax P N (.ref a) (.list ds)
 |dict {a:Addr} {es:List DictEntry} {n:Nat} {ks:List (List Nat)} {ds:List D}:(a,({cls:=.type "dict",data:=.dict es.toArray n}:Obj))∈N->es.length<=Ap->ks.Nodup->(∀k∈ks,k.length<=Ap)->(a==sysModules)=false->Ip P es ks->Ar P N (es.map (·.val)) ds->Ax P N (.ref a) (.dict ks ds)
 |val (v:Value):Ax P N v (.val v)
 |obj {a:Addr} {o:Obj}:(a,o)∈N->Ax P N (.ref a) (.obj o)
 |mat {a ta:Addr} {s:List Nat} {t:Tok} {b e n:Nat} {fs:Array Value}:(a,({cls:=.type "re.Match",data:=.fields fs}:Obj))∈N->fs[0]?=some (.str (S s) t)->fs[5]?=some (.ref ta)->(ta,Bs [.int b 0,.int e 0] n)∈N->s.length<=Ap->Ax P N (.ref a) (.mat s b e)
inductive Ar (P:Params) (N:Az):List Value->List D->Prop
 |nil:Ar P N [] []
 |cons {v:Value} {vs:List Value} {d:D} {ds:List D}:Ax P N v d->Ar P N vs ds->Ar P N (v::vs) (d::ds)
end
theorem Ax.mono {P:Params} {N N':Az} (hs:∀p∈N,p∈N') {v:Value} {d:D} (h:Ax P N v d):Ax P N' v d:=
 Ax.rec (motive_1:=λv d Z=>Ax P N' v d) (motive_2:=λvs ds Z=>Ar P N' vs ds) .none .bool .int .str .bytes (λm l Z k=>.tuple (hs _ m) l k) (λm l Z k=>.list (hs _ m) l k) (λm l q z n e Z k=>.dict (hs _ m) l q z n e k) .val (λm=>.obj (hs _ m)) (λm a b c l=>.mat (hs _ m) a b (hs _ c) l) .nil (λZ Z h k=>.cons h k) h
theorem Ar.mono {P:Params} {N N':Az} (hs:∀p∈N,p∈N') {v:List Value} {d:List D} (h:Ar P N v d):Ar P N' v d:=
 Ar.rec (motive_1:=λv d Z=>Ax P N' v d) (motive_2:=λvs ds Z=>Ar P N' vs ds) .none .bool .int .str .bytes (λm l Z k=>.tuple (hs _ m) l k) (λm l Z k=>.list (hs _ m) l k) (λm l q z n e Z k=>.dict (hs _ m) l q z n e k) .val (λm=>.obj (hs _ m)) (λm a b c l=>.mat (hs _ m) a b (hs _ c) l) .nil (λZ Z h k=>.cons h k) h
section
variable {P:Params} {N:Az} {v:Value} {vs ws:List Value} {d:D} {ds es:List D}
theorem Ar.length (h:Ar P N vs ds):vs.length=ds.length:=by
 induction vs generalizing ds with
 |nil=>cases h;rfl
 |cons v vs ih=>cases h with|cons _ r=>simp[ih r]
theorem Ar.append (h:Ar P N vs ds) (k:Ar P N ws es):Ar P N (vs++ws) (ds++es):=by
 induction vs generalizing ds with
 |nil=>cases h;exact k
 |cons v vs ih=>cases h with|cons h r=>exact .cons h (ih r)
theorem Ar.get {i:Nat} (h:Ar P N vs ds) (hd:ds[i]?=some d):∃v,vs[i]?=some v/\Ax P N v d:=by
 induction vs generalizing ds i with
 |nil=>cases h;simp at hd
 |cons v vs ih=>
  cases h with
  |cons h r=>
   cases i with
   |zero=>simp at hd;subst hd;exact ⟨v,rfl,h⟩
   |succ i=>simp at hd;simpa using ih r hd
theorem Ar.take (n:Nat) (h:Ar P N vs ds):Ar P N (vs.take n) (ds.take n):=by
 induction vs generalizing ds n with
 |nil=>cases h;simpa using Ar.nil
 |cons v vs ih=>
  cases h with
  |cons h r=>
   cases n with
   |zero=>exact .nil
   |succ n=>simpa using Ar.cons h (ih n r)
theorem Ar.drop (n:Nat) (h:Ar P N vs ds):Ar P N (vs.drop n) (ds.drop n):=by
 induction vs generalizing ds n with
 |nil=>cases h;simpa using Ar.nil
 |cons v vs ih=>
  cases h with
  |cons h r=>
   cases n with
   |zero=>exact .cons h r
   |succ n=>simpa using ih n r
theorem Ar.snocInv (h:Ar P N vs (ds++[d])):∃us v,vs=us++[v]/\Ar P N us ds/\Ax P N v d:=by
 induction ds generalizing vs with
 |nil=>cases h with|cons h r=>cases r;exact ⟨[],_,rfl,.nil,h⟩
 |cons e ds ih=>
  cases h with
  |cons h r=>
   refine Mine.S3 (ih r) λus v eq1 h1 h2=>?_
   subst eq1
   exact ⟨_::us,v,rfl,.cons h h1,h2⟩
theorem Ar.reverse (h:Ar P N vs ds):Ar P N vs.reverse ds.reverse:=by
 induction vs generalizing ds with
 |nil=>cases h;exact .nil
 |cons v vs ih=>cases h with|cons h r=>simpa using Ar.append (ih r) (.cons h .nil)
end
structure A1 (N:Az) (s:Shared) (N':Az) (s':Shared):Prop where
 keeps:Keeps s s'
 tk:s.toks<=s'.toks
 sub:∀p∈N,p∈N'
 has:∀p∈N',s'.heap.get? p.1=some p.2
 new:∀p∈N',p∈N\/s.heap.get? p.1=Option.none
noncomputable def Cn (N:Az) (s:Shared):Prop:=∀p∈N,s.heap.get? p.1=some p.2
theorem OO (s:Shared):Keeps s s:=⟨s.heap,s.toks,rfl,λZ Z e=>e⟩
theorem Am {s s':Shared} (k:Keeps s s'):∀b o,s.heap.get? b=some o->s'.heap.get? b=some o:=by
 obtain ⟨h,t,rfl,k⟩:=k;exact k
theorem K5 {s s' s'':Shared} (k:Keeps s s') (l:Keeps s' s''):Keeps s s'':=by
 revert k
 refine Mine.T1 λh t eq1 k=>?_
 subst eq1
 revert l
 refine Mine.T1 λh' t' eq1 l=>?_
 subst eq1
 exact ⟨h',t',rfl,λb o e=>l b o (k b o e)⟩
theorem Aw {h h':Heap} (k:∀b o,h.get? b=some o->h'.get? b=some o) {a:Addr} (e:h'.get? a=Option.none):h.get? a=Option.none:=by
 cases q:h.get? a with
 |none=>rfl
 |some o=>rw[k _ _ q] at e;cases e
theorem A1.rfl' {N:Az} {s:Shared} (h:Cn N s):A1 N s N s:=⟨OO s,Nat.le_refl _,λZ h=>h,h,λZ h=>.inl h⟩
theorem A1.trans {N N' N'':Az} {s s' s'':Shared} (x:A1 N s N' s') (y:A1 N' s' N'' s''):A1 N s N'' s'':=
 ⟨K5 x.keeps y.keeps,Nat.le_trans x.tk y.tk,λp h=>y.sub p (x.sub p h),y.has,λp h=>by
  rcases y.new p h with h|h
  ·exact x.new p h
  ·exact .inr (Aw (Am x.keeps) h)⟩
theorem A1.of_keeps {N:Az} {s s':Shared} (h:Cn N s) (k:Keeps s s') (hk:s.toks<=s'.toks:=by trivial):A1 N s N s':=⟨k,hk,λZ h=>h,λp q=>Am k _ _ (h p q),λZ h=>.inl h⟩
theorem A1.rel {P:Params} {N N':Az} {s s':Shared} (x:A1 N s N' s') {v:Value} {d:D} (h:Ax P N v d):Ax P N' v d:=h.mono x.sub
theorem A1.rels {P:Params} {N N':Az} {s s':Shared} (x:A1 N s N' s') {v:List Value} {d:List D} (h:Ar P N v d):Ar P N' v d:=h.mono x.sub
theorem A3 (h:Heap):h.get? h.objs.size=Option.none:=by
 cases q:h.get? h.objs.size with
 |none=>rfl
 |some o=>exact absurd (Heap.lt_size q) (Nat.lt_irrefl _)
theorem A1.push {N:Az} {s:Shared} (h:Cn N s) (o:Obj) (tk:Nat) (hf:o.isFreed=false:=by rfl) (hk:s.toks<=tk:=by trivial):
  A1 N s ((s.heap.objs.size,o)::N) {s with heap:=s.heap.push o,toks:=tk}:=by
 refine ⟨⟨_,_,rfl,λb o' e=>Heap.get?_push_of_some _ e⟩,hk,λp q=>.tail _ q,λp q=>?_,λp q=>?_⟩
 ·cases q with
  |head=>exact Heap.get?_push_size _ hf
  |tail _ q=>exact Heap.get?_push_of_some _ (h p q)
 ·cases q with
  |head=>exact .inr (A3 _)
  |tail _ q=>exact .inl q
theorem A1.push0 {N:Az} {s:Shared} (h:Cn N s) (o:Obj) (tk:Nat) (hk:s.toks<=tk:=by trivial):A1 N s N {s with heap:=s.heap.push o,toks:=tk}:=
 A1.of_keeps h ⟨_,_,rfl,λ_ _ e=>Heap.get?_push_of_some _ e⟩ hk
theorem A1.toks {N:Az} {s:Shared} (h:Cn N s) (tk:Nat) (hk:s.toks<=tk:=by trivial):A1 N s N {s with toks:=tk}:=A1.of_keeps h ⟨_,_,rfl,λZ Z e=>e⟩ hk
end Mine
set_option backward.match.sparseCases false
namespace Mine
open PySem
noncomputable def Ey:(x:Expr)->Option {q:Str×Pos//x=.Name q.1 q.2}
 | .Name a b=>some ⟨(a,b),rfl⟩
 |_=>none
noncomputable def IJ:(x:Expr)->Option {q:Expr×List Expr×List Keyword×Pos//x=.Call q.1 q.2.1 q.2.2.1 q.2.2.2}
 | .Call a b c d=>some ⟨(a,b,c,d),rfl⟩
 |_=>none
noncomputable def Qn:(x:Expr)->Option {q:Expr×Str×Pos//x=.Attribute q.1 q.2.1 q.2.2}
 | .Attribute a b c=>some ⟨(a,b,c),rfl⟩
 |_=>none
noncomputable def ME:(x:Expr)->Option {q:Const×Nat×Pos//x=.Constant q.1 q.2.1 q.2.2}
 | .Constant a b c=>some ⟨(a,b,c),rfl⟩
 |_=>none
noncomputable def K6:(x:Expr)->Option {q:List Expr×Nat×Pos//x=.Tuple q.1 q.2.1 q.2.2}
 | .Tuple a b c=>some ⟨(a,b,c),rfl⟩
 |_=>none
noncomputable def bw:(x:Expr)->Option {q:List Expr×Pos//x=.List q.1 q.2}
 | .List a b=>some ⟨(a,b),rfl⟩
 |_=>none
noncomputable def bx:(x:Expr)->Option {q:Expr×Expr×List Comprehension×Scope×Pos//x=.DictComp q.1 q.2.1 q.2.2.1 q.2.2.2.1 q.2.2.2.2}
 | .DictComp a b c d e=>some ⟨(a,b,c,d,e),rfl⟩
 |_=>none
noncomputable def eF:(x:Expr)->Option {q:Expr×List Comprehension×Scope×Pos//x=.SetComp q.1 q.2.1 q.2.2.1 q.2.2.2}
 | .SetComp a b c d=>some ⟨(a,b,c,d),rfl⟩
 |_=>none
noncomputable def iS:(x:Expr)->Option {q:UnaryOp×Expr×Pos//x=.UnaryOp q.1 q.2.1 q.2.2}
 | .UnaryOp a b c=>some ⟨(a,b,c),rfl⟩
 |_=>none
noncomputable def eG:(x:Stmt)->Option {q:List Expr×Expr×Pos//x=.Assign q.1 q.2.1 q.2.2}
 | .Assign a b c=>some ⟨(a,b,c),rfl⟩
 |_=>none
noncomputable def K7 {α:Type}:List α->Option α
 |a::r=>if r.isEmpty then some a else none
 |[]=>none
theorem FR {α:Type} {l:List α} {a:α} (h:K7 l=some a):l=[a]:=by
 cases l with
 |nil=>exact Aa h
 |cons b r=>
  cases r with
  |nil=>(replace h:=Option.some.inj h;subst h);rfl
  |cons c r=>exact Aa h
noncomputable def X0 {α:Type}:List α->Option (α×α)
 |a::r=>(K7 r).map λb=>(a,b)
 |[]=>none
theorem NW {α:Type} {l:List α} {p:α×α} (h:X0 l=some p):l=[p.1,p.2]:=by
 cases l with
 |nil=>exact Aa h
 |cons b r=>
  replace h:(K7 r).map (λx=>(b,x))=some p:=h
  cases q:K7 r with
  |none=>rw[q] at h;exact Aa h
  |some c=>rw[q] at h;(replace h:=Option.some.inj h;subst h);rw[FR q]
noncomputable def X1:Const->Option Str
 | .str y=>some y
 |_=>none
theorem NX {c:Const} {y:Str} (h:X1 c=some y):c=.str y:=by
 rcases c with _|_<;>(first|(exact Aa h)|(replace h:=Option.some.inj h;subst h))
 rfl
noncomputable def bz:Const->Option Int
 | .int y=>some y
 |_=>none
theorem Ug {c:Const} {y:Int} (h:bz c=some y):c=.int y:=by
 rcases c with _|_<;>(first|(exact Aa h)|(replace h:=Option.some.inj h;subst h))
 rfl
noncomputable def bA:UnaryOp->Option Unit
 | .USub=>some ()
 |_=>none
theorem Uh {c:UnaryOp} {y:Unit} (h:bA c=some y):c=.USub:=by
 rcases c with _|_<;>first|(exact Aa h;done)|rfl
theorem Qo {α β γ:Type} (F:α->β->γ) {a a':α} {b b':β} (h1:a=a') (h2:b=b'):F a b=F a' b':=by rw[h1,h2]
theorem IK {α β γ δ:Type} (F:α->β->γ->δ) {a a':α} {b b':β} {c c':γ} (h1:a=a') (h2:b=b') (h3:c=c'):F a b c=F a' b' c':=by rw[h1,h2,h3]
theorem IL {α:Type} {c:Prop} [Decidable c] {a b:α} (h:(if c then some a else none)=some b):c/\a=b:=by
 by_cases hc:c
 ·rw[if_pos hc] at h;exact ⟨hc,Option.some.inj h⟩
 ·rw[if_neg hc] at h;exact Aa h
theorem X2 {α:Type} {c:Prop} [Decidable c] {a:Option α} {b:α} (h:(if c then a else none)=some b):c/\a=some b:=by
 by_cases hc:c
 ·rw[if_pos hc] at h;exact ⟨hc,h⟩
 ·rw[if_neg hc] at h;exact Aa h
theorem BO {α:Type} {c:Prop} [Decidable c] {a:Option α} {b:α} {P:Prop} (k:c->a=some b->P) (h:(if c then a else none)=some b):P:=k (X2 h).1 (X2 h).2
theorem i2 {α:Type} {c:Prop} [Decidable c] {a:α} {b:α} {P:Prop} (k:c->a=b->P) (h:(if c then some a else none)=some b):P:=k (IL h).1 (IL h).2
theorem bc {α β γ:Type} {o:Option α} {f:α->Option γ} {g:α->Option β} {k:β->Option γ} (h:∀a,f a=(g a).bind k):o.bind f=(o.bind g).bind k:=by
 cases o with
 |none=>rfl
 |some a=>exact h a
theorem WG {β γ:Type} {c:Prop} [Decidable c] {a:Option γ} {b:Option β} {k:β->Option γ} (h:a=b.bind k):(if c then a else none)=(if c then b else none).bind k:=by
 by_cases hc:c
 ·rw[if_pos hc,if_pos hc];exact h
 ·rw[if_neg hc,if_neg hc];rfl
theorem Iq {α:Type} {c:Prop} [Decidable c] {a b:Option α} {r:α} {P:Prop} (h:(if c then a else b)=some r) (k1:c->a=some r->P) (k2:b=some r->P):P:=by
 by_cases hc:c
 ·rw[if_pos hc] at h;exact k1 hc h
 ·rw[if_neg hc] at h;exact k2 h
end Mine
namespace Mine
open PySem PySem.Calls PyProof.Rows PySem.W
noncomputable def JS:Const->Option D
 | .none=>some .none
 | .bool b=>some (.bool b)
 | .int i=>some (.int i)
 | .str s=>if s.cps.size<=1000 then some (.str s.cps.toList) else none
 |_=>none
noncomputable def Ay:D->Option Bool
 | .none=>some false
 | .bool b=>some b
 | .int i=>some (i !=0)
 | .str s=>some (!s.isEmpty)
 | .bytes b=>some (b.size !=0)
 | .list ds=>some (!ds.isEmpty)
 | .tuple ds=>some (!ds.isEmpty)
 |_=>none
noncomputable def D.sel {α:Type} (fi:Int->Option α) (fs:List Nat->Option α) (fl ft:List D->Option α):D->Option α
 | .int i=>fi i
 | .str s=>fs s
 | .list l=>fl l
 | .tuple l=>ft l
 |_=>Option.none
noncomputable def D.onI {α:Type} (f:Int->Option α) (d:D):Option α:=d.sel f (λZ=>Option.none) (λZ=>Option.none) λZ=>Option.none
noncomputable def D.onS {α:Type} (f:List Nat->Option α) (d:D):Option α:=d.sel (λZ=>Option.none) f (λZ=>Option.none) λZ=>Option.none
noncomputable def D.onL {α:Type} (f:List D->Option α) (d:D):Option α:=d.sel (λZ=>Option.none) (λZ=>Option.none) f λZ=>Option.none
noncomputable def D.onT {α:Type} (f:List D->Option α) (d:D):Option α:=d.sel (λZ=>Option.none) (λZ=>Option.none) (λZ=>Option.none) f
noncomputable def D.scalar:D->Bool
 | .none| .bool _| .int _| .str _| .bytes _=>true
 |_=>false
noncomputable def Bm (d:D):Option (List Nat):=d.onS some
noncomputable def A7 (ds:List D):Option (List (List Nat)):=ds.mapM Bm
noncomputable def Fs (a b:List D):Option Bool:=
 if a.length=b.length then (match A7 a,A7 b with
  |some x,some y=>some (decide (x=y))
  |_,_=>none)
 else some false
noncomputable def eH (a b:D):Option Bool:=a.sel (λx=>b.onI λy=>some (x==y)) (λx=>b.onS λy=>some (x==y)) (λx=>b.onL λy=>Fs x y) λZ=>none
noncomputable def A0 (op:CmpOp) (a b:D):Option Bool:=
 match op with
 | .Eq=>eH a b
 | .NotEq=>(eH a b).map not
 | .Lt=>a.onI λx=>b.onI λy=>some (decide (x<y))
 | .Gt=>a.onI λx=>b.onI λy=>some (decide (x>y))
 |_=>none
noncomputable def small (i:Int):Bool:=decide (-(2^63)<=i)&&decide (i<2^63)
noncomputable def bB (a b:D):Option D:=a.sel (λx=>b.onI λy=>some (.int (x+y))) (λx=>b.onS λy=>if x.length+y.length<=Ap then some (.str (x++y)) else none)
 (λx=>b.onL λy=>if x.length+y.length<=Ap then some (.list (x++y)) else none) λZ=>none
noncomputable def bC (a b:D):Option D:=a.sel (λx=>b.onI λy=>if small y then some (.int (x*y)) else (if small x then some (.int (x*y)) else none)) (λZ=>none)
 (λx=>b.onI λk=>if small k&&decide (x.length*k.toNat<=Ap) then some (.list (List.replicate k.toNat x).flatten) else none) λZ=>none
noncomputable def Aq (op:Operator) (a b:D):Option D:=
 match op with
 | .Add=>bB a b
 | .Mult=>bC a b
 | .FloorDiv=>a.onI λx=>b.onI λy=>if y=0||!small y then none else some (.int (x.fdiv y))
 | .Mod=>a.onI λx=>b.onI λy=>if y=0 then none else some (.int (x.fmod y))
 | .Sub=>a.onI λx=>b.onI λy=>some (.int (x-y))
 | .BitAnd=>a.onI λx=>b.onI λy=>some (.int (Builtin.bitAnd x y))
 |_=>none
noncomputable def DH (n:Nat) (k:Int):Option Nat:=if 0<=k then (if k<n then some k.toNat else none) else (if 0<=k+n then some (k+n).toNat else none)
noncomputable def AW (o i:D):Option D:=o.sel (λZ=>none) (λs=>i.onI λk=>(DH s.length k).bind λj=>s[j]?.map λc=>.str [c])
 (λds=>i.onI λk=>(DH ds.length k).bind λj=>ds[j]?) λds=>i.onI λk=>(DH ds.length k).bind λj=>ds[j]?
noncomputable def AN {α:Type} (xs:List α) (lo hi:Option Int):List α:=
 (xs.drop (lo.elim 0 (clipAt xs.length))).take (hi.elim xs.length (clipAt xs.length)-lo.elim 0 (clipAt xs.length))
noncomputable def A8 (o:D) (lo hi:Option Int):Option D:=o.sel (λZ=>none) (λs=>some (.str (AN s lo hi))) (λds=>some (.list (AN ds lo hi))) λZ=>none
noncomputable def Db:Option D->Option (Option Int)
 |none=>some none
 |some d=>d.onI λk=>if small k then some (some k) else none
noncomputable def Aj (es:List Expr):Bool:=es.all λe=>match e with| .Starred .. =>false|_=>true
structure CA where
 e:List (Str×NameKind)->List (Str×D)->List (Str×D)->Expr->Option D
 t:List (Str×NameKind)->List (Str×D)->List (Str×D)->Expr->Option Bool
section
variable (Gl:List (Str×D)) (app:D->List D->Option D) (meth:D->Str->List D->Option D) (r:CA)
noncomputable def Dy (names:List (Str×NameKind)) (loc cel:List (Str×D)) (x:Str):Option D:=
 match names.lookup x with
 |some .local=>loc.lookup x
 |some .cell=>cel.lookup x
 |some .globalImplicit=>Gl.lookup x
 |_=>none
noncomputable def Cq:D->Option (List D)
 | .list ds=>some ds
 | .tuple ds=>some ds
 | .str s=>some (s.map λc=>.str [c])
 | .dict ks _=>some (ks.map .str)
 |_=>none
noncomputable def Dz (n:Int):List D:=(List.range n.toNat).map λ(k:Nat)=>.int (k:Int)
noncomputable def Cg (ds:List D):List D:=ds.zipIdx.map λp=>.tuple [.int p.2,p.1]
noncomputable def Qp:Expr->Bool
 | .Name .. | .Call .. | .Subscript .. | .BinOp .. =>true
 |_=>false
noncomputable def Ez:Expr->Bool
 | .Tuple .. =>true
 |_=>false
noncomputable def bD:Value->Nat
 | .type t=>if t="range" then 1 else if t="enumerate" then 2 else if t="reversed" then 3 else 4
 |_=>0
noncomputable def headD:D->Nat
 | .val v=>bD v
 |_=>0
noncomputable def K8:Option D->Nat
 |some d=>headD d
 |none=>0
noncomputable def IM (tgt:Expr) (k:Nat) (d:D):Option (List D):=
 if k=1 then d.onI λn=>if decide (0<=n)&&decide (n<1000000) then some (Dz n) else none
 else if k=2 then d.sel (λZ=>none) (λZ=>none) (λds=>if Ez tgt then some (Cg ds) else none) λds=>if Ez tgt then some (Cg ds) else none
 else if k=3 then d.onL λds=>some ds.reverse
 else none
noncomputable def JT (e:Expr):Option (Str×Expr):=
 (IJ e).bind λq=>(Ey q.1.1).bind λf=>(K7 q.1.2.1).bind λa=>if q.1.2.2.1.isEmpty=true then some (f.1.1,a) else none
noncomputable def Bu (names:List (Str×NameKind)) (loc cel:List (Str×D)) (tgt e:Expr):Option (List D):=
 if Qp e then
  match JT e with
  |some (f,a)=>if K8 (Dy Gl names loc cel f)=0 then (r.e names loc cel e).bind Cq
   else if Aj [a]&&!(f=="__debug__") then (r.e names loc cel a).bind (IM tgt (K8 (Dy Gl names loc cel f))) else none
  |none=>(r.e names loc cel e).bind Cq
 else none
noncomputable def JU (x:Str) (d:D):List (Str×D)->List (Str×D)
 |[]=>[(x,d)]
 |p::l=>if p.1==x then (x,d)::l else p::JU x d l
noncomputable def AI:List Expr->Option (List Str)
 |[]=>some []
 |t::r=>(Ey t).bind λq=>(AI r).map (q.1.1:: ·)
noncomputable def FS (names:List (Str×NameKind)) (xs:List Str):Bool:=xs.all λx=>names.lookup x==some .local
noncomputable def Hg (names:List (Str×NameKind)) (t:Expr) (d:D) (loc:List (Str×D)):Option (List (Str×D)):=
 match Ey t with
 |some q=>if FS names [q.1.1]&&(loc.lookup q.1.1).isNone then some ((q.1.1,d)::loc) else none
 |none=>(K6 t).bind λq=>(AI q.1.1).bind λxs=>if FS names xs&&(xs.all λx=>(loc.lookup x).isNone)&&decide xs.Nodup then d.onT λds=>if ds.length=xs.length then some (xs.zip ds++loc) else none else none
noncomputable def K9 (names:List (Str×NameKind)) (loc cel:List (Str×D)):List Expr->Option Bool
 |[]=>some true
 |c::cs=>(r.t names loc cel c).bind λb=>if b then K9 names loc cel cs else some false
noncomputable def Cj (outer names:List (Str×NameKind)):List (Str×NameKind):=names.map λp=>if p.2==.free&&outer.lookup p.1==some .cell then (p.1,.cell) else p
noncomputable def Ft (outer names:List (Str×NameKind)):Bool:=names.all λp=>(p.2==.local&&names.lookup p.1==some .local)||p.2==.globalImplicit||(p.2==.free&&outer.lookup p.1==some .cell)
noncomputable def Ep (names:List (Str×NameKind)) (cel:List (Str×D)) (leaf:List (Str×D)->Option (List D)):List Comprehension->List (Str×D)->List D->Option (List D)
 |[],_,_=>none
 |g::gs,loc,items=>if g.is_async=0 then (items.mapM λd=>
  (Hg names g.target d loc).bind λloc'=>(K9 r names loc' cel g.ifs).bind λb=>
   if b then (match gs with
    |[]=>leaf loc'
    |g'::_=>(Bu Gl r names loc' cel g'.target g'.iter).bind λitems'=>Ep names cel leaf gs loc' items')
   else some []).map List.flatten else none
noncomputable def Hh (names:List (Str×NameKind)) (loc cel:List (Str×D)) (op:BoolOp):List Expr->Option D
 |[]=>none
 |x::rest=>match rest with
  |[]=>r.e names loc cel x
  |_::_=>(r.e names loc cel x).bind λd=>(Ay d).bind λb=>
   match op with
   | .And=>if b then Hh names loc cel op rest else some d
   | .Or=>if b then some d else Hh names loc cel op rest
noncomputable def Ui (names:List (Str×NameKind)) (loc cel:List (Str×D)) (op:BoolOp):List Expr->Option Bool
 |[]=>some (op==.And)
 |x::rest=>(r.t names loc cel x).bind λb=>
  match op,b with
  | .And,false=>some false
  | .Or,true=>some true
  |_,_=>Ui names loc cel op rest
noncomputable def IN (names:List (Str×NameKind)) (loc cel:List (Str×D)):Option Expr->Option (Option D)
 |none=>some none
 |some e=>(r.e names loc cel e).map some
noncomputable def FT (names:List (Str×NameKind)) (loc cel:List (Str×D)) (elt:Expr) (g:Comprehension) (gs:List Comprehension) (scope:Scope):Option (List D):=
 if Ft names scope.names&&decide (scope.kind=.function) then
  (Bu Gl r names loc cel g.target g.iter).bind λitems=>
  (Ep Gl r (Cj names scope.names) cel (λloc'=>(r.e (Cj names scope.names) loc' cel elt).map λd=>[d]) (g::gs) [] items).bind λds=>
  if ds.length<=Ap then some ds else none
 else none
noncomputable def B8:Expr->Bool
 | .Call f as ks _=>!(as.isEmpty&&ks.isEmpty&&(match f with| .Name .. =>true|_=>false))
 |_=>true
noncomputable def OP (e:Expr):Bool:=
 ((iS e).bind λq=>(bA q.1.1).bind λZ=>(ME q.1.2.1).bind λc=>(bz c.1.1).bind λi=>if i=1 then some () else none).isSome
noncomputable def bE (d:D):Option D:=d.onI λi=>some (.int (-i))
noncomputable def Qq (d:D):Option D:=d.onL λds=>some (.list ds.reverse)
noncomputable def X3 (names:List (Str×NameKind)) (loc cel:List (Str×D)) (v i:Expr):Option D:=
 match i with
 | .Slice lo hi st _=>(match st with
  |some m=>if OP m&&lo.isNone&&hi.isNone then (r.e names loc cel v).bind Qq else none
  |none=>(r.e names loc cel v).bind λo=>(IN r names loc cel lo).bind λa=>(IN r names loc cel hi).bind λb=>(Db a).bind λa=>(Db b).bind λb=>A8 o a b)
 |i=>(r.e names loc cel v).bind λo=>(r.e names loc cel i).bind λk=>AW o k
noncomputable def IP (names:List (Str×NameKind)) (loc cel:List (Str×D)) (f:Expr) (args:List Expr) (pos:Pos):Option D:=
 match f with
 | .Attribute o name apos=>if Aj args&&decide (args.length<20)&&B8 o&&(apos.endLine==pos.line) then (r.e names loc cel o).bind λo=>(args.mapM (r.e names loc cel)).bind λas=>meth o name as else none
 | .Name _ _=>if Aj args&&decide (args.length<20) then (r.e names loc cel f).bind λf=>(args.mapM (r.e names loc cel)).bind λas=>app f as else none
 |_=>none
noncomputable def EA (names:List (Str×NameKind)) (loc cel:List (Str×D)) (e:Expr):Option D:=
 match e with
 | .Constant c _ _=>JS c
 | .Name x _=>if x=="__debug__" then none else Dy Gl names loc cel x
 | .BinOp l op x _=>(r.e names loc cel l).bind λa=>(r.e names loc cel x).bind λb=>Aq op a b
 | .UnaryOp op x _=>(match op with| .USub=>(r.e names loc cel x).bind bE|_=>none)
 | .BoolOp op vs _=>Hh r names loc cel op vs
 | .IfExp t b o _=>(r.t names loc cel t).bind λc=>if c then r.e names loc cel b else r.e names loc cel o
 | .List es _=>if Aj es&&decide (es.length<=100) then (es.mapM (r.e names loc cel)).map .list else none
 | .Tuple es _ _=>if Aj es&&decide (es.length<=100) then (es.mapM (r.e names loc cel)).map .tuple else none
 | .Subscript v i _=>X3 r names loc cel v i
 | .Compare l ops xs _=>(match ops,xs with
  |[op],[x]=>if behindInMarks op x then none else (r.e names loc cel l).bind λa=>(r.e names loc cel x).bind λb=>(A0 op a b).map .bool
  |_,_=>none)
 | .Call f args ks pos=>if ks.isEmpty then IP app meth r names loc cel f args pos else none
 | .ListComp elt gens scope _=>(match gens with|g::gs=>(FT Gl r names loc cel elt g gs scope).map .list|[]=>none)
 |_=>none
noncomputable def NY (names:List (Str×NameKind)) (loc cel:List (Str×D)) (e:Expr):Option Bool:=
 match e with
 | .UnaryOp op x _=>(match op with| .Not=>(r.t names loc cel x).map not|_=>none)
 | .BoolOp op vs _=>Ui r names loc cel op vs
 | .Compare l ops xs _=>(match ops,xs with
  |[op],[x]=>if behindInMarks op x then none else (r.e names loc cel l).bind λa=>(r.e names loc cel x).bind λb=>A0 op a b
  |_,_=>none)
 | .Name .. =>(r.e names loc cel e).bind Ay
 | .Call .. =>(r.e names loc cel e).bind Ay
 | .Subscript .. =>(r.e names loc cel e).bind Ay
 |_=>none
noncomputable def bF:Expr->Bool
 | .Call f _ _ _=>(match f with
  | .Name g _=>g=="map"
  |_=>false)
 |_=>false
noncomputable def eI:Expr->Bool
 | .Call f as _ _=>(match f with
  | .Attribute _ m _=>m=="replace"
  |_=>as.any bF)
 | .JoinedStr .. =>true
 |_=>false
noncomputable def bG (X:CA->List (Str×NameKind)->List (Str×D)->List (Str×D)->Expr->Option D) (r:CA) (names:List (Str×NameKind)) (loc cel:List (Str×D)) (e:Expr):Option D:=
 if eI e then X r names loc cel e else EA Gl app meth r names loc cel e
noncomputable def Dd (X:CA->List (Str×NameKind)->List (Str×D)->List (Str×D)->Expr->Option D):Nat->CA
 |0=>⟨λZ Z Z Z=>none,λZ Z Z Z=>none⟩
 |n+1=>⟨bG Gl app meth X (Dd X n),NY (Dd X n)⟩
end
inductive Fl where
 |next|brk|cont
 |ret (d:D)
structure Sg where
 loc:List (Str×D)
 own:List (Str×List D)
 cel:List (Str×D)
noncomputable def Sg.full (σ:Sg):List (Str×D):=σ.own.map (λp=>(p.1,D.list p.2))++σ.loc
noncomputable def Sg.frz (σ:Sg):Sg:=⟨σ.full,[],σ.cel⟩
section
variable (Gl:List (Str×D)) (r:CA) (names:List (Str×NameKind)) (owned:List Str)
noncomputable def Er (xs:List Str):Nat->Expr->Bool
 |0,_=>false
 |n+1,e=>match e with
  | .Name x _=>xs.contains x
  | .BinOp a _ b _=>Er xs n a||Er xs n b
  | .Subscript a b _=>Er xs n a||Er xs n b
  | .Call f as _ _=>Er xs n f||as.any (Er xs n)
  | .Attribute o _ _=>Er xs n o
  | .List es _=>es.any (Er xs n)
  | .Tuple es _ _=>es.any (Er xs n)
  | .BoolOp _ es _=>es.any (Er xs n)
  |_=>false
noncomputable def K1 (σ:Sg) (e:Expr):Option (D×Sg):=
 if Er (σ.own.map (·.1)) 9 e then (r.e names σ.full σ.cel e).map λd=>(d,if d.scalar then σ else σ.frz)
 else (r.e names σ.loc σ.cel e).map λd=>(d,σ)
noncomputable def B2 (x:Str) (ds:List D):List (Str×List D)->List (Str×List D)
 |[]=>[]
 |p::l=>if p.1==x then (x,ds)::l else p::B2 x ds l
noncomputable def put (x:Str) (d:D) (σ:Sg):Option Sg:=
 if (σ.own.lookup x).isSome||owned.contains x then none else
 match names.lookup x with
 |some .local=>some {σ with loc:=JU x d σ.loc}
 |some .cell=>some {σ with cel:=JU x d σ.cel}
 |_=>none
noncomputable def EB:List Str->List D->Sg->Option Sg
 |[],ds,σ=>(match ds with|[]=>some σ|_::_=>none)
 |x::xs,ds,σ=>(match ds with|[]=>none|d::ds=>(put names owned x d σ).bind (EB xs ds))
noncomputable def EC (x:Str) (ds:List D) (σ:Sg):Option Sg:=
 if (σ.own.lookup x).isNone&&(σ.loc.lookup x).isNone&&names.lookup x==some .local then some {σ with own:=(x,ds)::σ.own} else none
noncomputable def Ir (bind:D->Sg->Option Sg) (body:Sg->Option (Fl×Sg)) (orelse:Sg->Option (Fl×Sg)):List D->Sg->Option (Fl×Sg)
 |[],σ=>orelse σ
 |d::ds,σ=>(bind d σ).bind λσ1=>(body σ1).bind λp=>match p.1 with
  | .next=>Ir bind body orelse ds p.2
  | .cont=>Ir bind body orelse ds p.2
  | .brk=>some (.next,p.2)
  | .ret v=>some (.ret v,p.2)
noncomputable def ED (test:Sg->Option Bool) (body:Sg->Option (Fl×Sg)) (orelse:Sg->Option (Fl×Sg)):Nat->Sg->Option (Fl×Sg)
 |0,_=>none
 |n+1,σ=>(test σ).bind λb=>if b then (body σ).bind λp=>match p.1 with
   | .next=>ED test body orelse n p.2
   | .cont=>ED test body orelse n p.2
   | .brk=>some (.next,p.2)
   | .ret v=>some (.ret v,p.2)
  else orelse σ
noncomputable def AO (t:Expr) (d:D) (σ:Sg):Option Sg:=
 match Ey t with
 |some q=>put names owned q.1.1 d σ
 |none=>(K6 t).bind λq=>(AI q.1.1).bind λxs=>d.onT λds=>EB names owned xs ds σ
noncomputable def FU (σ:Sg) (x:Str) (v:Expr):Option (Bool×List D×D):=
 if owned.contains x then (bw v).bind λq=>if Aj q.1.1&&decide (q.1.1.length<=100) then (q.1.1.mapM (r.e names σ.loc σ.cel)).map λds=>(true,ds,.none) else none
 else (r.e names σ.loc σ.cel v).map λd=>(false,[],d)
noncomputable def De (σ:Sg):List Str->List Expr->Option (List (Bool×List D×D))
 |[],vs=>(match vs with|[]=>some []|_::_=>none)
 |x::xs,vs=>(match vs with|[]=>none|v::vs=>(FU r names owned σ x v).bind λa=>(De σ xs vs).map (a:: ·))
noncomputable def EE:List Str->List (Bool×List D×D)->Sg->Option Sg
 |[],as,σ=>(match as with|[]=>some σ|_::_=>none)
 |x::xs,as,σ=>(match as with|[]=>none|a::as=>(if a.1 then EC names x a.2.1 σ else put names owned x a.2.2 σ).bind (EE xs as))
noncomputable def B0:Expr->Bool
 | .ListComp .. | .SetComp .. | .DictComp .. =>false
 |_=>true
noncomputable def Is (op:Operator) (a b:D):Option D:=
 match op with
 | .Add=>a.sel (λx=>b.onI λy=>some (.int (x+y))) (λx=>b.onS λy=>if x.length+y.length<=Ap then some (.str (x++y)) else none) (λZ=>none) λZ=>none
 | .Sub=>a.onI λx=>b.onI λy=>some (.int (x-y))
 |_=>none
noncomputable def X4 (ts vs:List Expr) (xs:List Str):Bool:=
 (ts.length==2||ts.length==3)&&vs.length==ts.length&&Aj vs&&
 ((ts.filterMap λ| .Name id pos=>if names.lookup id==some .local&&pos.line==((ts.head?.map (·.pos.line)).getD 0) then some id else none|_=>none)==xs)&&
 xs.length==ts.length&&xs.eraseDups.length==xs.length&&!(vs.all (foldedForSure 8))&&!(vs.all (constantsAlone 8))
noncomputable def JV (σ:Sg) (v:Expr):Option (Fl×Sg):=
 (IJ v).bind λq=>if q.1.2.2.1.isEmpty then (Qn q.1.1).bind λa=>(Ey a.1.1).bind λx=>
  if (a.1.2.2.endLine==q.1.2.2.2.line)&&!(x.1.1=="__debug__")&&names.lookup x.1.1==some .local then (match q.1.2.1 with
   |[]=>if a.1.2.1=="pop" then (σ.own.lookup x.1.1).bind λds=>ds.getLast?.bind λd=>if d.scalar then some (.next,{σ with own:=B2 x.1.1 ds.dropLast σ.own}) else none else none
   |e::es=>if es.isEmpty&&(a.1.2.1=="append"&&Aj [e]) then
     (σ.own.lookup x.1.1).bind λds=>(r.e names σ.loc σ.cel e).bind λd=>if ds.length<Ap then some (.next,{σ with own:=B2 x.1.1 (ds++[d]) σ.own}) else none
    else none) else none else none
noncomputable def MF (x:Str) (p:D×Sg):Option (Fl×Sg):=(put names owned x p.1 p.2).map λσ=>(.next,σ)
noncomputable def Hi (xs:List Str) (p:D×Sg):Option (Fl×Sg):=
 match p.1 with
 | .tuple ds=>(EB names owned xs ds p.2).map λσ=>(.next,σ)
 |_=>none
noncomputable def OQ (σ:Sg) (x:Str) (v:Expr):Option (Fl×Sg):=
 match v with
 | .List es lp=>
  if owned.contains x then (if Aj es&&decide (es.length<=100) then (es.mapM (r.e names σ.loc σ.cel)).bind λds=>(EC names x ds σ).map λσ=>(.next,σ) else none)
  else (K1 r names σ (.List es lp)).bind (MF names owned x)
 | .ListComp elt gens scope _=>(match gens with
  |g::gs=>(FT Gl r names σ.loc σ.cel elt g gs scope).bind λds=>(put names owned x (.list ds) σ).map λσ=>(.next,σ)
  |[]=>none)
 |v=>if B0 v then (K1 r names σ v).bind (MF names owned x) else none
noncomputable def OR (σ:Sg) (ts:List Expr) (xs:List Str) (v:Expr):Option (Fl×Sg):=
 match K6 v with
 |some q=>if X4 names ts q.1.1 xs then (De r names owned σ xs q.1.1).bind λas=>(EE names owned xs.reverse as.reverse σ).map λσ=>(.next,σ) else none
 |none=>if B0 v then (K1 r names σ v).bind (Hi names owned xs) else none
noncomputable def CV (ex:List Stmt->Sg->Option (Fl×Sg)) (fuel:Nat) (st:Stmt) (σ:Sg):Option (Fl×Sg):=
 match st with
 | .Pass _=>some (.next,σ)
 | .Break _=>some (.brk,σ)
 | .Continue _=>some (.cont,σ)
 | .Return v _=>(match v with|some e=>(K1 r names σ e).map λp=>(.ret p.1,p.2)|none=>none)
 | .Expr v _=>JV r names σ v
 | .Assign ts v _=>(match ts with
  |[t]=>(match t with
   | .Name x _=>OQ Gl r names owned σ x v
   | .Tuple ts _ _=>(AI ts).bind λxs=>OR r names owned σ ts xs v
   |_=>none)
  |_=>none)
 | .AugAssign t op v _=>(match t with
  | .Name x _=>(Dy Gl names σ.loc σ.cel x).bind λold=>if old.scalar&&names.lookup x==some .local then (K1 r names σ v).bind λp=>(Is op old p.1).bind λd=>if d.scalar then (put names owned x d p.2).map λσ=>(.next,σ) else none else none
  |_=>none)
 | .If t body orelse _=>(r.t names σ.full σ.cel t).bind λb=>if b then ex body σ else ex orelse σ
 | .For t it body orelse _=>(Bu Gl r names σ.loc σ.cel t it).bind λds=>Ir (AO names owned t) (ex body) (ex orelse) ds σ
 | .While t body orelse _=>ED (λσ=>r.t names σ.full σ.cel t) (ex body) (ex orelse) fuel σ
 | .Try body hs orelse fin _=>if !hs.isEmpty&&orelse.isEmpty&&fin.isEmpty then ex body σ else none
 |_=>none
noncomputable def iu:Stmt->Bool
 | .Assign _ v _=>!B0 v&&(match v with| .ListComp .. =>false|_=>true)
 |_=>false
noncomputable def IQ (XS:Stmt->Sg->Option (Fl×Sg)) (ex:List Stmt->Sg->Option (Fl×Sg)) (fuel:Nat) (st:Stmt) (σ:Sg):Option (Fl×Sg):=
 if iu st then XS st σ else CV Gl r names owned ex fuel st σ
noncomputable def ZF (st:Stmt->Sg->Option (Fl×Sg)):List Stmt->Sg->Option (Fl×Sg)
 |[],σ=>some (.next,σ)
 |s::rest,σ=>(st s σ).bind λp=>match p.1 with
  | .next=>ZF st rest p.2
  |_=>some p
noncomputable def PX (XS:Stmt->Sg->Option (Fl×Sg)) (fuel:Nat):Nat->List Stmt->Sg->Option (Fl×Sg)
 |0=>λZ Z=>none
 |n+1=>ZF (IQ Gl r names owned XS (PX XS fuel n) fuel)
end
end Mine
set_option backward.match.sparseCases true
namespace Mine
open PySem PySem.Calls PyProof.Rows PySem.W
noncomputable def Gv (Pa:Params) (N:Az) (s:Shared) (d:D):Value->Shared->Prop:=λv s'=>∃N',A1 N s N' s'/\Ax Pa N' v d
noncomputable def eJ (Pa:Params) (N:Az) (s:Shared) (ds:List D):List Value->Shared->Prop:=λvs s'=>∃N',A1 N s N' s'/\Ar Pa N' vs ds
noncomputable def Gb (N:Az) (s:Shared) (b:Bool):Bool->Shared->Prop:=λb' s'=>∃N',A1 N s N' s'/\b'=b
noncomputable def AG (k:Nat) (A:Around):Prop:=A.handled=none/\A.depth+k<recursionLimit/\A.units+100+8*k<cLine
section
variable {prog:Program} {w:World} {A:Around} {E:Value->Shared->Prop} {s:Shared} {Pa:Params} {N:Az}
theorem AG.units {k:Nat} (r:AG k A):A.units<cLine:=by have:=r.2.2;lia
theorem AG.le {k l:Nat} (r:AG k A) (h:l<=k):AG l A:=⟨r.1,by have:=r.2.1;lia,by have:=r.2.2;lia⟩
theorem AG.in1 {k:Nat} (r:AG (k+1) A):AG k A.in1:=⟨r.1,by show A.depth+k<_;have:=r.2.1;lia,by show A.units+1+100+8*k<_;have:=r.2.2;lia⟩
theorem Dg (h:Cn N s) (x:List Nat) (hx:x.length<=Ap) (tk tk':Nat) (hk:s.toks<=tk':=by trivial):Gv Pa N s (.str x) (.str (S x) tk) {s with toks:=tk'}:=⟨N,A1.toks h _ hk,.str _ _ hx⟩
theorem B3 (h:Cn N s) (i:Int) (tk tk':Nat) (hk:s.toks<=tk':=by trivial):Gv Pa N s (.int i) (.int i tk) {s with toks:=tk'}:=⟨N,A1.toks h _ hk,.int _ _⟩
theorem JW (h:Cn N s) (b:Bool):Gv Pa N s (.bool b) (.bool b) s:=⟨N,A1.rfl' h,.bool _⟩
theorem Ce {v:Value} {d:D} (h:Cn N s) (r:Ax Pa N v d):Gv Pa N s d v s:=⟨N,A1.rfl' h,r⟩
theorem Ba (x:List Nat):(S x).length=x.length:=by simp[Str.length]
theorem IR (x y:List Nat):S x++S y=S (x++y):=by
 show Str.append _ _=_
 simp[Str.append]
noncomputable def bH (P:Params) (N:Az) (v:Value):D->Prop
 | .none=>v=.none
 | .bool b=>v=.bool b
 | .int i=>∃t,v=.int i t
 | .str s=>∃t,v=.str (S s) t/\s.length<=Ap
 | .bytes b=>∃t,v=.bytes b t/\b.size<=Ap
 | .tuple ds=>∃a vs n,v=.ref a/\(a,Bs vs n)∈N/\vs.length<=Ap/\Ar P N vs ds
 | .list ds=>∃a vs n,v=.ref a/\(a,AZ vs n)∈N/\vs.length<=Ap/\Ar P N vs ds
 | .dict ks ds=>∃a es n,v=.ref a/\(a,({cls:=.type "dict",data:=.dict es.toArray n}:Obj))∈N/\es.length<=Ap/\ks.Nodup/\(∀k∈ks,k.length<=Ap)/\(a==sysModules)=false/\Ip P es ks/\Ar P N (es.map (·.val)) ds
 | .val u=>v=u
 | .obj o=>∃a,v=.ref a/\(a,o)∈N
 | .mat s b e=>∃a ta t n fs,v=.ref a/\(a,({cls:=.type "re.Match",data:=.fields fs}:Obj))∈N/\fs[0]?=some (.str (S s) t)/\fs[5]?=some (.ref ta)/\(ta,Bs [.int b 0,.int e 0] n)∈N/\s.length<=Ap
theorem Ax.inv {v:Value} {d:D} (h:Ax Pa N v d):bH Pa N v d:=by
 cases h with
 |none=>exact rfl
 |bool b=>exact rfl
 |int i t=>exact ⟨_,rfl⟩
 |str s t h=>exact ⟨_,rfl,h⟩
 |bytes b t h=>exact ⟨_,rfl,h⟩
 |tuple m l r=>exact ⟨_,_,_,rfl,m,l,r⟩
 |list m l r=>exact ⟨_,_,_,rfl,m,l,r⟩
 |dict m l q z s k r=>exact ⟨_,_,_,rfl,m,l,q,z,s,k,r⟩
 |val=>exact rfl
 |obj m=>exact ⟨_,rfl,m⟩
 |mat a b c e l=>exact ⟨_,_,_,_,_,rfl,a,b,c,e,l⟩
theorem Ax.listOf {v:Value} {ds:List D} (r:Ax Pa N v (.list ds)):∃a vs n,v=.ref a/\(a,AZ vs n)∈N/\vs.length<=Ap/\Ar Pa N vs ds:=r.inv
theorem Ax.tupleOf {v:Value} {ds:List D} (r:Ax Pa N v (.tuple ds)):∃a vs n,v=.ref a/\(a,Bs vs n)∈N/\vs.length<=Ap/\Ar Pa N vs ds:=r.inv
theorem Ax.strOf {v:Value} {x:List Nat} (r:Ax Pa N v (.str x)):∃t,v=.str (S x) t/\x.length<=Ap:=r.inv
theorem Ax.intOf {v:Value} {i:Int} (r:Ax Pa N v (.int i)):∃t,v=.int i t:=r.inv
theorem Ax.boolOf {v:Value} {b:Bool} (r:Ax Pa N v (.bool b)):v=.bool b:=r.inv
theorem Ax.valOf {v u:Value} (r:Ax Pa N v (.val u)):v=u:=r.inv
theorem Ax.sel {α:Type} {M:Value->Prop} {d:D} {fi:Int->Option α} {fs:List Nat->Option α} {fl ft:List D->Option α} {r:α} (c:d.sel fi fs fl ft=some r)
  (ki:∀i t,fi i=some r->M (.int i t)) (ks:∀x t,x.length<=Ap->fs x=some r->M (.str (S x) t))
  (kl:∀ds a vs n,(a,AZ vs n)∈N->vs.length<=Ap->Ar Pa N vs ds->fl ds=some r->M (.ref a))
  (kt:∀ds a vs n,(a,Bs vs n)∈N->vs.length<=Ap->Ar Pa N vs ds->ft ds=some r->M (.ref a)) (v:Value) (h:Ax Pa N v d):M v:=by
 cases h with
 |int i t=>exact ki _ _ c
 |str x t h=>exact ks _ _ h c
 |list m l r=>exact kl _ _ _ _ m l r c
 |tuple m l r=>exact kt _ _ _ _ m l r c
 |_=>exact Aa c
theorem Ax.onI {α:Type} {M:Value->Prop} {d:D} {f:Int->Option α} {r:α} (c:d.onI f=some r) (k:∀i t,f i=some r->M (.int i t)) (v:Value) (h:Ax Pa N v d):M v:=
 Ax.sel c k (λZ Z Z c=>Aa c) (λZ Z Z Z Z Z Z c=>Aa c) (λZ Z Z Z Z Z Z c=>Aa c) v h
theorem Ax.onS {α:Type} {M:Value->Prop} {d:D} {f:List Nat->Option α} {r:α} (c:d.onS f=some r) (k:∀x t,x.length<=Ap->f x=some r->M (.str (S x) t)) (v:Value) (h:Ax Pa N v d):M v:=
 Ax.sel c (λZ Z c=>Aa c) k (λZ Z Z Z Z Z Z c=>Aa c) (λZ Z Z Z Z Z Z c=>Aa c) v h
theorem Ax.onL {α:Type} {M:Value->Prop} {d:D} {f:List D->Option α} {r:α} (c:d.onL f=some r) (k:∀ds a vs n,(a,AZ vs n)∈N->vs.length<=Ap->Ar Pa N vs ds->f ds=some r->M (.ref a)) (v:Value) (h:Ax Pa N v d):M v:=
 Ax.sel c (λZ Z c=>Aa c) (λZ Z Z c=>Aa c) k (λZ Z Z Z Z Z Z c=>Aa c) v h
theorem Ax.onT {α:Type} {M:Value->Prop} {d:D} {f:List D->Option α} {r:α} (c:d.onT f=some r) (k:∀ds a vs n,(a,Bs vs n)∈N->vs.length<=Ap->Ar Pa N vs ds->f ds=some r->M (.ref a)) (v:Value) (h:Ax Pa N v d):M v:=
 Ax.sel c (λZ Z c=>Aa c) (λZ Z Z c=>Aa c) (λZ Z Z Z Z Z Z c=>Aa c) k v h
theorem iv {t:Sem Value} {d:D} {Q:Value->Shared->Prop} (h:wpAny (model prog w) A t (Gv Pa N s d) E s) (k:∀v s' N',A1 N s N' s'->Ax Pa N' v d->Q v s'):wpAny (model prog w) A t Q E s:=
 wpAny_mono h (λv s' h=>Mine.S0 h λN' x r=>k v s' N' x r) λZ Z e=>e
theorem Uj {t:Sem (List Value)} {d:List D} {Q:List Value->Shared->Prop} (h:wpAny (model prog w) A t (eJ Pa N s d) E s) (k:∀v s' N',A1 N s N' s'->Ar Pa N' v d->Q v s'):wpAny (model prog w) A t Q E s:=
 wpAny_mono h (λv s' h=>Mine.S0 h λN' x r=>k v s' N' x r) λZ Z e=>e
theorem eK {t:Sem Bool} {b:Bool} {Q:Bool->Shared->Prop} (h:wpAny (model prog w) A t (Gb N s b) E s) (k:∀s' N',A1 N s N' s'->Q b s'):wpAny (model prog w) A t Q E s:=
 wpAny_mono h (λv s' h=>Mine.S0 h λN' x r=>r▸k s' N' x) λZ Z e=>e
theorem AM {a:Addr} {vs:List Value} {n:Nat} (h:Cn N s) (m:(a,AZ vs n)∈N):s.heap.IsList a vs.toArray:=⟨_,h _ m,rfl,n,rfl⟩
theorem JX {a:Addr} {vs:List Value} {n:Nat} (h:Cn N s) (m:(a,Bs vs n)∈N):IsTup s.heap a vs.toArray:=⟨_,h _ m,rfl,n,rfl⟩
theorem Go {a:Addr} {vs:List Value} {n:Nat} (h:Cn N s) (m:(a,Bs vs n)∈N):s.heap.IsTuple a vs.toArray:=⟨_,h _ m,rfl,n,rfl⟩
set_option tactic.hygienic true
theorem La {v:Value} {d:D} {b:Bool} (h:Cn N s) (r:Ax Pa N v d) (e:Ay d=some b):wpAny (model prog w) A (truthy v) (Gb N s b) E s:=by
 cases r with
 |none=>(replace e:=Option.some.inj e;subst e);exact truthy_none ⟨N,A1.rfl' h,rfl⟩
 |bool c=>(replace e:=Option.some.inj e;subst e);exact wpAny_truthy_bool ⟨N,A1.rfl' h,rfl⟩
 |int i t=>(replace e:=Option.some.inj e;subst e);exact P.truthy_int ⟨N,A1.rfl' h,rfl⟩
 |str x t hx=>
  (replace e:=Option.some.inj e;subst e)
  refine P.truthy_str (by rw[Ba];unfold Ap at hx;lia) ⟨N,A1.toks h _,?_⟩
  rw[Ba]
  cases x with
  |nil=>rfl
  |cons c x=>simp;lia
 |bytes x t hx=>
  (replace e:=Option.some.inj e;subst e)
  refine truthy_bytes (by unfold Ap at hx;exact Nat.le_trans (by assumption) (by decide)) ⟨N,A1.toks h _,?_⟩
  rw[Bool.eq_iff_iff];simp
 |tuple m l r=>
  (replace e:=Option.some.inj e;subst e)
  refine truthy_tuple (JX h m) (by unfold Ap at l;simp;lia) ⟨N,A1.toks h _,?_⟩
  have:=r.length
  rename_i vs n ds
  rcases vs with _|_<;>rcases ds with _|_<;>simp_all
 |list m l r=>
  (replace e:=Option.some.inj e;subst e)
  refine wpAny_truthy_list (AM h m) (by unfold Ap at l;simp;lia) ⟨N,A1.toks h _,?_⟩
  have:=r.length
  rename_i vs n ds
  rcases vs with _|_<;>rcases ds with _|_<;>simp_all
 |dict=>exact Aa e
 |val=>exact Aa e
 |obj=>exact Aa e
 |mat=>exact Aa e
set_option tactic.hygienic false
end
end Mine
namespace Mine
open PySem PySem.Calls PyProof.Rows PySem.W PySem.SeqAt PySem.MeetsSeq PySem.MeetsSeq2 PySem.MeetsSeq3 PySem.SeqRoads2
section
variable {prog:Program} {w:World} {A:Around} {E:Value->Shared->Prop} {s:Shared} {Pa:Params} {N:Az}
set_option tactic.hygienic true
theorem Ar.strs {vs:List Value} {ds:List D} {x:List (List Nat)} (h:Ar Pa N vs ds) (e:A7 ds=some x):∀j (h1:j<vs.length),∃t,vs[j]=.str (S (x.getD j [])) t:=by
 induction vs generalizing ds x with
 |nil=>intro j h1;exact absurd h1 (Nat.not_lt_zero _)
 |cons v vs ih=>
  cases h with
  |cons h r=>
   rename_i d ds
   unfold A7 at e
   rw[List.mapM_cons] at e
   revert e
   refine Mine.Br λc q0 e=>?_
   revert e
   refine Mine.Br λy q e=>?_
   (replace e:=Option.some.inj e;subst e)
   intro j h1
   cases j with
   |zero=>exact Ax.onS (M:=λv=>∃t,v=.str (S c) t) q0 (λx t Z e=>⟨t,by (replace e:=Option.some.inj e;subst e);rfl⟩) v h
   |succ j=>exact ih r q j (Nat.lt_of_succ_lt_succ h1)
set_option tactic.hygienic false
theorem Hj {ds:List D} {x:List (List Nat)} (e:A7 ds=some x):x.length=ds.length:=by
 unfold A7 at e
 induction ds generalizing x with
 |nil=>(replace e:=Option.some.inj e;subst e);rfl
 |cons d ds ih=>
  rw[List.mapM_cons] at e
  revert e
  refine Mine.Br λc q e=>?_
  revert e
  refine Mine.Br λy q' e=>?_
  (replace e:=Option.some.inj e;subst e)
  exact congrArg (· +1) (ih q')
theorem Qr {α:Type} [DecidableEq α] (d:α):∀ (x y:List α),x.length=y.length->(List.range x.length).all (λj=>decide (x.getD j d=y.getD j d))=decide (x=y):=by
 intro x y e
 rw[Bool.eq_iff_iff,List.all_eq_true]
 simp only[List.mem_range,decide_eq_true_eq]
 constructor
 ·intro h
  apply List.ext_getElem e
  intro i h1 h2
  have:=h i h1
  simpa [List.getD_eq_getElem?_getD,List.getElem?_eq_getElem h1,List.getElem?_eq_getElem h2] using this
 ·rintro rfl i _;rfl
theorem CO (x:List Nat):(S x).cps.toList=x:=by simp
theorem Lb {A:Around} {s:Shared} (x y:List Nat) (t u:Tok):EqAt A s (.str (S x) t) (.str (S y) u) (decide (x=y)):=λprog w E Q hq=>by
 refine (PySem.SeqRoads2.EqGives.str (S x) (S y) t u) prog w A E s Q ?_
 rw[CO,CO]
 have e:(x==y)=decide (x=y):=by rw[Bool.eq_iff_iff,beq_iff_eq,decide_eq_true_eq]
 rw[e];exact hq
theorem OS {a b:Addr} {vs ws:List Value} {ds es:List D} {n m:Nat} {r:Bool} (R:AG 0 A) (h:Cn N s) (ma:(a,AZ vs n)∈N) (mb:(b,AZ ws m)∈N) (ra:Ar Pa N vs ds) (rb:Ar Pa N ws es)
  (e:Fs ds es=some r) {Q:Value->Shared->Prop}:
  (Q (.bool r) s->wpAny (model prog w) A (compareOp .Eq (.ref a) (.ref b)) Q E s)/\(Q (.bool (!r)) s->wpAny (model prog w) A (compareOp .NotEq (.ref a) (.ref b)) Q E s):=by
 unfold Fs at e
 have la:=ra.length
 have lb:=rb.length
 by_cases hl:ds.length=es.length
 ·rw[if_pos hl] at e
  cases q1:A7 ds with
  |none=>rw[q1] at e;exact Aa e
  |some x=>
   cases q2:A7 es with
   |none=>rw[q1,q2] at e;exact Aa e
   |some y=>
    rw[q1,q2] at e
    (replace e:=Option.some.inj e;subst e)
    have lx:=Hj q1
    have ly:=Hj q2
    have E1:∀j (h1:j<vs.toArray.size) (h2:j<ws.toArray.size),EqAt A.in1 s vs.toArray[j] ws.toArray[j] (decide (x.getD j []=y.getD j [])):=λj h1 h2=>by
     obtain ⟨t,e1⟩:=ra.strs q1 j (by simpa using h1)
     obtain ⟨u,e2⟩:=rb.strs q2 j (by simpa using h2)
     simp only[List.getElem_toArray,e1,e2]
     exact Lb _ _ _ _
    have E2:(List.range vs.toArray.size).all (λj=>decide (x.getD j []=y.getD j []))=decide (x=y):=by
     rw[show vs.toArray.size=x.length by simp;lia]
     exact Qr [] x y (by lia)
    refine ⟨λhq=>eq_listAt (AM h ma) (AM h mb) (by simp;lia) R.units E1 (by rw[E2];exact hq),
     λhq=>?_⟩
    exact RcNeAt.lists (AM h ma) (AM h mb) (by simp;lia) R.units E1 prog w E Q (by rw[E2];exact hq)
 ·rw[if_neg hl] at e
  (replace e:=Option.some.inj e;subst e)
  have hz:(vs.toArray.size !=ws.toArray.size)=true:=by simp;lia
  exact ⟨λhq=>eq_list_lengthsAt (AM h ma) (AM h mb) hz R.units hq,λhq=>RcNeAt.lists_lengths (AM h ma) (AM h mb) hz R.units prog w E Q hq⟩
theorem Qs {op:CmpOp} {v u:Value} {d e:D} {b:Bool} (R:AG 0 A) (h:Cn N s) (rv:Ax Pa N v d) (ru:Ax Pa N u e) (c:A0 op d e=some b) {Q:Value->Shared->Prop} (hq:Q (.bool b) s):
  wpAny (model prog w) A (compareOp op v u) Q E s:=by
 have EQ:∀r,eH d e=some r->(Q (.bool r) s->wpAny (model prog w) A (compareOp .Eq v u) Q E s)/\(Q (.bool (!r)) s->wpAny (model prog w) A (compareOp .NotEq v u) Q E s):=λr c=>by
  revert v;show ∀v:Value,_;refine Ax.sel c ?_ ?_ ?_ ?_
  ·intro x t c;revert u;show ∀u:Value,_;refine Ax.onI c λy t' c=>?_
   (replace c:=Option.some.inj c;subst c);exact ⟨λhq=>P.eq_int hq,λhq=>P.ne_int hq⟩
  ·intro x t hx c;revert u;show ∀u:Value,_;refine Ax.onS c λy t' hy c=>?_
   (replace c:=Option.some.inj c;subst c);exact ⟨λhq=>P.eq_str (by rw[CO,CO];exact hq),λhq=>P.ne_str (by rw[CO,CO];exact hq)⟩
  ·intro _ a vs n ma la ra c;revert u;show ∀u:Value,_;refine Ax.onL c λ_ b ws m mb lb rb c=>?_
   exact OS R h ma mb ra rb c
  ·intro _ _ _ _ _ _ _ c;exact Aa c
 cases op with
 |Eq=>exact (EQ b c).1 hq
 |NotEq=>
  refine Mine.om c λr q c=>?_
  subst c
  exact (EQ r q).2 hq
 |Lt=>
  clear EQ;revert v;show ∀v:Value,_;refine Ax.onI c λx t c=>?_
  revert u;show ∀u:Value,_;refine Ax.onI c λy t' c=>?_
  (replace c:=Option.some.inj c;subst c);exact P.lt_int hq
 |Gt=>
  clear EQ;revert v;show ∀v:Value,_;refine Ax.onI c λx t c=>?_
  revert u;show ∀u:Value,_;refine Ax.onI c λy t' c=>?_
  (replace c:=Option.some.inj c;subst c);exact P.gt_int hq
 |_=>exact Aa c
end
end Mine
namespace Mine
open PySem PySem.Calls PyProof.Rows PySem.W PySem.SeqAt PySem.MeetsSeq PySem.MeetsSeq2 PySem.MeetsSeq3
section
variable {prog:Program} {w:World} {A:Around} {E:Value->Shared->Prop} {s:Shared} {Pa:Params} {N:Az}
theorem Bb {n:Nat} (h:n<=Ap):n<=sizeLine:=by unfold Ap at h;rw[sizeLine_eq];exact Nat.le_trans (by assumption) (by decide)
theorem IS {y:Int} (h:small y=true): -(2^63)<=y/\y<2^63:=by
 unfold small at h
 simpa using h
theorem Gp {y:Int} (h:small y=true):y.natAbs.log2<64:=by
 have:=IS h
 by_cases h0:y.natAbs=0
 ·rw[h0];decide
 ·exact (Nat.log2_lt h0).mpr (by lia)
theorem Uk {x y:Int} (h:small y=true):IntMulOk x y:=by
 have hb:Builtin.Int.intBits y<=64:=by
  unfold Builtin.Int.intBits
  split
  ·lia
  ·have:=Gp h;exact Nat.le_trans (by assumption) (by decide)
 unfold IntMulOk
 have:decide (Builtin.Int.intBits y>shortFactorBits)=false:=by
  unfold shortFactorBits
  simp;exact Nat.le_trans (by assumption) (by decide)
 rw[this];simp
theorem Ul {x y:Int} (h:small x=true):IntMulOk x y:=by
 have hb:Builtin.Int.intBits x<=64:=by
  unfold Builtin.Int.intBits
  split
  ·lia
  ·have:=Gp h;exact Nat.le_trans (by assumption) (by decide)
 unfold IntMulOk
 have:decide (Builtin.Int.intBits x>shortFactorBits)=false:=by
  unfold shortFactorBits
  simp;exact Nat.le_trans (by assumption) (by decide)
 rw[this];simp
theorem Dh {vs:List Value} {ds:List D} {o:Obj} (h:Cn N s) (ho:∃n,o=AZ vs n) (hl:vs.length<=Ap) (r:Ar Pa N vs ds) (tk:Nat) (hk:s.toks<=tk:=by trivial):
  Gv Pa N s (.list ds) (.ref s.heap.objs.size) {s with heap:=s.heap.push o,toks:=tk}:=by
 obtain ⟨n,rfl⟩:=ho
 have x:=A1.push h (AZ vs n) tk rfl hk
 exact ⟨_,x,.list (.head _) hl (x.rels r)⟩
theorem X5 {v u:Value} {d e r:D} (h:Cn N s) (rv:Ax Pa N v d) (ru:Ax Pa N u e) (c:bB d e=some r):
  wpAny (model prog w) A (binaryOp .Add v u) (Gv Pa N s r) E s:=by
 revert v;show ∀v:Value,_;refine Ax.sel c ?_ ?_ ?_ (λZ Z Z Z Z Z Z c=>Aa c)
 ·intro x t c;revert u;show ∀u:Value,_;refine Ax.onI c λy t' c=>?_
  (replace c:=Option.some.inj c;subst c)
  exact P.add_int (B3 h _ _ _)
 ·intro x t hx c;revert u;show ∀u:Value,_;refine Ax.onS c λy t' hy c=>?_
  obtain ⟨hl,rfl⟩:=IL c
  refine P.add_str ?_
  rw[Ba,Ba,IR]
  by_cases h1:x.length=0
  ·rw[if_pos (by simp[h1])]
   have:x=[]:=List.eq_nil_of_length_eq_zero h1
   subst this
   exact Ce h (.str _ _ hy)
  ·rw[if_neg (by simpa using h1)]
   by_cases h2:y.length=0
   ·rw[if_pos (by simp[h2])]
    have:y=[]:=List.eq_nil_of_length_eq_zero h2
    subst this
    rw[List.append_nil]
    exact Ce h (.str _ _ hx)
   ·rw[if_neg (by simpa using h2)]
    exact ⟨Bb (by rw[Ba,List.length_append];exact hl),Dg h _ (by rw[List.length_append];exact hl) _ _⟩
 ·intro _ a vs n ma la ra c;revert u;show ∀u:Value,_;refine Ax.onL c λ_ b ws m mb lb rb c=>?_
  obtain ⟨hl,rfl⟩:=IL c
  have e:vs.toArray++ws.toArray=(vs++ws).toArray:=by simp
  have hz:(vs++ws).length<=Ap:=by rw[List.length_append,ra.length,rb.length];exact hl
  refine concat_meets ⟨_,h _ ma,rfl⟩ ⟨_,h _ mb,rfl⟩ noFill_list_add seq_list_add PySem.F.slot_list_add PySem.F.entry_list_add (PySem.F.args_list_add_2 _ _) (list_addW a b vs.toArray ws.toArray n m none none #[] #[] (Bb (by simpa using hz))) ⟨h _ ma,h _ mb,?_⟩
  rw[e]
  exact Dh h ⟨_,rfl⟩ hz (ra.append rb) _
theorem Qt (x:List Value):∀k,List.foldl (λx1 x2=>x1++x2) (#[]:Array Value) (List.replicate k x.toArray)=(List.replicate k x).flatten.toArray:=by
 have g:∀k (acc:List Value),List.foldl (λx1 x2=>x1++x2) acc.toArray (List.replicate k x.toArray)=(acc++(List.replicate k x).flatten).toArray:=by
  intro k
  induction k with
  |zero=>intro acc;simp
  |succ k ih=>intro acc;rw[List.replicate_succ,List.foldl_cons,List.replicate_succ,List.flatten_cons,<-List.append_assoc,<-ih];simp
 intro k
 have:=g k []
 simpa using this
theorem Ar.rep {vs:List Value} {ds:List D} (h:Ar Pa N vs ds):∀k,Ar Pa N (List.replicate k vs).flatten (List.replicate k ds).flatten
 |0=>.nil
 |k+1=>by rw[List.replicate_succ,List.replicate_succ,List.flatten_cons,List.flatten_cons];exact h.append (Ar.rep h k)
theorem NZ {α:Type} (x:List α):∀k,(List.replicate k x).flatten.length=k*x.length
 |0=>by simp
 |k+1=>by rw[List.replicate_succ,List.flatten_cons,List.length_append,NZ x k,Nat.succ_mul];lia
theorem X6 {v u:Value} {d e r:D} (h:Cn N s) (rv:Ax Pa N v d) (ru:Ax Pa N u e) (c:bC d e=some r):
  wpAny (model prog w) A (binaryOp .Mult v u) (Gv Pa N s r) E s:=by
 revert v;show ∀v:Value,_;refine Ax.sel c ?_ (λ_ _ _ c=>Aa c) ?_ (λZ Z Z Z Z Z Z c=>Aa c)
 ·intro x t c;revert u;show ∀u:Value,_;refine Ax.onI c λy t' c=>?_
  by_cases hs:small y=true
  ·rw[if_pos hs] at c;(replace c:=Option.some.inj c;subst c);exact P.mul_int (B3 h _ _ _) (Uk hs)
  ·rw[if_neg hs] at c
   obtain ⟨hs,rfl⟩:=IL c
   exact P.mul_int (B3 h _ _ _) (Ul hs)
 ·intro ds a vs n ma la ra c;revert u;show ∀u:Value,_;refine Ax.onI c λk t' c=>?_
  obtain ⟨hs,rfl⟩:=IL c
  rw[Bool.and_eq_true,decide_eq_true_eq] at hs
  have hk:=IS hs.1
  have hl:vs.length*k.toNat<=Ap:=by rw[ra.length];exact hs.2
  have hz:vs.toArray.size*k.toNat<=2^24:=by simpa [Ap] using hl
  refine wpAny_binaryOp_repeat_ref (T:="list") (U:="int") (by decide) ⟨_,h _ ma,rfl⟩ (λs'=>typeIs_int s' k t') noFill_list_mul F.fills_int_mul F.slot_int_rmul repeat_list F.slot_int_index.lookup
   (call_meets F.slot_int_rmul (typeIs_int s k t') F.entry_int_rmul (F.args_int_rmul_2 _ _) (int___rmul___int_list k t' a vs.toArray n)
    ⟨h _ ma,rfl,⟨_,h _ ma,rfl⟩,call_meets F.slot_list_mul ⟨_,h _ ma,rfl⟩ F.entry_list_mul (F.args_list_mul_2 _ _)
     (AutoListH.list___mul___list_int_3 a vs.toArray n k t' (by simp[Builtin.List.listFitsIndex];lia) (by lia) (by simp[Builtin.List.listTooLong,sizeLine];simp at hz;exact Nat.le_trans (by assumption) (by decide))) ⟨h _ ma,?_⟩⟩)
  have e:List.foldl (λx1 x2=>x1++x2) #[] (List.replicate (if vs.toArray.isEmpty=true then 0 else k.toNat) vs.toArray)=(List.replicate k.toNat vs).flatten.toArray:=by
   rw[Qt]
   by_cases hv:vs=[]
   ·subst hv;simp
   ·rw[if_neg (by simpa using hv)]
  rw[e]
  exact Dh h ⟨_,rfl⟩ (by rw[NZ,Nat.mul_comm];exact hl) (ra.rep _) _
theorem X7 {op:Operator} {v u:Value} {d e r:D} (h:Cn N s) (rv:Ax Pa N v d) (ru:Ax Pa N u e) (c:Aq op d e=some r):
  wpAny (model prog w) A (binaryOp op v u) (Gv Pa N s r) E s:=by
 cases op with
 |Add=>exact X5 h rv ru c
 |Mult=>exact X6 h rv ru c
 |FloorDiv=>
  revert v;show ∀v:Value,_;refine Ax.onI c λx t c=>?_
  revert u;show ∀u:Value,_;refine Ax.onI c λy t' c=>?_
  split at c
  ·exact Aa c
  ·rename_i hb
   (replace c:=Option.some.inj c;subst c)
   simp only[Bool.or_eq_true,decide_eq_true_eq,not_or,Bool.not_eq_true',Bool.not_eq_false] at hb
   exact floordiv_int hb.1 (B3 h _ _ _) (.inl (PyProof.noPylong_of_log2 (by have:=Gp hb.2;exact Nat.le_trans (by assumption) (by decide))))
 |Mod=>
  revert v;show ∀v:Value,_;refine Ax.onI c λx t c=>?_
  revert u;show ∀u:Value,_;refine Ax.onI c λy t' c=>?_
  split at c
  ·exact Aa c
  ·rename_i hb;(replace c:=Option.some.inj c;subst c);exact mod_int' hb (B3 h _ _ _)
 |Sub=>
  revert v;show ∀v:Value,_;refine Ax.onI c λx t c=>?_
  revert u;show ∀u:Value,_;refine Ax.onI c λy t' c=>?_
  (replace c:=Option.some.inj c;subst c)
  exact P.sub_int (B3 h _ _ _)
 |BitAnd=>
  revert v;show ∀v:Value,_;refine Ax.onI c λx t c=>?_
  revert u;show ∀u:Value,_;refine Ax.onI c λy t' c=>?_
  (replace c:=Option.some.inj c;subst c)
  exact and_int (B3 h _ _ _)
 |_=>exact Aa c
end
section
variable {prog:Program} {w:World} {A:Around} {E:Value->Shared->Prop} {s:Shared} {Pa:Params} {N:Az}
set_option tactic.hygienic true
theorem X8 (x:Expr) (o i:Value):∃vs,subscripted x false o i=operate vs (getItem o i):=by
 rcases x with _|_<;>first|exact ⟨[o,i],rfl⟩|skip
 rename_i st _
 rcases st with _|_<;>exact ⟨_,rfl⟩
set_option tactic.hygienic false
theorem E8 {value slice:Expr} {o i:Value} {T id:String} {Q:Value->Shared->Prop} (hT:s.TypeIs o T)
  (hl:typeLookup (.type T) "__getitem__"=pure (some (.builtin id))) (h:wpAny (model prog w) A (getItem o i) Q E s):
  wpAny (model prog w) A (subscriptTail value slice o i) Q E s:=by
 unfold subscriptTail
 refine wpAny_bind ?_
 rw[getitemInPython_of_ne hT.not_modules]
 refine wpAny_bind (wpAny_specialOf hT hl (wpAny_pure ?_))
 refine wpAny_bind ?_
 have fin:∀vs,wpAny (model prog w) A (operate vs (getItem o i)) (λr s₃=>wpAny (model prog w) A (letTemporaryGo value o r>>=λZ=>pure r) Q E s₃) E s:=λvs=>
  wpAny_operating (wpAny_mono h (λr s₃ h₃=>wpAny_bind (wpAny_letTemporaryGo (wpAny_pure h₃))) λZ Z x=>x)
 obtain ⟨vs,e⟩:=X8 slice o i
 rw[e]
 exact fin vs
theorem Lc {n:Nat} {k:Int} {j:Nat} (h:DH n k=some j):seqIndex? k n=some j/\j<n:=by
 unfold DH at h
 by_cases h0:0<=k
 ·rw[if_pos h0] at h
  by_cases h1:k<n
  ·rw[if_pos h1] at h
   (replace h:=Option.some.inj h;subst h)
   refine ⟨?_,by lia⟩
   show (if (decide (0<=if k<0 then k+n else k)&&decide ((if k<0 then k+n else k)<n))=true then some ((if k<0 then k+n else k).toNat) else none)=_
   rw[if_neg (show ¬ k<0 by lia),if_pos (by simp;lia)]
  ·rw[if_neg h1] at h;exact Aa h
 ·rw[if_neg h0] at h
  by_cases h1:0<=k+n
  ·rw[if_pos h1] at h
   (replace h:=Option.some.inj h;subst h)
   refine ⟨?_,by lia⟩
   show (if (decide (0<=if k<0 then k+n else k)&&decide ((if k<0 then k+n else k)<n))=true then some ((if k<0 then k+n else k).toNat) else none)=_
   rw[if_pos (show k<0 by lia),if_pos (by simp;lia)]
  ·rw[if_neg h1] at h;exact Aa h
theorem JY {n:Nat} {k:Int} {j:Nat} (hn:n<=Ap) (h:DH n k=some j): -(2^63)<=k/\k<2^63:=by
 unfold DH at h
 unfold Ap at hn
 split at h
 ·split at h
  ·lia
  ·exact Aa h
 ·split at h
  ·lia
  ·exact Aa h
theorem X9 {value slice:Expr} {v u:Value} {d e r:D} (h:Cn N s) (rv:Ax Pa N v d) (ru:Ax Pa N u e) (c:AW d e=some r):
  wpAny (model prog w) A (subscriptTail value slice v u) (Gv Pa N s r) E s:=by
 revert v;show ∀v:Value,_;refine Ax.sel c (λ_ _ c=>Aa c) ?_ ?_ ?_
 ·intro x t hx c;revert u;show ∀u:Value,_;refine Ax.onI c λk t' c=>?_
  refine Mine.ob c λj q c=>?_
  have hb:=JY hx q
  refine Mine.om c λch hc c=>?_
  subst c
  refine E8 (typeIs_str _ _ _) F.slot_str_getitem.lookup (P.getItem_str (c:=ch) (by simp;lia) ?_ ?_)
  ·rw[Ba,(Lc q).1]
   simpa using hc
  ·exact Dg h [ch] (by simp[Ap]) _ _
 ·intro ds a vs n ma la ra c;revert u;show ∀u:Value,_;refine Ax.onI c λk t' c=>?_
  refine Mine.ob c λj q c=>?_
  have hb:=JY (by rw[<-ra.length];exact la) q
  refine Mine.S0 (ra.get c) λx hx hr=>?_
  refine E8 ⟨_,h _ ma,rfl⟩ list_getitem_lookup ?_
  have q':=q
  unfold DH at q'
  split at q'
  ·obtain ⟨_,rfl⟩:=IL q'
   exact wpAny_getItem_list (AM h ma) (by assumption) hb.2 (by simpa using hx) (Ce h hr)
  ·obtain ⟨_,rfl⟩:=IL q'
   refine wpAny_getItem_list_neg (AM h ma) (by lia) (by simp;have:=ra.length;lia) hb.1 ?_ (Ce h hr)
   have:=ra.length
   simpa [this] using hx
 ·intro ds a vs n ma la ra c;revert u;show ∀u:Value,_;refine Ax.onI c λk t' c=>?_
  refine Mine.ob c λj q c=>?_
  have hb:=JY (by rw[<-ra.length];exact la) q
  refine Mine.S0 (ra.get c) λx hx hr=>?_
  refine E8 (JX h ma).typeIs slot_tuple_getitem.lookup (getItem_tuple (JX h ma) hb.1 hb.2 (j:=j) ?_ (by simpa using hx) (Ce h hr))
  rw[show vs.toArray.size=ds.length by simp;exact ra.length]
  exact (Lc q).1
inductive FV:Value->Option Int->Prop
 |none:FV .none none
 |int (i:Int) (t:Tok):FV (.int i t) (some i)
theorem FV.isPart {v:Value} {o:Option Int} (h:FV v o):IsPart v o:=by cases h<;>constructor
theorem FV.tok {v:Value} {o:Option Int} (h:FV v o):∃l:Option (Int×Tok),v=partValue l/\l.map (·.1)=o:=by
 cases h with
 |none=>exact ⟨Option.none,rfl,rfl⟩
 |int i t=>exact ⟨some (i,t),rfl,rfl⟩
theorem IT (lo hi:Option Int) (n:Nat):Builtin.Str.strSliceIndices lo hi 1 n=sliceRange (sliceBounds lo hi none n).1 (sliceBounds lo hi none n).2.1 (sliceBounds lo hi none n).2.2:=by
 rcases lo with _|_<;>rcases hi with _|_<;>rfl
theorem Qu {value slice:Expr} {v vl vu:Value} {sl:Addr} {d r:D} {lo hi:Option Int} (h:Cn N s) (rv:Ax Pa N v d) (pl:FV vl lo) (pu:FV vu hi) (hs:s.heap.IsSliceOf sl vl vu .none)
  (c:A8 d lo hi=some r):wpAny (model prog w) A (subscriptTail value slice v (.ref sl)) (Gv Pa N s r) E s:=by
 revert v;show ∀v:Value,_;refine Ax.sel c (λ_ _ c=>Aa c) ?_ ?_ (λZ Z Z Z Z Z Z c=>Aa c)
 ·intro x t hx c
  (replace c:=Option.some.inj c;subst c)
  refine Mine.S0 pl.tok λl eq1 el=>?_
  subst eq1
  refine Mine.S0 pu.tok λu eq1 eu=>?_
  subst eq1
  refine E8 (typeIs_str _ _ _) F.slot_str_getitem.lookup (wpAny_getItem_str_slice (x:=S x) (t:=t) (l:=l) (u:=u) (st:=none) hs rfl ?_)
  have hp:(slicePicked (S x) l u none).filterMap ((S x).cps[·]?)=AN x lo hi:=by
   unfold slicePicked
   rw[el,eu]
   show (Builtin.Str.strSliceIndices lo hi 1 (S x).length).filterMap _=_
   rw[IT,sliceBounds_plain,Ba]
   simp only[sliceRange_one,pick_run,AN]
  have hlen:(AN x lo hi).length<=Ap:=by
   exact Nat.le_trans ((List.take_sublist _ _).trans (List.drop_sublist _ _)).length_le hx
  have hin:∀l:List Nat,(∀i∈l,i<x.length)->(l.filterMap ((S x).cps[·]?)).length=l.length:=by
   intro l
   induction l with
   |nil=>intro _;rfl
   |cons i l ih=>
    intro hi
    have hi':i<x.length:=hi i List.mem_cons_self
    simp only[List.filterMap_cons]
    rw[show (S x).cps[i]?=some x[i] by simp[hi']]
    simp only[List.length_cons]
    rw[ih λj hj=>hi j (List.mem_cons_of_mem _ hj)]
  unfold sliceMade
  rw[hp]
  split
  ·rename_i hc
   simp only[Bool.and_eq_true,beq_iff_eq,Ba] at hc
   have key:AN x lo hi=x:=by
    have h1:(slicePicked (S x) l u none).length=(AN x lo hi).length:=by
     unfold slicePicked
     rw[el,eu]
     show (Builtin.Str.strSliceIndices lo hi 1 (S x).length).length=_
     rw[IT,sliceBounds_plain,Ba]
     simp only[sliceRange_one,AN,List.length_map,List.length_range,List.length_take,List.length_drop]
     have q1:hi.elim x.length (clipAt x.length)<=x.length:=by
      cases hi with
      |none=>exact Nat.le_refl _
      |some k=>exact Uf _ k
     exact (Nat.min_eq_left (Nat.sub_le_sub_right q1 _)).symm
    have h2:(AN x lo hi).length=x.length:=by rw[<-h1];exact hc.2
    have h3:(AN x lo hi).Sublist x:=by
     unfold AN
     exact (List.take_sublist _ _).trans (List.drop_sublist _ _)
    exact h3.eq_of_length h2
   rw[key]
   exact Ce h (.str _ _ hx)
  ·exact ⟨Bb (by show (S (AN x lo hi)).length<=Ap;rw[Ba];exact hlen),Dg h _ hlen _ _⟩
 ·intro ds a vs n ma la ra c
  (replace c:=Option.some.inj c;subst c)
  refine E8 ⟨_,h _ ma,rfl⟩ list_getitem_lookup (wpAny_getItem_list_slice (AM h ma) hs pl.isPart pu.isPart .none (by simp) ?_ (Bb (by simpa using la)))
  rw[slicePick_plain]
  have e:=ra.length
  refine Dh h ⟨_,rfl⟩ ?_ ?_ _
  ·exact Nat.le_trans ((List.take_sublist _ _).trans (List.drop_sublist _ _)).length_le la
  ·simp only[AN,List.size_toArray,e]
   exact (ra.drop _).take _
noncomputable def GQ (Pa:Params) (Gl:List (Str×D)) (N:Az):Prop:=∀h:Heap,(∀p∈N,h.get? p.1=some p.2)->
 (∃mg mb,h.Ns mainGlobals mg/\h.Ns builtinsNs mb/\∀x d,Gl.lookup x=some d->∃v,(mg x=some v\/(mg x=none/\mb x=some v))/\Ax Pa N v d)/\h.NoLimit/\∀p∈KK Pa,p∈N
theorem GQ.mono {Gl:List (Str×D)} {N':Az} (T:GQ Pa Gl N) (hs:∀p∈N,p∈N'):GQ Pa Gl N':=λh hh=>by
 obtain ⟨⟨mg,mb,hg,hb,q⟩,nl,kk⟩:=T h λp hp=>hh p (hs p hp)
 exact ⟨⟨mg,mb,hg,hb,λy d e=>(q y d e).imp λv h=>⟨h.1,h.2.mono hs⟩⟩,nl,λp hp=>hs p (kk p hp)⟩
structure Vw (Pa:Params) (Gl:List (Str×D)) (N:Az) (env:Env) (names:List (Str×NameKind)) (loc cel:List (Str×D)) (s:Shared):Prop where
 kind:env.scope.kind=.function
 nm:env.scope.names=names
 glob:env.globals=mainGlobals
 blt:env.builtins=builtinsNs
 has:Cn N s
 tk:0<s.toks
 top:GQ Pa Gl N
 cls:∀x,names.lookup x=some .cell->∃c v,env.cells.lookup x=some c/\s.heap.IsCell c v
 loc:∃m,s.heap.Ns env.locals m/\∀x d,loc.lookup x=some d->∃v,m x=some v/\Ax Pa N v d
 cel:∀x d,cel.lookup x=some d->names.lookup x=some .cell->∃c v,env.cells.lookup x=some c/\s.heap.IsCell c (some v)/\Ax Pa N v d
theorem Vw.ext {Gl:List (Str×D)} {env:Env} {names:List (Str×NameKind)} {loc cel:List (Str×D)} {N':Az} {s':Shared} (V:Vw Pa Gl N env names loc cel s) (x:A1 N s N' s'):Vw Pa Gl N' env names loc cel s':=by
 have k:=Am x.keeps
 refine ⟨V.kind,V.nm,V.glob,V.blt,x.has,Nat.lt_of_lt_of_le V.tk x.tk,V.top.mono x.sub,λy e=>(V.cls y e).imp λc h=>h.imp λv h=>⟨h.1,h.2.keeps k⟩,?_,?_⟩
 ·refine Mine.S0 V.loc λm hm q=>?_
  exact ⟨m,hm.keeps k,λy d e=>(q y d e).imp λv h=>⟨h.1,x.rel h.2⟩⟩
 ·intro y d e1 e2
  refine Mine.S3 (V.cel y d e1 e2) λc v h1 h2 h3=>?_
  exact ⟨c,v,h1,h2.keeps k,x.rel h3⟩
theorem Cr {M:Model} {t:Sem Value} {N':Az} {s':Shared} {d:D} (x:A1 N s N' s') (h:wpAny M A t (Gv Pa N' s' d) E s'):wpAny M A t (Gv Pa N s d) E s':=
 wpAny_mono h (λv s'' h=>Mine.S0 h λN'' y r=>⟨N'',x.trans y,r⟩) λZ Z e=>e
theorem FW {M:Model} {Gl:List (Str×D)} {env:Env} {names:List (Str×NameKind)} {loc cel:List (Str×D)} {x:Str} {d:D} (V:Vw Pa Gl N env names loc cel s) (e:Dy Gl names loc cel x=some d) {Q:Value->Shared->Prop}
  (hq:∀v,Ax Pa N v d->Q v s):wpAny M A (loadName env x) Q E s:=by
 have hk:env.kindOf x=names.lookup x:=by unfold Env.kindOf;rw[V.nm]
 unfold Dy at e
 cases q:names.lookup x with
 |none=>rw[q] at e;exact Aa e
 |some k=>
  rw[q] at e
  rw[q] at hk
  cases k with
  |«local»=>
   refine Mine.S0 V.loc λm hm ql=>?_
   refine Mine.S0 (ql x d e) λv h1 h2=>?_
   exact wpAny_loadName_local V.kind hk hm h1 (hq v h2)
  |cell=>
   refine Mine.S3 (V.cel x d e q) λc v h1 h2 h3=>?_
   exact wpAny_loadName_cell V.kind hk h1 h2 (hq v h3)
  |globalImplicit=>
   refine Mine.S3 ((V.top s.heap V.has).1) λmg mb hg hb qg=>?_
   refine Mine.S0 (qg x d e) λv h1 h2=>?_
   rw[loadName_read V.kind hk]
   rcases h1 with h1|⟨h1,h3⟩
   ·exact loadGlobal_global (by rw[V.glob];exact hg) h1 (hq v h2)
   ·exact loadGlobal_builtin (by rw[V.glob];exact hg) h1 (by rw[V.blt];exact hb) h3 (hq v h2)
  |_=>exact Aa e
end
structure Tp (Pa:Params) (Gl:List (Str×D)) (N:Az) (s:Shared):Prop where
 has:Cn N s
 tk:0<s.toks
 top:GQ Pa Gl N
theorem Vw.tp {Pa:Params} {Gl:List (Str×D)} {N:Az} {env:Env} {names:List (Str×NameKind)} {loc cel:List (Str×D)} {s:Shared} (V:Vw Pa Gl N env names loc cel s):Tp Pa Gl N s:=⟨V.has,V.tk,V.top⟩
theorem Tp.ext {Pa:Params} {Gl:List (Str×D)} {N N':Az} {s s':Shared} (V:Tp Pa Gl N s) (x:A1 N s N' s'):Tp Pa Gl N' s':=⟨x.has,Nat.lt_of_lt_of_le V.tk x.tk,V.top.mono x.sub⟩
theorem Tp.kk {Pa:Params} {Gl:List (Str×D)} {N:Az} {s:Shared} (V:Tp Pa Gl N s):∀p∈KK Pa,p∈N:=(V.top s.heap V.has).2.2
noncomputable def JZ (h:Heap) (v:Value):Prop:=(∃id,v=.builtin id)\/(∃T,v=.type T)\/(∃a o fd,v=.ref a/\h.get? a=some o/\o.data=.func fd)
theorem JZ.looks {M:Model} {h:Heap} {v:Value} (c:JZ h v):∃k,(k=Keeper.frame\/k=Keeper.machine\/k=Keeper.boundFrame)/\Looks M h (keeperOf v) k:=by
 rcases c with ⟨id,rfl⟩|⟨T,rfl⟩|⟨a,o,fd,rfl,ho,hd⟩
 ·exact ⟨.machine,.inr (.inl rfl),Looks.of_pure rfl⟩
 ·exact ⟨.machine,.inr (.inl rfl),Looks.of_pure rfl⟩
 ·refine ⟨.frame,.inl rfl,λA Q E s k q=>?_⟩
  unfold keeperOf
  refine wpAny_bind (wpAny_load (k _ _ ho) ?_)
  rw[hd]
  exact wpAny_pure q
section
variable (prog:Program) (w:World) (Pa:Params) (Gl:List (Str×D)) (k:Nat)
noncomputable def SE (e':List (Str×NameKind)->List (Str×D)->List (Str×D)->Expr->Option D):Prop:=
 ∀names loc cel e d,e' names loc cel e=some d->∀ (A:Around) (E:Value->Shared->Prop) (s:Shared) (N:Az) (env:Env),AG k A->Vw Pa Gl N env names loc cel s->
  wpAny (model prog w) A (eval e env) (Gv Pa N s d) E s
noncomputable def ST (t':List (Str×NameKind)->List (Str×D)->List (Str×D)->Expr->Option Bool):Prop:=
 ∀names loc cel e b,t' names loc cel e=some b->∀ (A:Around) (E:Value->Shared->Prop) (s:Shared) (N:Az) (env:Env),AG k A->Vw Pa Gl N env names loc cel s->
  wpAny (model prog w) A (isTrue e env (eval e env)) (Gb N s b) E s
noncomputable def Fi (app:D->List D->Option D):Prop:=
 ∀f as d,app f as=some d->∀ (A:Around) (E:Value->Shared->Prop) (s:Shared) (N:Az) (v:Value) (vs:List Value),AG k A->Tp Pa Gl N s->Ax Pa N v f->Ar Pa N vs as->
  JZ s.heap v/\wpAny (model prog w) A (call v vs) (Gv Pa N s d) E s
noncomputable def Hk (meth:D->Str->List D->Option D):Prop:=
 ∀o name as d,meth o name as=some d->∃id,
  (∀ (A:Around) (E:Value->Shared->Prop) (s:Shared) (N:Az) (ov:Value) (pl:Sem Bool) (Q:Value×List Value->Shared->Prop),AG k A->Tp Pa Gl N s->Ax Pa N ov o->Q (.builtin id,[ov]) s->wpAny (model prog w) A (getMethod ov name pl) Q E s)/\
  (∀ (A:Around) (E:Value->Shared->Prop) (s:Shared) (N:Az) (ov:Value) (vs:List Value),AG k A->Tp Pa Gl N s->Ax Pa N ov o->Ar Pa N vs as->wpAny (model prog w) A (call (.builtin id) (ov::vs)) (Gv Pa N s d) E s)
end
section
variable {prog:Program} {w:World} {A:Around} {E:Value->Shared->Prop} {s:Shared} {Pa:Params} {N:Az} {Gl:List (Str×D)} {k:Nat} {env:Env} {names:List (Str×NameKind)} {loc cel:List (Str×D)} {r:CA}
 {app:D->List D->Option D} {meth:D->Str->List D->Option D}
theorem G8 {M:Model} {t:Sem Bool} {N':Az} {s':Shared} {b:Bool} (x:A1 N s N' s') (h:wpAny M A t (Gb N' s' b) E s'):wpAny M A t (Gb N s b) E s':=
 wpAny_mono h (λ_ _ h=>Mine.S0 h λN'' y r=>⟨N'',x.trans y,r⟩) λZ Z e=>e
theorem Gq {n:List (Str×NameKind)} {l c:List (Str×D)} {e':List (Str×NameKind)->List (Str×D)->List (Str×D)->Expr->Option D} {e:Expr} {d:D} {Q:Value->Shared->Prop} (hr:SE prog w Pa Gl k e') (h:e' n l c e=some d) (R:AG k A) (V:Vw Pa Gl N env n l c s)
 (q:∀v s' N',A1 N s N' s'->Ax Pa N' v d->Q v s'):wpAny (model prog w) A (eval e env) Q E s:=iv (hr _ _ _ _ _ h A E s N env R V) q
theorem bI {n:List (Str×NameKind)} {l c:List (Str×D)} {e':List (Str×NameKind)->List (Str×D)->List (Str×D)->Expr->Option Bool} {e:Expr} {b:Bool} {Q:Bool->Shared->Prop} (hr:ST prog w Pa Gl k e') (h:e' n l c e=some b) (R:AG k A) (V:Vw Pa Gl N env n l c s)
 (q:∀s' N',A1 N s N' s'->Q b s'):wpAny (model prog w) A (isTrue e env (eval e env)) Q E s:=eK (hr _ _ _ _ _ h A E s N env R V) q
theorem Hl (es:List Expr) (h:Aj es=true):starEach es env=es.map λe=>(false,eval e env):=by
 induction es with
 |nil=>rfl
 |cons e es ih=>
  unfold Aj at h
  rw[List.all_cons,Bool.and_eq_true] at h
  rw[List.map_cons,<-ih h.2]
  have h1:=h.1
  rcases e with _|_<;>first|rfl|exact B7 h1
theorem AX (pos:Pos) (es:List Expr) (h:Aj es=true):backTo pos (starEach es env)=es.map λe=>(false,eval e env):=by
 rw[Hl es h]
 unfold backTo
 rw[List.map_map]
 rfl
theorem FX (R:AG k A) (hr:SE prog w Pa Gl k r.e) (V:Vw Pa Gl N env names loc cel s):∀ (es:List Expr) (ds:List D),es.mapM (r.e names loc cel)=some ds->
  wpAny (model prog w) A (spliced (es.map λe=>(false,eval e env))) (eJ Pa N s ds) E s:=by
 intro es
 induction es generalizing s N with
 |nil=>intro ds e;(replace e:=Option.some.inj e;subst e);exact spliced_nil ⟨N,A1.rfl' V.has,.nil⟩
 |cons x es ih=>
  intro ds e
  rw[List.mapM_cons] at e
  revert e
  refine Mine.Br λd q e=>?_
  cases q':es.mapM (r.e names loc cel) with
  |none=>simp[q'] at e
  |some ds'=>
   simp[q,q'] at e
   subst e
   refine spliced_cons (Gq hr q R V λv s₁ N₁ x₁ r₁=>?_)
   refine wpAny_mono (ih (V.ext x₁) ds' q') (λvs s₂ h=>Mine.S0 h λN₂ x₂ r₂=>?_) λZ Z e=>e
   exact ⟨N₂,x₁.trans x₂,.cons (x₂.rel r₁) r₂⟩
theorem CP {f:Value} (R:AG k A) (hr:SE prog w Pa Gl k r.e) (V:Vw Pa Gl N env names loc cel s) (es:List Expr) (ds:List D) (e:es.mapM (r.e names loc cel)=some ds) {Q:Args->Shared->Prop}
  (hq:∀vs s',eJ Pa N s ds vs s'->Q ⟨vs,[]⟩ s'):wpAny (model prog w) A (evalArgs f true (es.map λe=>(false,eval e env)) []) Q E s:=by
 cases es with
 |nil=>
  (replace e:=Option.some.inj e;subst e)
  exact evalArgs_nil3 (hq _ _ ⟨N,A1.rfl' V.has,.nil⟩)
 |cons x es=>
  refine evalArgs_plain ?_
  exact wpAny_mono (FX R hr V (x::es) ds e) (λvs s' h=>hq vs s' h) λZ Z e=>e
theorem BS {es:List Expr} {pos:Pos}:(((es.map λe=>(false,eval e env)).any (·.1))||(backToKw pos (keywordEach [] env)).any λx=>x.fst.isNone)=false:=by
 rw[List.any_map]
 exact (Bool.or_false _).trans (List.any_eq_false.mpr λZ Z h=>nomatch h)
theorem Um {f:Expr} {es:List Expr} {pos:Pos} {fd d:D} {ds:List D} (R:AG k A) (hr:SE prog w Pa Gl k r.e) (ha:Fi prog w Pa Gl k app) (V:Vw Pa Gl N env names loc cel s) (hp:Aj es=true)
  (hf:∃y p,f=.Name y p) (e1:r.e names loc cel f=some fd) (e2:es.mapM (r.e names loc cel)=some ds) (e3:app fd ds=some d):
  wpAny (model prog w) A (eval (.Call f es [] pos) env) (Gv Pa N s d) E s:=by
 revert hf
 refine Mine.T2 λy p eq1=>?_
 subst eq1
 show wpAny _ A (do callWith pos (<-eval (.Name y p) env) [] (backTo pos (starEach es env)) (backToKw pos (keywordEach [] env))) _ E s
 rw[AX pos es hp]
 refine wpAny_bind (Gq hr e1 R V λv s₁ N₁ x₁ r₁=>?_)
 refine callWith_of (P:=λh=>JZ h v) BS (λh c=>c.looks) ?_
 refine CP R hr (V.ext x₁) es ds e2 λvs s₂ h=>Mine.S0 h λN₂ x₂ r₂=>?_
 have x₁₂:=x₁.trans x₂
 obtain ⟨c,h⟩:=ha fd ds d e3 A E s₂ N₂ v vs R ((V.ext x₁₂).tp) (x₂.rel r₁) r₂
 exact ⟨c,Cr x₁₂ h⟩
set_option tactic.hygienic true
theorem B4 {o:Expr} {name:Str} {whole:Sem Value} (h:B8 o=true):attributeBase o name env whole=whole:=by
 rcases o with _|_<;>first|rfl|skip
 rename_i f as ks pos
 rcases f with _|_<;>first|rfl|skip
 rcases as with _|_<;>first|rfl|skip
 rcases ks with _|_<;>first|rfl|exact absurd h Bool.false_ne_true
set_option tactic.hygienic false
theorem Gr {es:List Expr} {pos:Pos} (hl:es.length<20):methodCallForm (es.length+([]:List Keyword).length) (es.map λe=>(false,eval e env)) (backToKw pos (keywordEach [] env))=true:=by
 show ((es.map λe=>(false,eval e env)).all (λx=>!x.1)&&true&&decide (es.length+0<30))=true
 have h1:(es.map λe=>(false,eval e env)).all (λx=>!x.1)=true:=List.all_eq_true.mpr λx h=>by
  obtain ⟨e,h,rfl⟩:=List.mem_map.mp h
  rfl
 rw[h1];exact (decide_eq_true (Nat.lt_trans hl (by decide)):decide (es.length+0<30)=true)
theorem Un {o:Expr} {name:Str} {apos pos:Pos} {es:List Expr} {od d:D} {ds:List D} (R:AG k A) (hr:SE prog w Pa Gl k r.e) (hm:Hk prog w Pa Gl k meth) (V:Vw Pa Gl N env names loc cel s) (hp:Aj es=true)
  (hl:es.length<20) (h0:B8 o=true) (hpos:(apos.endLine==pos.line)=true) (e1:r.e names loc cel o=some od) (e2:es.mapM (r.e names loc cel)=some ds) (e3:meth od name ds=some d):
  wpAny (model prog w) A (eval (.Call (.Attribute o name apos) es [] pos) env) (Gv Pa N s d) E s:=by
 refine Mine.S0 (hm od name ds d e3) λid hg hc=>?_
 show wpAny _ A (do
  let ov<-attributeBase o name env (eval o env)
  standAt apos.atName
  methodCall o name apos pos env ov (es.length+([]:List Keyword).length) (backTo pos (starEach es env)) (backToKw pos (keywordEach [] env))) _ E s
 rw[B4 h0,AX pos es hp]
 refine wpAny_bind (Gq hr e1 R V λov s₁ N₁ x₁ r₁=>wpAny_bind (wpAny_standAt ?_))
 unfold methodCall
 rw[Gr hl]
 refine wpAny_bind (wpAny_holding ?_)
 show wpAny _ A (getMethod ov name _) _ E s₁
 refine hg A E s₁ N₁ ov _ _ R (V.ext x₁).tp r₁ ?_
 refine wpAny_bind ?_
 unfold methodCallPos
 rw[hpos]
 refine wpAny_pure ?_
 refine callWith_of (P:=λ_=>True) BS (λh _=>⟨.machine,.inr (.inl rfl),Looks.of_pure rfl⟩) ?_
 refine CP R hr (V.ext x₁) es ds e2 λvs s₂ h=>Mine.S0 h λN₂ x₂ r₂=>?_
 have x₁₂:=x₁.trans x₂
 exact ⟨trivial,Cr x₁₂ (hc A E s₂ N₂ ov vs R (V.ext x₁₂).tp (x₂.rel r₁) r₂)⟩
theorem Fu {e:Expr} {d:D} {b:Bool} (R:AG k A) (hr:SE prog w Pa Gl k r.e) (V:Vw Pa Gl N env names loc cel s) (e1:r.e names loc cel e=some d) (e2:Ay d=some b)
  (hs:isTrue e env (eval e env)=(do let v<-eval e env;standAt e.pos;holding [v] (truthy v))):wpAny (model prog w) A (isTrue e env (eval e env)) (Gb N s b) E s:=by
 rw[hs]
 refine wpAny_bind (Gq hr e1 R V λv s₁ N₁ x₁ r₁=>wpAny_bind (wpAny_standAt (wpAny_holding ?_)))
 exact G8 x₁ (La x₁.has r₁ e2)
theorem Uo {op:BoolOp} (R:AG k A) (ht:ST prog w Pa Gl k r.t) (V:Vw Pa Gl N env names loc cel s):∀ (es:List Expr) (b:Bool),Ui r names loc cel op es=some b->
  wpAny (model prog w) A (allTrue op es env) (Gb N s b) E s:=by
 intro es
 induction es generalizing s N with
 |nil=>
  intro b e
  (replace e:=Option.some.inj e;subst e)
  rw[arm_allTrue_nil]
  refine wpAny_pure ⟨N,A1.rfl' V.has,?_⟩
  rcases op with _|_<;>rfl
 |cons x es ih=>
  intro b e
  revert e
  refine Mine.Br λc q e=>?_
  rw[arm_allTrue_cons]
  refine wpAny_bind (bI ht q R V λs₁ N₁ x₁=>?_)
  rcases op with _|_<;>rcases c with _|_
  ·(replace e:=Option.some.inj e;subst e);exact wpAny_pure ⟨N₁,x₁,rfl⟩
  ·exact G8 x₁ (ih (V.ext x₁) b e)
  ·exact G8 x₁ (ih (V.ext x₁) b e)
  ·(replace e:=Option.some.inj e;subst e);exact wpAny_pure ⟨N₁,x₁,rfl⟩
theorem OT {op:BoolOp} {pos:Pos} (R:AG k A) (hr:SE prog w Pa Gl k r.e) (V:Vw Pa Gl N env names loc cel s):∀ (es:List Expr) (d:D),Hh r names loc cel op es=some d->
  wpAny (model prog w) A (boolOp pos op (evalEach es env)) (Gv Pa N s d) E s:=by
 intro es
 induction es generalizing s N with
 |nil=>intro d e;exact Aa e
 |cons x es ih=>
  intro d e
  cases es with
  |nil=>exact hr _ _ _ _ _ e A E s N env R V
  |cons y es=>
   revert e
   refine Mine.Br λdx q e=>Mine.ob e λc q' e=>?_
   show wpAny _ A (do
     let v<-eval x env
     standAt pos
     let t<-holding [v] (truthy v)
     match op,t with
     | .And,false| .Or,true=>pure v
     |_,_=>boolOp pos op (evalEach (y::es) env)) _ E s
   refine wpAny_bind (Gq hr q R V λv s₁ N₁ x₁ r₁=>wpAny_bind (wpAny_standAt (wpAny_bind (wpAny_holding ?_))))
   refine eK (La x₁.has r₁ q') λs₂ N₂ x₂=>?_
   have x₁₂:=x₁.trans x₂
   rcases op with _|_<;>rcases c with _|_
   ·(replace e:=Option.some.inj e;subst e);exact wpAny_pure ⟨N₂,x₁₂,x₂.rel r₁⟩
   ·exact Cr x₁₂ (ih (V.ext x₁₂) d e)
   ·exact Cr x₁₂ (ih (V.ext x₁₂) d e)
   ·(replace e:=Option.some.inj e;subst e);exact wpAny_pure ⟨N₂,x₁₂,x₂.rel r₁⟩
end
structure Wk (tup:Bool) (prog:Program) (w:World) (A:Around) (Pa:Params) (N₀:Az) (I:Addr) (fp wr:List Addr) (ds:List D) (St:Nat->Heap->Prop):Prop where
 sub:∀b∈wr,b∈fp
 live:∀i h,St i h->∀b∈fp,∃o,h.get? b=some o
 frame:∀i h h',St i h->(∀b∈fp,∀o,h.get? b=some o->h'.get? b=some o)->St i h'
 item:∀i d (s:Shared) (N:Az) (target:Expr) (E:Value->Shared->Prop) (Q:Value->Shared->Prop),(tup=true->Ez target=true)->ds[i]?=some d->St i s.heap->Cn N s->(∀p∈N₀,p∈N)->(∀p∈N,p.1∉wr)->
  (∀v h' tk N',Ax Pa N' v d->St (i+1) h'->(∀b o,b∉wr->s.heap.get? b=some o->h'.get? b=some o)->(∀p∈N,p∈N')->Cn N' {s with heap:=h',toks:=tk}->
   (∀p∈N',p∈N\/s.heap.get? p.1=Option.none)->Q v {s with heap:=h',toks:=tk})->
  wpAny (model prog w) A (pyNext (.ref I)) (λr s₁=>∃v,r=some v/\wpAny (model prog w) A (letOwnedTupleGo target (.ref I) v) (λZ s₂=>Q v s₂) E s₁) E s
 done:∀ (s:Shared) (E:Value->Shared->Prop) (Q:Option Value->Shared->Prop),St ds.length s.heap->
  (∀h' tk,(∀b o,b∉wr->s.heap.get? b=some o->h'.get? b=some o)->Q none {s with heap:=h',toks:=tk})->wpAny (model prog w) A (pyNext (.ref I)) Q E s
 self:∀i (s:Shared) (E:Value->Shared->Prop) (Q:Value->Shared->Prop),St i s.heap->Q (.ref I) s->wpAny (model prog w) A (pyIter (.ref I)) Q E s
theorem Wk.item2 {tup:Bool} {prog:Program} {w:World} {A:Around} {Pa:Params} {N₀:Az} {I:Addr} {fp wr:List Addr} {ds:List D} {St:Nat->Heap->Prop} (W:Wk tup prog w A Pa N₀ I fp wr ds St)
  (i:Nat) (d:D) (s:Shared) (N:Az) (target:Expr) (E:Value->Shared->Prop) (Q:Value->Shared->Prop) (h1:tup=true->Ez target=true) (h2:ds[i]?=some d) (h3:St i s.heap) (h4:Cn N s) (h5:∀p∈N₀,p∈N) (h6:∀p∈N,p.1∉wr)
  (hq:∀v h' tk N',s.toks<=tk->Ax Pa N' v d->St (i+1) h'->(∀b o,b∉wr->s.heap.get? b=some o->h'.get? b=some o)->(∀p∈N,p∈N')->Cn N' {s with heap:=h',toks:=tk}->
   (∀p∈N',p∈N\/s.heap.get? p.1=Option.none)->Q v {s with heap:=h',toks:=tk}):
  wpAny (model prog w) A (pyNext (.ref I)) (λr s₁=>∃v,r=some v/\wpAny (model prog w) A (letOwnedTupleGo target (.ref I) v) (λZ s₂=>Q v s₂) E s₁) E s:=by
 refine AV (wpAny_mono (W.item i d s N target E (λv s₂=>s.toks<=s₂.toks->Q v s₂) h1 h2 h3 h4 h5 h6 λv h' tk N' a b c e f g hk=>hq v h' tk N' hk a b c e f g) (λr s₁ h hk=>?_) λZ Z e=>e)
 revert h
 refine Mine.T0 λv e h=>?_
 exact ⟨v,e,AV (wpAny_mono h (λZ s₂ h hk2=>h (Nat.le_trans hk hk2)) λZ Z e=>e)⟩
theorem Wk.done2 {tup:Bool} {prog:Program} {w:World} {A:Around} {Pa:Params} {N₀:Az} {I:Addr} {fp wr:List Addr} {ds:List D} {St:Nat->Heap->Prop} (W:Wk tup prog w A Pa N₀ I fp wr ds St)
  (s:Shared) (E:Value->Shared->Prop) (Q:Option Value->Shared->Prop) (h1:St ds.length s.heap)
  (hq:∀h' tk,s.toks<=tk->(∀b o,b∉wr->s.heap.get? b=some o->h'.get? b=some o)->Q none {s with heap:=h',toks:=tk}):wpAny (model prog w) A (pyNext (.ref I)) Q E s:=
 AV (W.done s E _ h1 λh' tk a hk=>hq h' tk hk a)
noncomputable def MG:List String:=["enumerate","zip","dict_itemiterator","dict_reverseitemiterator","odict_iterator","itertools.zip_longest","itertools.pairwise"]
section
variable {prog:Program} {w:World} {A:Around} {E:Value->Shared->Prop} {s:Shared} {Pa:Params} {N:Az}
theorem Qv {target:Expr} {I:Addr} {v:Value} {o:Obj} {T:String} {Q:Unit->Shared->Prop} (ho:s.heap.get? I=some o) (hc:o.cls=.type T) (hT:MG.contains T=false) (hq:Q () s):
  wpAny (model prog w) A (letOwnedTupleGo target (.ref I) v) Q E s:=by
 have key:∀a:Addr,wpAny (model prog w) A (do
   let o<-load I
   match o.cls,o.data with
   | .type n,.fields vs=>if MG.contains n&&vs[0]?==some (rawInt a) then (do rule "for.unpacks-the-owned-tuple";updateField I 0 .none) else pure ()
   |_,_=>pure ()) Q E s:=λa=>by
  refine wpAny_bind (wpAny_load ho ?_)
  rw[hc]
  cases hd:o.data<;>try exact wpAny_pure hq
  dsimp only
  rw[hT]
  exact wpAny_pure hq
 unfold letOwnedTupleGo
 cases target with
 |Tuple=>
  cases v with
  |ref a=>exact key a
  |_=>exact wpAny_pure hq
 |List=>
  cases v with
  |ref a=>exact key a
  |_=>exact wpAny_pure hq
 |_=>exact wpAny_pure hq
theorem BU {I:Addr} {fp wr:List Addr} {n:Nat} {P:Nat->Value->Prop} {St:Nat->Heap->Prop} {ds:List D} (W:Walks prog w A I fp wr n P St) (hn:ds.length=n)
  (hP:∀i v d,P i v->ds[i]?=some d->Ax Pa N v d) (T:String) (hT:MG.contains T=false) (hI:∀i h,St i h->∃o,h.get? I=some o/\o.cls=.type T) (hlive:∀i h,St i h->∀b∈fp,∃o,h.get? b=some o):Wk false prog w A Pa N I fp wr ds St where
 sub:=W.sub
 live:=hlive
 frame:=W.frame
 item:=λi d s N' target E Q Z hd st hh hs hw hq=>by
  have hi:i<n:=by rw[<-hn];exact (List.getElem?_eq_some_iff.mp hd).1
  refine W.item i s _ E hi st λv h' tk hv st' k=>⟨v,rfl,?_⟩
  refine Mine.S0 (hI _ _ st') λo ho hc=>?_
  refine Qv ho hc hT ?_
  exact hq v h' tk N' ((hP i v d hv hd).mono hs) st' k (λZ h=>h) (λp hp=>k _ _ (hw p hp) (hh p hp)) λZ h=>.inl h
 done:=λs E Q st hq=>W.done s Q E (hn▸st) hq
 self:=λi s E Q st hq=>W.self i s Q E st hq
theorem FY {h:Heap} {a b:Addr} (x:∃o,h.get? a=some o) (y:∃o,h.get? b=some o):∀c∈[a,b],∃o,h.get? c=some o:=by
 intro c hc
 simp only[List.mem_cons,List.not_mem_nil,or_false] at hc
 rcases hc with rfl|rfl
 ·exact x
 ·exact y
theorem Hm {h:Heap} {a:Addr} (x:∃o,h.get? a=some o):∀c∈[a],∃o,h.get? c=some o:=by
 intro c hc
 rw[List.mem_singleton] at hc
 rw[hc];exact x
theorem MH {vs:List Value} {ds:List D} (r:Ar Pa N vs ds) {i:Nat} {v:Value} {d:D} (h1:vs.toArray[i]?=some v) (h2:ds[i]?=some d):Ax Pa N v d:=by
 refine Mine.S0 (r.get h2) λu e h=>?_
 have:v=u:=by simpa [e] using h1.symm
 rw[this];exact h
noncomputable def DA (tup:Bool) (prog:Program) (w:World) (A:Around) (Pa:Params) (N:Az) (s:Shared) (ds:List D) (it:Value) (s':Shared):Prop:=
 ∃N' I fp wr St,it=.ref I/\A1 N s N' s'/\Wk tup prog w A Pa N' I fp wr ds St/\St 0 s'.heap/\(∀b∈fp,(∃o,s'.heap.get? b=some o)/\((∃o,(b,o)∈N')\/s.heap.get? b=Option.none))/\
  (∀b∈wr,s.heap.get? b=Option.none)/\(∀p∈N',p.1∉wr)/\ds.length<=Ap
theorem DA.trans {N₁:Az} {s₁ s':Shared} {ds:List D} {it:Value} (x:A1 N s N₁ s₁) {tup:Bool} (h:DA tup prog w A Pa N₁ s₁ ds it s'):DA tup prog w A Pa N s ds it s':=by
 revert h
 refine Mine.dD λN' I fp wr St e y W st hf hw hn hl=>?_
 have nn:∀b,s₁.heap.get? b=Option.none->s.heap.get? b=Option.none:=λb=>Aw (Am x.keeps)
 exact ⟨N',I,fp,wr,St,e,x.trans y,W,st,λb hb=>⟨(hf b hb).1,(hf b hb).2.imp id (nn b)⟩,λb hb=>nn b (hw b hb),hn,hl⟩
theorem Up {a:Addr} {vs:List Value} {n:Nat} {ds:List D} (R:A.handled=none) (h:Cn N s) (m:(a,AZ vs n)∈N) (hl:vs.length<=Ap) (r:Ar Pa N vs ds):
  wpAny (model prog w) A (pyIter (.ref a)) (DA false prog w A Pa N s ds) E s:=by
 have hL:=AM h m
 have ha:a≠s.heap.objs.size:=Nat.ne_of_lt (Heap.lt_size (h _ m))
 refine wpAny_pyIter_list hL ?_
 have x:=A1.push0 h ({cls:=.type "list_iterator",data:=.fields #[.ref a,.int 0 0]}:Obj) s.toks
 refine ⟨N,s.heap.objs.size,[s.heap.objs.size,a],[s.heap.objs.size],_,rfl,x,BU (Walks.list R s.heap.objs.size a ha vs.toArray) (by simp;exact r.length.symm) (λi v d h1 h2=>MH r h1 h2)
  "list_iterator" (by decide) (λi h st=>st.1.imp λZ x=>⟨x.1,x.2.1⟩) (λi h st=>FY (st.1.imp λ_ x=>x.1) (st.2.imp λ_ x=>x.1)),⟨⟨_,Heap.get?_push_size _ rfl,rfl,rfl⟩,hL.push _⟩,?_,?_,?_,by rw[<-r.length];exact hl⟩
 ·intro b hb
  simp only[List.mem_cons,List.not_mem_nil,or_false] at hb
  rcases hb with rfl|rfl
  ·exact ⟨⟨_,Heap.get?_push_size _ rfl⟩,.inr (A3 _)⟩
  ·exact ⟨⟨_,Heap.get?_push_of_some _ (h _ m)⟩,.inl ⟨_,m⟩⟩
 ·intro b hb
  rw[List.mem_singleton] at hb
  subst hb;exact A3 _
 ·intro p hp hb
  rw[List.mem_singleton] at hb
  exact Nat.ne_of_lt (Heap.lt_size (h p hp)) hb
theorem Qw {a:Addr} {vs:List Value} {n:Nat} {ds:List D} (R:A.handled=none) (h:Cn N s) (m:(a,Bs vs n)∈N) (hl:vs.length<=Ap) (r:Ar Pa N vs ds):
  wpAny (model prog w) A (pyIter (.ref a)) (DA false prog w A Pa N s ds) E s:=by
 have hL:=Go h m
 have ha:a≠s.heap.objs.size:=Nat.ne_of_lt (Heap.lt_size (h _ m))
 refine wpAny_pyIter_tuple hL ?_
 have x:=A1.push0 h ({cls:=.type "tuple_iterator",data:=.fields #[.ref a,.int 0 0]}:Obj) s.toks
 refine ⟨N,s.heap.objs.size,[s.heap.objs.size,a],[s.heap.objs.size],_,rfl,x,BU (Walks.tuple R s.heap.objs.size a ha vs.toArray) (by simp;exact r.length.symm) (λi v d h1 h2=>MH r h1 h2)
  "tuple_iterator" (by decide) (λi h st=>st.1.imp λZ x=>⟨x.1,x.2.1⟩) (λi h st=>FY (st.1.imp λ_ x=>x.1) (st.2.imp λ_ x=>x.1)),⟨⟨_,Heap.get?_push_size _ rfl,rfl,rfl⟩,hL.push _⟩,?_,?_,?_,by rw[<-r.length];exact hl⟩
 ·intro b hb
  simp only[List.mem_cons,List.not_mem_nil,or_false] at hb
  rcases hb with rfl|rfl
  ·exact ⟨⟨_,Heap.get?_push_size _ rfl⟩,.inr (A3 _)⟩
  ·exact ⟨⟨_,Heap.get?_push_of_some _ (h _ m)⟩,.inl ⟨_,m⟩⟩
 ·intro b hb
  rw[List.mem_singleton] at hb
  subst hb;exact A3 _
 ·intro p hp hb
  rw[List.mem_singleton] at hb
  exact Nat.ne_of_lt (Heap.lt_size (h p hp)) hb
end
section
variable {prog:Program} {w:World} {A:Around} {E:Value->Shared->Prop} {s:Shared} {Pa:Params} {N:Az}
theorem Ck {h:Heap} {o:Obj} (hf:o.isFreed=false):∀b∈[h.objs.size],(∃o',(h.push o).get? b=some o')/\h.get? b=Option.none:=by
 intro b hb
 rw[List.mem_singleton] at hb
 subst hb
 exact ⟨⟨_,Heap.get?_push_size _ hf⟩,A3 _⟩
theorem B9 (h:Cn N s):∀p∈N,p.1∉[s.heap.objs.size]:=λp hp hb=>by
 rw[List.mem_singleton] at hb
 exact Nat.ne_of_lt (Heap.lt_size (h p hp)) hb
theorem Ld {n:Int} (h0:0<=n) (h1:n<1000000):Builtin.Range.small 0 n 1=true/\Builtin.Range.rangeSize 0 n 1=n:=by
 have e:Builtin.Range.rangeSize 0 n 1=n:=by
  unfold Builtin.Range.rangeSize
  rw[if_pos (by decide)]
  split
  ·rw[Int.ediv_one];lia
  ·lia
 refine ⟨?_,e⟩
 unfold Builtin.Range.small
 rw[e]
 have f:∀x:Int, -2<=x->x<2000000->Builtin.Range.rangeFitsLong x=true:=λx h1 h2=>by
  unfold Builtin.Range.rangeFitsLong
  simp
  lia
 rw[f 0 (by lia) (by lia),f n (by lia) (by lia),f 1 (by lia) (by lia),if_pos (by decide),f _ (by lia) (by lia)]
 simp[f n (by lia) (by lia)]
theorem Qx {n:Int} {t:Tok} (R:A.handled=none) (h:Cn N s) (h0:0<=n) (h1:n<1000000):
  wpAny (model prog w) A (call (.type "range") [.int n t]) (λx s₁=>wpAny (model prog w) A (pyIter x) (DA false prog w A Pa N s (Dz n)) E s₁) E s:=by
 refine callType_new F.called_range (by decide) (F.typeCall_range_1 _) (F.newCall_range_1 _) (λobj=>F.args_object_init_2 obj _) F.entry_range_new (AutoRange.range___new___type_int_0 n t F.isi_self_range) ?_
 refine ⟨⟨_,Heap.get?_push_size _ rfl,rfl⟩,?_⟩
 have ho:({cls:=Value.type "range",data:=Data.fields #[Value.int 0 s.toks,Value.int n t,Value.int 1 (s.toks+1)]}:Obj).isFreed=false:=rfl
 obtain ⟨hs,he⟩:=Ld h0 h1
 refine wpAny_pyIter_range (Heap.get?_push_size _ ho) hs ?_
 rw[he]
 have x1:=A1.push0 h ({cls:=Value.type "range",data:=Data.fields #[Value.int 0 s.toks,Value.int n t,Value.int 1 (s.toks+1)]}:Obj) (s.toks+1+1)
 have x2:=A1.push0 x1.has ({cls:=.type "range_iterator",data:=.fields #[rawInt 0,rawInt n,rawInt 1]}:Obj) (s.toks+1+1)
 have W:=Walks.range (prog:=prog) (w:=w) R (s.heap.push {cls:=Value.type "range",data:=Data.fields #[Value.int 0 s.toks,Value.int n t,Value.int 1 (s.toks+1)]}).objs.size 0 1 n.toNat
 have hn:(n.toNat:Int)=n:=Int.toNat_of_nonneg h0
 refine ⟨N,_,_,_,_,rfl,x1.trans x2,BU W (by simp[Dz]) ?_ "range_iterator" (by decide) (λi h st=>⟨_,st,rfl⟩) (λi h st=>Hm ⟨_,st⟩),?_,?_,?_,?_,?_⟩
 ·rintro i v d ⟨t,rfl⟩ hd
  obtain ⟨hi,rfl⟩:=List.getElem?_eq_some_iff.mp hd
  simp only[Dz,List.getElem_map,List.getElem_range]
  have e:(0:Int)+i*1=(i:Int):=by lia
  rw[e]
  exact .int _ _
 ·show Heap.get? _ _=_
  rw[Heap.get?_push_size _ rfl]
  simp[hn]
 ·intro b hb
  obtain ⟨q1,q2⟩:=Ck (h:=s.heap.push {cls:=Value.type "range",data:=Data.fields #[Value.int 0 s.toks,Value.int n t,Value.int 1 (s.toks+1)]}) (o:={cls:=.type "range_iterator",data:=.fields #[rawInt 0,rawInt n,rawInt 1]}) rfl b hb
  exact ⟨q1,.inr (Aw (λ_ _ e=>Heap.get?_push_of_some _ e) q2)⟩
 ·intro b hb
  exact Aw (λ_ _ e=>Heap.get?_push_of_some _ e) (Ck (h:=s.heap.push {cls:=Value.type "range",data:=Data.fields #[Value.int 0 s.toks,Value.int n t,Value.int 1 (s.toks+1)]}) (o:={cls:=.type "range_iterator",data:=.fields #[rawInt 0,rawInt n,rawInt 1]}) rfl b hb).2
 ·exact B9 (s:={s with heap:=s.heap.push {cls:=Value.type "range",data:=Data.fields #[Value.int 0 s.toks,Value.int n t,Value.int 1 (s.toks+1)]}}) (λp hp=>Heap.get?_push_of_some _ (h p hp))
 ·simp[Dz,Ap];lia
theorem Yb {a:Addr} {vs:List Value} {n:Nat} {ds:List D} (R:A.handled=none) (h:Cn N s) (m:(a,AZ vs n)∈N) (hl:vs.length<=Ap) (r:Ar Pa N vs ds):
  wpAny (model prog w) A (call (.type "reversed") [.ref a]) (λx s₁=>wpAny (model prog w) A (pyIter x) (DA false prog w A Pa N s ds.reverse) E s₁) E s:=by
 have hL:=AM h m
 have ha:a≠s.heap.objs.size:=Nat.ne_of_lt (Heap.lt_size (h _ m))
 refine call_reversed_list hL ?_
 have D5:(s.heap.push (revObj a ((vs.toArray.size:Int)-1))).IsRevIter s.heap.objs.size a ((vs.toArray.size:Int)-1):=⟨_,Heap.get?_push_size _ rfl,rfl,rfl⟩
 refine wpAny_pyIter_revIter D5 ?_
 have x:=A1.push0 h (revObj a ((vs.toArray.size:Int)-1)) s.toks
 have e:=r.length
 refine ⟨N,s.heap.objs.size,[s.heap.objs.size,a],[s.heap.objs.size],_,rfl,x,BU (Walks.listRev R s.heap.objs.size a ha vs.toArray) (by simp;exact e.symm) (λi v d h1 h2=>?_)
  "list_reverseiterator" (by decide) (λi h st=>st.2.1.imp λZ x=>⟨x.1,x.2.1⟩) (λi h st=>FY (st.2.1.imp λ_ x=>x.1) (st.2.2.imp λ_ x=>x.1)),⟨Nat.zero_le _,by simpa using D5,hL.push _⟩,?_,?_,B9 h,by rw[List.length_reverse,<-e];exact hl⟩
 ·have hi:i<ds.length:=by have:=(List.getElem?_eq_some_iff.mp h2).1;simpa using this
  refine MH r h1 ?_
  rw[List.getElem?_reverse hi] at h2
  rw[<-h2]
  congr 1
  simp[e]
 ·intro b hb
  simp only[List.mem_cons,List.not_mem_nil,or_false] at hb
  rcases hb with rfl|rfl
  ·exact ⟨⟨_,Heap.get?_push_size _ rfl⟩,.inr (A3 _)⟩
  ·exact ⟨⟨_,Heap.get?_push_of_some _ (h _ m)⟩,.inl ⟨_,m⟩⟩
 ·intro b hb
  rw[List.mem_singleton] at hb
  subst hb;exact A3 _
theorem Yc {x:List Nat} {t:Tok} (R:A.handled=none) (h:Cn N s) (hx:x.length<=Ap):
  wpAny (model prog w) A (pyIter (.str (S x) t)) (DA false prog w A Pa N s (x.map λc=>.str [c])) E s:=by
 have hs:∀i v d,SignAt (S x) i v->(x.map λc=>D.str [c])[i]?=some d->Ax Pa N v d:=by
  rintro i v d ⟨c,u,hc,rfl⟩ hd
  rw[List.getElem?_map] at hd
  have:x[i]?=some c:=by simpa using hc
  rw[this] at hd
  (replace hd:=Option.some.inj hd;subst hd)
  exact .str [c] u (by simp[Ap])
 refine wpAny_pyIter_strU ?_
 unfold strIterType
 split
 ·have y:=A1.push0 h ({cls:=.type "str_ascii_iterator",data:=.fields #[.str (S x) t,.int 0 0]}:Obj) s.toks
  exact ⟨N,s.heap.objs.size,_,_,_,rfl,y,BU (Walks.strAscii R s.heap.objs.size (S x) t) (by simp) hs "str_ascii_iterator" (by decide) (λi h st=>st.imp λZ x=>⟨x.1,x.2.1⟩) (λi h st=>Hm (st.imp λZ x=>x.1)),
   ⟨_,Heap.get?_push_size _ rfl,rfl,rfl⟩,λb hb=>⟨(Ck rfl b hb).1,.inr (Ck (o:={cls:=.type "str_ascii_iterator",data:=.fields #[.str (S x) t,.int 0 0]}) rfl b hb).2⟩,
   λb hb=>(Ck (o:={cls:=.type "str_ascii_iterator",data:=.fields #[.str (S x) t,.int 0 0]}) rfl b hb).2,B9 h,by simpa using hx⟩
 ·have y:=A1.push0 h ({cls:=.type "str_iterator",data:=.fields #[.str (S x) t,.int 0 0]}:Obj) s.toks
  exact ⟨N,s.heap.objs.size,_,_,_,rfl,y,BU (Walks.strWide R s.heap.objs.size (S x) t) (by simp) hs "str_iterator" (by decide) (λi h st=>st.imp λZ x=>⟨x.1,x.2.1⟩) (λi h st=>Hm (st.imp λZ x=>x.1)),
   ⟨_,Heap.get?_push_size _ rfl,rfl,rfl⟩,λb hb=>⟨(Ck rfl b hb).1,.inr (Ck (o:={cls:=.type "str_iterator",data:=.fields #[.str (S x) t,.int 0 0]}) rfl b hb).2⟩,
   λb hb=>(Ck (o:={cls:=.type "str_iterator",data:=.fields #[.str (S x) t,.int 0 0]}) rfl b hb).2,B9 h,by simpa using hx⟩
end
section
variable {prog:Program} {w:World} {A:Around} {E:Value->Shared->Prop} {s:Shared} {Pa:Params} {N:Az}
inductive N0 (h:Heap) (it l:Addr) (items:Array Value):Bool->Nat->Prop
 |list {i:Nat}:h.IsListIter it l i->h.IsList l items->N0 h it l items false i
 |tuple {i:Nat}:h.IsTupleIter it l i->h.IsTuple l items->N0 h it l items true i
theorem N0.at {h h':Heap} {it l:Addr} {items:Array Value} {b:Bool} {i:Nat} (x:N0 h it l items b i) (e1:∀o,h.get? it=some o->h'.get? it=some o) (e2:∀o,h.get? l=some o->h'.get? l=some o):N0 h' it l items b i:=by
 cases x with
 |list x y=>exact .list (x.at e1) (y.at e2)
 |tuple x y=>exact .tuple (x.at e1) (y.at e2)
theorem FZ {it t:Addr} {i:Nat} {items:Array Value} {x:Value} {Q:Value->Shared->Prop} (D5:s.heap.IsTupleIter it t i) (ht:s.heap.IsTuple t items) (hx:items[i]?=some x)
  (hQ:∀h',h'.IsTupleIter it t (i+1)->Heap.SameBut it s.heap h'->Q x {s with heap:=h'}):wpAny (model prog w) A (Builtin.SmallTypes.nextOf (.ref it)) Q E s:=by
 refine Mine.S8 (id D5) λo ho hc hd=>?_
 revert ht
 refine Mine.ij λol hol _ nl hdl=>?_
 unfold Builtin.SmallTypes.nextOf
 refine wpAny_bind (wpAny_callSpecial?_slot (name:="__next__") D5.typeIs F.slot_tuple_iterator_next
  (wpAny_call_entry F.slot_tuple_iterator_next D5.typeIs F.entry_tuple_iterator_next ?_ (F.args_tuple_iterator_next_1 _)))
 show wpAny _ _ (field (.ref it) 0>>=_) _ _ s
 refine wpAny_bind (wpAny_field ho hd (x:=.ref t) rfl ?_)
 show wpAny _ _ (if (Value.ref t==Value.none)=true then _ else _) _ _ s
 rw[if_neg (show ¬ ((Value.ref t==Value.none)=true) from Bool.false_ne_true)]
 show wpAny _ _ (field (.ref it) 1>>=_) _ _ s
 refine wpAny_bind (wpAny_field ho hd (x:=.int i 0) rfl ?_)
 show wpAny _ _ (seqItems? (.ref t)>>=_) _ _ s
 refine wpAny_bind (wpAny_seqItems hol hdl ?_)
 simp only[Int.toNat_natCast,hx]
 refine wpAny_bind (wpAny_setField ho hd (by simp) (wpAny_pure ⟨x,rfl,wpAny_pure (hQ _ ?_ (Heap.SameBut.update ..))⟩))
 exact ⟨_,Heap.get?_update_self _ ho (Obj.isFreed_of_fields (Obj.data_mapFields hd _)),(Obj.cls_mapFields ..).trans hc,by
  rw[Obj.data_mapFields hd];simp[rawInt]⟩
theorem Gs {it t:Addr} {i:Nat} {items:Array Value} {Q:Value->Shared->Prop} (hh:A.handled=none) (D5:s.heap.IsTupleIter it t i) (ht:s.heap.IsTuple t items) (hx:items[i]?=none)
  (hE:∀h' e,Heap.ExtBut it s.heap h'->(∃o,h'.get? e=some o/\o.cls=.type "StopIteration")->E (.ref e) {s with heap:=h'}):wpAny (model prog w) A (Builtin.SmallTypes.nextOf (.ref it)) Q E s:=by
 refine Mine.S8 (id D5) λo ho hc hd=>?_
 revert ht
 refine Mine.ij λol hol _ nl hdl=>?_
 unfold Builtin.SmallTypes.nextOf
 refine wpAny_bind (wpAny_callSpecial?_slot (name:="__next__") D5.typeIs F.slot_tuple_iterator_next
  (wpAny_call_entry F.slot_tuple_iterator_next D5.typeIs F.entry_tuple_iterator_next ?_ (F.args_tuple_iterator_next_1 _)))
 show wpAny _ _ (field (.ref it) 0>>=_) _ _ s
 refine wpAny_bind (wpAny_field ho hd (x:=.ref t) rfl ?_)
 show wpAny _ _ (if (Value.ref t==Value.none)=true then _ else _) _ _ s
 rw[if_neg (show ¬ ((Value.ref t==Value.none)=true) from Bool.false_ne_true)]
 show wpAny _ _ (field (.ref it) 1>>=_) _ _ s
 refine wpAny_bind (wpAny_field ho hd (x:=.int i 0) rfl ?_)
 show wpAny _ _ (seqItems? (.ref t)>>=_) _ _ s
 refine wpAny_bind (wpAny_seqItems hol hdl ?_)
 simp only[Int.toNat_natCast,hx]
 refine wpAny_bind (wpAny_rule (wpAny_bind (wpAny_setField ho hd (by simp) ?_)))
 show wpAny _ _ (newExc (.type "StopIteration") []>>=_) _ _ _
 refine wpAny_bind ?_
 simp only[newExc,newTuple]
 refine wpAny_bind (wpAny_newObj_type ?_ (by size_fits))
 refine wpAny_bind (m:=firstArgMember _ _) (wpAny_of_eq (a:=Value.none) (by first|rfl|(simp only[firstArgMember];rfl)) ?_)
 refine wpAny_newObj_type ?_ (by size_fits)
 unfold raiseNew
 refine wpAny_bind (wpAny_handled ?_)
 first|rw[show A.in1.handled=none from hh]|rw[hh]
 refine wpAny_bind (wpAny_pure (wpAny_throw ?_))
 exact hE _ _ (((Heap.SameBut.update ..).extBut.push _).push _) ⟨_,Heap.get?_push_size _ rfl,rfl⟩
theorem Le {it l:Addr} {i:Nat} {items:Array Value} {b:Bool} {x:Value} {Q:Value->Shared->Prop} (hs:N0 s.heap it l items b i) (hli:l≠it) (hx:items[i]?=some x)
  (hQ:∀h',N0 h' it l items b (i+1)->Heap.SameBut it s.heap h'->Q x {s with heap:=h'}):wpAny (model prog w) A (Builtin.SmallTypes.nextOf (.ref it)) Q E s:=by
 cases hs with
 |list h1 h2=>exact wpAny_nextOf_list_item h1 h2 hx λh' a b=>hQ h' (.list a (h2.extBut b.extBut hli)) b
 |tuple h1 h2=>exact FZ h1 h2 hx λh' a b=>hQ h' (.tuple a (h2.extBut b.extBut hli)) b
theorem MI {it l:Addr} {i:Nat} {items:Array Value} {b:Bool} {Q:Value->Shared->Prop} (hh:A.handled=none) (hs:N0 s.heap it l items b i) (hx:items[i]?=none)
  (hE:∀h' e,Heap.ExtBut it s.heap h'->(∃o,h'.get? e=some o/\o.cls=.type "StopIteration")->E (.ref e) {s with heap:=h'}):wpAny (model prog w) A (Builtin.SmallTypes.nextOf (.ref it)) Q E s:=by
 cases hs with
 |list h1 h2=>exact wpAny_nextOf_list_end hh h1 h2 hx hE
 |tuple h1 h2=>exact Gs hh h1 h2 hx hE
theorem OU {e it l:Addr} {i:Nat} {items:Array Value} {b:Bool} {x old:Value} {Q:Value->Shared->Prop} (he:IsEnum s.heap e it i old) (hs:N0 s.heap it l items b i) (hx:items[i]?=some x) (hne:e≠it) (hle:l≠e) (hli:l≠it)
  (hQ:∀h',IsEnumOut h' e it ((i:Int)+1) x s.heap.objs.size->N0 h' it l items b (i+1)->
   h'.get? s.heap.objs.size=some {cls:=.type "tuple",data:=.seq #[.int i s.toks,x]}->
   (∀b o,b≠e->b≠it->s.heap.get? b=some o->h'.get? b=some o)->Q (.ref s.heap.objs.size) {s with heap:=h',toks:=s.toks+1}):
  wpAny (model prog w) A (Builtin.«enumerate.__next__» ⟨[.ref e],[]⟩) (λfin s'=>∃v,fin=.done (.ret v)/\Q v s') E s:=by
 obtain ⟨hp,g,d,tk,os⟩:=s
 show wpAny _ _ (field (.ref e) 2>>=_) _ _ _
 refine wpAny_bind (wpAny_field he rfl (x:=.ref it) rfl ?_)
 refine wpAny_bind (Le hs hli hx λh₁ hs' hb₁=>?_)
 replace hb₁:Heap.SameBut it hp h₁:=hb₁
 have he₁:IsEnum h₁ e it i old:=(hb₁.2 e hne).trans he
 show wpAny _ _ (field (.ref e) 3>>=_) _ _ ⟨h₁,g,d,tk,os⟩
 refine wpAny_bind (wpAny_field he₁ rfl (x:=rawInt i) rfl ?_)
 show wpAny _ _ (field (.ref e) 4>>=_) _ _ ⟨h₁,g,d,tk,os⟩
 refine wpAny_bind (wpAny_field he₁ rfl (x:=.none) rfl ?_)
 show wpAny _ _ (mkInt i>>=_) _ _ ⟨h₁,g,d,tk,os⟩
 refine wpAny_bind (wpAny_mkInt ?_)
 show wpAny _ _ (setField (.ref e) 3 (rawInt ((i:Int)+1))>>=_) _ _ ⟨h₁,g,d,tk+1,os⟩
 refine wpAny_bind (wpAny_setField_rec he₁ (by simp) λh₂ he₂ hb₂=>?_)
 replace hb₂:Heap.SameBut e h₁ h₂:=hb₂
 replace he₂:IsEnum h₂ e it ((i:Int)+1) old:=he₂
 show wpAny _ _ (setField (.ref e) 4 .none>>=_) _ _ ⟨h₂,g,d,tk+1,os⟩
 refine wpAny_bind (wpAny_setField_rec he₂ (by simp) λh₃ he₃ hb₃=>?_)
 replace hb₃:Heap.SameBut e h₂ h₃:=hb₃
 replace he₃:IsEnum h₃ e it ((i:Int)+1) old:=he₃
 have hsz:h₃.objs.size=hp.objs.size:=by rw[hb₃.1,hb₂.1,hb₁.1]
 have hel:e<hp.objs.size:=Heap.lt_size he
 have k₃:∀b o,b≠e->b≠it->hp.get? b=some o->h₃.get? b=some o:=λb o h1 h2 e=>hb₃.extBut b o h1 (hb₂.extBut b o h1 (hb₁.extBut b o h2 e))
 have hs₃:N0 h₃ it l items b (i+1):=hs'.at (λo e=>hb₃.extBut _ o (Ne.symm hne) (hb₂.extBut _ o (Ne.symm hne) e)) (λo e=>hb₃.extBut _ o hle (hb₂.extBut _ o hle e))
 show wpAny _ _ (newTuple [.int i tk,x]>>=_) _ _ ⟨h₃,g,d,tk+1,os⟩
 refine wpAny_bind (wpAny_newTuple ?_ (Nat.le_of_ble_eq_true rfl))
 have he₄:IsEnum (h₃.push {cls:=.type "tuple",data:=.seq #[.int i tk,x]}) e it ((i:Int)+1) old:=Heap.get?_push_of_some _ he₃
 have ht₄:(h₃.push {cls:=.type "tuple",data:=.seq #[.int i tk,x]}).get? hp.objs.size=some {cls:=.type "tuple",data:=.seq #[.int i tk,x]}:=by rw[<-hsz];exact Heap.get?_push_size _ rfl
 have hs₄:N0 (h₃.push {cls:=.type "tuple",data:=.seq #[.int i tk,x]}) it l items b (i+1):=hs₃.at (λo e=>Heap.get?_push_of_some _ e) (λo e=>Heap.get?_push_of_some _ e)
 have k₄:∀b o,b≠e->b≠it->hp.get? b=some o->(h₃.push {cls:=.type "tuple",data:=.seq #[.int i tk,x]}).get? b=some o:=λb o h1 h2 e=>Heap.get?_push_of_some _ (k₃ b o h1 h2 e)
 generalize (h₃.push {cls:=.type "tuple",data:=.seq #[.int i tk,x]})=h₄ at he₄ ht₄ hs₄ k₄
 show wpAny _ _ (Builtin.SmallTypes.ownedTupleIsFree (.ref e)>>=_) _ _ ⟨h₄,g,d,tk+1,os⟩
 rw[hsz]
 refine wpAny_bind ?_
 unfold Builtin.SmallTypes.ownedTupleIsFree
 refine wpAny_bind (wpAny_field he₄ rfl (x:=.none) rfl (wpAny_pure ?_))
 rw[if_pos rfl]
 refine wpAny_bind (wpAny_rule ?_)
 refine wpAny_bind (wpAny_field he₄ rfl (x:=old) rfl ?_)
 refine wpAny_bind (wpAny_setField_rec he₄ (by simp) λh₅ he₅ hb₅=>?_)
 replace hb₅:Heap.SameBut e h₄ h₅:=hb₅
 replace he₅:IsEnum h₅ e it ((i:Int)+1) x:=he₅
 show wpAny _ _ (Builtin.SmallTypes.ownedTupleHandOut (.ref e) (.ref hp.objs.size)>>=_) _ _ ⟨h₅,g,d,tk+1,os⟩
 refine wpAny_bind ?_
 unfold Builtin.SmallTypes.ownedTupleHandOut
 refine wpAny_bind (wpAny_setField_rec he₅ (by simp) λh₆ he₆ hb₆=>?_)
 replace hb₆:Heap.SameBut e h₅ h₆:=hb₆
 replace he₆:IsEnumOut h₆ e it ((i:Int)+1) x hp.objs.size:=he₆
 refine wpAny_setField_rec he₆ (by simp) λh₇ he₇ hb₇=>?_
 replace hb₇:Heap.SameBut e h₆ h₇:=hb₇
 replace he₇:IsEnumOut h₇ e it ((i:Int)+1) x hp.objs.size:=he₇
 have k₇:∀b o,b≠e->h₄.get? b=some o->h₇.get? b=some o:=λb o h1 h2=>hb₇.extBut b o h1 (hb₆.extBut b o h1 (hb₅.extBut b o h1 h2))
 refine wpAny_bind (wpAny_letGo (wpAny_pure ⟨_,rfl,hQ h₇ he₇ (hs₄.at (λo e=>k₇ _ o (Ne.symm hne) e) (λo e=>k₇ _ o hle e)) (k₇ _ _ (Nat.ne_of_gt hel) ht₄) λb o h1 h2 e=>k₇ b o h1 (k₄ b o h1 h2 e)⟩))
theorem Uq {e it l:Addr} {vs:List Value} {b:Bool} {ds:List D} (R:A.handled=none) (hne:e≠it) (hle:l≠e) (hli:l≠it) (r:Ar Pa N vs ds):
  Wk true prog w A Pa N e [e,it,l] [e,it] (Cg ds) (λi h=>(∃old,IsEnum h e it i old)/\N0 h it l vs.toArray b i) where
 sub:=λc hc=>by
  simp only[List.mem_cons,List.not_mem_nil,or_false] at hc ⊢
  rcases hc with rfl|rfl
  ·exact .inl rfl
  ·exact .inr (.inl rfl)
 live:=λi h st c hc=>by
  revert st
  refine Mine.bn λold he hs=>?_
  simp only[List.mem_cons,List.not_mem_nil,or_false] at hc
  rcases hc with rfl|rfl|rfl
  ·exact ⟨_,he⟩
  ·cases hs with
   |list x _=>exact x.imp λZ x=>x.1
   |tuple x _=>exact x.imp λZ x=>x.1
  ·cases hs with
   |list _ x=>exact x.imp λZ x=>x.1
   |tuple _ x=>exact x.imp λZ x=>x.1
 frame:=λi h h' st k=>by
  revert st
  refine Mine.bn λold he hs=>?_
  exact ⟨⟨old,k e (by exact List.mem_cons_self) _ he⟩,hs.at (λo x=>k it (by simp) o x) (λo x=>k l (by simp) o x)⟩
 item:=λi d s N' target E Q ht hd st hh hsub hw hq=>by
  revert st
  refine Mine.bn λold he hs=>?_
  have hd':ds[i]?=some (ds[i]?.getD default)/\d=.tuple [.int i,ds[i]?.getD default]:=by
   unfold Cg at hd
   rw[List.getElem?_map] at hd
   revert hd
   refine Mine.FQ λp q hd=>?_
   subst hd
   rw[List.getElem?_zipIdx] at q
   cases q2:ds[i]? with
   |none=>rw[q2] at q;exact Aa q
   |some c=>rw[q2] at q;(replace q:=Option.some.inj q;subst q);simp
  refine Mine.S0 (r.get hd'.1) λx hx hr=>?_
  have hx':vs.toArray[i]?=some x:=by simpa using hx
  have hT:s.TypeIs (.ref e) "enumerate":=⟨_,he,rfl⟩
  unfold pyNext
  refine wpAny_bind (wpAny_attempt (wpAny_callSpecial?_slot (name:="__next__") hT F.slot_enumerate_next
   (wpAny_call_entry F.slot_enumerate_next hT F.entry_enumerate_next (OU he hs hx' hne hle hli λh' ho hs' hT' k=>?_) (F.args_enumerate_next_1 _))))
  refine wpAny_pure ⟨_,rfl,?_⟩
  obtain ⟨ts,c,p,rfl⟩:∃ts c p,target=.Tuple ts c p:=by
   have:=ht rfl
   rcases target with _|_<;>first|exact ⟨_,_,_,rfl⟩|exact B7 this
  refine wpAny_letOwnedTupleGo_enum ho λh₂ he₂ hb₂=>?_
  have hfr:∀b o,b∉[e,it]->s.heap.get? b=some o->h₂.get? b=some o:=λb o hb x=>by
   have h1:b≠e:=λq=>hb (by simp[q])
   exact hb₂.extBut b o h1 (k b o h1 (λq=>hb (by simp[q])) x)
  have hTe:s.heap.objs.size≠e:=Nat.ne_of_gt (Heap.lt_size he)
  have hT₂:h₂.get? s.heap.objs.size=some (Bs [.int i s.toks,x] 0):=hb₂.extBut _ _ hTe hT'
  refine hq _ h₂ (s.toks+1) ((s.heap.objs.size,Bs [.int i s.toks,x] 0)::N') ?_ ⟨⟨_,by simpa using he₂⟩,hs'.at (λo y=>hb₂.extBut _ o (Ne.symm hne) y) (λo y=>hb₂.extBut _ o hle y)⟩ hfr (λ_ h=>.tail _ h) ?_ ?_
  ·rw[hd'.2]
   exact .tuple (.head _) (by simp[Ap]) (.cons (.int _ _) (.cons (hr.mono λp hp=>.tail _ (hsub p hp)) .nil))
  ·intro p hp
   rcases List.mem_cons.mp hp with rfl|hp
   ·exact hT₂
   ·exact hfr _ _ (hw p hp) (hh p hp)
  ·intro p hp
   rcases List.mem_cons.mp hp with rfl|hp
   ·exact .inr (A3 _)
   ·exact .inl hp
 done:=λs E Q st hq=>by
  revert st
  refine Mine.bn λold he hs=>?_
  have hT:s.TypeIs (.ref e) "enumerate":=⟨_,he,rfl⟩
  unfold pyNext
  refine wpAny_bind (wpAny_attempt (wpAny_callSpecial?_slot (name:="__next__") hT F.slot_enumerate_next
   (wpAny_call_entry F.slot_enumerate_next hT F.entry_enumerate_next ?_ (F.args_enumerate_next_1 _))))
  show wpAny _ _ (field (.ref e) 2>>=_) _ _ _
  refine wpAny_bind (wpAny_field he rfl (x:=.ref it) rfl ?_)
  have hl:vs.toArray[(Cg ds).length]?=none:=by
   have:=r.length
   simp[Cg,this]
  refine wpAny_bind (MI R hs hl λh' x he' hx'=>?_)
  revert hx'
  refine Mine.T0 λo ho hc=>?_
  refine wpAny_bind (wpAny_isInstance (T:="StopIteration") (b:=true) ⟨o,ho,hc⟩ isSubtype_stop ?_)
  exact wpAny_pure (hq _ _ λb o hb x=>he' b o (λq=>hb (by simp[q])) x)
 self:=λi s E Q st hq=>by
  revert st
  refine Mine.bn λold he _=>?_
  exact wpAny_pyIter_enum he hq
end
open AutoSeq1 (wpAny_loadPart')
theorem OV {M:Model} {A:Around} {E:Value->Shared->Prop} {s:Shared} {Q:Bool->Shared->Prop} {x:Bool} (h:∀b,Q b s):wpAny M A (pure x) Q E s:=wpAny_pure (h x)
set_option tactic.hygienic true
theorem Hn (l:Addr) (items:Array Value) (n:Nat):
  Meets (Builtin.«enumerate.__new__» ⟨[.type "enumerate",.ref l],[]⟩) (λZ R s=>s.heap.get? l=some {cls:=.type "tuple",data:=.seq items n}/\
   R (.ok (.ret (.ref (s.heap.push {cls:=.type "tuple_iterator",data:=.fields #[.ref l,.int 0 0]}).objs.size)))
    {s with heap:=(s.heap.push {cls:=.type "tuple_iterator",data:=.fields #[.ref l,.int 0 0]}).push {cls:=.type "enumerate",data:=.fields #[.none,.bool false,.ref s.heap.objs.size,rawInt 0,.none,.none]}}):=
 .of_wp λprog w A R s h=>by
  obtain ⟨hp,g,d,tk,os⟩:=s;obtain ⟨hl,h⟩:=h
  have hsub:=sub_enumerate
  have hL:Heap.IsTuple (Shared.heap ⟨hp,g,d,tk,os⟩) l items:=⟨_,hl,rfl,n,rfl⟩
  wp_walk using wpAny_loadPart' hl
  refine wpAny_stack_any λst=>OV λb=>?_
  cases b<;>(wp_walk using wpAny_loadPart' hl,wpAny_pyIter_tuple hL;exact ⟨_,rfl,h⟩)
set_option tactic.hygienic false
section
variable {prog:Program} {w:World} {A:Around} {E:Value->Shared->Prop} {s:Shared} {Pa:Params} {N:Az}
theorem Lf {l:Addr} {o:Obj} {vs:List Value} {b:Bool} {ds:List D} (R:A.handled=none) (h:Cn N s) (m:(l,o)∈N) (hl:vs.length<=Ap) (r:Ar Pa N vs ds) {h':Heap}
  (he:IsEnum h' (s.heap.objs.size+1) s.heap.objs.size 0 .none) (hs:N0 h' s.heap.objs.size l vs.toArray b 0) (k:∀b o,s.heap.get? b=some o->h'.get? b=some o):
  wpAny (model prog w) A (pyIter (.ref (s.heap.objs.size+1))) (DA true prog w A Pa N s (Cg ds)) E {s with heap:=h'}:=by
 refine wpAny_pyIter_enum he ?_
 have hl0:l<s.heap.objs.size:=Heap.lt_size (h _ m)
 have fr:∀b,s.heap.objs.size<=b->s.heap.get? b=Option.none:=λb hb=>by
  cases q:s.heap.get? b with
  |none=>rfl
  |some o=>exact absurd (Heap.lt_size q) (Nat.not_lt.mpr hb)
 have D5:∃o,h'.get? s.heap.objs.size=some o:=by
  cases hs with
  |list a _=>exact ⟨_,a.choose_spec.1⟩
  |tuple a _=>exact ⟨_,a.choose_spec.1⟩
 refine ⟨N,s.heap.objs.size+1,_,_,_,rfl,A1.of_keeps h ⟨h',s.toks,rfl,k⟩,Uq (b:=b) R (Nat.succ_ne_self _) (Nat.ne_of_lt (Nat.lt_succ_of_lt hl0)) (Nat.ne_of_lt hl0) r,⟨⟨.none,he⟩,hs⟩,?_,?_,?_,?_⟩
 ·intro c hc
  simp only[List.mem_cons,List.not_mem_nil,or_false] at hc
  rcases hc with rfl|rfl|rfl
  ·exact ⟨⟨_,he⟩,.inr (fr _ (Nat.le_succ _))⟩
  ·exact ⟨D5,.inr (fr _ (Nat.le_refl _))⟩
  ·exact ⟨⟨_,k _ _ (h _ m)⟩,.inl ⟨_,m⟩⟩
 ·intro c hc
  simp only[List.mem_cons,List.not_mem_nil,or_false] at hc
  rcases hc with rfl|rfl
  ·exact fr _ (Nat.le_succ _)
  ·exact fr _ (Nat.le_refl _)
 ·intro p hp hc
  have hq:p.1<s.heap.objs.size:=Heap.lt_size (h p hp)
  simp only[List.mem_cons,List.not_mem_nil,or_false] at hc
  rcases hc with hc|hc
  ·exact Nat.ne_of_lt (Nat.lt_succ_of_lt hq) hc
  ·exact Nat.ne_of_lt hq hc
 ·have:=r.length
  simp[Cg];lia
theorem Ur {v:Value} {d:D} {ds:List D} (R:A.handled=none) (h:Cn N s) (rv:Ax Pa N v d) (hd:d=.list ds\/d=.tuple ds):
  wpAny (model prog w) A (call (.type "enumerate") [v]) (λx s₁=>wpAny (model prog w) A (pyIter x) (DA true prog w A Pa N s (Cg ds)) E s₁) E s:=by
 rcases hd with rfl|rfl
 ·refine Mine.S4 rv.listOf λl vs n eq1 m hl r=>?_
  subst eq1
  refine call_enumerate_list (AM h m) λh' he hi hz k=>?_
  exact Lf R h m hl r he (.list hi ((AM h m).at λo e=>k _ _ e)) k
 ·refine Mine.S4 rv.tupleOf λl vs n eq1 m hl r=>?_
  subst eq1
  refine callType_new F.called_enumerate (by decide) (F.typeCall_enumerate_1 _) (F.newCall_enumerate_1 _) (λobj=>F.args_object_init_2 obj _) F.entry_enumerate_new
   (Hn l vs.toArray n) ⟨h _ m,?_⟩
  have hz:(s.heap.push {cls:=.type "tuple_iterator",data:=.fields #[.ref l,.int 0 0]}).objs.size=s.heap.objs.size+1:=Heap.size_push ..
  show _/\_
  rw[hz]
  have he:IsEnum ((s.heap.push {cls:=.type "tuple_iterator",data:=.fields #[.ref l,.int 0 0]}).push
    {cls:=.type "enumerate",data:=.fields #[.none,.bool false,.ref s.heap.objs.size,rawInt 0,.none,.none]}) (s.heap.objs.size+1) s.heap.objs.size 0 .none:=by
   have:=Heap.get?_push_size (s.heap.push {cls:=.type "tuple_iterator",data:=.fields #[.ref l,.int 0 0]})
    (o:={cls:=.type "enumerate",data:=.fields #[.none,.bool false,.ref s.heap.objs.size,rawInt 0,.none,.none]}) rfl
   rw[hz] at this;exact this
  have k:∀b o,s.heap.get? b=some o->((s.heap.push {cls:=.type "tuple_iterator",data:=.fields #[.ref l,.int 0 0]}).push
    {cls:=.type "enumerate",data:=.fields #[.none,.bool false,.ref s.heap.objs.size,rawInt 0,.none,.none]}).get? b=some o:=λb o x=>Heap.get?_push_of_some _ (Heap.get?_push_of_some _ x)
  refine ⟨⟨_,he,rfl⟩,Lf R h m hl r he (.tuple ⟨_,Heap.get?_push_of_some _ (Heap.get?_push_size _ rfl),rfl,rfl⟩ ⟨_,k _ _ (h _ m),rfl,n,rfl⟩) k⟩
theorem Us {es:List DictEntry} {ks:List (List Nat)} (hk:Ip w.params es ks):KeysOf (strKind prog w) es.toArray:=by
 intro e he
 have he:e∈es:=by simpa using he
 induction hk with
 |nil=>cases he
 |cons h1 h2 _ ih=>
  rcases List.mem_cons.mp he with rfl|he
  ·exact ⟨_,by rw[h1];exact (by simp[PySem.strKind,Value.isStrOf]),h2⟩
  ·exact ih (by simpa using he) he
theorem F0 {es:List DictEntry} {ks:List (List Nat)} (hk:Ip Pa es ks):es.length=ks.length:=by
 induction hk with
 |nil=>rfl
 |cons _ _ _ ih=>simp[ih]
theorem Qy {es:List DictEntry} {ks:List (List Nat)} (hk:Ip Pa es ks):Pairs (strKind prog w) es ((ks.map S).zip (es.map (·.val))):=by
 induction hk with
 |nil=>exact .nil
 |cons h1 h2 _ ih=>exact .cons (by rw[h1];simp[PySem.strKind,Value.isStrOf]) rfl ih
theorem Lg {x y:List Nat} (h:S x=S y):x=y:=by
 have:=congrArg (λz=>z.cps.toList) h
 simpa using this
theorem Ut {ks:List (List Nat)} (h:ks.Nodup):(ks.map S).Nodup:=by
 induction ks with
 |nil=>exact List.nodup_nil
 |cons k ks ih=>
  rw[List.nodup_cons] at h
  rw[List.map_cons,List.nodup_cons]
  refine ⟨λhm=>h.1 ?_,ih h.2⟩
  refine Mine.S0 (List.mem_map.mp hm) λk' h1 h2=>?_
  rw[<-Lg h2];exact h1
theorem Qz {h:Heap} {a:Addr} {es:List DictEntry} {n:Nat} {ks:List (List Nat)} (ho:h.get? a=some ({cls:=.type "dict",data:=.dict es.toArray n}:Obj)) (hn:ks.Nodup) (hk:Ip w.params es ks):
  h.DictAt (strKind prog w) a ((ks.map S).zip (es.map (·.val))) n:=by
 refine ⟨_,_,ho,⟨rfl,rfl,rfl⟩,rfl,Us hk,by simpa using Qy hk,?_⟩
 rw[List.map_fst_zip (by simp[F0 hk])]
 exact Ut hn
theorem Uu {v:Value} {ks:List (List Nat)} {ds:List D} (R:A.handled=none) (h:Cn N s) (rv:Ax w.params N v (.dict ks ds)):
  wpAny (model prog w) A (pyIter v) (DA false prog w A w.params N s (ks.map .str)) E s:=by
 refine Mine.ik rv.inv λa es n eq1 m hl hn hks hsys hk r=>?_
 subst eq1
 ·skip
  have hD:=Qz (prog:=prog) (h _ m) hn hk
  have ha:a≠s.heap.objs.size:=Nat.ne_of_lt (Heap.lt_size (h _ m))
  refine wpAny_pyIter_dict hsys hD ?_
  have y:=A1.push0 h ({cls:=.type "dict_keyiterator",data:=.fields #[.ref a,.int 0 0,.int (((ks.map S).zip (es.map (·.val))).length:Int) 0,.int (n:Int) 0]}:Obj) s.toks
  have e1:=F0 hk
  have e2:((ks.map S).zip (es.map (·.val))).length=ks.length:=by simp[e1]
  refine ⟨N,s.heap.objs.size,_,_,_,rfl,y,BU (Walks.dictKeys (prog:=prog) (w:=w) (knd:=strKind prog w) R s.heap.objs.size a ha _ n) (by simp[e1]) ?_ "dict_keyiterator" (by decide) (λi h st=>st.1.imp λZ x=>⟨x.1,x.2.1⟩) (λi h st=>FY (st.1.imp λZ x=>x.1) (let ⟨o,_,ho,_⟩:=st.2;⟨o,ho⟩)),
   ⟨⟨_,Heap.get?_push_size _ rfl,rfl,rfl⟩,hD.at' λo e=>Heap.get?_push_of_some _ e⟩,?_,?_,B9 h,by rw[List.length_map,<-e1];exact hl⟩
  ·rintro i v d ⟨k,x,h1,h2⟩ hd
   rw[List.getElem?_map] at hd
   revert hd
   refine Mine.FQ λc q hd=>?_
   subst hd
   have:k=S c:=by
    have:=congrArg (Option.map Prod.fst) h1
    rw[<-List.getElem?_map,List.map_fst_zip (by simp[e1]),List.getElem?_map,q] at this
    simpa using this.symm
   subst this
   obtain ⟨t,rfl⟩:=Value.isStrOf_shape h2
   exact .str c t (hks c (List.mem_of_getElem? q))
  ·intro b hb
   simp only[List.mem_cons,List.not_mem_nil,or_false] at hb
   rcases hb with rfl|rfl
   ·exact ⟨⟨_,Heap.get?_push_size _ rfl⟩,.inr (A3 _)⟩
   ·exact ⟨⟨_,Heap.get?_push_of_some _ (h _ m)⟩,.inl ⟨_,m⟩⟩
  ·intro b hb
   rw[List.mem_singleton] at hb
   subst hb;exact A3 _
end
section
variable {prog:Program} {w:World} {A:Around} {E:Value->Shared->Prop} {s:Shared} {N:Az} {Gl:List (Str×D)} {k:Nat} {env:Env} {names:List (Str×NameKind)} {loc cel:List (Str×D)} {r:CA}
theorem QA {v:Value} {d:D} {ds:List D} (R:A.handled=none) (h:Cn N s) (rv:Ax w.params N v d) (e:Cq d=some ds):
  wpAny (model prog w) A (pyIter v) (DA false prog w A w.params N s ds) E s:=by
 cases d with
 |list es=>(replace e:=Option.some.inj e;subst e);obtain ⟨a,vs,n,rfl,m,hl,r⟩:=rv.listOf;exact Up R h m hl r
 |tuple es=>(replace e:=Option.some.inj e;subst e);obtain ⟨a,vs,n,rfl,m,hl,r⟩:=rv.tupleOf;exact Qw R h m hl r
 |str x=>(replace e:=Option.some.inj e;subst e);obtain ⟨t,rfl,hx⟩:=rv.strOf;exact Yc R h hx
 |dict ks es=>(replace e:=Option.some.inj e;subst e);exact Uu R h rv
 |_=>exact Aa e
theorem Lh {e:Expr} {ds:List D} (R:AG k A) (hr:SE prog w w.params Gl k r.e) (V:Vw w.params Gl N env names loc cel s) (h:(r.e names loc cel e).bind Cq=some ds):
  wpAny (model prog w) A (eval e env) (λx s₁=>wpAny (model prog w) A (pyIter x) (DA false prog w A w.params N s ds) E s₁) E s:=by
 revert h
 refine Mine.Br λd q h=>?_
 refine Gq hr q R V λv s₁ N₁ x₁ r₁=>?_
 exact wpAny_mono (QA R.1 x₁.has r₁ h) (λit s₂ h=>h.trans x₁) λZ Z e=>e
theorem Gu {f:Str} {p pos:Pos} {a:Expr} {t:String} {d:D} {Q:Value->Shared->Prop} (R:AG k A) (hr:SE prog w w.params Gl k r.e) (V:Vw w.params Gl N env names loc cel s) (hp:Aj [a]=true)
  (e1:Dy Gl names loc cel f=some (.val (.type t))) (hd:(f=="__debug__")=false) (e2:r.e names loc cel a=some d)
  (hq:∀v s' N',A1 N s N' s'->Ax w.params N' v d->wpAny (model prog w) A (call (.type t) [v]) Q E s'):
  wpAny (model prog w) A (eval (.Call (.Name f p) [a] [] pos) env) Q E s:=by
 show wpAny _ A (do callWith pos (<-eval (.Name f p) env) [] (backTo pos (starEach [a] env)) (backToKw pos (keywordEach [] env))) _ E s
 rw[AX pos [a] hp]
 refine wpAny_bind (wpAny_Name (FW V e1 λv rv=>?_) hd)
 have:=rv.valOf
 subst this
 refine callWith_of (P:=λ_=>True) BS (λh _=>⟨.machine,.inr (.inl rfl),Looks.of_pure rfl⟩) ?_
 refine CP R hr V [a] [d] (by simp[e2]) λvs s₂ h=>Mine.S0 h λN₂ x₂ r₂=>?_
 cases r₂ with
 |cons h1 h2=>
  cases h2
  exact ⟨trivial,hq _ _ _ x₂ h1⟩
theorem OW {e a:Expr} {f:Str} (h:JT e=some (f,a)):∃p pos,e=.Call (.Name f p) [a] [] pos:=by
 refine ob h λq h1 h=>ob h λg h2 h=>ob h λb h3 h=>?_
 obtain ⟨h4,h5⟩:=IL h
 (refine NU h5 λe1 e2=>?_;clear h5;subst e1 e2)
 exact ⟨g.1.2,q.1.2.2.2,q.2.trans (IK (λf as ks=>Expr.Call f as ks _) g.2 (FR h3) (List.isEmpty_iff.mp h4))⟩
set_option tactic.hygienic true
theorem QB {d:D} (h:¬ K8 (some d)=0):∃t,d=.val (.type t):=by
 rcases d with _|_<;>first|exact absurd rfl h|skip
 rename_i v
 rcases v with _|_<;>first|exact absurd rfl h|exact ⟨_,rfl⟩
set_option tactic.hygienic false
theorem QC {tgt:Expr} {t:String} {d:D} {ds:List D} (h:IM tgt (K8 (some (.val (.type t)))) d=some ds) {P:Prop}
  (k1:t="range"->d.onI (λn=>if decide (0<=n)&&decide (n<1000000) then some (Dz n) else none)=some ds->P)
  (k2:t="enumerate"->Ez tgt=true->(∃ds',(d=.list ds'\/d=.tuple ds')/\ds=Cg ds')->P) (k3:t="reversed"->d.onL (λds=>some ds.reverse)=some ds->P):P:=by
 replace h:IM tgt (if t="range" then 1 else if t="enumerate" then 2 else if t="reversed" then 3 else 4) d=some ds:=h
 by_cases h1:t="range"
 ·rw[if_pos h1] at h
  exact k1 h1 h
 ·rw[if_neg h1] at h
  by_cases h2:t="enumerate"
  ·rw[if_pos h2] at h
   replace h:d.sel (λZ=>none) (λZ=>none) (λds=>if Ez tgt then some (Cg ds) else none) (λds=>if Ez tgt then some (Cg ds) else none)=some ds:=h
   rcases d with _|_<;>first|exact Mine.Aa h|skip
   ·obtain ⟨h3,rfl⟩:=IL h
    exact k2 h2 h3 ⟨_,.inr rfl,rfl⟩
   ·obtain ⟨h3,rfl⟩:=IL h
    exact k2 h2 h3 ⟨_,.inl rfl,rfl⟩
  ·rw[if_neg h2] at h
   by_cases h3:t="reversed"
   ·rw[if_pos h3] at h
    exact k3 h3 h
   ·rw[if_neg h3] at h
    exact Mine.Aa h
set_option tactic.hygienic true
theorem J0 {tgt e:Expr} {ds:List D} (R:AG k A) (hr:SE prog w w.params Gl k r.e) (V:Vw w.params Gl N env names loc cel s) (h:Bu Gl r names loc cel tgt e=some ds):
  (∀x,foldedSetIterable e env x=pure x)/\∃tup,(tup=true->Ez tgt=true)/\
   wpAny (model prog w) A (eval e env) (λx s₁=>wpAny (model prog w) A (pyIter x) (DA tup prog w A w.params N s ds) E s₁) E s:=by
 unfold Bu at h
 revert h
 refine BO λhf h=>?_
 have hfold:∀x,foldedSetIterable e env x=pure x:=λx=>by rcases e with _|_<;>first|rfl|exact B7 hf
 refine ⟨hfold,?_⟩
 split at h
 ·rename_i f a q
  split at h
  ·exact ⟨false,(nomatch ·),Lh R hr V h⟩
  ·split at h
   ·rename_i hk hpd
    rw[Bool.and_eq_true,Bool.not_eq_true'] at hpd
    obtain ⟨hp,hd⟩:=hpd
    refine Mine.S2 (OW q) λp pos eq1=>?_
    subst eq1
    revert h
    refine Mine.Br λd e2 h=>?_
    cases e1:Dy Gl names loc cel f with
    |none=>exact absurd (by rw[e1];rfl) hk
    |some u=>
     rw[e1] at h hk
     obtain ⟨t,rfl⟩:=QB hk
     refine QC h (λht h'=>?_) (λht htup h'=>?_) λht h'=>?_
     ·subst ht
      refine ⟨false,(nomatch ·),?_⟩
      refine Gu R hr V hp e1 hd e2 λv s' N' x rv=>?_
      revert v;show ∀v:Value,_;refine Ax.onI h' λn t h'=>?_
      obtain ⟨hb,rfl⟩:=IL h'
      rw[Bool.and_eq_true,decide_eq_true_eq,decide_eq_true_eq] at hb
      exact wpAny_mono (Qx R.1 x.has hb.1 hb.2) (λy s₁ h=>wpAny_mono h (λit s₂ h=>h.trans x) λZ Z e=>e) λZ Z e=>e
     ·subst ht
      revert h'
      refine Mine.T0 λds' hd' eq1=>?_
      subst eq1
      refine ⟨true,λ_=>htup,?_⟩
      refine Gu R hr V hp e1 hd e2 λv s' N' x rv=>?_
      exact wpAny_mono (Ur R.1 x.has rv hd') (λy s₁ h=>wpAny_mono h (λit s₂ h=>h.trans x) λZ Z e=>e) λZ Z e=>e
     ·subst ht
      refine ⟨false,(nomatch ·),Gu R hr V hp e1 hd e2 λv s' N' x rv=>?_⟩
      revert v;show ∀v:Value,_;refine Ax.onL h' λds' a vs n m hl r h'=>?_
      (replace h':=Option.some.inj h';subst h')
      exact wpAny_mono (Yb R.1 x.has m hl r) (λy s₁ h=>wpAny_mono h (λit s₂ h=>h.trans x) λZ Z e=>e) λZ Z e=>e
   ·exact Aa h
 ·exact ⟨false,(nomatch ·),Lh R hr V h⟩
set_option tactic.hygienic false
end
noncomputable def Li:List Str->List Value->(Str->Option Value)->(Str->Option Value)
 |x::xs,v::vs,m=>Li xs vs λy=>if y=x then some v else m y
 |_,_,m=>m
theorem Gw (x:Str) (xs:List Str) (v:Value) (vs:List Value) (m:Str->Option Value):Li (x::xs) (v::vs) m=Li xs vs λy=>if y=x then some v else m y:=rfl
theorem Ho:∀ (xs:List Str) (vs:List Value) (m:Str->Option Value) (y:Str),y∉xs->Li xs vs m y=m y
 |[],_,_,_,_=>rfl
 |_::_,[],_,_,_=>rfl
 |x::xs,v::vs,m,y,h=>by
  rw[Gw,Ho xs vs _ y λq=>h (.tail _ q),if_neg λq=>h (by rw[q];exact .head _)]
theorem J1 {Pa:Params} {N:Az} (xs:List Str):∀ (vs:List Value) (ds:List D) (m:Str->Option Value) (y:Str) (d:D),xs.Nodup->Ar Pa N vs ds->(xs.zip ds).lookup y=some d->∃v,Li xs vs m y=some v/\Ax Pa N v d:=by
 induction xs with
 |nil=>intro _ _ _ _ _ _ _ h;exact Aa h
 |cons x xs ih=>
  intro vs ds m y d hn r h
  cases r with
  |nil=>exact Aa h
  |cons r rs=>
   rw[List.nodup_cons] at hn
   rw[List.zip_cons_cons,List.lookup_cons] at h
   by_cases hy:y=x
   ·subst hy
    simp at h
    subst h
    refine ⟨_,?_,r⟩
    rw[Gw,Ho _ _ _ _ hn.1]
    simp
   ·have:(y==x)=false:=by simpa using hy
    rw[this] at h
    exact ih _ _ _ y d hn.2 rs h
theorem EF {α:Type}:∀ (xs:List Str) (ds:List α) (y:Str) (d:α),(xs.zip ds).lookup y=some d->y∈xs
 |[],_,_,_,h=>by simp at h
 |x::xs,[],_,_,h=>by simp at h
 |x::xs,e::ds,y,d,h=>by
  rw[List.zip_cons_cons,List.lookup_cons] at h
  by_cases hy:y=x
  ·rw[hy];exact .head _
  ·have:(y==x)=false:=by simpa using hy
   rw[this] at h
   exact .tail _ (EF xs ds y d h)
theorem Es {α:Type}:∀ (xs:List Str) (ds:List α) (y:Str),xs.length=ds.length->(xs.zip ds).lookup y=none->y∉xs
 |[],_,_,_,_=>List.not_mem_nil
 |x::xs,[],_,h,_=>by simp at h
 |x::xs,e::ds,y,hl,h=>by
  rw[List.zip_cons_cons,List.lookup_cons] at h
  by_cases hy:y=x
  ·subst hy;simp at h
  ·have:(y==x)=false:=by simpa using hy
   rw[this] at h
   intro hm
   rcases List.mem_cons.mp hm with q|q
   ·exact hy q
   ·exact Es xs ds y (by simpa using hl) h q
theorem CE {t:Expr} {ts:List Expr} {xs:List Str} (h:AI (t::ts)=some xs):∃x p ys,t=.Name x p/\AI ts=some ys/\xs=x::ys:=by
 refine Mine.ob h λq h1 h=>Mine.om h λys h2 h=>?_
 exact ⟨q.1.1,q.1.2,ys,q.2,h2,h.symm⟩
section
variable {prog:Program} {w:World} {A:Around} {E:Value->Shared->Prop} {s:Shared} {N:Az} {Gl:List (Str×D)} {k:Nat} {env:Env} {names:List (Str×NameKind)} {loc cel:List (Str×D)} {r:CA}
theorem Lj {ts:List Expr} {xs:List Str} (h:AI ts=some xs):(assignEach ts env).length=xs.length/\(assignEach ts env).findIdx? (·.1)=none:=by
 induction ts generalizing xs with
 |nil=>(replace h:=Option.some.inj h;subst h);exact ⟨rfl,rfl⟩
 |cons t ts ih=>
  refine Mine.S5 (CE h) λx p ys eq1 q eq2=>?_
  subst eq1 eq2
  obtain ⟨h1,h2⟩:=ih q
  refine ⟨by show _+1=_;rw[h1];rfl,?_⟩
  show List.findIdx? _ ((false,assign (.Name x p) env)::assignEach ts env)=none
  rw[List.findIdx?_cons]
  simp[h2]
theorem MJ (hp:(env.scope.kind==.class||(env.scope.kind==.module&&env.locals !=env.globals))=false):∀ (ts:List Expr) (xs:List Str) (vs:List Value) (s:Shared) (m:Str->Option Value) (Q:Unit->Shared->Prop),AI ts=some xs->
  (∀x∈xs,env.kindOf x=some .local)->s.heap.Ns env.locals m->
  (∀h' tk,h'.Ns env.locals (Li xs vs m)->Heap.SameBut env.locals s.heap h'->Q () {s with heap:=h',toks:=tk})->
  wpAny (model prog w) A (assignInOrder ((assignEach ts env).map (·.2)) vs) Q E s:=by
 intro ts
 induction ts with
 |nil=>intro xs vs s m Q h _ hn hq;(replace h:=Option.some.inj h;subst h);exact wpAny_pure (hq s.heap s.toks (show s.heap.Ns env.locals (Li [] _ m) from hn) (.refl ..))
 |cons t ts ih=>
  intro xs vs s m Q h hl hn hq
  refine Mine.S5 (CE h) λx p ys eq1 q eq2=>?_
  subst eq1 eq2
  cases vs with
  |nil=>exact wpAny_pure (hq s.heap s.toks hn (.refl ..))
  |cons v vs=>
   show wpAny _ A (do holding vs (assign (.Name x p) env v);assignInOrder ((assignEach ts env).map (·.2)) vs) Q E s
   refine wpAny_bind (wpAny_holding (wpAny_assign_Name (wpAny_storeName_local (hl x (.head _)) hn (λh₁ hn₁ hs₁=>?_) hp)))
   exact ih ys vs _ _ Q q (λy hy=>hl y (.tail _ hy)) hn₁ λh₂ tk hn₂ hs₂=>hq h₂ tk hn₂ (hs₁.trans hs₂)
theorem OX {x:Str} {kd:NameKind} (hn:env.scope.names=names) (h:(names.lookup x==some kd)=true):env.kindOf x=some kd:=by
 unfold Env.kindOf
 rw[hn]
 exact eq_of_beq h
theorem Fj {xs:List Str} (hn:env.scope.names=names) (h:FS names xs=true):∀x∈xs,env.kindOf x=some .local:=by
 intro x hx
 unfold FS at h
 rw[List.all_eq_true] at h
 exact OX hn (h x hx)
set_option tactic.hygienic true
theorem Lk {tgt:Expr} {v:Value} {d:D} {loc':List (Str×D)} (hk:env.scope.kind=.function) (hn:env.scope.names=names) (R:A.handled=none) (h:Cn N s) (rv:Ax w.params N v d) (e:Hg names tgt d loc=some loc')
  {m:Str->Option Value} (hm:s.heap.Ns env.locals m) (hl:∀x d,loc.lookup x=some d->∃v,m x=some v/\Ax w.params N v d) {Q:Unit->Shared->Prop}
  (hq:∀h' tk m',h'.Ns env.locals m'->(∀b o,b≠env.locals->s.heap.get? b=some o->h'.get? b=some o)->(∀x d,loc'.lookup x=some d->∃v,m' x=some v/\Ax w.params N v d)->(∀x d,loc.lookup x=some d->loc'.lookup x=some d)->
   Q () {s with heap:=h',toks:=tk}):wpAny (model prog w) A (assign tgt env v) Q E s:=by
 have hp:(env.scope.kind==.class||(env.scope.kind==.module&&env.locals !=env.globals))=false:=by rw[hk];rfl
 unfold Hg at e
 split at e
 ·rename_i q _
  obtain ⟨⟨x,p⟩,rfl⟩:=q
  obtain ⟨hc,rfl⟩:=IL e
  rw[Bool.and_eq_true] at hc
  have hx:=Fj hn hc.1 x (.head _)
  have hnone:loc.lookup x=none:=by simpa using hc.2
  refine wpAny_assign_Name (wpAny_storeName_local hx hm (λh₁ hn₁ hs₁=>?_) hp)
  refine hq h₁ _ _ hn₁ (λb o hb x=>hs₁.extBut b o hb x) (λy c hy=>?_) λy c hy=>?_
  ·rw[List.lookup_cons] at hy
   by_cases q:y=x
   ·subst q
    simp at hy
    subst hy
    exact ⟨v,by simp,rv⟩
   ·have:(y==x)=false:=by simpa using q
    rw[this] at hy
    refine Mine.S0 (hl y c hy) λu h1 h2=>?_
    exact ⟨u,by simp[q,h1],h2⟩
  ·rw[List.lookup_cons]
   have:(y==x)=false:=by
    refine beq_eq_false_iff_ne.mpr λq=>?_
    rw[q,hnone] at hy;exact Aa hy
   rw[this];exact hy
 ·revert e
  refine Mine.Br λq0 _ e=>?_
  obtain ⟨⟨ts,c,p⟩,rfl⟩:=q0
  revert e
  refine Mine.Br λxs q e=>?_
  obtain ⟨hc,e⟩:=X2 e
  rw[Bool.and_eq_true,Bool.and_eq_true,decide_eq_true_eq,List.all_eq_true] at hc
  revert v;show ∀v:Value,_;refine Ax.onT e λds a vs n ma la ra e=>?_
  obtain ⟨hlen,rfl⟩:=IL e
  have hlen':xs.length=vs.length:=by rw[ra.length,hlen]
  obtain ⟨e1,e2⟩:=Lj (env:=env) q
  refine wpAny_assign_Tuple R (Go h ma) (by rw[e1,hlen'];simp) e2 λh₁ hs₁=>?_
  have hloc:env.locals≠s.heap.objs.size:=by obtain ⟨o,_,_,ho,_⟩:=hm;exact Nat.ne_of_lt (Heap.lt_size ho)
  refine MJ hp ts xs _ _ m _ q (Fj hn hc.1.1) (hm.at' λo x=>hs₁ _ o hloc x) λh₂ tk hn₂ hs₂=>?_
  have hv:vs.toArray.toList=vs:=by simp
  rw[hv] at hn₂
  refine hq h₂ tk _ hn₂ (λb o hb x=>hs₂.extBut b o hb (hs₁ b o (Nat.ne_of_lt (Heap.lt_size x)) x)) (λy c hy=>?_) λy c hy=>?_
  ·rw[List.lookup_append] at hy
   cases q2:(xs.zip ds).lookup y with
   |some u=>
    rw[q2] at hy
    replace hy:=(Option.some.inj hy).symm;subst hy
    exact J1 xs vs ds m y c hc.2 ra q2
   |none=>
    rw[q2] at hy
    have hy':loc.lookup y=some c:=by simpa using hy
    refine Mine.S0 (hl y c hy') λu h1 h2=>?_
    exact ⟨u,by rw[Ho _ _ _ _ (Es xs ds y (by lia) q2)];exact h1,h2⟩
  ·rw[List.lookup_append]
   cases q2:(xs.zip ds).lookup y with
   |some u=>
    have:=hc.1.2 y (EF xs ds y u q2)
    rw[hy] at this;simp at this
   |none=>simpa using hy
set_option tactic.hygienic false
end
section
variable {prog:Program} {w:World} {A:Around} {E:Value->Shared->Prop} {R:Result->Shared->Prop} {s:Shared}
theorem Hp {elt:Expr} {gens:List Comprehension} {scope:Scope} {pos:Pos} {depth:Nat} {g:Comprehension} {it acc:Value} {env:Env} (hg:gens[depth]?=some g) (ha:g.is_async=0)
  (h0:codeAny (model prog w) A (.compLoop (.ListComp elt gens scope pos) depth it acc env) R s)
  (h:∀E',wpAny (model prog w) A (pyIter it) (λit' s'=>codeAny (model prog w) A (.compLoop (.ListComp elt gens scope pos) depth it' acc env) R s') E' s):
  codeAny (model prog w) A (.compStart (.ListComp elt gens scope pos) depth it acc env) R s:=by
 refine codeAny_of_tree ?_
 show wpAny _ _ ((compStart (.ListComp elt gens scope pos) depth it acc env).onRaise (λx=>do noteFrame x env;standAt theWindowsPlace)) _ _ s
 refine wpAny_notedAt ?_
 unfold compStart
 have hc:(clausesOf (.ListComp elt gens scope pos))[depth]?=some g:=hg
 rw[hc]
 have hb:((some g).elim false λx=>x.is_async !=0)=false:=by simp[ha]
 rw[hb]
 rw[if_neg Bool.false_ne_true]
 show wpAny _ _ (ask>>=_) _ _ s
 refine wpAny_bind (wpAny_askSetting (wpAny_ite ?_))
 split
 ·exact wpAny_bind (wpAny_pure (wpAny_pure (And.intro rfl h0)))
 ·exact wpAny_bind (wpAny_rule (wpAny_bind (wpAny_standAt (wpAny_bind (wpAny_mono (h _) (λit' s' h'=>wpAny_pure (And.intro rfl h')) λZ Z x=>x)))))
noncomputable def Hq (prog:Program) (w:World) (A:Around) (R:Result->Shared->Prop) (elt:Expr) (gens:List Comprehension) (scope:Scope) (pos:Pos) (depth:Nat) (g:Comprehension) (it acc:Value) (env:Env) (E':Value->Shared->Prop) (v:Value) (s₂:Shared):Prop:=
 wpAny (model prog w) A (assign g.target env v) (λZ s₃=>
  wpAny (model prog w) A (forIn g.ifs true λc r=>if r=true then do let ok<-isTrue c env (eval c env);pure (ForInStep.yield ok) else pure (ForInStep.yield r)) (λok s₄=>
   if ok=true then (match gens[depth+1]? with
    |none=>wpAny (model prog w) A (eval elt env) (λx s₅=>wpAny (model prog w) A (call (.builtin "list.append") [acc,x]) (λZ s₆=>codeAny (model prog w) A (.compLoop (.ListComp elt gens scope pos) depth it acc env) R s₆) E' s₅) E' s₄
    |some g'=>g'.is_async=0/\wpAny (model prog w) A (eval g'.iter env) (λx s₅=>foldedSetIterable g'.iter env x=pure x/\wpAny (model prog w) A (pyIter x) (λit' s₆=>
     codeAny (model prog w) A (.compStart (.ListComp elt gens scope pos) (depth+1) it' acc env) (λr s'=>r=.ok .next/\codeAny (model prog w) A (.compLoop (.ListComp elt gens scope pos) depth it acc env) R s') s₆) E' s₅) E' s₄)
   else codeAny (model prog w) A (.compLoop (.ListComp elt gens scope pos) depth it acc env) R s₄) E' s₃) E' s₂
theorem IU {elt:Expr} {gens:List Comprehension} {scope:Scope} {pos:Pos} {depth:Nat} {g:Comprehension} {it acc:Value} {env:Env} (hg:gens[depth]?=some g) (ha:g.is_async=0)
  (h:∀E',wpAny (model prog w) A (pyNext it) (λrr s₁=>match rr with
   |none=>R (.ok .next) s₁
   |some v=>wpAny (model prog w) A (letOwnedTupleGo g.target it v) (λZ s₂=>Hq prog w A R elt gens scope pos depth g it acc env E' v s₂) E' s₁) E' s):
  codeAny (model prog w) A (.compLoop (.ListComp elt gens scope pos) depth it acc env) R s:=by
 refine codeAny_of_tree ?_
 show wpAny _ A ((compTurn (.ListComp elt gens scope pos) depth it acc env).onRaise (λx=>do noteFrame x env;theTreesLotGoes x)) _ _ s
 refine wpAny_noted ?_
 unfold compTurn
 simp only[hg,ha,bne_self_eq_false,Bool.false_eq_true,if_false]
 refine wpAny_bind (wpAny_standAt (wpAny_bind (wpAny_mono (h _) (λrr s₁ h₁=>?_) λZ Z h'=>h')))
 cases rr with
 |none=>exact wpAny_pure h₁
 |some v=>
  refine wpAny_bind (wpAny_mono h₁ (λ_ s₂ h₂=>wpAny_bind (wpAny_mono h₂ (λ_ s₃ h₃=>wpAny_bind (wpAny_mono h₃ (λok s₄ h₄=>?_) λZ Z h'=>h')) λZ Z h'=>h')) λZ Z h'=>h')
  cases ok with
  |false=>exact wpAny_pure ⟨rfl,h₄⟩
  |true=>
   rw[if_pos rfl] at h₄
   rw[if_pos rfl]
   cases q:gens[depth+1]? with
   |none=>
    rw[q] at h₄
    exact wpAny_bind (wpAny_bind (wpAny_mono h₄ (λx s₅ h₅=>wpAny_bind (wpAny_mono h₅ (λZ s₆ h₆=>wpAny_pure (wpAny_pure ⟨rfl,h₆⟩)) λZ Z h'=>h')) λZ Z h'=>h'))
   |some g'=>
    rw[q] at h₄
    obtain ⟨ha',h₄⟩:=h₄
    simp only[ha',bne_self_eq_false,Bool.false_eq_true,if_false]
    refine wpAny_bind (wpAny_mono h₄ (λx s₅ h₅=>wpAny_bind (wpAny_standAt (wpAny_bind (wpAny_of_eq h₅.1 (wpAny_bind (wpAny_holding (wpAny_mono h₅.2 (λit' s₆ h₆=>?_) λZ Z h'=>h'))))))) λZ Z h'=>h')
    refine wpAny_bind (wpAny_runOwn (codeAny_mono h₆ λr s' hr=>?_))
    obtain ⟨rfl,hr⟩:=hr
    exact wpAny_pure ⟨rfl,hr⟩
end
structure CS (Pa:Params) (Gl:List (Str×D)) (cenv:Env) (names:List (Str×NameKind)) (cel:List (Str×D)) (Da:Addr) (N:Az) (loc:List (Str×D)) (acc:List D) (s:Shared):Prop where
 vw:Vw Pa Gl N cenv names loc cel s
 off:∀p∈N,p.1≠cenv.locals/\p.1≠Da
 acc:∃vs n,s.heap.get? Da=some (AZ vs n)/\Ar Pa N vs acc
 dc:Da≠cenv.locals
structure Gm (C Da:Addr) (wr:List Addr) (N:Az) (s:Shared) (N':Az) (s':Shared):Prop where
 sh:∃h t,s'={s with heap:=h,toks:=t}
 tk:s.toks<=s'.toks
 kp:∀b o,b∉wr->b≠C->b≠Da->s.heap.get? b=some o->s'.heap.get? b=some o
 lv:∀b,b=C\/b=Da->∃o,s'.heap.get? b=some o
 sub:∀p∈N,p∈N'
 new:∀p∈N',p∈N\/s.heap.get? p.1=Option.none\/p.1∈wr
theorem Gm.fresh {C Da:Addr} {wr:List Addr} {N N':Az} {s s':Shared} (x:Gm C Da wr N s N' s') {b:Addr} (e:s'.heap.get? b=Option.none):s.heap.get? b=Option.none\/b∈wr:=by
 by_cases hw:b∈wr
 ·exact .inr hw
 ·left
  cases q:s.heap.get? b with
  |none=>rfl
  |some o=>
   by_cases h:b=C\/b=Da
   ·obtain ⟨o',h'⟩:=x.lv b h;rw[h'] at e;cases e
   ·rw[not_or] at h
    rw[x.kp b o hw h.1 h.2 q] at e;cases e
theorem Gm.trans {C Da:Addr} {wr:List Addr} {N N' N'':Az} {s s' s'':Shared} (x:Gm C Da wr N s N' s') (y:Gm C Da wr N' s' N'' s''):Gm C Da wr N s N'' s'':=by
 refine ⟨?_,Nat.le_trans x.tk y.tk,λb o h1 h2 h3 e=>y.kp b o h1 h2 h3 (x.kp b o h1 h2 h3 e),y.lv,λp h=>y.sub p (x.sub p h),λp h=>?_⟩
 ·refine Mine.S2 x.sh λh t eq1=>?_
  subst eq1
  refine Mine.S2 y.sh λh' t' eq1=>?_
  subst eq1
  exact ⟨h',t',rfl⟩
 ·rcases y.new p h with h|h|h
  ·exact x.new p h
  ·exact .inr (x.fresh h)
  ·exact .inr (.inr h)
theorem Gm.widen {C Da:Addr} {wr wr':List Addr} {N N':Az} {s s₀ s':Shared} {N₀:Az} (x:Gm C Da wr' N₀ s₀ N' s') (hf:∀b∈wr',s.heap.get? b=Option.none) (e:A1 N s N₀ s₀):Gm C Da wr N s N' s':=by
 have k:=Am e.keeps
 refine ⟨?_,Nat.le_trans e.tk x.tk,λb o h1 h2 h3 q=>x.kp b o (λhm=>by rw[hf b hm] at q;exact Aa q) h2 h3 (k b o q),x.lv,λp h=>x.sub p (e.sub p h),λp h=>?_⟩
 ·refine Mine.S1 e.keeps λh t eq1 _=>?_
  subst eq1
  refine Mine.S2 x.sh λh' t' eq1=>?_
  subst eq1
  exact ⟨h',t',rfl⟩
 ·rcases x.new p h with h|h|h
  ·exact (e.new p h).imp id .inl
  ·exact .inr (.inl (Aw k h))
  ·exact .inr (.inl (hf _ h))
section
variable {prog:Program} {w:World} {A:Around} {E:Value->Shared->Prop} {s:Shared} {Pa:Params} {N:Az} {Gl:List (Str×D)} {k:Nat} {env:Env} {names:List (Str×NameKind)} {loc cel:List (Str×D)} {r:CA} {Da:Addr} {acc:List D}
theorem CS.locLive (c:CS Pa Gl env names cel Da N loc acc s):(∃o,s.heap.get? env.locals=some o)/\∃o,s.heap.get? Da=some o:=by
 refine Mine.iN c.vw.loc λm o _ _ ho _ _=>?_
 refine Mine.S1 c.acc λvs n hD _=>?_
 exact ⟨⟨o,ho⟩,⟨_,hD⟩⟩
theorem CS.ext {N':Az} {s':Shared} (c:CS Pa Gl env names cel Da N loc acc s) (x:A1 N s N' s'):CS Pa Gl env names cel Da N' loc acc s':=by
 obtain ⟨⟨o1,h1⟩,⟨o2,h2⟩⟩:=c.locLive
 refine ⟨c.vw.ext x,λp hp=>?_,?_,c.dc⟩
 ·rcases x.new p hp with h|h
  ·exact c.off p h
  ·exact ⟨λe=>(by rw[e,h1] at h;cases h),λe=>(by rw[e,h2] at h;cases h)⟩
 ·refine Mine.S1 c.acc λvs n hD rs=>?_
  exact ⟨vs,n,Am x.keeps _ _ hD,x.rels rs⟩
theorem Gm.of_ext {C:Addr} {wr:List Addr} {N':Az} {s':Shared} (x:A1 N s N' s') (hl:∀b,b=C\/b=Da->∃o,s.heap.get? b=some o):Gm C Da wr N s N' s':=
 ⟨x.keeps.imp λZ x=>x.imp λZ x=>x.1,x.tk,λb o Z Z Z e=>Am x.keeps b o e,λb hb=>(hl b hb).imp λo ho=>Am x.keeps _ _ ho,x.sub,λp h=>(x.new p h).imp id .inl⟩
theorem Vw.weaken {loc':List (Str×D)} (V:Vw Pa Gl N env names loc' cel s) (h:∀x d,loc.lookup x=some d->loc'.lookup x=some d):Vw Pa Gl N env names loc cel s:=
 ⟨V.kind,V.nm,V.glob,V.blt,V.has,V.tk,V.top,V.cls,V.loc.imp λm q=>⟨q.1,λx d e=>q.2 x d (h x d e)⟩,V.cel⟩
theorem Vw.move {N':Az} {s':Shared} (V:Vw Pa Gl N env names loc cel s) (hs:∀p∈N,p∈N') (hh:Cn N' s') (ht:s.toks<=s'.toks) (hl:∀o,s.heap.get? env.locals=some o->s'.heap.get? env.locals=some o)
  (hc:∀x c,names.lookup x=some .cell->env.cells.lookup x=some c->∀o,s.heap.get? c=some o->s'.heap.get? c=some o):Vw Pa Gl N' env names loc cel s':=by
 refine ⟨V.kind,V.nm,V.glob,V.blt,hh,Nat.lt_of_lt_of_le V.tk ht,V.top.mono hs,λx e=>?_,?_,λx d e1 e2=>?_⟩
 ·refine Mine.S6 (V.cls x e) λc v h1 o h2 h3=>?_
  exact ⟨c,v,h1,o,hc x c e h1 o h2,h3⟩
 ·refine Mine.S0 V.loc λm hm q=>?_
  exact ⟨m,hm.at' hl,λx d e=>(q x d e).imp λv h=>⟨h.1,h.2.mono hs⟩⟩
 ·refine Mine.bl (V.cel x d e1 e2) λc v h1 o h2 h3 h4=>?_
  exact ⟨c,v,h1,⟨o,hc x c e2 h1 o h2,h3⟩,h4.mono hs⟩
theorem QD (R:AG k A) (ht:ST prog w Pa Gl k r.t) (V:Vw Pa Gl N env names loc cel s):∀ (ifs:List Expr) (b:Bool),K9 r names loc cel ifs=some b->
  wpAny (model prog w) A (forIn ifs true λc r=>if r=true then do let ok<-isTrue c env (eval c env);pure (ForInStep.yield ok) else pure (ForInStep.yield r)) (Gb N s b) E s:=by
 have stop:∀ (ifs:List Expr) (s':Shared) (Q:Bool->Shared->Prop),Q false s'->
   wpAny (model prog w) A (forIn ifs false λc r=>if r=true then do let ok<-isTrue c env (eval c env);pure (ForInStep.yield ok) else pure (ForInStep.yield r)) Q E s':=by
  intro ifs
  induction ifs with
  |nil=>intro s' Q h;exact wpAny_pure h
  |cons c cs ih=>intro s' Q h;rw[List.forIn_cons];exact wpAny_bind (wpAny_pure (ih s' Q h))
 intro ifs
 induction ifs generalizing s N with
 |nil=>intro b e;(replace e:=Option.some.inj e;subst e);exact wpAny_pure ⟨N,A1.rfl' V.has,rfl⟩
 |cons c cs ih=>
  intro b e
  unfold K9 at e
  revert e
  refine Mine.Br λb' q e=>?_
  rw[List.forIn_cons]
  rw[if_pos rfl]
  refine wpAny_bind (wpAny_bind (wpAny_mono (ht _ _ _ _ _ q A E s N env R V) (λb₁ s₁ h=>Mine.S0 h λN₁ x₁ e₁=>wpAny_pure ?_) λZ Z e=>e))
  subst e₁
  cases b₁ with
  |false=>(replace e:=Option.some.inj e;subst e);exact stop cs s₁ _ ⟨N₁,x₁,rfl⟩
  |true=>exact G8 x₁ (ih (V.ext x₁) b e)
end
theorem D0 {h:Heap} {c C:Addr} {v:Option Value} {m:Str->Option Value} (x:h.IsCell c v) (y:h.Ns C m):c≠C:=by
 rintro rfl
 revert x
 refine Mine.T0 λo h1 h2=>?_
 revert y
 refine Mine.T5 λo' es ep h3 h4 _=>?_
 rw[h1] at h3
 (replace h3:=Option.some.inj h3;subst h3)
 rw[h2] at h4
 cases h4
section
variable {prog:Program} {w:World} {A:Around} {E:Value->Shared->Prop} {s:Shared} {Pa:Params} {N:Az} {Gl:List (Str×D)} {k:Nat} {env:Env} {names:List (Str×NameKind)} {loc cel:List (Str×D)} {r:CA} {Da:Addr} {acc:List D}
theorem Vw.bind {m m':Str->Option Value} {loc':List (Str×D)} {h':Heap} {tk:Nat} (V:Vw Pa Gl N env names loc cel s) (hm:s.heap.Ns env.locals m) (off:∀p∈N,p.1≠env.locals) (kp:∀b o,b≠env.locals->s.heap.get? b=some o->h'.get? b=some o) (hk:s.toks<=tk)
  (hm':h'.Ns env.locals m') (hl:∀x d,loc'.lookup x=some d->∃v,m' x=some v/\Ax Pa N v d):Vw Pa Gl N env names loc' cel {s with heap:=h',toks:=tk}:=by
 refine ⟨V.kind,V.nm,V.glob,V.blt,λp hp=>kp _ _ (off p hp) (V.has p hp),Nat.lt_of_lt_of_le V.tk hk,V.top,λx e=>?_,⟨m',hm',hl⟩,λx d e1 e2=>?_⟩
 ·refine Mine.S1 (V.cls x e) λc v h1 h2=>?_
  have hne:=D0 h2 hm
  revert h2
  refine Mine.T0 λo h3 h4=>?_
  exact ⟨c,v,h1,o,kp _ _ hne h3,h4⟩
 ·refine Mine.S3 (V.cel x d e1 e2) λc v h1 h2 h5=>?_
  have hne:=D0 h2 hm
  revert h2
  refine Mine.T0 λo h3 h4=>?_
  exact ⟨c,v,h1,⟨o,kp _ _ hne h3,h4⟩,h5⟩
structure QE (tup:Bool) (prog:Program) (w:World) (A:Around) (Gl:List (Str×D)) (env:Env) (names:List (Str×NameKind)) (cel:List (Str×D)) (Da:Addr) (N₀:Az) (I:Addr) (fp wr:List Addr) (items:List D) (St:Nat->Heap->Prop) (i:Nat) (loc:List (Str×D)) (acc:List D) (N:Az) (s:Shared):Prop where
 sub:∀p∈N₀,p∈N
 st:St i s.heap
 cs:CS w.params Gl env names cel Da N loc acc s
 ow:∀p∈N,p.1∉wr
theorem CS.live (c:CS Pa Gl env names cel Da N loc acc s):∀a,a=env.locals\/a=Da->∃o,s.heap.get? a=some o:=by
 rintro a (rfl|rfl)
 ·exact c.locLive.1
 ·exact c.locLive.2
theorem QE.ext {tup:Bool} {N₀ N':Az} {I:Addr} {fp wr:List Addr} {items:List D} {St:Nat->Heap->Prop} {i:Nat} {s':Shared} (W:Wk tup prog w A w.params N₀ I fp wr items St) (b:QE tup prog w A Gl env names cel Da N₀ I fp wr items St i loc acc N s) (x:A1 N s N' s'):
  QE tup prog w A Gl env names cel Da N₀ I fp wr items St i loc acc N' s':=by
 refine ⟨λp h=>x.sub p (b.sub p h),W.frame _ _ _ b.st λa _ o e=>Am x.keeps a o e,b.cs.ext x,λp hp hw=>?_⟩
 rcases x.new p hp with h|h
 ·exact b.ow p h hw
 ·obtain ⟨o,ho⟩:=W.live _ _ b.st _ (W.sub _ hw)
  rw[ho] at h;cases h
theorem QE.weak {tup:Bool} {N₀:Az} {I:Addr} {fp wr:List Addr} {items:List D} {St:Nat->Heap->Prop} {i:Nat} {loc':List (Str×D)} (b:QE tup prog w A Gl env names cel Da N₀ I fp wr items St i loc' acc N s) (h:∀x d,loc.lookup x=some d->loc'.lookup x=some d):
 QE tup prog w A Gl env names cel Da N₀ I fp wr items St i loc acc N s:=⟨b.sub,b.st,⟨b.cs.vw.weaken h,b.cs.off,b.cs.acc,b.cs.dc⟩,b.ow⟩
noncomputable def F1 (w:World) (Gl:List (Str×D)) (env:Env) (names:List (Str×NameKind)) (cel:List (Str×D)) (Da:Addr) (wr:List Addr) (loc:List (Str×D)) (N:Az) (s:Shared) (acc:List D) (res:Result) (s':Shared):Prop:=
 res=.ok .next/\∃N',CS w.params Gl env names cel Da N' loc acc s'/\Gm env.locals Da wr N s N' s'
theorem OY {v:Value} {d:D} {Q:Value->Shared->Prop} (c:CS Pa Gl env names cel Da N loc acc s) (rv:Ax Pa N v d) (hl:acc.length+1<=Ap)
  (hq:∀u s',CS Pa Gl env names cel Da N loc (acc++[d]) s'->(∃h,s'={s with heap:=h}/\Heap.SameBut Da s.heap h)->Q u s'):wpAny (model prog w) A (call (.builtin "list.append") [.ref Da,v]) Q E s:=by
 refine Mine.S1 c.acc λvs n hD rs=>?_
 have hlen:=rs.length
 refine wpAny_list_append_plain (items:=vs.toArray) (hsz:=Bb (by simp;lia)) ⟨n,hD⟩ λh' hp hb=>?_
 refine hq _ _ ⟨c.vw.move (λ_ h=>h) (λp hp=>hb.extBut _ _ (c.off p hp).2 (c.vw.has p hp)) (Nat.le_refl _) (λo e=>hb.extBut _ _ (Ne.symm c.dc) e) λx a e1 e2 o e=>hb.extBut _ _ ?_ e,c.off,?_,c.dc⟩ ⟨_,rfl,hb⟩
 ·rintro rfl
  refine Mine.S6 (c.vw.cls x e1) λc' v' h1 o' h2 h3=>?_
  rw[e2] at h1;(replace h1:=Option.some.inj h1;subst h1)
  rw[hD] at h2;(replace h2:=Option.some.inj h2;subst h2)
  cases h3
 ·obtain ⟨n',hn'⟩:=hp
  refine ⟨vs++[v],n',by rw[hn'];simp,rs.append (.cons rv .nil)⟩
theorem Uv (R:AG k A) (hr:SE prog w w.params Gl k r.e) (ht:ST prog w w.params Gl k r.t) {elt:Expr} {gens:List Comprehension} {scope:Scope} {pos:Pos}:∀ (gs:List Comprehension) (depth:Nat),gens.drop depth=gs->
  ∀ (loc:List (Str×D)) (items out:List D),Ep Gl r names cel (λloc'=>(r.e names loc' cel elt).map λd=>[d]) gs loc items=some out->∀g gs',gs=g::gs'->
  ∀ (tup:Bool) (N₀:Az) (I:Addr) (fp wr:List Addr) (St:Nat->Heap->Prop) (_:tup=true->Ez g.target=true) (W:Wk tup prog w A w.params N₀ I fp wr items St) (_:∀b∈fp,b≠env.locals/\b≠Da)
   (_:∀x c,names.lookup x=some .cell->env.cells.lookup x=some c->c∉wr) (N:Az) (acc:List D) (s:Shared),QE tup prog w A Gl env names cel Da N₀ I fp wr items St 0 loc acc N s->acc.length+out.length<=Ap->
   codeAny (model prog w) A (.compLoop (.ListComp elt gens scope pos) depth (.ref I) (.ref Da) env) (F1 w Gl env names cel Da wr loc N s (acc++out)) s:=by
 intro gs
 induction gs with
 |nil=>intro depth _ loc items out h;exact Aa h
 |cons g gs ih=>
  intro depth hdrop loc items out hout g' gs' hgg tup N₀ I fp wr St htup W hfp hcw N acc s hB hlen
  cases hgg
  unfold Ep at hout
  revert hout
  refine BO λha hout=>?_
  have hg:gens[depth]?=some g:=by
   have:=congrArg (·[0]?) hdrop
   simpa using this
  have hg1:gens.drop (depth+1)=gs:=by
   have:=congrArg (List.drop 1) hdrop
   simpa [List.drop_drop,Nat.add_comm] using this
  have hg2:gens[depth+1]?=gs[0]?:=by rw[<-hg1];simp
  generalize hF:(λd=>(Hg names g.target d loc).bind λloc'=>(K9 r names loc' cel g.ifs).bind λb=>if b=true then (match gs with
    |[]=>(r.e names loc' cel elt).map λd=>[d]
    |g'::_=>(Bu Gl r names loc' cel g'.target g'.iter).bind λitems'=>Ep Gl r names cel (λloc'=>(r.e names loc' cel elt).map λd=>[d]) gs loc' items') else some [])=F at hout
  have inner:∀ (rem:List D) (i:Nat) (outs:List (List D)) (N:Az) (acc:List D) (s:Shared),items.drop i=rem->i<=items.length->rem.mapM F=some outs->QE tup prog w A Gl env names cel Da N₀ I fp wr items St i loc acc N s->acc.length+outs.flatten.length<=Ap->
    codeAny (model prog w) A (.compLoop (.ListComp elt gens scope pos) depth (.ref I) (.ref Da) env) (F1 w Gl env names cel Da wr loc N s (acc++outs.flatten)) s:=by
   intro rem
   induction rem with
   |nil=>
    intro i outs N acc s hdr hi hm hB hl
    (replace hm:=Option.some.inj hm;subst hm)
    have hil:i=items.length:=by have:=List.drop_eq_nil_iff.mp hdr;lia
    refine IU hg ha λE'=>W.done2 s E' _ (hil▸hB.st) λh' tk hk kp=>?_
    have hC:env.locals∉wr:=λh=>(hfp _ (W.sub _ h)).1 rfl
    have hD:Da∉wr:=λh=>(hfp _ (W.sub _ h)).2 rfl
    refine Mine.S1 hB.cs.acc λvs n hDa rs=>?_
    obtain ⟨o,ho⟩:=hB.cs.locLive.1
    refine ⟨rfl,N,⟨hB.cs.vw.move (λ_ h=>h) (λp hp=>kp _ _ (hB.ow p hp) (hB.cs.vw.has p hp)) hk (λo e=>kp _ _ hC e) (λx c e1 e2 o e=>kp _ _ (hcw x c e1 e2) e),hB.cs.off,⟨vs,n,kp _ _ hD hDa,by simpa using rs⟩,hB.cs.dc⟩,⟨_,_,rfl⟩,hk,λb o h1 _ _ e=>kp b o h1 e,?_,λZ h=>h,λZ h=>.inl h⟩
    rintro b (rfl|rfl)
    ·exact ⟨o,kp _ _ hC ho⟩
    ·exact ⟨_,kp _ _ hD hDa⟩
   |cons d rem ih2=>
    intro i outs N acc s hdr hi hm hB hl
    rw[List.mapM_cons] at hm
    revert hm
    refine Mine.Br λo1 q1 hm=>?_
    revert hm
    refine Mine.Br λos q2 hm=>?_
    simp[q1,q2] at hm
    subst hm
    have hd:items[i]?=some d:=by
     have:=congrArg (·[0]?) hdr
     simpa using this
    have hdr':items.drop (i+1)=rem:=by
     have:=congrArg (List.drop 1) hdr
     simpa [List.drop_drop,Nat.add_comm] using this
    have hi':i+1<=items.length:=(List.getElem?_eq_some_iff.mp hd).1
    have hC:env.locals∉wr:=λh=>(hfp _ (W.sub _ h)).1 rfl
    have hD:Da∉wr:=λh=>(hfp _ (W.sub _ h)).2 rfl
    refine IU hg ha λE'=>?_
    refine wpAny_mono (W.item2 i d s N g.target E' (Hq prog w A _ elt gens scope pos depth g (.ref I) (.ref Da) env E') htup hd hB.st hB.cs.vw.has hB.sub hB.ow
     (λv h' tk N₁ hk rv st₁ k₁ sub₁ has₁ new₁=>?_)) (λrr s₁ h=>by obtain ⟨v,e,h⟩:=h;subst e;exact h) λZ Z e=>e
    have live:=hB.cs.live
    have off₁:∀p∈N₁,p.1≠env.locals/\p.1≠Da:=λp hp=>by
     rcases new₁ p hp with h|h
     ·exact hB.cs.off p h
     ·obtain ⟨o,ho⟩:=live env.locals (.inl rfl)
      obtain ⟨o',ho'⟩:=live Da (.inr rfl)
      exact ⟨λe=>(by rw[e,ho] at h;cases h),λe=>(by rw[e,ho'] at h;cases h)⟩
    have ow₁:∀p∈N₁,p.1∉wr:=λp hp hw=>by
     rcases new₁ p hp with h|h
     ·exact hB.ow p h hw
     ·obtain ⟨o,ho⟩:=W.live _ _ hB.st _ (W.sub _ hw)
      rw[ho] at h;cases h
    have c₁:CS w.params Gl env names cel Da N₁ loc acc {s with heap:=h',toks:=tk}:=by
     refine ⟨hB.cs.vw.move sub₁ has₁ hk (λo e=>k₁ _ _ hC e) (λx c e1 e2 o e=>k₁ _ _ (hcw x c e1 e2) e),off₁,?_,hB.cs.dc⟩
     refine Mine.S1 hB.cs.acc λvs n hDa rs=>?_
     exact ⟨vs,n,k₁ _ _ hD hDa,rs.mono sub₁⟩
    have t₁:Gm env.locals Da wr N s N₁ {s with heap:=h',toks:=tk}:=⟨⟨_,_,rfl⟩,hk,λb o h1 Z Z e=>k₁ b o h1 e,c₁.live,sub₁,λp hp=>(new₁ p hp).imp id .inl⟩
    clear k₁ new₁
    replace st₁:St (i+1) ({s with heap:=h',toks:=tk}:Shared).heap:=st₁
    generalize ({s with heap:=h',toks:=tk}:Shared)=s₁ at c₁ t₁ has₁ st₁ ⊢
    have b₁:QE tup prog w A Gl env names cel Da N₀ I fp wr items St (i+1) loc acc N₁ s₁:=⟨λp h=>sub₁ p (hB.sub p h),st₁,c₁,ow₁⟩
    clear hk st₁ c₁ ow₁ has₁ off₁ sub₁ live h' tk
    have fin:∀ (N₄:Az) (s₄:Shared) (loc':List (Str×D)),(∀x d,loc.lookup x=some d->loc'.lookup x=some d)->QE tup prog w A Gl env names cel Da N₀ I fp wr items St (i+1) loc' (acc++o1) N₄ s₄->Gm env.locals Da wr N₁ s₁ N₄ s₄->
      codeAny (model prog w) A (.compLoop (.ListComp elt gens scope pos) depth (.ref I) (.ref Da) env) (F1 w Gl env names cel Da wr loc N s (acc++(o1::os).flatten)) s₄:=by
     intro N₄ s₄ loc' hw b₄ t₄
     refine codeAny_mono (ih2 (i+1) os N₄ (acc++o1) s₄ hdr' hi' q2 (b₄.weak hw) (by simp at hl ⊢;lia)) λres s' h=>?_
     revert h
     refine Mine.T9 λe1 N' c' t'=>?_
     refine ⟨e1,N',?_,(t₁.trans t₄).trans t'⟩
     rw[List.flatten_cons,<-List.append_assoc]
     exact c'
    unfold Hq
    rw[<-hF] at q1
    revert q1
    refine Mine.Br λloc' qb q1=>?_
    revert q1
    refine Mine.Br λb qi q1=>?_
    refine Mine.S0 b₁.cs.vw.loc λm hm ql=>?_
    refine AV (Lk b₁.cs.vw.kind b₁.cs.vw.nm R.1 b₁.cs.vw.has rv qb hm ql λh₂ tk₂ m₂ hm₂ k₂ ql₂ wk₂ hk₂=>?_)
    have b₂:QE tup prog w A Gl env names cel Da N₀ I fp wr items St (i+1) loc' acc N₁ {s₁ with heap:=h₂,toks:=tk₂}:=by
     refine ⟨b₁.sub,W.frame _ _ _ b₁.st λb hb o e=>k₂ b o (hfp b hb).1 e,⟨b₁.cs.vw.bind hm (λp hp=>(b₁.cs.off p hp).1) k₂ hk₂ hm₂ ql₂,b₁.cs.off,?_,b₁.cs.dc⟩,b₁.ow⟩
     refine Mine.S1 b₁.cs.acc λvs n hDa rs=>?_
     exact ⟨vs,n,k₂ _ _ b₁.cs.dc hDa,rs⟩
    have t₂:Gm env.locals Da wr N₁ s₁ N₁ {s₁ with heap:=h₂,toks:=tk₂}:=⟨⟨_,_,rfl⟩,hk₂,λb o Z h1 Z e=>k₂ b o h1 e,b₂.cs.live,λZ h=>h,λZ h=>.inl h⟩
    clear k₂ ql₂ hm₂
    clear hk₂;generalize ({s₁ with heap:=h₂,toks:=tk₂}:Shared)=s₂ at b₂ t₂ ⊢
    refine eK (QD R ht b₂.cs.vw g.ifs b qi) λs₃ N₃ x₃=>?_
    have b₃:=b₂.ext W x₃
    have t₃:=t₂.trans (Gm.of_ext (wr:=wr) x₃ b₂.cs.live)
    cases b with
    |false=>
     rw[if_neg Bool.false_ne_true] at q1
     rw[if_neg Bool.false_ne_true]
     (replace q1:=Option.some.inj q1;subst q1)
     exact fin N₃ s₃ loc' wk₂ (by simpa using b₃) t₃
    |true=>
     rw[if_pos rfl] at q1
     rw[if_pos rfl]
     rw[hg2]
     cases gs with
     |nil=>
      simp only[List.getElem?_nil]
      revert q1
      refine Mine.FQ λd' qe q1=>?_
      subst q1
      refine Gq hr qe R b₃.cs.vw λv' s₄ N₄ x₄ r₄=>?_
      have b₄:=b₃.ext W x₄
      have t₄:=t₃.trans (Gm.of_ext (wr:=wr) x₄ b₃.cs.live)
      refine OY b₄.cs r₄ (by simp at hl;lia) λu s₅ c₅ h=>?_
      revert h
      refine Mine.T0 λh₅ eq1 hb=>?_
      subst eq1
      refine fin N₄ _ loc' wk₂ ⟨b₄.sub,W.frame _ _ _ b₄.st λb hb' o e=>hb.extBut _ _ (hfp b hb').2 e,c₅,b₄.ow⟩ (t₄.trans ⟨⟨_,_,rfl⟩,Nat.le_refl _,λb o Z Z h e=>hb.extBut _ _ h e,c₅.live,λZ h=>h,λZ h=>.inl h⟩)
     |cons g₂ gs₂=>
      simp only[List.getElem?_cons_zero]
      revert q1
      refine Mine.Br λitems' qit q1=>?_
      have ha₂:g₂.is_async=0:=by
       unfold Ep at q1
       split at q1
       ·assumption
       ·exact Aa q1
      refine ⟨ha₂,?_⟩
      refine Mine.S9 (J0 (E:=E') R hr b₃.cs.vw qit) λhfold tup₂ ht₂ D5=>?_
      refine wpAny_mono D5 (λx s₄ h=>⟨hfold x,wpAny_mono h (λit s₅ h=>?_) λZ Z e=>e⟩) λZ Z e=>e
      revert h
      refine Mine.dD λN₄ I₂ fp₂ wr₂ St₂ eq1 x₄ W₂ st₂ hf₂ hw₂ ho₂ hl₂=>?_
      subst eq1
      have b₄:=b₃.ext W x₄
      have old:∀b,(∃o,s₃.heap.get? b=some o)->s₃.heap.get? b=Option.none->False:=λb h e=>by obtain ⟨o,h⟩:=h;rw[h] at e;cases e
      have hfp₂:∀b∈fp₂,b≠env.locals/\b≠Da:=λb hb=>by
       rcases (hf₂ b hb).2 with ⟨o,h⟩|h
       ·exact b₄.cs.off _ h
       ·exact ⟨λe=>old _ (b₃.cs.live _ (.inl rfl)) (e▸h),λe=>old _ (b₃.cs.live _ (.inr rfl)) (e▸h)⟩
      have hcw₂:∀x c,names.lookup x=some .cell->env.cells.lookup x=some c->c∉wr₂:=λx c e1 e2 hm=>by
       refine Mine.S6 (b₃.cs.vw.cls x e1) λc' v h1 o h2 _=>?_
       rw[e2] at h1;(replace h1:=Option.some.inj h1;subst h1)
       exact old _ ⟨o,h2⟩ (hw₂ _ hm)
      have loop:codeAny (model prog w) A (.compLoop (.ListComp elt gens scope pos) (depth+1) (.ref I₂) (.ref Da) env) (λr s'=>r=.ok .next/\codeAny (model prog w) A (.compLoop (.ListComp elt gens scope pos) depth (.ref I) (.ref Da) env) (F1 w Gl env names cel Da wr loc N s (acc++(o1::os).flatten)) s') s₅:=by
       refine codeAny_mono (ih (depth+1) hg1 loc' items' o1 q1 g₂ gs₂ rfl tup₂ N₄ I₂ fp₂ wr₂ St₂ ht₂ W₂ hfp₂ hcw₂ N₄ acc s₅ ⟨λ_ h=>h,st₂,b₄.cs,ho₂⟩ (by simp at hl;lia)) λres s' h=>?_
       revert h
       refine Mine.T9 λe1 N₅ c₅ t₅=>?_
       have wl:∀b∈fp,b∉wr₂:=λb hb hm=>old b (W.live _ _ b₃.st b hb) (hw₂ b hm)
       refine ⟨e1,fin N₅ s' loc' wk₂ ⟨λp h=>t₅.sub p (b₄.sub p h),W.frame _ _ _ b₄.st λb hb o e=>t₅.kp b o (wl b hb) (hfp b hb).1 (hfp b hb).2 e,c₅,λp hp hm=>?_⟩ (t₃.trans (t₅.widen hw₂ x₄))⟩
       rcases t₅.new p hp with h|h|h
       ·exact b₄.ow p h hm
       ·obtain ⟨o,ho⟩:=W.live _ _ b₄.st _ (W.sub _ hm)
        rw[ho] at h;cases h
       ·exact wl _ (W.sub _ hm) h
      exact Hp (g:=g₂) (by rw[hg2];rfl) ha₂ loop λE''=>W₂.self 0 _ _ _ st₂ loop
  revert hout
  refine Mine.FQ λouts q hout=>?_
  subst hout
  exact inner items 0 outs N acc s rfl (Nat.zero_le _) q hB hlen
end
section
variable {prog:Program} {w:World} {A:Around} {E:Value->Shared->Prop} {s:Shared} {Pa:Params} {N:Az} {Gl:List (Str×D)} {k:Nat} {env:Env} {names:List (Str×NameKind)} {loc cel:List (Str×D)} {r:CA} {Da:Addr} {acc:List D}
theorem MK {scope:Scope} (h:∀p∈scope.names,p.2=.free->∃c,env.cells.lookup p.1=some c):
  ∃cl,closureFor scope env=pure cl/\∀x,(x,NameKind.free)∈scope.names->cl.lookup x=env.cells.lookup x:=by
 have key:∀ (l:List (Str×NameKind)) (cs:List (Str×Addr)),(∀p∈l,p.2=.free->∃c,env.cells.lookup p.1=some c)->
   ∃cl,(forIn l cs λ(p:Str×NameKind) (cs:List (Str×Addr))=>(do if p.2==.free then (do let a<-cellOf env p.1;pure (ForInStep.yield ((p.1,a)::cs))) else pure (ForInStep.yield cs):Sem (ForInStep (List (Str×Addr)))))=pure cl/\
    (∀x,(x,NameKind.free)∈l\/cs.lookup x=env.cells.lookup x->cl.lookup x=env.cells.lookup x):=by
  intro l
  induction l with
  |nil=>intro cs _;exact ⟨cs,rfl,λx h=>h.elim (λh=>nomatch h) id⟩
  |cons p l ih=>
   intro cs h
   rw[List.forIn_cons]
   by_cases hp:p.2=.free
   ·obtain ⟨c,hc⟩:=h p (.head _) hp
    refine Mine.S0 (ih ((p.1,c)::cs) λq hq=>h q (.tail _ hq)) λcl h1 h2=>?_
    refine ⟨cl,?_,λx hx=>h2 x ?_⟩
    ·simp only[hp,beq_self_eq_true,if_true]
     unfold cellOf
     rw[hc]
     exact h1
    ·by_cases hx1:x=p.1
     ·right;rw[hx1,List.lookup_cons];simp[hc]
     ·rcases hx with hx|hx
      ·rcases List.mem_cons.mp hx with q|q
       ·exact (hx1 (by rw[<-q])).elim
       ·exact .inl q
      ·right
       rw[List.lookup_cons]
       have:(x==p.1)=false:=by simpa using hx1
       rw[this];exact hx
   ·refine Mine.S0 (ih cs λq hq=>h q (.tail _ hq)) λcl h1 h2=>?_
    refine ⟨cl,?_,λx hx=>h2 x ?_⟩
    ·have:(p.2==NameKind.free)=false:=by simpa using hp
     simp only[this,Bool.false_eq_true,if_false]
     exact h1
    ·rcases hx with hx|hx
     ·rcases List.mem_cons.mp hx with q|q
      ·exact (hp (by rw[<-q])).elim
      ·exact .inl q
     ·exact .inr hx
 refine Mine.S0 (key scope.names [] h) λcl h1 h2=>?_
 refine ⟨cl,?_,λx hx=>h2 x (.inl hx)⟩
 unfold closureFor
 have e:(forIn scope.names [] λ(x:Str×NameKind) (r:List (Str×Addr))=>(match x with
   |(name,kind)=>if (kind==NameKind.free)=true then (do let a<-cellOf env name;pure (ForInStep.yield ((name,a)::r))) else pure (ForInStep.yield r):Sem (ForInStep (List (Str×Addr)))))=pure cl:=h1
 show (forIn scope.names [] _>>=_)=_
 rw[show (pure cl:Sem (List (Str×Addr)))=(pure cl>>=pure) from rfl,<-e]
theorem ML {outer ns:List (Str×NameKind)} (h:Ft outer ns=true):∀p∈ns,(p.2=.local/\ns.lookup p.1=some .local)\/p.2=.globalImplicit\/(p.2=.free/\outer.lookup p.1=some .cell):=by
 intro p hp
 unfold Ft at h
 rw[List.all_eq_true] at h
 have:=h p hp
 simp only[Bool.or_eq_true,Bool.and_eq_true,beq_iff_eq] at this
 rcases this with (h|h)|h
 ·exact .inl h
 ·exact .inr (.inl h)
 ·exact .inr (.inr h)
theorem D1 {outer:List (Str×NameKind)}:∀ {ns:List (Str×NameKind)} {x:Str},(∀p∈ns,p.2≠.cell)->(Cj outer ns).lookup x=some .cell->(x,NameKind.free)∈ns/\outer.lookup x=some .cell
 |[],_,_,h=>by simp[Cj] at h
 |(n,kd)::ns,x,hc,h=>by
  unfold Cj at h
  rw[List.map_cons] at h
  by_cases hx:x=n
  ·subst hx
   split at h
   ·rename_i hb
    simp only[Bool.and_eq_true,beq_iff_eq] at hb
    obtain ⟨h1,h2⟩:=hb
    subst h1
    exact ⟨.head _,h2⟩
   ·simp[List.lookup_cons] at h
    exact (hc (x,kd) (.head _) h).elim
  ·have hb:(x==n)=false:=by simpa using hx
   have h':(Cj outer ns).lookup x=some .cell:=by
    split at h
    ·rw[List.lookup_cons] at h;simp only[hb] at h;exact h
    ·rw[List.lookup_cons] at h;simp only[hb] at h;exact h
   obtain ⟨h1,h2⟩:=D1 (λp hp=>hc p (.tail _ hp)) h'
   exact ⟨.tail _ h1,h2⟩
theorem It {scope:Scope} (hk:env.scope.kind=.function) (hn:env.scope.names=names):(relabel scope env).names=Cj names scope.names:=by
 unfold relabel Cj
 simp only
 apply List.map_congr_left
 rintro ⟨n,kd⟩ _
 have:env.kindOf n=names.lookup n:=by unfold Env.kindOf;rw[hn]
 simp only[hk,this,beq_self_eq_true,Bool.and_true]
structure bJ (w:World) (Gl:List (Str×D)) (env:Env) (names:List (Str×NameKind)) (cel:List (Str×D)) (scope:Scope) (cl:List (Str×Addr)) (N N₂:Az) (s s₂:Shared) (H2 h₁:Heap) (fp wr:List Addr):Prop where
 dc:s₂.heap.objs.size≠H2.objs.size
 frs:∀b,s₂.heap.objs.size<=b->s.heap.get? b=Option.none
 frC:s.heap.get? H2.objs.size=Option.none
 old:∀b o,s₂.heap.get? b=some o->h₁.get? b=some o
 off:∀p∈N₂,p.1≠(compEnvC scope cl H2.objs.size env).locals/\p.1≠s₂.heap.objs.size
 vw:Vw w.params Gl N₂ (compEnvC scope cl H2.objs.size env) (Cj names scope.names) [] cel {s₂ with heap:=h₁,toks:=s₂.toks+([]:List (Str×Value)).length}
 fp:∀b∈fp,b≠(compEnvC scope cl H2.objs.size env).locals/\b≠s₂.heap.objs.size
 cw:∀x c,(Cj names scope.names).lookup x=some .cell->(compEnvC scope cl H2.objs.size env).cells.lookup x=some c->c∉wr
 out:∀ {N':Az} {s':Shared},Gm (compEnvC scope cl H2.objs.size env).locals s₂.heap.objs.size wr N₂ {s₂ with heap:=h₁,toks:=s₂.toks+([]:List (Str×Value)).length} N' s'->(∃h t,s'={s with heap:=h,toks:=t}/\∀b o,s.heap.get? b=some o->h.get? b=some o)/\s.toks<=s'.toks/\(∀p∈N,p∈N')/\∀p∈N',p∈N\/s.heap.get? p.1=Option.none
theorem QF {scope:Scope} {cl:List (Str×Addr)} {N₂:Az} {s₂:Shared} {H2 h₁:Heap} {fp wr:List Addr} {o:Obj} {t:String} (V:Vw w.params Gl N env names loc cel s) (hkind:scope.kind=.function) (hnc:∀p∈scope.names,p.2≠.cell) (hlk:∀x,(x,NameKind.free)∈scope.names->cl.lookup x=env.cells.lookup x)
  (x₂:A1 N s N₂ s₂) (hf:∀b∈fp,(∃o,s₂.heap.get? b=some o)/\((∃o,(b,o)∈N₂)\/s.heap.get? b=Option.none)) (hw:∀b∈wr,s.heap.get? b=Option.none) (hH2:s₂.heap.push o=H2)
  (hns₁:h₁.Ns H2.objs.size λx=>List.lookup x ([]:List (Str×Value)).reverse) (hsb₁:Heap.SameBut H2.objs.size (H2.push {cls:=.type t,data:=.dict #[]}) h₁):bJ w Gl env names cel scope cl N N₂ s s₂ H2 h₁ fp wr:=by
 have hC:H2.objs.size=s₂.heap.objs.size+1:=by rw[<-hH2,Heap.size_push]
 have hDC:s₂.heap.objs.size≠H2.objs.size:=by rw[hC];exact Nat.ne_of_lt (Nat.lt_succ_self _)
 have frs:∀b,s₂.heap.objs.size<=b->s.heap.get? b=Option.none:=λb hb=>Aw (Am x₂.keeps) (by
  cases q:s₂.heap.get? b with
  |none=>rfl
  |some o=>exact absurd (Heap.lt_size q) (Nat.not_lt.mpr hb))
 have old:∀b o,s₂.heap.get? b=some o->h₁.get? b=some o:=λb o e=>hsb₁.extBut b o (by rw[hC];exact Nat.ne_of_lt (Nat.lt_succ_of_lt (Heap.lt_size e))) (Heap.get?_push_of_some _ (hH2▸Heap.get?_push_of_some _ e))
 have x₃:A1 N₂ s₂ N₂ {s₂ with heap:=h₁,toks:=s₂.toks+([]:List (Str×Value)).length}:=A1.of_keeps x₂.has ⟨_,_,rfl,old⟩
 have hlt:∀b,b<s₂.heap.objs.size->b≠(compEnvC scope cl H2.objs.size env).locals/\b≠s₂.heap.objs.size:=λb hb=>⟨by show b≠H2.objs.size;rw[hC];exact Nat.ne_of_lt (Nat.lt_succ_of_lt hb),Nat.ne_of_lt hb⟩
 refine ⟨hDC,frs,frs _ (by rw[hC];exact Nat.le_succ _),old,λp hp=>hlt _ (Heap.lt_size (x₂.has p hp)),?_,λb hb=>?_,λx c e1 e2 hm=>?_,λ{N' s'} t'=>?_⟩
 ·refine ⟨hkind,It V.kind V.nm,V.glob,V.blt,x₃.has,Nat.lt_of_lt_of_le V.tk (Nat.le_trans x₂.tk x₃.tk),V.top.mono x₂.sub,λx e=>?_,⟨_,hns₁,λx d e=>by exact Aa e⟩,λx d e1 e2=>?_⟩
  ·obtain ⟨h1,h2⟩:=D1 hnc e
   refine Mine.S6 (V.cls x h2) λc v h3 o h4 h5=>?_
   exact ⟨c,v,(hlk x h1).trans h3,o,old _ _ (Am x₂.keeps _ _ h4),h5⟩
  ·obtain ⟨h1,h2⟩:=D1 hnc e2
   refine Mine.bl (V.cel x d e1 h2) λc v h3 o h4 h5 h6=>?_
   exact ⟨c,v,(hlk x h1).trans h3,⟨o,old _ _ (Am x₂.keeps _ _ h4),h5⟩,x₂.rel h6⟩
 ·obtain ⟨o,e⟩:=(hf b hb).1
  exact hlt _ (Heap.lt_size e)
 ·obtain ⟨h1,h2⟩:=D1 hnc e1
  refine Mine.S6 (V.cls x h2) λc' v h3 o h4 _=>?_
  have e3:cl.lookup x=some c:=e2
  rw[hlk x h1,h3] at e3
  have e4:c'=c:=Option.some.inj e3
  rw[e4,hw _ hm] at h4;exact Aa h4
 ·have kp:∀b o,s.heap.get? b=some o->s'.heap.get? b=some o:=λb o e=>by
   have hb:=hlt b (Heap.lt_size (Am x₂.keeps _ _ e))
   exact t'.kp b o (λhm=>by rw[hw b hm] at e;exact Aa e) hb.1 hb.2 (old b o (Am x₂.keeps _ _ e))
  refine ⟨?_,Nat.le_trans x₂.tk (Nat.le_trans x₃.tk t'.tk),λp hp=>t'.sub p (x₂.sub p hp),λp hp=>?_⟩
  ·refine Mine.S1 x₂.keeps λh2 t2 e2 _=>?_
   refine Mine.S2 t'.sh λh3 t3 eq1=>?_
   subst eq1
   subst e2
   exact ⟨h3,t3,rfl,kp⟩
  ·rcases t'.new p hp with h|h|h
   ·exact x₂.new p h
   ·exact .inr (Aw (λb o e=>old b o (Am x₂.keeps _ _ e)) h)
   ·exact .inr (hw _ h)
theorem Fv {C:Expr} {g:Comprehension} {gs:List Comprehension} {scope:Scope} {ipos:Pos} {ds:List D} {use:Option (Value->Sem Unit)} {Q:Value->Shared->Prop} {new:Sem Value} {PO:Obj->Prop} (R:AG k A) (hr:SE prog w w.params Gl k r.e)
  (V:Vw w.params Gl N env names loc cel s) (hC:clausesOf C=g::gs) (hco:Ft names scope.names=true) (hkind:scope.kind=.function) (qi:Bu Gl r names loc cel g.target g.iter=some ds)
  (hfr:∀o,PO o->o.isFreed=false) (hnew:∀ {Q':Value->Shared->Prop} {s':Shared},(∀o,PO o->Q' (.ref s'.heap.objs.size) {s' with heap:=s'.heap.push o})->wpAny (model prog w) A new Q' E s')
  (hst:∀ {it acc:Value} {env:Env} {R:Result->Shared->Prop} {s:Shared},codeAny (model prog w) A (.compLoop C 0 it acc env) R s->(∀E',wpAny (model prog w) A (pyIter it) (λit' s'=>codeAny (model prog w) A (.compLoop C 0 it' acc env) R s') E' s)->codeAny (model prog w) A (.compStart C 0 it acc env) R s)
  (hgo:∀ {tup:Bool} {cl:List (Str×Addr)} {N₂:Az} {I:Addr} {fp wr:List Addr} {St:Nat->Heap->Prop} {s₂:Shared} {h₁:Heap} {o:Obj},(tup=true->Ez g.target=true)->PO o->Wk tup prog w A w.params N₂ I fp wr ds St->St 0 h₁->(∀p∈N₂,p.1∉wr)->h₁.get? s₂.heap.objs.size=some o->A1 N s N₂ s₂->bJ w Gl env names cel scope cl N N₂ s s₂ (s₂.heap.push o) h₁ fp wr->
   codeAny (model prog w) A (.compLoop C 0 (.ref I) (.ref s₂.heap.objs.size) (compEnvC scope cl (s₂.heap.push o).objs.size env)) (compPost (model prog w) A E use Q (.ref s₂.heap.objs.size) (s₂.heap.push o).objs.size) {s₂ with heap:=h₁,toks:=s₂.toks+([]:List (Str×Value)).length}):
  wpAny (model prog w) A (comprehension C scope env ipos new false (eval g.iter env) use) Q E s:=by
 have hmem:=ML hco
 have hnc:∀p∈scope.names,p.2≠.cell:=λp hp e=>by
  rcases hmem p hp with h|h|h
  ·rw[h.1] at e;exact NameKind.noConfusion e
  ·rw[h] at e;exact NameKind.noConfusion e
  ·rw[h.1] at e;exact NameKind.noConfusion e
 obtain ⟨cl,hcl,hlk⟩:=MK (env:=env) (scope:=scope) λp hp hf=>by
  rcases hmem p hp with h|h|h
  ·rw[h.1] at hf;exact NameKind.noConfusion hf
  ·rw[h] at hf;exact NameKind.noConfusion hf
  ·refine Mine.S1 (V.cls p.1 h.2) λc v h1 _=>?_
   exact ⟨c,h1⟩
 refine Mine.S9 (J0 (E:=E) R hr V qi) λhfold tup htup D5=>?_
 refine wpAny_comprehension_free (use:=use) hC hfold hcl hkind (λp hp hl=>?_) (wpAny_mono D5 (λx s₁ h=>wpAny_mono h (λit s₂ h=>?_) λZ Z e=>e) λZ Z e=>e)
 ·rcases hmem p hp with h|h|h
  ·exact h.2
  ·rw[h] at hl;exact NameKind.noConfusion hl
  ·rw[h.1] at hl;exact NameKind.noConfusion hl
 revert h
 refine Mine.dD λN₂ I fp wr St eq1 x₂ W st hf hw ho _=>?_
 subst eq1
 refine hnew λo po=>wpAny_newFunctionEnv hnc (λy hy=>nomatch hy) (λh₁ hns₁ hsb₁=>?_) hkind
 have c:=QF V hkind hnc hlk x₂ hf hw (o:=o) rfl hns₁ hsb₁
 have st':St 0 h₁:=W.frame _ _ _ st λb Z o e=>c.old b o e
 have loop:=hgo htup po W st' ho (hsb₁.extBut _ _ c.dc (Heap.get?_push_of_some _ (Heap.get?_push_size _ (hfr o po)))) x₂ c
 exact hst loop λE''=>W.self 0 _ _ _ st' loop
theorem EG {elt:Expr} {g:Comprehension} {gs:List Comprehension} {scope:Scope} {pos ipos:Pos} {ds:List D} {use:Option (Value->Sem Unit)} {Q:Value->Shared->Prop} (R:AG k A) (hr:SE prog w w.params Gl k r.e) (ht:ST prog w w.params Gl k r.t)
  (V:Vw w.params Gl N env names loc cel s) (h:FT Gl r names loc cel elt g gs scope=some ds)
  (hq:∀a C N' s',A1 N s N' s'->Ax w.params N' a (.list ds)->(∃m,s'.heap.Ns C m)->(∀p∈N',p.1≠C)->s.heap.get? C=Option.none->compPost (model prog w) A E use Q a C (.ok .next) s'):
  wpAny (model prog w) A (comprehension (.ListComp elt (g::gs) scope pos) scope env ipos (newList []) false (eval g.iter env) use) Q E s:=by
 unfold FT at h
 revert h
 refine BO λhc h=>?_
 rw[Bool.and_eq_true,decide_eq_true_eq] at hc
 obtain ⟨hco,hkind⟩:=hc
 revert h
 refine Mine.Br λitems qi h=>?_
 revert h
 refine Mine.Br λout qc h=>?_
 split at h
 ·rename_i hlen
  replace h:=(Option.some.inj h).symm;subst h
  have hga:g.is_async=0:=by
   unfold Ep at qc
   split at qc
   ·assumption
   ·exact Aa qc
  refine Fv (PO:=λo=>o=AZ [] 0) R hr V rfl hco hkind qi (λ_ e=>e▸rfl) (λh=>wpAny_newObj_type (h _ rfl)) (Hp (g:=g) rfl hga) λ{tup cl N₂ I fp wr St s₂ h₁ o} htup po W st ho hD1 x₂ c=>?_
  subst po
  refine codeAny_mono (Uv R hr ht (g::gs) 0 rfl [] items ds qc g gs rfl tup N₂ I fp wr St htup W c.fp c.cw N₂ [] _ ⟨λ_ h=>h,st,⟨c.vw,c.off,⟨[],0,hD1,.nil⟩,c.dc⟩,ho⟩ (by simpa using hlen)) λres s' h=>?_
  revert h
  refine Mine.T9 λeq1 N' c' t'=>?_
  subst eq1
  refine Mine.S1 c'.acc λvs n hD2 rs=>?_
  refine Mine.S0 c'.vw.loc λm' hm' _=>?_
  have rs':Ar w.params N' vs ds:=by simpa using rs
  obtain ⟨sh,tk,sub,nw⟩:=c.out t'
  refine hq (.ref s₂.heap.objs.size) _ ((s₂.heap.objs.size,AZ vs n)::N') s' ⟨sh,tk,λp hp=>.tail _ (sub p hp),λp hp=>?_,λp hp=>?_⟩ (.list (.head _) (by rw[rs'.length];exact hlen) (rs'.mono λ_ h=>.tail _ h)) ⟨m',hm'⟩ (λp hp=>?_) c.frC
  ·rcases List.mem_cons.mp hp with rfl|hp
   ·exact hD2
   ·exact c'.vw.has p hp
  ·rcases List.mem_cons.mp hp with rfl|hp
   ·exact .inr (c.frs _ (Nat.le_refl _))
   ·exact nw p hp
  ·rcases List.mem_cons.mp hp with rfl|hp
   ·exact c.dc
   ·exact (c'.off p hp).1
 ·exact Aa h
end
section
variable {prog:Program} {w:World} {A:Around} {E:Value->Shared->Prop} {s:Shared} {N:Az} {Gl:List (Str×D)} {k:Nat} {env:Env} {names:List (Str×NameKind)} {loc cel:List (Str×D)} {r:CA}
 {app:D->List D->Option D} {meth:D->Str->List D->Option D}
theorem QG {Pa:Params} {c:Const} {kk:Nat} {pos:Pos} {d:D} (h:Cn N s) (e:JS c=some d):wpAny (model prog w) A (eval (.Constant c kk pos) env) (Gv Pa N s d) E s:=by
 cases c with
 |none=>(replace e:=Option.some.inj e;subst e);exact λZ Z Z=>Ce h .none
 |bool b=>(replace e:=Option.some.inj e;subst e);exact λZ Z Z=>Ce h (.bool b)
 |int i=>(replace e:=Option.some.inj e;subst e);exact λZ Z Z=>B3 h i _ _
 |str x=>
  replace e:(if x.cps.size<=1000 then some (D.str x.cps.toList) else none)=some d:=e
  revert e
  refine BO λhl e=>?_
  (replace e:=Option.some.inj e;subst e)
  have:x=S x.cps.toList:=rfl
  refine λ_ _ _=>⟨N,A1.toks h _,?_⟩
  have r:=Ax.str (P:=Pa) (N:=N) x.cps.toList s.toks (by simp[Ap];exact Nat.le_trans (by assumption) (by decide))
  rw[<-this] at r
  exact r
 |_=>exact Aa e
theorem N1 {o:Option Expr} {d:Option D} {i:Option Int} (R:AG k A) (hr:SE prog w w.params Gl k r.e) (V:Vw w.params Gl N env names loc cel s) (e:IN r names loc cel o=some d) (p:Db d=some i) {Q:Value->Shared->Prop}
  (hq:∀v s' N',A1 N s N' s'->FV v i->Q v s'):wpAny (model prog w) A (evalPart o env) Q E s:=by
 cases o with
 |none=>
  (replace e:=Option.some.inj e;subst e)
  (replace p:=Option.some.inj p;subst p)
  rw[evalPart_none]
  exact wpAny_pure (hq _ _ _ (A1.rfl' V.has) .none)
 |some x=>
  rw[evalPart_some]
  revert e
  refine Mine.FQ λdx e1 e=>?_
  subst e
  refine Gq hr e1 R V λv s' N' x' rv=>?_
  revert v;show ∀v:Value,_;refine Ax.onI p λk t p=>?_
  obtain ⟨_,rfl⟩:=IL p
  exact hq _ _ _ x' (.int _ _)
theorem QH (vs:List Value):slicePick vs.toArray none none (some (-1))=vs.reverse.toArray:=by
 unfold slicePick sliceBounds
 simp only[Option.getD_some]
 have hz:vs.toArray.size=vs.length:=by simp
 rw[hz]
 simp only[show ¬ ((-1:Int)>0) by decide,if_false]
 unfold sliceRange
 simp only[show ¬ ((-1:Int)>0) by decide,if_false]
 have hc:(if (vs.length:Int)-1> -1 then ((vs.length:Int)-1- -1- -1-1)/(- -1) else 0).toNat=vs.length:=by
  split
  ·rw[show (- -1:Int)=1 by decide,Int.ediv_one];lia
  ·lia
 rw[hc]
 congr 1
 apply List.ext_getElem?
 intro i
 have key:∀ (n:Nat),n<=vs.length->((List.range n).map λ(k:Nat)=>((vs.length:Int)-1+ -1*(k:Int)).toNat).filterMap (vs.toArray[·]?)=(vs.reverse.take n):=by
  intro n
  induction n with
  |zero=>intro _;simp
  |succ n ih=>
   intro hn
   rw[List.range_succ,List.map_append,List.filterMap_append,ih (by lia)]
   have e:((vs.length:Int)-1+ -1*(n:Int)).toNat=vs.length-1-n:=ef
   have hlt:vs.length-1-n<vs.length:=eg hn
   rw[List.take_add_one]
   congr 1
   simp only[List.map_cons,List.map_nil,e,List.filterMap_cons,List.filterMap_nil]
   rw[List.getElem?_reverse (by lia)]
   simp[hlt]
 rw[key vs.length (Nat.le_refl _),<-List.length_reverse,List.take_length]
theorem Yd {value slice:Expr} {v:Value} {sl:Addr} {d r:D} {t:Tok} (h:Cn N s) (rv:Ax w.params N v d) (c:Qq d=some r) (hs:s.heap.IsSliceOf sl .none .none (.int (-1) t)):
  wpAny (model prog w) A (subscriptTail value slice v (.ref sl)) (Gv w.params N s r) E s:=by
 revert v;show ∀v:Value,_;refine Ax.onL c λds a vs n ma la ra c=>?_
 (replace c:=Option.some.inj c;subst c)
 refine E8 ⟨_,h _ ma,rfl⟩ list_getitem_lookup (wpAny_getItem_list_slice (AM h ma) hs .none .none (.int _ _) (by decide) ?_ (Bb (by simpa using la)))
 rw[QH]
 exact Dh h ⟨_,rfl⟩ (by simpa using la) ra.reverse _
end
section
variable {prog:Program} {w:World} {Gl:List (Str×D)} {k:Nat} {r:CA} {app:D->List D->Option D} {meth:D->Str->List D->Option D}
theorem Uw {e:Expr} (h:OP e=true):∃p1 n p2,e=.UnaryOp .USub (.Constant (.int 1) n p1) p2:=by
 obtain ⟨u,h⟩:=Option.isSome_iff_exists.mp h
 refine ob h λq h1 h=>ob h λ_ h2 h=>ob h λc h3 h=>ob h λi h4 h=>?_
 exact ⟨c.1.2.2,c.1.2.1,q.1.2.2,q.2.trans (Qo (λo x=>Expr.UnaryOp o x _) (Uh h2) (c.2.trans (congrArg (λk=>Expr.Constant k _ _) ((Ug h4).trans (congrArg Const.int (IL h).1)))))⟩
theorem Ux {names:List (Str×NameKind)} {loc cel:List (Str×D)} {v i:Expr} {d:D} {pos:Pos} {A:Around} {E:Value->Shared->Prop} {s:Shared} {N:Az} {env:Env} (hr:SE prog w w.params Gl k r.e) (h:X3 r names loc cel v i=some d) (R:AG k A) (V:Vw w.params Gl N env names loc cel s):
  wpAny (model prog w) A (eval (.Subscript v i pos) env) (Gv w.params N s d) E s:=by
 have gen:∀i,(r.e names loc cel v).bind (λo=>(r.e names loc cel i).bind λk=>AW o k)=some d->wpAny (model prog w) A (eval (.Subscript v i pos) env) (Gv w.params N s d) E s:=λi h=>by
  revert h
  refine Mine.Br λo q1 h=>?_
  revert h
  refine Mine.Br λj q2 h=>?_
  refine Subscript_ (Gq hr q1 R V λu s₁ N₁ x₁ r₁=>?_)
  refine Gq hr q2 R (V.ext x₁) λu' s₂ N₂ x₂ r₂=>?_
  exact Cr (x₁.trans x₂) (X9 x₂.has (x₂.rel r₁) r₂ h)
 cases i with
 |Slice lo hi st p=>
  cases st with
  |some m=>
   revert h
   refine BO λhm h=>?_
   simp only[Bool.and_eq_true,Option.isNone_iff_eq_none] at hm
   revert hm
   refine Mine.T7 λhm eq1 eq2=>?_
   subst eq1 eq2
   refine Mine.il (Uw hm) λp1 n p2 eq1=>?_
   subst eq1
   revert h
   refine Mine.Br λo q1 h=>?_
   refine Subscript_ (Gq hr q1 R V λu s₁ N₁ x₁ r₁=>?_)
   refine wpAny_Slice ?_
   rw[evalPart_none,evalPart_some]
   refine wpAny_pure (wpAny_pure (wpAny_UnaryOp (wpAny_Constant_int (P.neg_int ?_))))
   have y:=A1.push0 x₁.has ({cls:=.type "slice",data:=.fields #[.none,.none,.int (-1) (s₁.toks+1)]}:Obj) (s₁.toks+1+1)
   exact Cr (x₁.trans y) (Yd y.has (y.rel r₁) h (Heap.IsSliceOf.new ..))
  |none=>
   revert h
   refine Mine.Br λo q1 h=>?_
   revert h
   refine Mine.Br λa q2 h=>?_
   revert h
   refine Mine.Br λb q3 h=>?_
   revert h
   refine Mine.Br λa' q4 h=>?_
   revert h
   refine Mine.Br λb' q5 h=>?_
   refine Subscript_ (Gq hr q1 R V λu s₁ N₁ x₁ r₁=>?_)
   refine wpAny_Slice (N1 R hr (V.ext x₁) q2 q4 λvl s₂ N₂ x₂ pl=>N1 R hr ((V.ext x₁).ext x₂) q3 q5 λvu s₃ N₃ x₃ pu=>?_)
   rw[evalPart_none]
   refine wpAny_pure ?_
   have y:=A1.push0 x₃.has ({cls:=.type "slice",data:=.fields #[vl,vu,.none]}:Obj) s₃.toks
   have z:=(x₁.trans x₂).trans (x₃.trans y)
   exact Cr z (Qu y.has (y.rel (x₃.rel (x₂.rel r₁))) pl pu (Heap.IsSliceOf.new ..) h)
 |_=>exact gen _ h
set_option tactic.hygienic true
theorem QI (hr:SE prog w w.params Gl k r.e) (ha:Fi prog w w.params Gl k app) (hm:Hk prog w w.params Gl k meth) {names:List (Str×NameKind)} {loc cel:List (Str×D)} {f:Expr} {args:List Expr} {pos:Pos} {d:D} {A:Around} {E:Value->Shared->Prop} {s:Shared} {N:Az} {env:Env}
  (h:IP app meth r names loc cel f args pos=some d) (R:AG k A) (V:Vw w.params Gl N env names loc cel s):wpAny (model prog w) A (eval (.Call f args [] pos) env) (Gv w.params N s d) E s:=by
 rcases f with _|_<;>first|exact Aa h|skip
 ·rename_i o name apos
  unfold IP at h
  dsimp only at h
  revert h
  refine BO λhp h=>?_
  simp only[Bool.and_eq_true,decide_eq_true_eq] at hp
  revert h
  refine Mine.Br λod q1 h=>?_
  revert h
  refine Mine.Br λds q2 h=>?_
  exact Un R hr hm V hp.1.1.1 hp.1.1.2 hp.1.2 hp.2 q1 q2 h
 ·rename_i y p
  unfold IP at h
  dsimp only at h
  revert h
  refine BO λhp h=>?_
  rw[Bool.and_eq_true,decide_eq_true_eq] at hp
  revert h
  refine Mine.Br λfd q1 h=>?_
  revert h
  refine Mine.Br λds q2 h=>?_
  exact Um R hr ha V hp.1 ⟨_,_,rfl⟩ q1 q2 h
set_option tactic.hygienic false
theorem MM {β γ:Type} (f:β->Option γ):∀ (es:List β) (ds:List γ),es.mapM f=some ds->ds.length=es.length
 |[],ds,h=>by (replace h:=Option.some.inj h;subst h);rfl
 |x::es,ds,h=>by
  rw[List.mapM_cons] at h
  cases q:f x with
  |none=>rw[q] at h;exact Aa h
  |some y=>
   cases q':es.mapM f with
   |none=>rw[q,q'] at h;exact Aa h
   |some ys=>rw[q,q'] at h;(replace h:=Option.some.inj h;subst h);simp[MM f es ys q']
set_option tactic.hygienic true
theorem QJ (hr:SE prog w w.params Gl k r.e) (ht:ST prog w w.params Gl k r.t) (ha:Fi prog w w.params Gl k app) (hm:Hk prog w w.params Gl k meth):SE prog w w.params Gl k (EA Gl app meth r):=by
 intro names loc cel e d h A E s N env R V
 rcases e with _|_<;>first|exact Aa h|skip
 ·
  exact OT R hr V _ _ h
 ·
  rename_i l op x pos
  unfold EA at h
  dsimp only at h
  revert h
  refine Mine.Br λa q1 h=>?_
  revert h
  refine Mine.Br λb q2 h=>?_
  refine wpAny_BinOp (Gq hr q1 R V λv s₁ N₁ x₁ r₁=>?_)
  refine Gq hr q2 R (V.ext x₁) λu s₂ N₂ x₂ r₂=>?_
  exact Cr (x₁.trans x₂) (X7 x₂.has (x₂.rel r₁) r₂ h)
 ·
  rename_i op x pos
  rcases op with _|_<;>first|exact Aa h|skip
  replace h:(r.e names loc cel x).bind bE=some d:=h
  revert h
  refine Mine.Br λa q1 h=>?_
  refine wpAny_UnaryOp (Gq hr q1 R V λv s₁ N₁ x₁ r₁=>?_)
  revert v;show ∀v:Value,_;refine Ax.onI h λi t h=>?_
  (replace h:=Option.some.inj h;subst h)
  exact Cr x₁ (P.neg_int (B3 x₁.has _ _ _))
 ·
  rename_i t b o pos
  unfold EA at h
  dsimp only at h
  revert h
  refine Mine.Br λc q1 h=>?_
  refine wpAny_IfExp (bI ht q1 R V λs₁ N₁ x₁=>?_)
  cases c with
  |true=>
   exact Cr x₁ (hr _ _ _ _ _ h A E s₁ N₁ env R (V.ext x₁))
  |false=>
   exact Cr x₁ (hr _ _ _ _ _ h A E s₁ N₁ env R (V.ext x₁))
 ·
  rename_i elt gens scope pos
  cases gens with
  |nil=>exact Aa h
  |cons g gs=>
  unfold EA at h
  dsimp only at h
  revert h
  refine Mine.FQ λds h hd=>?_
  subst hd
  rw[eval_ListComp]
  have hga:g.is_async=0:=by
   unfold FT at h
   revert h
   refine BO λ_ h=>?_
   refine Mine.ob h λitems q1 h=>Mine.ob h λout q2 h=>?_
   ·unfold Ep at q2
    split at q2
    ·assumption
    ·exact Aa q2
  obtain ⟨t,it,ifs,a⟩:=g
  have hga:a=0:=hga
  subst hga
  refine EG (g:=⟨t,it,ifs,0⟩) (use:=none) R hr ht V h λacc C N' s' x rv hC ho hf=>?_
  obtain ⟨m,hm⟩:=hC
  refine ⟨m,hm,λh' hs=>?_⟩
  have hne:∀b o,s.heap.get? b=some o->b≠C:=λb o e q=>by rw[q,hf] at e;exact Aa e
  refine Mine.S1 x.keeps λh2 t2 eq1 k2=>?_
  subst eq1
  refine ⟨N',⟨⟨h',t2,rfl,λb o e=>hs.extBut b o (hne b o e) (k2 b o e)⟩,x.tk,x.sub,λp hp=>hs.extBut _ _ (ho p hp) (x.has p hp),x.new⟩,rv⟩
 ·
  rename_i l ops xs pos
  rcases ops with _|⟨op,_|⟨op2,ops⟩⟩<;>first|(exact Aa h;done)|(cases xs<;>cases h;done)|skip
  rcases xs with _|⟨x,_|⟨x2,xs⟩⟩<;>first|(exact Aa h;done)|skip
  unfold EA at h
  dsimp only at h
  split at h
  ·exact Aa h
  ·rename_i hb
   revert h
   refine Mine.Br λa q1 h=>?_
   revert h
   refine Mine.Br λb q2 h=>?_
   revert h
   refine Mine.FQ λc h hd=>?_
   subst hd
   refine wpAny_Compare1 (Gq hr q1 R V λv s₁ N₁ x₁ r₁=>?_) (by simpa using hb)
   refine Gq hr q2 R (V.ext x₁) λu s₂ N₂ x₂ r₂=>?_
   exact Qs (R.le (Nat.zero_le _)) x₂.has (x₂.rel r₁) r₂ h ⟨N₂,x₁.trans x₂,.bool _⟩
 ·
  rename_i f args ks pos
  unfold EA at h
  dsimp only at h
  revert h
  refine BO λhk h=>?_
  rw[List.isEmpty_iff] at hk
  subst hk
  exact QI hr ha hm h R V
 ·
  exact QG V.has h
 ·
  exact Ux hr h R V
 ·
  unfold EA at h
  dsimp only at h
  split at h
  ·exact Aa h
  ·rename_i hd
   exact wpAny_Name (FW V h λv rv=>Ce V.has rv) (by simpa using hd)
 ·
  rename_i es pos
  unfold EA at h
  dsimp only at h
  revert h
  refine BO λhp h=>?_
  rw[Bool.and_eq_true,decide_eq_true_eq] at hp
  revert h
  refine Mine.FQ λds h hd=>?_
  subst hd
  refine wpAny_List_spliced ?_
  rw[AX pos es hp.1]
  refine Uj (FX R hr V es ds h) λvs s₁ N₁ x₁ r₁=>?_
  have hl:vs.length<=Ap:=by
   have e1:=r₁.length
   have e2:=MM _ es ds h
   simp[Ap];lia
  exact ⟨Bb hl,(Dh (s:=s₁) x₁.has ⟨_,rfl⟩ hl r₁ s₁.toks).imp λN' y=>⟨x₁.trans y.1,y.2⟩⟩
 ·
  rename_i es c pos
  unfold EA at h
  dsimp only at h
  revert h
  refine BO λhp h=>?_
  rw[Bool.and_eq_true,decide_eq_true_eq] at hp
  revert h
  refine Mine.FQ λds h hd=>?_
  subst hd
  refine wpAny_Tuple_spliced ?_
  rw[AX pos es hp.1]
  refine Uj (FX R hr V es ds h) λvs s₁ N₁ x₁ r₁=>?_
  have hl:vs.length<=Ap:=by
   have e1:=r₁.length
   have e2:=MM _ es ds h
   simp[Ap];lia
  have y:=A1.push x₁.has (Bs vs 0) s₁.toks
  exact ⟨Bb hl,_,x₁.trans y,.tuple (.head _) hl (y.rels r₁)⟩
theorem QK (hr:SE prog w w.params Gl k r.e) (ht:ST prog w w.params Gl k r.t):ST prog w w.params Gl k (NY r):=by
 intro names loc cel e b h A E s N env R V
 rcases e with _|_<;>first|exact Aa h|skip
 ·rename_i op vs pos
  rw[arm_isTrue_BoolOp]
  exact Uo R ht V vs b h
 ·rename_i op x pos
  rcases op with _|_<;>first|exact Aa h|skip
  replace h:(r.t names loc cel x).map not=some b:=h
  revert h
  refine Mine.FQ λc q1 h=>?_
  subst h
  refine wpAny_isTrue_Not (bI ht q1 R V λs₁ N₁ x₁=>⟨N₁,x₁,rfl⟩)
 ·rename_i l ops xs pos
  rcases ops with _|⟨op,_|⟨op2,ops⟩⟩<;>first|(exact Aa h;done)|(cases xs<;>cases h;done)|skip
  rcases xs with _|⟨x,_|⟨x2,xs⟩⟩<;>first|(exact Aa h;done)|skip
  unfold NY at h
  dsimp only at h
  split at h
  ·exact Aa h
  ·rename_i hb
   revert h
   refine Mine.Br λa q1 h=>?_
   revert h
   refine Mine.Br λc q2 h=>?_
   refine wpAny_isTrue_Compare1 (Gq hr q1 R V λv s₁ N₁ x₁ r₁=>?_) (by simpa using hb)
   refine Gq hr q2 R (V.ext x₁) λu s₂ N₂ x₂ r₂=>?_
   exact Qs (R.le (Nat.zero_le _)) x₂.has (x₂.rel r₁) r₂ h (wpAny_truthy_bool ⟨N₂,x₁.trans x₂,rfl⟩)
 ·rename_i f as ks p
  replace h:(r.e names loc cel (.Call f as ks p)).bind Ay=some b:=h
  exact Mine.ob h λd q1 h=>Fu R hr V q1 h rfl
 ·rename_i v i p
  replace h:(r.e names loc cel (.Subscript v i p)).bind Ay=some b:=h
  exact Mine.ob h λd q1 h=>Fu R hr V q1 h rfl
 ·rename_i x p
  replace h:(r.e names loc cel (.Name x p)).bind Ay=some b:=h
  exact Mine.ob h λd q1 h=>Fu R hr V q1 h rfl
set_option tactic.hygienic false
noncomputable abbrev XE:=CA->List (Str×NameKind)->List (Str×D)->List (Str×D)->Expr->Option D
noncomputable def iw (prog:Program) (w:World) (Gl:List (Str×D)) (k:Nat) (X:XE):Prop:=∀r:CA,SE prog w w.params Gl k r.e->ST prog w w.params Gl k r.t->SE prog w w.params Gl k (X r)
theorem MN {X:XE} (hX:iw prog w Gl k X) (ha:Fi prog w w.params Gl k app) (hm:Hk prog w w.params Gl k meth):∀n,SE prog w w.params Gl k (Dd Gl app meth X n).e/\ST prog w w.params Gl k (Dd Gl app meth X n).t
 |0=>⟨λZ Z Z Z Z h=>(nomatch h),λZ Z Z Z Z h=>(nomatch h)⟩
 |n+1=>by
  obtain ⟨h1,h2⟩:=MN hX ha hm n
  refine ⟨λnames loc cel e d h=>?_,QK h1 h2⟩
  replace h:bG Gl app meth X (Dd Gl app meth X n) names loc cel e=some d:=h
  unfold bG at h
  split at h
  ·exact hX _ h1 h2 names loc cel e d h
  ·exact QJ h1 h2 ha hm names loc cel e d h
end
structure SS (Pa:Params) (Gl:List (Str×D)) (env:Env) (names:List (Str×NameKind)) (N:Az) (M:Addr->Prop) (σ:Sg) (s:Shared):Prop where
 kind:env.scope.kind=.function
 nm:env.scope.names=names
 glob:env.globals=mainGlobals
 blt:env.builtins=builtinsNs
 has:Cn N s
 tk:0<s.toks
 top:GQ Pa Gl N
 off:∀p∈N,¬ M p.1
 ml:M env.locals
 live:∀b,M b->∃o,s.heap.get? b=some o
 cls:∀x,names.lookup x=some .cell->∃c v,env.cells.lookup x=some c/\s.heap.IsCell c v/\M c
 cel:∀x d,σ.cel.lookup x=some d->names.lookup x=some .cell->∃c v,env.cells.lookup x=some c/\s.heap.IsCell c (some v)/\Ax Pa N v d
 inj:∀x y c,names.lookup x=some .cell->names.lookup y=some .cell->env.cells.lookup x=some c->env.cells.lookup y=some c->x=y
 vars:∃ (m:Str->Option Value) (O:Az),s.heap.Ns env.locals m/\(∀p∈O,M p.1/\s.heap.get? p.1=some p.2/\∃vs n,p.2=AZ vs n)/\
  (∀x d,σ.loc.lookup x=some d->∃v,m x=some v/\Ax Pa N v d)/\
  (∀x ds,σ.own.lookup x=some ds->σ.loc.lookup x=none/\∃a vs n,m x=some (.ref a)/\(a,AZ vs n)∈O/\Ar Pa N vs ds/\vs.length<=Ap)/\
  (∀x y ds es a,σ.own.lookup x=some ds->σ.own.lookup y=some es->m x=some (.ref a)->m y=some (.ref a)->x=y)
structure Tr (N:Az) (M:Addr->Prop) (s:Shared) (N':Az) (M':Addr->Prop) (s':Shared):Prop where
 sh:∃h t,s'={s with heap:=h,toks:=t}
 tk:s.toks<=s'.toks
 kp:∀b o,¬ M b->s.heap.get? b=some o->s'.heap.get? b=some o
 mm:∀b,M' b->M b\/s.heap.get? b=Option.none
 sub:∀p∈N,p∈N'
 new:∀p∈N',p∈N\/s.heap.get? p.1=Option.none\/M p.1
theorem Tr.rfl' {N:Az} {M:Addr->Prop} {s:Shared}:Tr N M s N M s:=⟨⟨_,_,rfl⟩,Nat.le_refl _,λZ Z Z e=>e,λZ h=>.inl h,λZ h=>h,λZ h=>.inl h⟩
theorem Tr.fresh {N N':Az} {M M':Addr->Prop} {s s':Shared} (x:Tr N M s N' M' s') {b:Addr} (e:s'.heap.get? b=Option.none):M b\/s.heap.get? b=Option.none:=by
 by_cases h:M b
 ·exact .inl h
 ·right
  cases q:s.heap.get? b with
  |none=>rfl
  |some o=>rw[x.kp b o h q] at e;cases e
theorem Tr.trans {N N' N'':Az} {M M' M'':Addr->Prop} {s s' s'':Shared} (x:Tr N M s N' M' s') (y:Tr N' M' s' N'' M'' s''):Tr N M s N'' M'' s'':=by
 refine ⟨?_,Nat.le_trans x.tk y.tk,λb o h e=>y.kp b o (λq=>?_) (x.kp b o h e),λb h=>?_,λp h=>y.sub p (x.sub p h),λp h=>?_⟩
 ·refine Mine.S2 x.sh λh t eq1=>?_
  subst eq1
  refine Mine.S2 y.sh λh' t' eq1=>?_
  subst eq1
  exact ⟨h',t',rfl⟩
 ·rcases x.mm b q with h'|h'
  ·exact h h'
  ·rw[e] at h';cases h'
 ·rcases y.mm b h with h|h
  ·exact x.mm b h
  ·exact x.fresh h
 ·rcases y.new p h with h|h|h
  ·exact x.new p h
  ·exact .inr ((x.fresh h).symm)
  ·exact .inr ((x.mm _ h).symm)
theorem Tr.of_ext {N N':Az} {M:Addr->Prop} {s s':Shared} (x:A1 N s N' s'):Tr N M s N' M s':=
 ⟨x.keeps.imp λZ x=>x.imp λZ x=>x.1,x.tk,λb o Z e=>Am x.keeps b o e,λZ h=>.inl h,x.sub,λp h=>(x.new p h).imp id .inl⟩
section
variable {prog:Program} {w:World} {A:Around} {E:Value->Shared->Prop} {s s':Shared} {Pa:Params} {N N':Az} {M:Addr->Prop} {Gl:List (Str×D)} {k:Nat} {env:Env} {names:List (Str×NameKind)} {σ:Sg} {r:CA} {owned:List Str}
theorem SS.vw (S:SS Pa Gl env names N M σ s):Vw Pa Gl N env names σ.loc σ.cel s:=
 ⟨S.kind,S.nm,S.glob,S.blt,S.has,S.tk,S.top,λx e=>(S.cls x e).imp λc h=>h.imp λv h=>⟨h.1,h.2.1⟩,S.vars.imp λm h=>h.elim λZ h=>⟨h.1,h.2.2.1⟩,S.cel⟩
theorem SS.ext (S:SS Pa Gl env names N M σ s) (x:A1 N s N' s'):SS Pa Gl env names N' M σ s':=by
 have k:=Am x.keeps
 refine ⟨S.kind,S.nm,S.glob,S.blt,x.has,Nat.lt_of_lt_of_le S.tk x.tk,S.top.mono x.sub,λp hp h=>?_,S.ml,λb hb=>(S.live b hb).imp λo ho=>k _ _ ho,λy e=>?_,λy d e1 e2=>?_,S.inj,?_⟩
 ·rcases x.new p hp with q|q
  ·exact S.off p q h
  ·obtain ⟨o,ho⟩:=S.live _ h;rw[ho] at q;cases q
 ·refine Mine.S3 (S.cls y e) λc v h1 h2 h3=>?_
  exact ⟨c,v,h1,h2.keeps k,h3⟩
 ·refine Mine.S3 (S.cel y d e1 e2) λc v h1 h2 h3=>?_
  exact ⟨c,v,h1,h2.keeps k,x.rel h3⟩
 ·refine Mine.WF S.vars λm O hm hO hl ho hd=>?_
  refine ⟨m,O,hm.keeps k,λp hp=>⟨(hO p hp).1,k _ _ (hO p hp).2.1,(hO p hp).2.2⟩,λy d e=>(hl y d e).imp λv h=>⟨h.1,x.rel h.2⟩,λy ds e=>?_,hd⟩
  refine Mine.bo (ho y ds e) λh0 a vs n h1 h2 h3 h4=>?_
  exact ⟨h0,a,vs,n,h1,h2,x.rels h3,h4⟩
end
theorem GR:∀ (l:List (Str×List D)) (x:Str),(l.map λp=>(p.1,D.list p.2)).lookup x=(l.lookup x).map D.list
 |[],_=>rfl
 |(y,ds)::l,x=>by
  rw[List.map_cons,List.lookup_cons,List.lookup_cons]
  cases x==y
  ·exact GR l x
  ·rfl
theorem Ll {σ:Sg} {x:Str} {d:D} (h:σ.full.lookup x=some d):(∃ds,σ.own.lookup x=some ds/\d=.list ds)\/σ.loc.lookup x=some d:=by
 unfold Sg.full at h
 rw[List.lookup_append,GR] at h
 cases q:σ.own.lookup x with
 |some ds=>rw[q] at h;(replace h:=Option.some.inj h;subst h);exact .inl ⟨ds,rfl,rfl⟩
 |none=>rw[q] at h;exact .inr (by simpa using h)
theorem Hr {Pa:Params} {N N':Az} {v:Value} {d:D} (h:d.scalar=true) (r:Ax Pa N v d):Ax Pa N' v d:=by
 cases r with
 |none=>exact .none
 |bool b=>exact .bool b
 |int i t=>exact .int i t
 |str x t hx=>exact .str x t hx
 |bytes b t hb=>exact .bytes b t hb
 |_=>exact B7 h
theorem DC:∀ (l:List (Str×D)) (x:Str) (d:D) (y:Str),(JU x d l).lookup y=if y=x then some d else l.lookup y
 |[],x,d,y=>by
  unfold JU
  rw[List.lookup_cons]
  by_cases h:y=x
  ·subst h;simp
  ·have:(y==x)=false:=by simpa using h
   rw[this];simp[h]
 |p::l,x,d,y=>by
  unfold JU
  by_cases hp:(p.1==x)=true
  ·rw[if_pos hp]
   rw[List.lookup_cons,List.lookup_cons]
   by_cases h:y=x
   ·subst h;simp
   ·have h1:(y==x)=false:=by simpa using h
    have h2:(y==p.1)=false:=by rw[eq_of_beq hp];exact h1
    rw[h1,h2];simp[h]
  ·rw[if_neg hp]
   rw[List.lookup_cons,List.lookup_cons]
   by_cases h:y=p.1
   ·have hb:(y==p.1)=true:=by simpa using h
    rw[hb]
    have:y≠x:=λq=>hp (by rw[<-h,q];exact beq_self_eq_true x)
    simp[this]
   ·have hb:(y==p.1)=false:=by simpa using h
    rw[hb]
    exact DC l x d y
section
variable {prog:Program} {w:World} {A:Around} {E:Value->Shared->Prop} {s s':Shared} {Pa:Params} {N N':Az} {M:Addr->Prop} {Gl:List (Str×D)} {k:Nat} {env:Env} {names:List (Str×NameKind)} {σ:Sg} {r:CA} {owned:List Str}
theorem SS.full (S:SS Pa Gl env names N M σ s):∃O:Az,Vw Pa Gl (N++O) env names σ.full σ.cel s/\(∀p∈O,M p.1/\s.heap.get? p.1=some p.2/\∃vs n,p.2=AZ vs n):=by
 refine Mine.WF S.vars λm O hm hO hl ho hd=>?_
 have hs:∀p∈N,p∈N++O:=λp h=>List.mem_append_left _ h
 refine ⟨O,⟨S.kind,S.nm,S.glob,S.blt,λp hp=>?_,S.tk,S.top.mono hs,S.vw.cls,⟨m,hm,λx d e=>?_⟩,λx d e1 e2=>?_⟩,hO⟩
 ·rcases List.mem_append.mp hp with h|h
  ·exact S.has p h
  ·exact (hO p h).2.1
 ·rcases Ll e with ⟨ds,h1,rfl⟩|h1
  ·refine Mine.bo (ho x ds h1) λ_ a vs n h2 h3 h4 h5=>?_
   exact ⟨_,h2,.list (List.mem_append_right _ h3) h5 (h4.mono hs)⟩
  ·refine Mine.S0 (hl x d h1) λv h2 h3=>?_
   exact ⟨v,h2,h3.mono hs⟩
 ·refine Mine.S3 (S.cel x d e1 e2) λc v h1 h2 h3=>?_
  exact ⟨c,v,h1,h2,h3.mono hs⟩
theorem J2 {e:Expr} {d:D} {σ':Sg} (R:AG k A) (hr:SE prog w Pa Gl k r.e) (S:SS Pa Gl env names N M σ s) (h:K1 r names σ e=some (d,σ')) {Q:Value->Shared->Prop}
  (hq:∀v s' N' M',SS Pa Gl env names N' M' σ' s'->Tr N M s N' M' s'->Ax Pa N' v d->Q v s'):wpAny (model prog w) A (eval e env) Q E s:=by
 unfold K1 at h
 split at h
 ·revert h
  refine Mine.FQ λd' q h=>?_
  ·refine Mine.S0 S.full λO V hO=>?_
   refine Gq hr q R V λv s' N' x rv=>?_
   split at h
   ·rename_i hs
    (refine NU h λe1 e2=>?_;clear h;subst e1 e2)
    have y:=A1.of_keeps S.has x.keeps x.tk
    exact hq v s' N M (S.ext y) (Tr.of_ext y) (Hr hs rv)
   ·(refine NU h λe1 e2=>?_;clear h;subst e1 e2)
    have kk:=Am x.keeps
    refine Mine.WF S.vars λm O' hm hO' hl ho hd=>?_
    have hin:∀p∈N',p∈N\/M p.1\/s.heap.get? p.1=Option.none:=λp hp=>by
     rcases x.new p hp with h|h
     ·rcases List.mem_append.mp h with h|h
      ·exact .inl h
      ·exact .inr (.inl (hO p h).1)
     ·exact .inr (.inr h)
    have notList:∀b o,s.heap.get? b=some o->(∀vs n,o≠AZ vs n)->M b->∀p∈N',p.1≠b:=λb o hb hn hM p hp e=>by
     rcases x.new p hp with h|h
     ·rcases List.mem_append.mp h with h|h
      ·exact S.off p h (e▸hM)
      ·refine Mine.dF (hO p h) λ_ h1 vs n h2=>?_
       rw[e,hb] at h1;(replace h1:=Option.some.inj h1;subst h1)
       exact hn vs n h2
     ·rw[e,hb] at h;cases h
    refine hq v s' N' (λb=>M b/\∀p∈N',p.1≠b) ⟨S.kind,S.nm,S.glob,S.blt,x.has,Nat.lt_of_lt_of_le V.tk x.tk,V.top.mono x.sub,λp hp h=>h.2 p hp rfl,⟨S.ml,?_⟩,λb hb=>?_,λy e=>?_,λy d e1 e2=>?_,S.inj,?_⟩ ⟨?_,x.tk,?_,λb hb=>.inl hb.1,λp hp=>x.sub p (List.mem_append_left _ hp),λp hp=>?_⟩ rv
    ·revert hm
     refine Mine.T5 λo es ep h1 h2 _=>?_
     exact notList _ o h1 (λvs n q=>by rw[q] at h2;cases h2) S.ml
    ·obtain ⟨o,h⟩:=S.live b hb.1
     exact ⟨o,kk _ _ h⟩
    ·refine Mine.S3 (S.cls y e) λc v h1 h2 h3=>?_
     refine ⟨c,v,h1,h2.keeps kk,h3,?_⟩
     revert h2
     refine Mine.T0 λo h4 h5=>?_
     exact notList _ o h4 (λvs n q=>by rw[q] at h5;cases h5) h3
    ·refine Mine.S3 (S.cel y d e1 e2) λc v h1 h2 h3=>?_
     exact ⟨c,v,h1,h2.keeps kk,(h3.mono λp hp=>List.mem_append_left _ hp).mono x.sub⟩
    ·refine ⟨m,[],hm.keeps kk,λp hp=>(by cases hp),λy d e=>?_,λy ds e=>(by exact Aa e),λy z ds es a e=>(by exact Aa e)⟩
     refine Mine.S0 V.loc λm2 hm2 q2=>?_
     have:∀y,m2 y=m y:=λy=>by
      revert hm
      refine Mine.T4 λo es ep h1 h2 h3 h4=>?_
      revert hm2
      refine Mine.T4 λo' es' ep' h1' h2' h3' h4'=>?_
      rw[h1] at h1';(replace h1':=Option.some.inj h1';subst h1')
      rw[h2] at h2';cases h2'
      rw[<-h4,<-h4']
     refine Mine.S0 (q2 y d e) λv h1 h2=>?_
     exact ⟨v,by rw[<-this];exact h1,h2.mono x.sub⟩
    ·refine Mine.S1 x.keeps λh t e _=>?_
     exact ⟨h,t,e⟩
    ·exact λb o Z e=>kk b o e
    ·rcases hin p hp with h|h|h
     ·exact .inl h
     ·exact .inr (.inr h)
     ·exact .inr (.inl h)
 ·revert h
  refine Mine.FQ λd' q h=>?_
  (refine NU h λe1 e2=>?_;clear h;subst e1 e2)
  refine Gq hr q R S.vw λv s' N' x rv=>?_
  exact hq v s' N' M (S.ext x) (Tr.of_ext x) rv
end
section
variable {prog:Program} {w:World} {A:Around} {E:Value->Shared->Prop} {s s':Shared} {Pa:Params} {N N':Az} {M:Addr->Prop} {Gl:List (Str×D)} {k:Nat} {env:Env} {names:List (Str×NameKind)} {σ:Sg} {r:CA} {owned:List Str}
theorem EH {h:Heap} {a c:Addr} {vs:List Value} {n:Nat} {v:Option Value} (x:h.get? a=some (AZ vs n)) (y:h.IsCell c v):a≠c:=by
 rintro rfl
 revert y
 refine Mine.T0 λo h1 h2=>?_
 rw[x] at h1;(replace h1:=Option.some.inj h1;subst h1);cases h2
theorem Gx {h:Heap} {a c:Addr} {vs:List Value} {n:Nat} {m:Str->Option Value} (x:h.get? a=some (AZ vs n)) (y:h.Ns c m):a≠c:=by
 rintro rfl
 revert y
 refine Mine.T5 λo es ep h1 h2 _=>?_
 rw[x] at h1;(replace h1:=Option.some.inj h1;subst h1);cases h2
theorem SS.kindOf (S:SS Pa Gl env names N M σ s) (x:Str):env.kindOf x=names.lookup x:=by unfold Env.kindOf;rw[S.nm]
theorem SS.hp (S:SS Pa Gl env names N M σ s):(env.scope.kind==.class||(env.scope.kind==.module&&env.locals !=env.globals))=false:=by rw[S.kind];rfl
theorem OZ {x:Str} {v:Value} {d:D} (S:SS Pa Gl env names N M σ s) (rv:Ax Pa N v d) (hk:names.lookup x=some .local) (ho:σ.own.lookup x=none) {Q:Unit->Shared->Prop}
  (hq:∀s',SS Pa Gl env names N M {σ with loc:=JU x d σ.loc} s'->Tr N M s N M s'->Q () s'):wpAny (model prog w) A (storeName env x v) Q E s:=by
 refine Mine.WF S.vars λm O hm hO hl hown hd=>?_
 refine wpAny_storeName_local ((S.kindOf x).trans hk) hm (λh' hn hb=>?_) S.hp
 have kp:∀b o,b≠env.locals->s.heap.get? b=some o->h'.get? b=some o:=λb o h e=>hb.extBut b o h e
 refine hq _ ⟨S.kind,S.nm,S.glob,S.blt,λp hp=>kp _ _ (λe=>S.off p hp (e▸S.ml)) (S.has p hp),Nat.lt_succ_of_lt S.tk,S.top,S.off,S.ml,λb hM=>?_,λy e=>?_,λy d e1 e2=>?_,S.inj,_,O,hn,λp hp=>?_,λy c e=>?_,λy ds e=>?_,λy z ds es a e1 e2 e3 e4=>?_⟩
  ⟨⟨_,_,rfl⟩,Nat.le_succ _,λb o h e=>kp b o (λq=>h (q▸S.ml)) e,λZ h=>.inl h,λZ h=>h,λZ h=>.inl h⟩
 ·by_cases h:b=env.locals
  ·subst h
   revert hn
   refine Mine.im λo _ _ h1 _=>?_
   exact ⟨o,h1⟩
  ·obtain ⟨o,h1⟩:=S.live b hM
   exact ⟨o,kp _ _ h h1⟩
 ·refine Mine.S3 (S.cls y e) λc u h1 h2 h3=>?_
  have hne:=D0 h2 hm
  revert h2
  refine Mine.T0 λo h4 h5=>?_
  exact ⟨c,u,h1,⟨o,kp _ _ hne h4,h5⟩,h3⟩
 ·refine Mine.S3 (S.cel y d e1 e2) λc u h1 h2 h3=>?_
  have hne:=D0 h2 hm
  revert h2
  refine Mine.T0 λo h4 h5=>?_
  exact ⟨c,u,h1,⟨o,kp _ _ hne h4,h5⟩,h3⟩
 ·refine Mine.dF (hO p hp) λh1 h2 vs n h3=>?_
  refine ⟨h1,kp _ _ ?_ h2,vs,n,h3⟩
  rw[h3] at h2
  exact Gx h2 hm
 ·rw[DC] at e
  by_cases h:y=x
  ·subst h
   simp at e
   subst e
   exact ⟨v,by simp,rv⟩
  ·rw[if_neg h] at e
   refine Mine.S0 (hl y c e) λu h1 h2=>?_
   exact ⟨u,by simp[h,h1],h2⟩
 ·have h:y≠x:=λq=>by rw[q,ho] at e;exact Aa e
  obtain ⟨h0,a,vs,n,h1,h2⟩:=hown y ds e
  refine ⟨?_,a,vs,n,by simp[h,h1],h2⟩
  rw[DC,if_neg h];exact h0
 ·have h1:y≠x:=λq=>by rw[q,ho] at e1;exact Aa e1
  have h2:z≠x:=λq=>by rw[q,ho] at e2;exact Aa e2
  exact hd y z ds es a e1 e2 (by simpa [h1] using e3) (by simpa [h2] using e4)
theorem O0 {x:Str} {v:Value} {d:D} (S:SS Pa Gl env names N M σ s) (rv:Ax Pa N v d) (hk:names.lookup x=some .cell) {Q:Unit->Shared->Prop}
  (hq:∀s',SS Pa Gl env names N M {σ with cel:=JU x d σ.cel} s'->Tr N M s N M s'->Q () s'):wpAny (model prog w) A (storeName env x v) Q E s:=by
 refine Mine.WF S.vars λm O hm hO hl hown hd=>?_
 refine Mine.S3 (S.cls x hk) λc u hc hcell hMc=>?_
 refine wpAny_storeName_cell S.kind ((S.kindOf x).trans hk) hc hcell λh' hn hb=>?_
 have kp:∀b o,b≠c->s.heap.get? b=some o->h'.get? b=some o:=λb o h e=>hb.extBut b o h e
 have hcl:env.locals≠c:=λe=>D0 hcell hm e.symm
 refine hq _ ⟨S.kind,S.nm,S.glob,S.blt,λp hp=>kp _ _ (λe=>S.off p hp (e▸hMc)) (S.has p hp),S.tk,S.top,S.off,S.ml,λb hM=>?_,λy e=>?_,λy d' e1 e2=>?_,S.inj,m,O,hm.sameBut hb hcl,λp hp=>?_,hl,hown,hd⟩
  ⟨⟨_,_,rfl⟩,Nat.le_refl _,λb o h e=>kp b o (λq=>h (q▸hMc)) e,λZ h=>.inl h,λZ h=>h,λZ h=>.inl h⟩
 ·by_cases h:b=c
  ·subst h
   revert hn
   refine Mine.T0 λo h1 _=>?_
   exact ⟨o,h1⟩
  ·obtain ⟨o,h1⟩:=S.live b hM
   exact ⟨o,kp _ _ h h1⟩
 ·refine Mine.S3 (S.cls y e) λc' u' h1 h2 h3=>?_
  by_cases h:c'=c
  ·subst h;exact ⟨c',_,h1,hn,h3⟩
  ·revert h2
   refine Mine.T0 λo h4 h5=>?_
   exact ⟨c',u',h1,⟨o,kp _ _ h h4,h5⟩,h3⟩
 ·replace e1:(JU x d σ.cel).lookup y=some d':=e1
  rw[DC] at e1
  by_cases h:y=x
  ·subst h
   simp at e1
   subst e1
   exact ⟨c,v,hc,hn,rv⟩
  ·rw[if_neg h] at e1
   refine Mine.bl (S.cel y d' e1 e2) λc' u' h1 o h4 h5 h3=>?_
   have hne:c'≠c:=λq=>h (S.inj y x c e2 hk (q▸h1) hc)
   exact ⟨c',u',h1,⟨o,kp _ _ hne h4,h5⟩,h3⟩
 ·refine Mine.dF (hO p hp) λh1 h2 vs n h3=>?_
  refine ⟨h1,kp _ _ ?_ h2,vs,n,h3⟩
  rw[h3] at h2
  exact EH h2 hcell
theorem D2 {x:Str} {v:Value} {d:D} {σ':Sg} (S:SS Pa Gl env names N M σ s) (rv:Ax Pa N v d) (h:put names owned x d σ=some σ') {Q:Unit->Shared->Prop}
  (hq:∀s',SS Pa Gl env names N M σ' s'->Tr N M s N M s'->Q () s'):wpAny (model prog w) A (storeName env x v) Q E s:=by
 unfold put at h
 split at h
 ·exact Aa h
 ·rename_i hc
  simp only[Bool.or_eq_true,not_or,Bool.not_eq_true,Option.isSome_eq_false_iff,Option.isNone_iff_eq_none] at hc
  split at h
  ·rename_i hk;(replace h:=Option.some.inj h;subst h);exact OZ S rv hk hc.1 hq
  ·rename_i hk;(replace h:=Option.some.inj h;subst h);exact O0 S rv hk hq
  ·exact Aa h
theorem QL {x:Str} {a:Addr} {vs:List Value} {n:Nat} {ds:List D} {σ':Sg} {N₀:Az} {M₀:Addr->Prop} {s₀:Shared} (S:SS Pa Gl env names N M σ s) (ha:s.heap.get? a=some (AZ vs n)) (rs:Ar Pa N vs ds) (hl:vs.length<=Ap) (hna:¬ M a) (hN:∀p∈N,p.1≠a)
  (t₀:Tr N₀ M₀ s₀ N M s) (hf:s₀.heap.get? a=Option.none) (h:EC names x ds σ=some σ') {Q:Unit->Shared->Prop}
  (hq:∀s',SS Pa Gl env names N (λb=>M b\/b=a) σ' s'->Tr N₀ M₀ s₀ N (λb=>M b\/b=a) s'->(∀b o,¬ M b->s.heap.get? b=some o->s'.heap.get? b=some o)->Q () s'):wpAny (model prog w) A (storeName env x (.ref a)) Q E s:=by
 unfold EC at h
 revert h
 refine BO λhc h=>?_
 (replace h:=Option.some.inj h;subst h)
 simp only[Bool.and_eq_true,Option.isNone_iff_eq_none,beq_iff_eq] at hc
 revert hc
 refine Mine.T7 λho hlo hk=>?_
 refine Mine.WF S.vars λm O hm hO hl' hown hd=>?_
 refine wpAny_storeName_local ((S.kindOf x).trans hk) hm (λh' hn hb=>?_) S.hp
 have kp:∀b o,b≠env.locals->s.heap.get? b=some o->h'.get? b=some o:=λb o h e=>hb.extBut b o h e
 have hal:a≠env.locals:=λe=>hna (e▸S.ml)
 refine hq _ ⟨S.kind,S.nm,S.glob,S.blt,λp hp=>kp _ _ (λe=>S.off p hp (e▸S.ml)) (S.has p hp),Nat.lt_succ_of_lt S.tk,S.top,λp hp h=>h.elim (S.off p hp) (hN p hp),.inl S.ml,λb hM=>?_,λy e=>?_,λy d e1 e2=>?_,S.inj,_,(a,AZ vs n)::O,hn,λp hp=>?_,λy c e=>?_,λy es e=>?_,λy z es fs b e1 e2 e3 e4=>?_⟩ ?_ (λb o h e=>kp b o (λq=>h (q▸S.ml)) e)
 ·by_cases h:b=env.locals
  ·subst h
   revert hn
   refine Mine.im λo _ _ h1 _=>?_
   exact ⟨o,h1⟩
  ·rcases hM with hM|rfl
   ·obtain ⟨o,h1⟩:=S.live b hM
    exact ⟨o,kp _ _ h h1⟩
   ·exact ⟨_,kp _ _ hal ha⟩
 ·refine Mine.S3 (S.cls y e) λc u h1 h2 h3=>?_
  have hne:=D0 h2 hm
  revert h2
  refine Mine.T0 λo h4 h5=>?_
  exact ⟨c,u,h1,⟨o,kp _ _ hne h4,h5⟩,.inl h3⟩
 ·refine Mine.S3 (S.cel y d e1 e2) λc u h1 h2 h3=>?_
  have hne:=D0 h2 hm
  revert h2
  refine Mine.T0 λo h4 h5=>?_
  exact ⟨c,u,h1,⟨o,kp _ _ hne h4,h5⟩,h3⟩
 ·rcases List.mem_cons.mp hp with rfl|hp
  ·exact ⟨.inr rfl,kp _ _ hal ha,vs,n,rfl⟩
  ·refine Mine.dF (hO p hp) λh1 h2 us i h3=>?_
   refine ⟨.inl h1,kp _ _ ?_ h2,us,i,h3⟩
   rw[h3] at h2
   exact Gx h2 hm
 ·have h:y≠x:=λq=>by
   replace e:σ.loc.lookup y=some c:=e
   rw[q,hlo] at e;exact Aa e
  refine Mine.S0 (hl' y c e) λu h1 h2=>?_
  exact ⟨u,by simp[h,h1],h2⟩
 ·replace e:List.lookup y ((x,ds)::σ.own)=some es:=e
  rw[List.lookup_cons] at e
  by_cases h:y=x
  ·subst h
   simp at e
   subst e
   exact ⟨hlo,a,vs,n,by simp,.head _,rs,hl⟩
  ·have hb:(y==x)=false:=by simpa using h
   rw[hb] at e
   refine Mine.io (hown y es e) λh0 b us i h1 h2 h3=>?_
   exact ⟨h0,b,us,i,by simp[h,h1],.tail _ h2,h3⟩
 ·replace e1:List.lookup y ((x,ds)::σ.own)=some es:=e1
  replace e2:List.lookup z ((x,ds)::σ.own)=some fs:=e2
  rw[List.lookup_cons] at e1 e2
  have oldne:∀y es,σ.own.lookup y=some es->m y≠some (.ref a):=λy es e q=>by
   refine Mine.io (hown y es e) λ_ b us i h1 h2 _=>?_
   rw[q] at h1;cases h1
   exact hna (hO _ h2).1
  by_cases h1:y=x
  ·by_cases h2:z=x
   ·rw[h1,h2]
   ·have hb:(z==x)=false:=by simpa using h2
    rw[hb] at e2
    simp[h1] at e3
    subst e3
    exact (oldne z fs e2 (by simpa [h2] using e4)).elim
  ·have hb:(y==x)=false:=by simpa using h1
   rw[hb] at e1
   by_cases h2:z=x
   ·simp[h2] at e4
    subst e4
    exact (oldne y es e1 (by simpa [h1] using e3)).elim
   ·have hb2:(z==x)=false:=by simpa using h2
    rw[hb2] at e2
    exact hd y z es fs b e1 e2 (by simpa [h1] using e3) (by simpa [h2] using e4)
 ·have t₁:Tr N M s N M {s with heap:=h',toks:=s.toks+1}:=⟨⟨_,_,rfl⟩,Nat.le_succ _,λb o h e=>kp b o (λq=>h (q▸S.ml)) e,λZ h=>.inl h,λZ h=>h,λZ h=>.inl h⟩
  have t:=t₀.trans t₁
  exact ⟨t.sh,t.tk,t.kp,λb h=>h.elim (t.mm b) λh=>.inr (h▸hf),t.sub,t.new⟩
end
noncomputable abbrev Fh:=Bool×List D×D
noncomputable def PP (Pa:Params) (N O:Az) (u:Value) (a:Fh):Prop:=
 (a.1=false/\Ax Pa N u a.2.2)\/(a.1=true/\∃ad vs n,u=.ref ad/\(ad,AZ vs n)∈O/\Ar Pa N vs a.2.1/\vs.length<=Ap)
inductive N3 (Pa:Params) (N O:Az):List Value->List Fh->Prop
 |nil:N3 Pa N O [] []
 |cons {u:Value} {us:List Value} {a:Fh} {as:List Fh}:PP Pa N O u a->N3 Pa N O us as->N3 Pa N O (u::us) (a::as)
noncomputable def eL:Value->List Addr
 | .ref x=>[x]
 |_=>[]
noncomputable def MO (b:Bool) (u:Value):List Addr:=if b=true then eL u else []
noncomputable def CQ:List Value->List Fh->List Addr
 |[],_=>[]
 |u::us,as=>(match as with
  |[]=>[]
  |a::as=>MO a.1 u++CQ us as)
section
variable {Pa:Params} {N O N' O':Az}
theorem N3.snoc {us:List Value} {as:List Fh} {u:Value} {a:Fh} (h:N3 Pa N O us as) (k:PP Pa N O u a):N3 Pa N O (us++[u]) (as++[a]):=by
 induction h with
 |nil=>exact .cons k .nil
 |cons h _ ih=>exact .cons h ih
theorem N3.reverse {us:List Value} {as:List Fh} (h:N3 Pa N O us as):N3 Pa N O us.reverse as.reverse:=by
 induction h with
 |nil=>exact .nil
 |cons h _ ih=>rw[List.reverse_cons,List.reverse_cons];exact ih.snoc h
theorem N3.length {us:List Value} {as:List Fh} (h:N3 Pa N O us as):us.length=as.length:=by
 induction h with
 |nil=>rfl
 |cons _ _ ih=>simp[ih]
theorem GS:∀ (us:List Value) (as:List Fh) (vs:List Value) (bs:List Fh),us.length=as.length->CQ (us++vs) (as++bs)=CQ us as++CQ vs bs
 |[],[],_,_,_=>rfl
 |[],_::_,_,_,h=>by simp at h
 |_::_,[],_,_,h=>by simp at h
 |u::us,a::as,vs,bs,h=>by
  show MO a.1 u++CQ (us++vs) (as++bs)=(MO a.1 u++CQ us as)++CQ vs bs
  rw[GS us as vs bs (Nat.succ.inj h),List.append_assoc]
theorem QM (b:Bool) (u:Value):(MO b u).reverse=MO b u:=by
 rcases b with _|_
 ·rfl
 ·rcases u with _|_<;>rfl
theorem J3 {us:List Value} {as:List Fh} (h:N3 Pa N O us as):CQ us.reverse as.reverse=(CQ us as).reverse:=by
 induction h with
 |nil=>rfl
 |@cons u us a as h k ih=>
  rw[List.reverse_cons,List.reverse_cons,GS _ _ _ _ (by simpa using k.length),ih]
  show (CQ us as).reverse++(MO a.1 u++[])=(MO a.1 u++CQ us as).reverse
  rw[List.append_nil,List.reverse_append,QM]
end
section
variable {prog:Program} {w:World} {A:Around} {E:Value->Shared->Prop} {s s':Shared} {Pa:Params} {N N':Az} {M:Addr->Prop} {Gl:List (Str×D)} {k:Nat} {env:Env} {names:List (Str×NameKind)} {σ:Sg} {r:CA} {owned:List Str} {loc cel:List (Str×D)}
theorem Hs {α β:Type} {f:α->Option β}:∀ {es:List α} {ds:List β},es.mapM f=some ds->ds.length=es.length
 |[],_,h=>by (replace h:=Option.some.inj h;subst h);rfl
 |x::es,ds,h=>by
  rw[List.mapM_cons] at h
  revert h
  refine Mine.Br λy q h=>?_
  cases q':es.mapM f with
  |none=>simp[q'] at h
  |some ys=>simp[q,q'] at h;subst h;simp[Hs q']
theorem QN (R:AG k A) (hr:SE prog w Pa Gl k r.e):∀ (xs:List Str) (vs:List Expr) (as:List Fh) (s:Shared) (N:Az) (O:Az),Vw Pa Gl N env names σ.loc σ.cel s->De r names owned σ xs vs=some as->
  (∀p∈O,s.heap.get? p.1=some p.2)->(∀p∈N,p.1∉O.map (·.1))->
  wpAny (model prog w) A (spliced (vs.map λe=>(false,eval e env))) (λus s'=>∃N' O',A1 N s N' s'/\N3 Pa N' O' us as/\(CQ us as).Nodup/\(∀a∈CQ us as,a∉O.map (·.1))/\
   (∀p∈O',s'.heap.get? p.1=some p.2/\(p∈O\/s.heap.get? p.1=Option.none))/\(∀p∈O,p∈O')/\(∀p∈N',p.1∉O'.map (·.1))/\(∀a∈CQ us as,s.heap.get? a=Option.none)) E s:=by
 intro xs
 induction xs with
 |nil=>
  intro vs as s N O V h hO hNO
  cases vs with
  |nil=>
   (replace h:=Option.some.inj h;subst h)
   exact spliced_nil ⟨N,O,A1.rfl' V.has,.nil,List.nodup_nil,λa h=>(nomatch h),λp h=>⟨hO p h,.inl h⟩,λZ h=>h,hNO,λa h=>(nomatch h)⟩
  |cons=>exact Aa h
 |cons x xs ih=>
  intro vs as s N O V h hO hNO
  cases vs with
  |nil=>exact Aa h
  |cons v vs=>
   revert h
   refine Mine.Br λa q1 h=>?_
   revert h
   refine Mine.FQ λas' q2 h=>?_
   subst h
   have old:∀ {N₁:Az} {s₁:Shared},A1 N s N₁ s₁->∀p∈N₁,p.1∉O.map (·.1):=λx p hp hm=>by
    rcases x.new p hp with h|h
    ·exact hNO p h hm
    ·refine Mine.S0 (List.mem_map.mp hm) λq hq e=>?_
     rw[<-e,hO q hq] at h;cases h
   unfold FU at q1
   split at q1
   ·
    revert q1
    refine Mine.Br λq0 Z q1=>?_
    obtain ⟨⟨es,p⟩,rfl⟩:=q0
    clear Z
    revert q1
    refine BO λhc q1=>?_
    rw[Bool.and_eq_true,decide_eq_true_eq] at hc
    revert q1
    refine Mine.FQ λds q1 q1=>?_
    subst q1
    refine spliced_cons (wpAny_List_spliced ?_)
    rw[AX p es hc.1]
    refine Uj (FX R hr V es ds q1) λws s₁ N₁ x₁ r₁=>?_
    have hl:ws.length<=Ap:=by rw[r₁.length,Hs q1];simp[Ap];lia
    refine ⟨Bb hl,?_⟩
    have y:=A1.push0 x₁.has (AZ ws 0) s₁.toks
    have x₂:=x₁.trans y
    have fr:s₁.heap.get? s₁.heap.objs.size=Option.none:=A3 _
    have frs:s.heap.get? s₁.heap.objs.size=Option.none:=Aw (Am x₁.keeps) fr
    refine wpAny_mono (ih vs as' _ N₁ ((s₁.heap.objs.size,AZ ws 0)::O) (V.ext x₂) q2 (λp hp=>?_) (λp hp hm=>?_)) (λus s₂ h=>?_) λZ Z e=>e
    ·rcases List.mem_cons.mp hp with rfl|hp
     ·exact Heap.get?_push_size _ rfl
     ·exact Am x₂.keeps _ _ (hO p hp)
    ·rw[List.map_cons] at hm
     rcases List.mem_cons.mp hm with e|hm
     ·exact Nat.ne_of_lt (Heap.lt_size (x₁.has p hp)) e
     ·exact old x₁ p hp hm
    ·revert h
     refine Mine.ed λN₂ O₂ x₃ hp hnd hno hO₂ hsub hN₂ hfr=>?_
     refine ⟨N₂,O₂,x₂.trans x₃,.cons (.inr ⟨rfl,_,ws,0,rfl,hsub _ (.head _),r₁.mono x₃.sub,hl⟩) hp,?_,λa ha hm=>?_,λp hp=>⟨(hO₂ p hp).1,?_⟩,λp hp=>hsub p (.tail _ hp),hN₂,λa ha=>?_⟩
     ·show (s₁.heap.objs.size::CQ us as').Nodup
      rw[List.nodup_cons]
      exact ⟨λhm=>hno _ hm (by exact List.mem_cons_self),hnd⟩
     ·rcases List.mem_cons.mp (show a∈s₁.heap.objs.size::CQ us as' from ha) with rfl|ha
      ·refine Mine.S0 (List.mem_map.mp hm) λq hq e=>?_
       rw[<-e,hO q hq] at frs;cases frs
      ·exact hno a ha (by rw[List.map_cons];exact .tail _ hm)
     ·rcases (hO₂ p hp).2 with h|h
      ·rcases List.mem_cons.mp h with rfl|h
       ·exact .inr frs
       ·exact .inl h
      ·exact .inr (Aw (Am x₂.keeps) h)
     ·rcases List.mem_cons.mp (show a∈s₁.heap.objs.size::CQ us as' from ha) with rfl|ha
      ·exact frs
      ·exact Aw (Am x₂.keeps) (hfr a ha)
   ·
    revert q1
    refine Mine.FQ λd q1 q1=>?_
    subst q1
    refine spliced_cons (Gq hr q1 R V λu s₁ N₁ x₁ r₁=>?_)
    refine wpAny_mono (ih vs as' s₁ N₁ O (V.ext x₁) q2 (λp hp=>Am x₁.keeps _ _ (hO p hp)) (old x₁)) (λus s₂ h=>?_) λZ Z e=>e
    revert h
    refine Mine.ed λN₂ O₂ x₂ hp hnd hno hO₂ hsub hN₂ hfr=>?_
    have e:CQ (u::us) ((false,[],d)::as')=CQ us as':=rfl
    refine ⟨N₂,O₂,x₁.trans x₂,.cons (.inl ⟨rfl,x₂.rel r₁⟩) hp,by rw[e];exact hnd,by rw[e];exact hno,λp hp=>⟨(hO₂ p hp).1,(hO₂ p hp).2.imp id (Aw (Am x₁.keeps))⟩,hsub,hN₂,by rw[e];exact λa ha=>Aw (Am x₁.keeps) (hfr a ha)⟩
end
section
variable {prog:Program} {w:World} {A:Around} {E:Value->Shared->Prop} {s s':Shared} {Pa:Params} {N N':Az} {M:Addr->Prop} {Gl:List (Str×D)} {k:Nat} {env:Env} {names:List (Str×NameKind)} {σ:Sg} {r:CA} {owned:List Str} {R:Result->Shared->Prop}
theorem Lm {O N₀:Az} {M₀:Addr->Prop} {s₀:Shared} (hNO:∀p∈N,p.1∉O.map (·.1)):∀ (xs:List Str) (us:List Value) (as:List Fh) (σ σ':Sg) (M:Addr->Prop) (s:Shared),N3 Pa N O us as->EE names owned xs as σ=some σ'->SS Pa Gl env names N M σ s->
  Tr N₀ M₀ s₀ N M s->(CQ us as).Nodup->(∀a∈CQ us as,¬ M a/\s₀.heap.get? a=Option.none)->(∀p∈O,p.1∈CQ us as->s.heap.get? p.1=some p.2)->∀ (Q:Unit->Shared->Prop),
  (∀s' M',SS Pa Gl env names N M' σ' s'->Tr N₀ M₀ s₀ N M' s'->Q () s')->wpAny (model prog w) A (assignInOrder (xs.map λn=>bindName env n) us) Q E s:=by
 intro xs
 induction xs with
 |nil=>
  intro us as σ σ' M s hp h S t hnd ho hO Q hq
  cases as with
  |nil=>(replace h:=Option.some.inj h;subst h);cases hp;exact wpAny_pure (hq s M S t)
  |cons=>exact Aa h
 |cons x xs ih=>
  intro us as σ σ' M s hp h S t hnd ho hO Q hq
  cases hp with
  |nil=>exact Aa h
  |@cons u us a as hu hus=>
   show wpAny _ A (do holding us (bindName env x u);assignInOrder (xs.map λn=>bindName env n) us) Q E s
   refine wpAny_bind (wpAny_holding (wpAny_bindName ?_))
   obtain ⟨b,ds,d⟩:=a
   rcases hu with ⟨e,rv⟩|⟨e,ad,vs,n,rfl,hm,rs,hl⟩
   ·replace e:b=false:=e
    subst e
    have eo:CQ (u::us) ((false,ds,d)::as)=CQ us as:=rfl
    rw[eo] at hnd ho hO
    revert h
    refine Mine.Br λσ₁ q h=>?_
    refine D2 S rv q λs₁ S₁ t₁=>?_
    exact ih us as σ₁ σ' M s₁ hus h S₁ (t.trans t₁) hnd ho (λp hp ha=>t₁.kp _ _ (ho _ ha).1 (hO p hp ha)) Q hq
   ·replace e:b=true:=e
    subst e
    have eo:CQ (.ref ad::us) ((true,ds,d)::as)=ad::CQ us as:=rfl
    rw[eo] at hnd ho hO
    rw[List.nodup_cons] at hnd
    revert h
    refine Mine.Br λσ₁ q h=>?_
    refine QL S (hO _ hm (.head _)) rs hl (ho ad (.head _)).1 (λp hp e=>hNO p hp (by rw[e];exact List.mem_map_of_mem hm)) t (ho ad (.head _)).2 q λs₁ S₁ t₁ kp=>?_
    refine ih us as σ₁ σ' _ s₁ hus h S₁ t₁ hnd.2 (λa ha=>⟨λh=>h.elim (ho a (.tail _ ha)).1 λe=>hnd.1 (by have e:a=ad:=e;rw[<-e];exact ha),(ho a (.tail _ ha)).2⟩) (λp hp ha=>kp _ _ (ho _ (.tail _ ha)).1 (hO p hp (.tail _ ha))) Q hq
theorem IV:∀ (ts:List Expr) (xs:List Str) (vs:List Value) (ds:List D) (σ σ':Sg) (s:Shared),AI ts=some xs->Ar Pa N vs ds->EB names owned xs ds σ=some σ'->SS Pa Gl env names N M σ s->∀ (Q:Unit->Shared->Prop),
  (∀s',SS Pa Gl env names N M σ' s'->Tr N M s N M s'->Q () s')->wpAny (model prog w) A (assignInOrder ((assignEach ts env).map (·.2)) vs) Q E s:=by
 intro ts
 induction ts with
 |nil=>
  intro xs vs ds σ σ' s h rs hp S Q hq
  (replace h:=Option.some.inj h;subst h)
  cases ds with
  |nil=>(replace hp:=Option.some.inj hp;subst hp);exact wpAny_pure (hq s S Tr.rfl')
  |cons=>exact Aa hp
 |cons t ts ih=>
  intro xs vs ds σ σ' s h rs hp S Q hq
  refine Mine.S5 (CE h) λx p ys eq1 q eq2=>?_
  subst eq1 eq2
  cases rs with
  |nil=>exact Aa hp
  |@cons v vs d ds rv rs=>
   revert hp
   refine Mine.Br λσ₁ q1 hp=>?_
   show wpAny _ A (do holding vs (assign (.Name x p) env v);assignInOrder ((assignEach ts env).map (·.2)) vs) Q E s
   refine wpAny_bind (wpAny_holding (wpAny_assign_Name (D2 S rv q1 λs₁ S₁ t₁=>?_)))
   exact ih ys vs ds σ₁ σ' s₁ q rs hp S₁ Q λs' S' t'=>hq s' S' (t₁.trans t')
theorem Ht {σ':Sg}:∀ (xs:List Str) (ds:List D) (σ:Sg),EB names owned xs ds σ=some σ'->xs.length=ds.length
 |[],[],_,_=>rfl
 |[],_::_,_,h=>Aa h
 |_::_,[],_,h=>Aa h
 |_::xs,_::ds,_,h=>Mine.ob h λσ₁ Z h=>congrArg (· +1) (Ht xs ds σ₁ h)
set_option tactic.hygienic true
theorem Ln {t:Expr} {v:Value} {d:D} {σ':Sg} (hA:A.handled=none) (S:SS Pa Gl env names N M σ s) (rv:Ax Pa N v d) (h:AO names owned t d σ=some σ') {Q:Unit->Shared->Prop}
  (hq:∀s',SS Pa Gl env names N M σ' s'->Tr N M s N M s'->Q () s'):wpAny (model prog w) A (assign t env v) Q E s:=by
 unfold AO at h
 split at h
 ·rename_i q _
  obtain ⟨⟨x,p⟩,rfl⟩:=q
  exact wpAny_assign_Name (D2 S rv h hq)
 ·revert h
  refine Mine.Br λq0 _ h=>?_
  obtain ⟨⟨ts,c,p⟩,rfl⟩:=q0
  revert h
  refine Mine.Br λxs q h=>?_
  revert v;show ∀v:Value,_;refine Ax.onT h λds a vs n ma la ra h=>?_
  have hlen:xs.length=ds.length:=Ht xs ds σ h
  obtain ⟨e1,e2⟩:=Lj (env:=env) q
  refine wpAny_assign_Tuple hA (Go S.has ma) (by rw[e1,hlen,<-ra.length];simp) e2 λh₁ hs₁=>?_
  have x:A1 N s N {s with heap:=h₁}:=A1.of_keeps S.has ⟨h₁,s.toks,rfl,λb o e=>hs₁ b o (Nat.ne_of_lt (Heap.lt_size e)) e⟩
  refine IV ts xs _ ds σ σ' _ q (by simpa using ra) h (S.ext x) Q λs' S' t'=>hq s' S' ((Tr.of_ext x).trans t')
set_option tactic.hygienic false
noncomputable def J4 (prog:Program) (w:World) (A:Around) (R:Result->Shared->Prop) (target:Expr) (it:Value) (body orelse:List Stmt) (env:Env) (E':Value->Shared->Prop) (v:Value) (s₂:Shared):Prop:=
 wpAny (model prog w) A (assign target env v) (λZ s₃=>wpAny (model prog w) A (execs body env) (λf s₄=>match f with
  | .next=>codeAny (model prog w) A (.forLoop target it body orelse env) R s₄
  | .cont=>codeAny (model prog w) A (.forLoop target it body orelse env) R s₄
  | .brk=>R (.ok .next) s₄
  | .ret v=>R (.ok (.ret v)) s₄) E' s₃) E' s₂
theorem Lo {target:Expr} {it:Value} {body orelse:List Stmt}
  (h:∀E',wpAny (model prog w) A (pyNext it) (λrr s₁=>match rr with
   |none=>wpAny (model prog w) A (execs orelse env) (λf s₃=>R (.ok f) s₃) E' s₁
   |some v=>wpAny (model prog w) A (letOwnedTupleGo target it v) (λZ s₂=>J4 prog w A R target it body orelse env E' v s₂) E' s₁) E' s):
  codeAny (model prog w) A (.forLoop target it body orelse env) R s:=by
 refine codeAny_of_tree ?_
 show wpAny _ A ((forTurn target it body orelse env).onRaise (λx=>do noteFrame x env;theTreesLotGoes x)) _ _ s
 refine wpAny_noted ?_
 simp only[forTurn]
 refine wpAny_bind (wpAny_standAt (wpAny_bind (wpAny_onRaise (wpAny_mono (h _) (λrr s₁ h₁=>?_) λZ Z h'=>wpAny_standAt h'))))
 cases rr with
 |none=>exact wpAny_pure ⟨rfl,codeAny_block h₁⟩
 |some v=>
  refine wpAny_bind (wpAny_mono h₁ (λ_ s₂ h₂=>?_) λZ Z h'=>h')
  refine wpAny_bind (wpAny_mono h₂ (λ_ s₃ h₃=>wpAny_bind (wpAny_mono h₃ (λf s₄ h₄=>?_) λZ Z h'=>h')) λZ Z h'=>h')
  cases f with
  |next=>exact wpAny_pure ⟨rfl,h₄⟩
  |cont=>exact wpAny_pure ⟨rfl,h₄⟩
  |brk=>exact wpAny_pure h₄
  |ret v=>exact wpAny_pure h₄
theorem MP {test:Expr} {body orelse:List Stmt}
  (h:∀E',wpAny (model prog w) A (isTrue test env (eval test env)) (λb s₁=>if b=true then wpAny (model prog w) A (execs body env) (λf s₂=>match f with
    | .next=>codeAny (model prog w) A (.whileLoop test body orelse env) R s₂
    | .cont=>codeAny (model prog w) A (.whileLoop test body orelse env) R s₂
    | .brk=>R (.ok .next) s₂
    | .ret v=>R (.ok (.ret v)) s₂) E' s₁
   else wpAny (model prog w) A (execs orelse env) (λf s₂=>R (.ok f) s₂) E' s₁) E' s):
  codeAny (model prog w) A (.whileLoop test body orelse env) R s:=by
 refine codeAny_of_tree ?_
 show wpAny _ A ((whileTurn test body orelse env).onRaise (λx=>do noteFrame x env;theTreesLotGoes x)) _ _ s
 refine wpAny_noted ?_
 simp only[whileTurn]
 refine wpAny_bind (wpAny_mono (h _) (λb s₂ h₂=>?_) λZ Z h'=>h')
 cases b with
 |false=>
  rw[if_neg Bool.false_ne_true] at h₂
  rw[if_neg Bool.false_ne_true]
  exact wpAny_bind (wpAny_mono h₂ (λf s₃ h₃=>wpAny_pure h₃) λZ Z h'=>h')
 |true=>
  rw[if_pos rfl] at h₂
  rw[if_pos rfl]
  refine wpAny_bind (wpAny_mono h₂ (λf s₃ h₃=>?_) λZ Z h'=>h')
  cases f with
  |next=>exact wpAny_pure ⟨rfl,h₃⟩
  |cont=>exact wpAny_pure ⟨rfl,h₃⟩
  |brk=>exact wpAny_pure h₃
  |ret v=>exact wpAny_pure h₃
end
noncomputable def iy (Pa:Params) (N:Az):Flow->Fl->Prop
 | .next,.next=>True
 | .brk,.brk=>True
 | .cont,.cont=>True
 | .ret v,.ret d=>Ax Pa N v d
 |_,_=>False
section
variable (prog:Program) (w:World) (Gl:List (Str×D)) (k:Nat) (names:List (Str×NameKind))
noncomputable def BP (env:Env) (N:Az) (M:Addr->Prop) (s:Shared) (f:Fl) (σ':Sg) (fl:Flow) (s':Shared):Prop:=
 ∃N' M',SS w.params Gl env names N' M' σ' s'/\Tr N M s N' M' s'/\iy w.params N' fl f
noncomputable def SX (ex:List Stmt->Sg->Option (Fl×Sg)):Prop:=
 ∀sts σ f σ',ex sts σ=some (f,σ')->∀ (A:Around) (E:Value->Shared->Prop) (s:Shared) (N:Az) (M:Addr->Prop) (env:Env),AG k A->SS w.params Gl env names N M σ s->
  wpAny (model prog w) A (execs sts env) (BP w Gl names env N M s f σ') E s
noncomputable def SO (st:Stmt->Sg->Option (Fl×Sg)):Prop:=
 ∀x σ f σ',st x σ=some (f,σ')->∀ (A:Around) (E:Value->Shared->Prop) (s:Shared) (N:Az) (M:Addr->Prop) (env:Env),AG k A->SS w.params Gl env names N M σ s->
  wpAny (model prog w) A (exec x env) (BP w Gl names env N M s f σ') E s
end
section
variable {prog:Program} {w:World} {A:Around} {E:Value->Shared->Prop} {s s':Shared} {Pa:Params} {N N':Az} {M:Addr->Prop} {Gl:List (Str×D)} {k:Nat} {env:Env} {names:List (Str×NameKind)} {σ:Sg} {r:CA} {owned:List Str}
theorem TA {t:Sem Flow} {f:Fl} {σ':Sg} {Q:Flow->Shared->Prop} (h:wpAny (model prog w) A t (BP w Gl names env N M s f σ') E s')
  (q:∀fl s' N' M',SS w.params Gl env names N' M' σ' s'->Tr N M s N' M' s'->iy w.params N' fl f->Q fl s'):wpAny (model prog w) A t Q E s':=
 wpAny_mono h (λfl s' h=>Mine.S3 h λN' M' S T F=>q fl s' N' M' S T F) λZ Z e=>e
theorem SS.step {W:Addr->Prop} (S:SS Pa Gl env names N M σ s) (tk:s.toks<=s'.toks) (kp:∀b o,¬ W b->s.heap.get? b=some o->s'.heap.get? b=some o) (hW:∀b,M b->¬ W b) (sub:∀p∈N,p∈N') (has:Cn N' s') (new:∀p∈N',p∈N\/s.heap.get? p.1=Option.none):
  SS Pa Gl env names N' M σ s':=by
 refine ⟨S.kind,S.nm,S.glob,S.blt,has,Nat.lt_of_lt_of_le S.tk tk,S.top.mono sub,λp hp h=>?_,S.ml,λb hb=>(S.live b hb).imp λo ho=>kp _ _ (hW b hb) ho,λy e=>?_,λy d e1 e2=>?_,S.inj,?_⟩
 ·rcases new p hp with q|q
  ·exact S.off p q h
  ·obtain ⟨o,ho⟩:=S.live _ h;rw[ho] at q;cases q
 ·refine Mine.bl (S.cls y e) λc v h1 o h2 h4 h3=>?_
  exact ⟨c,v,h1,⟨o,kp _ _ (hW c h3) h2,h4⟩,h3⟩
 ·refine Mine.bl (S.cel y d e1 e2) λc v h1 o h2 h4 h3=>?_
  refine Mine.S3 (S.cls y e2) λc' _ h5 _ h6=>?_
  rw[h1] at h5;(replace h5:=Option.some.inj h5;subst h5)
  exact ⟨c,v,h1,⟨o,kp _ _ (hW c h6) h2,h4⟩,h3.mono sub⟩
 ·refine Mine.WF S.vars λm O hm hO hl ho hd=>?_
  refine ⟨m,O,hm.at' λo e=>kp _ _ (hW _ S.ml) e,λp hp=>⟨(hO p hp).1,kp _ _ (hW _ (hO p hp).1) (hO p hp).2.1,(hO p hp).2.2⟩,λy d e=>(hl y d e).imp λv h=>⟨h.1,h.2.mono sub⟩,λy ds e=>?_,hd⟩
  refine Mine.bo (ho y ds e) λh0 a vs n h1 h2 h3 h4=>?_
  exact ⟨h0,a,vs,n,h1,h2,h3.mono sub,h4⟩
theorem Tr.step {W:Addr->Prop} {Nb:Az} {Mb:Addr->Prop} {sb:Shared} (T:Tr Nb Mb sb N M s) (tk:s.toks<=s'.toks) (kp:∀b o,¬ W b->s.heap.get? b=some o->s'.heap.get? b=some o) (hW:∀b,W b->sb.heap.get? b=Option.none) (sh:∃h t,s'={s with heap:=h,toks:=t})
  (sub:∀p∈N,p∈N') (new:∀p∈N',p∈N\/s.heap.get? p.1=Option.none):Tr Nb Mb sb N' M s':=by
 refine ⟨?_,Nat.le_trans T.tk tk,λb o h e=>kp b o (λq=>by rw[hW b q] at e;exact Aa e) (T.kp b o h e),T.mm,λp h=>sub p (T.sub p h),λp h=>?_⟩
 ·refine Mine.S2 T.sh λh t eq1=>?_
  subst eq1
  revert sh
  refine Mine.T2 λh' t' eq1=>?_
  subst eq1
  exact ⟨h',t',rfl⟩
 ·rcases new p h with h|h
  ·exact T.new p h
  ·exact .inr ((T.fresh h).symm)
noncomputable def LP (w:World) (Gl:List (Str×D)) (names:List (Str×NameKind)) (env:Env) (N:Az) (M:Addr->Prop) (s:Shared) (f:Fl) (σ':Sg) (r:Result) (s':Shared):Prop:=∃fl,r=.ok fl/\BP w Gl names env N M s f σ' fl s'
theorem Uy {ex:List Stmt->Sg->Option (Fl×Sg)} (R:AG k A) (hx:SX prog w Gl k names ex) {t:Expr} {body orelse:List Stmt} {tup:Bool} {N₀:Az} {I:Addr} {fp wr:List Addr} {items:List D} {St:Nat->Heap->Prop} (htup:tup=true->Ez t=true)
  (W:Wk tup prog w A w.params N₀ I fp wr items St) {Nb:Az} {Mb:Addr->Prop} {sb:Shared} (hwr:∀b∈wr,sb.heap.get? b=Option.none):∀ (rem:List D) (i:Nat) (σ σ':Sg) (f:Fl) (N:Az) (M:Addr->Prop) (s:Shared),items.drop i=rem->i<=items.length->
  Ir (AO names owned t) (ex body) (ex orelse) rem σ=some (f,σ')->SS w.params Gl env names N M σ s->Tr Nb Mb sb N M s->(∀p∈N₀,p∈N)->St i s.heap->(∀p∈N,p.1∉wr)->(∀b∈fp,¬ M b)->
  codeAny (model prog w) A (.forLoop t (.ref I) body orelse env) (LP w Gl names env Nb Mb sb f σ') s:=by
 intro rem
 induction rem with
 |nil=>
  intro i σ σ' f N M s hdr hi h S T hsub st how hfp
  have hil:i=items.length:=by have:=List.drop_eq_nil_iff.mp hdr;lia
  unfold Ir at h
  refine Lo λE'=>W.done2 s E' _ (hil▸st) λh' tk hk kp=>?_
  have hMw:∀b,M b->b∉wr:=λb hb hm=>hfp b (W.sub b hm) hb
  have S₁:SS w.params Gl env names N M σ {s with heap:=h',toks:=tk}:=S.step (W:=λb=>b∈wr) hk kp hMw (λZ h=>h) (λp hp=>kp _ _ (how p hp) (S.has p hp)) λZ h=>.inl h
  have T₁:Tr Nb Mb sb N M {s with heap:=h',toks:=tk}:=T.step (W:=λb=>b∈wr) hk kp hwr ⟨_,_,rfl⟩ (λZ h=>h) λZ h=>.inl h
  refine TA (hx _ _ _ _ h A E' _ N M env R S₁) λfl s₃ N' M' S' T' F'=>?_
  exact ⟨fl,rfl,N',M',S',T₁.trans T',F'⟩
 |cons d rem ih=>
  intro i σ σ' f N M s hdr hi h S T hsub st how hfp
  have hd:items[i]?=some d:=by
   have:=congrArg (·[0]?) hdr
   simpa using this
  have hdr':items.drop (i+1)=rem:=by
   have:=congrArg (List.drop 1) hdr
   simpa [List.drop_drop,Nat.add_comm] using this
  have hi':i+1<=items.length:=(List.getElem?_eq_some_iff.mp hd).1
  unfold Ir at h
  revert h
  refine Mine.Br λσ₁ q1 h=>?_
  revert h
  refine Mine.Br λp q2 h=>?_
  obtain ⟨f₁,σ₂⟩:=p
  refine Lo λE'=>?_
  refine wpAny_mono (W.item2 i d s N t E' (J4 prog w A _ t (.ref I) body orelse env E') htup hd st S.has hsub how (λv h' tk N₁ hk rv st₁ k₁ sub₁ has₁ new₁=>?_)) (λrr s₁ h=>by obtain ⟨v,e,h⟩:=h;subst e;exact h) λZ Z e=>e
  have hMw:∀b,M b->b∉wr:=λb hb hm=>hfp b (W.sub b hm) hb
  have S₁:SS w.params Gl env names N₁ M σ {s with heap:=h',toks:=tk}:=S.step (W:=λb=>b∈wr) hk k₁ hMw sub₁ has₁ new₁
  have T₁:Tr Nb Mb sb N₁ M {s with heap:=h',toks:=tk}:=T.step (W:=λb=>b∈wr) hk k₁ hwr ⟨_,_,rfl⟩ sub₁ new₁
  have ow₁:∀p∈N₁,p.1∉wr:=λp hp hw=>by
   rcases new₁ p hp with h|h
   ·exact how p h hw
   ·obtain ⟨o,ho⟩:=W.live _ _ st _ (W.sub _ hw)
    rw[ho] at h;cases h
  have hsub₁:∀p∈N₀,p∈N₁:=λp h=>sub₁ p (hsub p h)
  clear hk k₁ new₁ has₁ sub₁
  replace st₁:St (i+1) ({s with heap:=h',toks:=tk}:Shared).heap:=st₁
  generalize ({s with heap:=h',toks:=tk}:Shared)=s₁ at S₁ T₁ st₁ ⊢
  unfold J4
  refine Ln R.1 S₁ rv q1 λs₂ S₂ t₂=>?_
  refine TA (hx _ _ _ _ q2 A E' s₂ N₁ M env R S₂) λfl s₃ N₃ M₃ S₃ t₃ F₃=>?_
  have tt:=t₂.trans t₃
  have T₃:=T₁.trans tt
  have again:Ir (AO names owned t) (ex body) (ex orelse) rem σ₂=some (f,σ')->codeAny (model prog w) A (.forLoop t (.ref I) body orelse env) (LP w Gl names env Nb Mb sb f σ') s₃:=λh=>by
   refine ih (i+1) σ₂ σ' f N₃ M₃ s₃ hdr' hi' h S₃ T₃ (λp h=>tt.sub p (hsub₁ p h)) (W.frame _ _ _ st₁ λb hb o e=>tt.kp b o (hfp b hb) e) (λp hp hw=>?_) λb hb hM=>?_
   ·rcases tt.new p hp with h|h|h
    ·exact ow₁ p h hw
    ·obtain ⟨o,ho⟩:=W.live _ _ st₁ _ (W.sub _ hw)
     rw[ho] at h;cases h
    ·exact hMw _ h hw
   ·rcases tt.mm b hM with h|h
    ·exact hfp b hb h
    ·obtain ⟨o,ho⟩:=W.live _ _ st₁ _ hb
     rw[ho] at h;cases h
  cases f₁ with
  |next=>rcases fl with _|_<;>first|exact again h|exact F₃.elim
  |cont=>rcases fl with _|_<;>first|exact again h|exact F₃.elim
  |brk=>
   (refine pj h λe1 e2=>?_;clear h;subst e1 e2)
   rcases fl with _|_<;>first|exact F₃.elim|exact ⟨_,rfl,N₃,M₃,S₃,T₃,trivial⟩
  |ret d'=>
   (refine pj h λe1 e2=>?_;clear h;subst e1 e2)
   rcases fl with _|_<;>first|exact F₃.elim|exact ⟨_,rfl,N₃,M₃,S₃,T₃,F₃⟩
theorem O1 {ex:List Stmt->Sg->Option (Fl×Sg)} (R:AG k A) (hx:SX prog w Gl k names ex) (ht:ST prog w w.params Gl k r.t) {test:Expr} {body orelse:List Stmt} {Nb:Az} {Mb:Addr->Prop} {sb:Shared}:∀ (n:Nat) (σ σ':Sg) (f:Fl) (N:Az) (M:Addr->Prop) (s:Shared),
  ED (λσ=>r.t names σ.full σ.cel test) (ex body) (ex orelse) n σ=some (f,σ')->SS w.params Gl env names N M σ s->Tr Nb Mb sb N M s->
  codeAny (model prog w) A (.whileLoop test body orelse env) (LP w Gl names env Nb Mb sb f σ') s:=by
 intro n
 induction n with
 |zero=>intro σ σ' f N M s h;exact Aa h
 |succ n ih=>
  intro σ σ' f N M s h S T
  unfold ED at h
  revert h
  refine Mine.Br λb q1 h=>?_
  refine MP λE'=>?_
  refine Mine.S0 S.full λO V hO=>?_
  refine bI ht q1 R V λs₁ N₁ x=>?_
  have y:=A1.of_keeps S.has x.keeps x.tk
  have S₁:=S.ext y
  have T₁:=T.trans (Tr.of_ext y)
  cases b with
  |false=>
   rw[if_neg Bool.false_ne_true] at h
   rw[if_neg Bool.false_ne_true]
   refine TA (hx _ _ _ _ h A E' _ N M env R S₁) λfl s₃ N' M' S' T' F'=>?_
   exact ⟨fl,rfl,N',M',S',T₁.trans T',F'⟩
  |true=>
   rw[if_pos rfl] at h
   rw[if_pos rfl]
   revert h
   refine Mine.Br λp q2 h=>?_
   obtain ⟨f₁,σ₂⟩:=p
   refine TA (hx _ _ _ _ q2 A E' s₁ N M env R S₁) λfl s₃ N₃ M₃ S₃ t₃ F₃=>?_
   have T₃:=T₁.trans t₃
   cases f₁ with
   |next=>rcases fl with _|_<;>first|exact ih σ₂ σ' f N₃ M₃ s₃ h S₃ T₃|exact F₃.elim
   |cont=>rcases fl with _|_<;>first|exact ih σ₂ σ' f N₃ M₃ s₃ h S₃ T₃|exact F₃.elim
   |brk=>
    (refine pj h λe1 e2=>?_;clear h;subst e1 e2)
    rcases fl with _|_<;>first|exact F₃.elim|exact ⟨_,rfl,N₃,M₃,S₃,T₃,trivial⟩
   |ret d'=>
    (refine pj h λe1 e2=>?_;clear h;subst e1 e2)
    rcases fl with _|_<;>first|exact F₃.elim|exact ⟨_,rfl,N₃,M₃,S₃,T₃,F₃⟩
end
section
variable {prog:Program} {w:World} {A:Around} {E:Value->Shared->Prop} {s s':Shared} {N N':Az} {M:Addr->Prop} {Gl:List (Str×D)} {k:Nat} {env:Env} {names:List (Str×NameKind)} {σ:Sg} {r:CA} {owned:List Str}
theorem Ye {Pa:Params} {op:Operator} {v u:Value} {d e x:D} (h:Cn N s) (rv:Ax Pa N v d) (ru:Ax Pa N u e) (c:Is op d e=some x):wpAny (model prog w) A (inplaceOp op v u) (Gv Pa N s x) E s:=by
 unfold Is at c
 split at c
 ·revert v;show ∀v:Value,_;refine Ax.sel c ?_ ?_ (λZ Z Z Z Z Z Z c=>Aa c) (λZ Z Z Z Z Z Z c=>Aa c)
  ·intro x t c;revert u;show ∀u:Value,_;refine Ax.onI c λy t' c=>?_
   (replace c:=Option.some.inj c;subst c)
   exact P.iadd_int (B3 h _ _ _)
  ·intro a t ha c;revert u;show ∀u:Value,_;refine Ax.onS c λb t' hb c=>?_
   obtain ⟨hl,rfl⟩:=IL c
   refine P.iadd_str ?_
   rw[Ba,Ba,IR]
   by_cases h1:a.length=0
   ·rw[if_pos (by simp[h1])]
    have:a=[]:=List.eq_nil_of_length_eq_zero h1
    subst this
    exact Ce h (.str _ _ hb)
   ·rw[if_neg (by simpa using h1)]
    by_cases h2:b.length=0
    ·rw[if_pos (by simp[h2])]
     have:b=[]:=List.eq_nil_of_length_eq_zero h2
     subst this
     rw[List.append_nil]
     exact Ce h (.str _ _ ha)
    ·rw[if_neg (by simpa using h2)]
     exact ⟨Bb (by rw[Ba,List.length_append];exact hl),Dg h _ (by rw[List.length_append];exact hl) _ _⟩
 ·revert v;show ∀v:Value,_;refine Ax.onI c λx t c=>?_
  revert u;show ∀u:Value,_;refine Ax.onI c λy t' c=>?_
  (replace c:=Option.some.inj c;subst c)
  exact P.isub_int (B3 h _ _ _)
 ·exact Aa c
theorem Iu {x:Str} {px:Pos} {elt:Expr} {g:Comprehension} {gs:List Comprehension} {scope:Scope} {cpos pos:Pos} {ds:List D} {σ':Sg} (R:AG k A) (hr:SE prog w w.params Gl k r.e) (ht:ST prog w w.params Gl k r.t)
  (S:SS w.params Gl env names N M σ s) (h:FT Gl r names σ.loc σ.cel elt g gs scope=some ds) (hp:put names owned x (.list ds) σ=some σ'):
  wpAny (model prog w) A (exec (.Assign [.Name x px] (.ListComp elt (g::gs) scope cpos) pos) env) (BP w Gl names env N M s .next σ') E s:=by
 have hga:g.is_async=0:=by
  unfold FT at h
  revert h
  refine BO λ_ h=>?_
  refine Mine.ob h λitems q1 h=>Mine.ob h λout q2 h=>?_
  ·unfold Ep at q2
   split at q2
   ·assumption
   ·exact Aa q2
 obtain ⟨t,it,ifs,a⟩:=g
 replace hga:a=0:=hga
 subst hga
 have hsw:∃b,swapsWith (.ListComp elt (⟨t,it,ifs,0⟩::gs) scope cpos) (some (.Name x px)) pos.line env=pure b:=⟨_,rfl⟩
 obtain ⟨b,hsw⟩:=hsw
 cases b with
 |true=>
  rw[exec_Assign_Name_used _ _ _ _ hsw]
  refine wpAny_bind (wpAny_standAt (wpAny_bind ?_))
  show wpAny _ A (do let _<-comprehension (.ListComp elt (⟨t,it,ifs,0⟩::gs) scope cpos) scope env _ (newList []) false (eval it env) (some (assign (.Name x px) env))) _ _ s
  refine wpAny_bind (wpAny_mono (EG (g:=⟨t,it,ifs,0⟩) (use:=some (assign (.Name x px) env)) (Q:=λ_ s'=>BP w Gl names env N M s .next σ' .next s') R hr ht S.vw h λacc C N' s' y rv hC ho hf=>?_) (λZ s' hq=>wpAny_pure (wpAny_pure hq)) λZ Z e=>e)
  obtain ⟨m,hm⟩:=hC
  show wpAny _ A (assign (.Name x px) env acc) _ _ s'
  have S₁:=S.ext y
  have hMC:¬ M C:=λhM=>by obtain ⟨o,ho⟩:=S.live C hM;rw[hf] at ho;exact Aa ho
  refine wpAny_assign_Name (D2 S₁ rv hp λs₂ S₂ t₂=>?_)
  refine ⟨m,hm.at' λo e=>t₂.kp _ _ hMC e,λh' hs=>?_⟩
  have kp:∀b o,¬ (b=C)->s₂.heap.get? b=some o->h'.get? b=some o:=λb o hb e=>hs.extBut b o hb e
  have T:=(Tr.of_ext (M:=M) y).trans t₂
  refine ⟨N',M,S₂.step (W:=λb=>b=C) (s':={s₂ with heap:=h'}) (Nat.le_refl _) kp (λb hM e=>hMC (e▸hM)) (λZ h=>h) (λp hp=>kp _ _ (ho p hp) (S₂.has p hp)) λZ h=>.inl h,T.step (W:=λb=>b=C) (s':={s₂ with heap:=h'}) (Nat.le_refl _) kp (λb e=>e▸hf) ⟨h',s₂.toks,rfl⟩ (λZ h=>h) λZ h=>.inl h,trivial⟩
 |false=>
  refine wpAny_Assign_Name ?_ hsw
  rw[eval_ListComp]
  refine EG (g:=⟨t,it,ifs,0⟩) (use:=none) R hr ht S.vw h λacc C N' s' y rv hC ho hf=>?_
  obtain ⟨m,hm⟩:=hC
  refine ⟨m,hm,λh' hs=>?_⟩
  have hne:∀b o,s.heap.get? b=some o->b≠C:=λb o e q=>by rw[q,hf] at e;exact Aa e
  have y':A1 N s N' {s' with heap:=h'}:=by
   refine Mine.S1 y.keeps λh2 t2 eq1 k2=>?_
   subst eq1
   exact ⟨⟨h',t2,rfl,λb o e=>hs.extBut b o (hne b o e) (k2 b o e)⟩,y.tk,y.sub,λp hp=>hs.extBut _ _ (ho p hp) (y.has p hp),y.new⟩
  exact D2 (S.ext y') rv hp λs₂ S₂ t₂=>⟨N',M,S₂,(Tr.of_ext y').trans t₂,trivial⟩
end
theorem DI:∀ (l:List (Str×List D)) (x:Str) (ds:List D) (y:Str),(B2 x ds l).lookup y=if y=x then (l.lookup x).map λZ=>ds else l.lookup y
 |[],x,ds,y=>by simp[B2]
 |p::l,x,ds,y=>by
  unfold B2
  by_cases hp:(p.1==x)=true
  ·rw[if_pos hp]
   have hx:p.1=x:=eq_of_beq hp
   rw[List.lookup_cons,List.lookup_cons,List.lookup_cons]
   by_cases h:y=x
   ·subst h;simp[hx]
   ·have h1:(y==x)=false:=by simpa using h
    have h2:(y==p.1)=false:=by rw[hx];exact h1
    rw[h1,h2];simp[h]
  ·rw[if_neg hp]
   rw[List.lookup_cons,List.lookup_cons,List.lookup_cons]
   have hpx:(x==p.1)=false:=by
    refine beq_eq_false_iff_ne.mpr λq=>hp ?_
    rw[q];exact beq_self_eq_true _
   rw[hpx]
   by_cases h:y=p.1
   ·have hb:(y==p.1)=true:=by simpa using h
    rw[hb]
    have:y≠x:=λq=>by rw[<-q,hb] at hpx;cases hpx
    simp[this]
   ·have hb:(y==p.1)=false:=by simpa using h
    rw[hb]
    exact DI l x ds y
section
variable {prog:Program} {w:World} {A:Around} {E:Value->Shared->Prop} {s s':Shared} {Pa:Params} {N N':Az} {M:Addr->Prop} {Gl:List (Str×D)} {k:Nat} {env:Env} {names:List (Str×NameKind)} {σ:Sg} {r:CA} {owned:List Str}
theorem SS.own (S:SS Pa Gl env names N M σ s) {x:Str} {ds:List D} (h:σ.own.lookup x=some ds):∃ (m:Str->Option Value) (ad:Addr) (vs:List Value) (n:Nat),s.heap.Ns env.locals m/\m x=some (.ref ad)/\s.heap.get? ad=some (AZ vs n)/\Ar Pa N vs ds/\vs.length<=Ap/\M ad/\
  (∀ (s':Shared) (vs':List Value) (n':Nat) (ds':List D),(∃h t,s'={s with heap:=h,toks:=t})->s.toks<=s'.toks->(∀b o,b≠ad->s.heap.get? b=some o->s'.heap.get? b=some o)->s'.heap.get? ad=some (AZ vs' n')->Ar Pa N vs' ds'->vs'.length<=Ap->
   SS Pa Gl env names N M {σ with own:=B2 x ds' σ.own} s'/\Tr N M s N M s'):=by
 refine Mine.WF S.vars λm O hm hO hl hown hd=>?_
 refine Mine.bo (hown x ds h) λh0 ad vs n h1 h2 h3 h4=>?_
 have hMad:=(hO _ h2).1
 have hget:=(hO _ h2).2.1
 refine ⟨m,ad,vs,n,hm,h1,hget,h3,h4,hMad,λs' vs' n' ds' sh htk kp hnew rs' hl'=>⟨⟨S.kind,S.nm,S.glob,S.blt,λp hp=>kp _ _ (λe=>S.off p hp (e▸hMad)) (S.has p hp),Nat.lt_of_lt_of_le S.tk htk,S.top,S.off,S.ml,λb hM=>?_,λy e=>?_,λy d e1 e2=>?_,S.inj,m,(ad,AZ vs' n')::O.filter (λp=>p.1≠ad),?_,λp hp=>?_,hl,λy es e=>?_,λy z es fs b e1 e2 e3 e4=>?_⟩,sh,htk,λb o h e=>kp b o (λq=>h (q▸hMad)) e,λZ h=>.inl h,λZ h=>h,λZ h=>.inl h⟩⟩
 ·by_cases e:b=ad
  ·exact ⟨_,e▸hnew⟩
  ·obtain ⟨o,ho⟩:=S.live b hM
   exact ⟨o,kp _ _ e ho⟩
 ·refine Mine.S3 (S.cls y e) λc v q1 q2 q3=>?_
  have hne:=EH hget q2
  revert q2
  refine Mine.T0 λo q4 q5=>?_
  exact ⟨c,v,q1,⟨o,kp _ _ (Ne.symm hne) q4,q5⟩,q3⟩
 ·refine Mine.S3 (S.cel y d e1 e2) λc v q1 q2 q3=>?_
  have hne:=EH hget q2
  revert q2
  refine Mine.T0 λo q4 q5=>?_
  exact ⟨c,v,q1,⟨o,kp _ _ (Ne.symm hne) q4,q5⟩,q3⟩
 ·exact hm.at' λo e=>kp _ _ (Ne.symm (Gx hget hm)) e
 ·rcases List.mem_cons.mp hp with rfl|hp
  ·exact ⟨hMad,hnew,vs',n',rfl⟩
  ·rw[List.mem_filter] at hp
   refine Mine.iM (hO p hp.1) λq1 q2 q3=>?_
   exact ⟨q1,kp _ _ (by simpa using hp.2) q2,q3⟩
 ·replace e:(B2 x ds' σ.own).lookup y=some es:=e
  rw[DI] at e
  by_cases hy:y=x
  ·subst hy
   rw[if_pos rfl,h] at e
   (replace e:=Option.some.inj e;subst e)
   exact ⟨h0,ad,vs',n',h1,.head _,rs',hl'⟩
  ·rw[if_neg hy] at e
   refine Mine.bo (hown y es e) λq0 b us i q1 q2 q3 q4=>?_
   have hb:b≠ad:=λq=>hy (hd y x es ds ad e h (q▸q1) h1)
   exact ⟨q0,b,us,i,q1,.tail _ (List.mem_filter.mpr ⟨q2,by simpa using hb⟩),q3,q4⟩
 ·replace e1:(B2 x ds' σ.own).lookup y=some es:=e1
  replace e2:(B2 x ds' σ.own).lookup z=some fs:=e2
  have old:∀y es,(B2 x ds' σ.own).lookup y=some es->∃fs,σ.own.lookup y=some fs:=λy es e=>by
   rw[DI] at e
   by_cases hy:y=x
   ·subst hy;exact ⟨ds,h⟩
   ·rw[if_neg hy] at e;exact ⟨es,e⟩
  obtain ⟨es',e1⟩:=old y es e1
  obtain ⟨fs',e2⟩:=old z fs e2
  exact hd y z es' fs' b e1 e2 e3 e4
theorem Lp {x m:Str} {p1 apos pos:Pos} {es:List Expr} {id:String} {v0:Value} {Q:Value->Shared->Prop} (hd:(x=="__debug__")=false) (hload:∀Q:Value->Shared->Prop,Q v0 s->wpAny (model prog w) A (loadName env x) Q E s)
  (hg:∀ (pl:Sem Bool) (Q:Value×List Value->Shared->Prop),Q (.builtin id,[v0]) s->wpAny (model prog w) A (getMethod v0 m pl) Q E s) (hp:Aj es=true) (hl:es.length<20) (hpos:(apos.endLine==pos.line)=true)
  (h:wpAny (model prog w) A (evalArgs (.builtin id) true (es.map λe=>(false,eval e env)) []) (λa s₁=>wpAny (model prog w) A (call (.builtin id) ([v0]++a.pos) a.kw) Q E s₁) E s):
  wpAny (model prog w) A (eval (.Call (.Attribute (.Name x p1) m apos) es [] pos) env) Q E s:=by
 show wpAny _ A (do
  let ov<-attributeBase (.Name x p1) m env (eval (.Name x p1) env)
  standAt apos.atName
  methodCall (.Name x p1) m apos pos env ov (es.length+([]:List Keyword).length) (backTo pos (starEach es env)) (backToKw pos (keywordEach [] env))) _ E s
 rw[B4 rfl,AX pos es hp]
 refine wpAny_bind (wpAny_Name (hload _ ?_) hd)
 refine wpAny_bind (wpAny_standAt ?_)
 unfold methodCall
 rw[Gr hl]
 refine wpAny_bind (wpAny_holding ?_)
 show wpAny _ A (getMethod v0 m _) _ E s
 refine hg _ _ ?_
 refine wpAny_bind ?_
 unfold methodCallPos
 rw[hpos]
 refine wpAny_pure ?_
 refine callWith_of (P:=λ_=>True) BS (λh _=>⟨.machine,.inr (.inl rfl),Looks.of_pure rfl⟩) ?_
 exact wpAny_mono h (λa s₁ h=>⟨trivial,h⟩) λZ Z e=>e
theorem MQ {x:Str} {p1 apos pos epos:Pos} {a:Expr} {ds:List D} {d:D} (R:AG k A) (hr:SE prog w w.params Gl k r.e) (S:SS w.params Gl env names N M σ s) (hd:(x=="__debug__")=false) (hp:Aj [a]=true) (hpos:(apos.endLine==pos.line)=true)
  (ho:σ.own.lookup x=some ds) (hk:names.lookup x=some .local) (e:r.e names σ.loc σ.cel a=some d) (hl:ds.length<Ap):
  wpAny (model prog w) A (exec (.Expr (.Call (.Attribute (.Name x p1) "append" apos) [a] [] pos) epos) env) (BP w Gl names env N M s .next {σ with own:=B2 x (ds++[d]) σ.own}) E s:=by
 refine Mine.ee (S.own ho) λm ad vs n hm h1 h2 h3 h4 h5 _=>?_
 refine wpAny_Expr ?_ (by unfold interactive;rw[S.kind];rfl) rfl
 refine Lp hd (λQ hq=>wpAny_loadName_local S.kind ((S.kindOf x).trans hk) hm h1 hq) (λpl Q hq=>getMethod_list_append h2 rfl rfl hq) hp (by show 1<20;decide) hpos ?_
 refine CP R hr S.vw [a] [d] (by simp[e]) λus s₁ h=>Mine.S0 h λN₁ x₁ r₁=>?_
 cases r₁ with
 |cons rv r₂=>
  cases r₂
  have S₁:=S.ext x₁
  refine Mine.ee (S₁.own ho) λm' ad' vs' n' hm' h1' h2' h3' h4' h5' upd=>?_
  have hmm:∀y,m' y=m y:=λy=>by
   refine Mine.S4 (hm.keeps (Am x₁.keeps)) λo es ep q1 q2 q3 q4=>?_
   revert hm'
   refine Mine.T4 λo' es' ep' q1' q2' q3' q4'=>?_
   rw[q1] at q1';(replace q1':=Option.some.inj q1';subst q1')
   rw[q2] at q2';cases q2'
   rw[<-q4,<-q4']
  have hadd:ad'=ad:=by
   have:=(hmm x).symm.trans h1'
   rw[h1] at this
   cases this;rfl
  subst hadd
  have hlen:=h3'.length
  show wpAny _ A (call (.builtin "list.append") [.ref ad',_]) _ E s₁
  refine wpAny_list_append_plain (items:=vs'.toArray) (hsz:=Bb (by simp;exact Nat.le_trans (by assumption) (by decide))) ⟨n',h2'⟩ λh' hpl hb=>?_
  obtain ⟨n'',hn''⟩:=hpl
  obtain ⟨S₂,T₂⟩:=upd {s₁ with heap:=h'} (vs'++[_]) n'' (ds++[d]) ⟨_,s₁.toks,rfl⟩ (Nat.le_refl _) (λb o hne e=>hb.extBut _ _ hne e) (by rw[hn''];simp) (h3'.append (.cons rv .nil)) (by simp;lia)
  exact ⟨N₁,M,S₂,(Tr.of_ext x₁).trans T₂,trivial⟩
end
section
variable {prog:Program} {w:World} {A:Around} {E:Value->Shared->Prop} {s s':Shared} {Pa:Params} {N N':Az} {M:Addr->Prop} {Gl:List (Str×D)} {k:Nat} {env:Env} {names:List (Str×NameKind)} {σ:Sg} {r:CA} {owned:List Str}
noncomputable def noRef (v:Value) (Q:Prop):Prop:=match v with| .ref _=>False|_=>Q
theorem Uz {Pa:Params} {v:Value} {d:D} {Q:Prop} (r:Ax Pa N v d) (hsc:d.scalar=true) (q:Q):noRef v Q:=by
 cases r<;>first|exact q|exact B7 hsc
theorem UA {x:Str} {p1 apos pos epos:Pos} {ds:List D} {d:D} (S:SS w.params Gl env names N M σ s) (hd:(x=="__debug__")=false) (hpos:(apos.endLine==pos.line)=true)
  (ho:σ.own.lookup x=some ds) (hk:names.lookup x=some .local) (e:ds.getLast?=some d) (hsc:d.scalar=true):
  wpAny (model prog w) A (exec (.Expr (.Call (.Attribute (.Name x p1) "pop" apos) [] [] pos) epos) env) (BP w Gl names env N M s .next {σ with own:=B2 x ds.dropLast σ.own}) E s:=by
 refine Mine.ee (S.own ho) λm ad vs n hm h1 h2 h3 h4 h5 upd=>?_
 refine wpAny_Expr ?_ (by unfold interactive;rw[S.kind];rfl) rfl
 refine Lp hd (λQ hq=>wpAny_loadName_local S.kind ((S.kindOf x).trans hk) hm h1 hq) (λpl Q hq=>getMethod_builtin (T:="list") ⟨_,h2,rfl⟩ F.plainAttrs_list F.slot_list_pop F.type_list_pop (λa e=>by cases e;exact ⟨_,h2,rfl⟩) hq) rfl (by show 0<20;decide) hpos ?_
 refine evalArgs_nil3 ?_
 have hds:ds=ds.dropLast++[d]:=by
  obtain ⟨ys,rfl⟩:=List.getLast?_eq_some_iff.mp e
  simp
 rw[hds] at h3
 refine Mine.S3 h3.snocInv λus v eq1 r1 r2=>?_
 subst eq1
 have hy:(us++[v]).toArray[(us++[v]).toArray.size-1]?=some v:=by simp
 show wpAny _ A (call (.builtin "list.pop") [.ref ad]) _ E s
 refine call_meets F.slot_list_pop ⟨_,h2,rfl⟩ F.entry_list_pop (F.args_list_pop_1 _) (list_pop_last ad (us++[v]).toArray n v hy (Bb (by simpa using h4))) ⟨h2,?_⟩
 have hub:Heap.SameBut ad s.heap (s.heap.update ad (Obj.mapSeq λxs=>xs.eraseIdxIfInBounds ((us++[v]).toArray.size-1))):=Heap.SameBut.update ..
 have hup:∃n',(s.heap.update ad (Obj.mapSeq λxs=>xs.eraseIdxIfInBounds ((us++[v]).toArray.size-1))).get? ad=some (AZ us n'):=by
  have ex:∃n',Obj.mapSeq (λxs=>xs.eraseIdxIfInBounds ((us++[v]).toArray.size-1)) (AZ (us++[v]) n)={cls:=.type "list",data:=.seq ((us++[v]).toArray.eraseIdxIfInBounds ((us++[v]).toArray.size-1)) n'}:=⟨_,rfl⟩
  obtain ⟨n',ex⟩:=ex
  refine ⟨n',(Heap.get?_update_self _ h2 (by rw[ex];rfl)).trans ?_⟩
  rw[ex]
  have:(us++[v]).toArray.eraseIdxIfInBounds ((us++[v]).toArray.size-1)=us.toArray:=by
   apply Array.toList_inj.mp
   rw[Array.eraseIdxIfInBounds]
   simp
   rw[List.eraseIdx_append_of_length_le (Nat.le_refl _)]
   simp
  rw[this]
 obtain ⟨n',hn'⟩:=hup
 obtain ⟨S₂,T₂⟩:=upd {s with heap:=s.heap.update ad (Obj.mapSeq λxs=>xs.eraseIdxIfInBounds ((us++[v]).toArray.size-1))} us n' ds.dropLast ⟨_,s.toks,rfl⟩ (Nat.le_refl _) (λb o hne e=>hub.extBut _ _ hne e) hn' r1 (by simp at h4;lia)
 have fin:BP w Gl names env N M s .next {σ with own:=B2 x ds.dropLast σ.own} .next {s with heap:=s.heap.update ad (Obj.mapSeq λxs=>xs.eraseIdxIfInBounds ((us++[v]).toArray.size-1))}:=⟨N,M,S₂,T₂,trivial⟩
 exact Uz r2 hsc fin
noncomputable def QO (ts vs:List Expr) (L:List Str):Sem (Option (List Str)):=
 if (L.length !=ts.length||L.eraseDups.length !=L.length)=true then pure none else
 if vs.all (foldedForSure 8)=true then pure none else
 if vs.all (constantsAlone 8)=true then (do unsupported "assign.tuple-of-constant-expressions:order-of-the-stores";pure (some L)) else pure (some L)
theorem Hu {a b:Bool} {P:Prop} (h:(a&&b)=true) (k:a=true->b=true->P):P:=by cases a;exact B7 h;exact k rfl h
set_option tactic.hygienic true
theorem QP {ts vs:List Expr} {c1 c2:Nat} {p1 p2 pos:Pos} {xs:List Str} {as:List Fh} {σ':Sg} (R:AG k A) (hr:SE prog w w.params Gl k r.e) (S:SS w.params Gl env names N M σ s) (hx:AI ts=some xs) (hsw:X4 names ts vs xs=true)
  (hp:De r names owned σ xs vs=some as) (hput:EE names owned xs.reverse as.reverse σ=some σ'):
  wpAny (model prog w) A (exec (.Assign [.Tuple ts c1 p1] (.Tuple vs c2 p2) pos) env) (BP w Gl names env N M s .next σ') E s:=by
 refine Hu hsw λhsw hca=>Hu hsw λhsw hff=>Hu hsw λhsw hdup=>Hu hsw λhsw hxl=>Hu hsw λhsw hnames=>Hu hsw λhsw hpl=>Hu hsw λh23 hlen=>?_
 replace hlen:=eq_of_beq hlen
 replace hnames:=eq_of_beq hnames
 replace hxl:=eq_of_beq hxl
 replace hdup:=eq_of_beq hdup
 replace hff:=Bool.not_eq_true' _▸hff
 replace hca:=Bool.not_eq_true' _▸hca
 simp only[Bool.or_eq_true,beq_iff_eq] at h23
 have hw:swappedStores [.Tuple ts c1 p1] (.Tuple vs c2 p2) env=pure (some xs):=by
  have e1:(!(ts.length==2||ts.length==3)||vs.length !=ts.length||env.blockKind != .function)=false:=by
   have:env.blockKind=.function:=by unfold Env.blockKind;rw[S.kind];rfl
   rw[this]
   rcases h23 with h|h<;>simp[h,hlen]
  have e2:(vs.any λ| .Starred .. =>true|_=>false)=false:=by
   unfold Aj at hpl
   rw[List.any_eq_false]
   rw[List.all_eq_true] at hpl
   intro e he
   have:=hpl e he
   rcases e with _|_<;>first|exact B7 this|exact λh=>B7 h
  have e3:(ts.filterMap λ| .Name id pos=>if env.kindOf id==some .local&&pos.line==((ts.head?.map (·.pos.line)).getD 0) then some id else none|_=>none)=xs:=by
   rw[<-hnames]
   congr 1
   funext e
   rcases e with _|_<;>first|rfl|skip
   rename_i id p
   show (if env.kindOf id==some .local&&p.line==((ts.head?.map (·.pos.line)).getD 0) then some id else none)=if names.lookup id==some .local&&p.line==((ts.head?.map (·.pos.line)).getD 0) then some id else none
   rw[S.kindOf]
  have e0:swappedStores [.Tuple ts c1 p1] (.Tuple vs c2 p2) env=(if (!(ts.length==2||ts.length==3)||vs.length !=ts.length||env.blockKind != .function)=true then pure none else
    if (vs.any λ| .Starred .. =>true|_=>false)=true then pure none else
     QO ts vs (ts.filterMap λ| .Name id pos=>if env.kindOf id==some .local&&pos.line==((ts.head?.map (·.pos.line)).getD 0) then some id else none|_=>none)):=rfl
  rw[e0,e1,e2,e3]
  unfold QO
  have e4:(xs.length !=ts.length||xs.eraseDups.length !=xs.length)=false:=by simp[hxl,hdup]
  rw[e4,hff,hca]
  rfl
 refine Assign_Tuple_swapped (names:=xs) ?_ rfl hw
 refine wpAny_Tuple_spliced ?_
 rw[AX p2 vs hpl]
 refine wpAny_mono (QN R hr xs vs as s N [] S.vw hp (λp h=>by cases h) (λp _ h=>by cases h)) (λus s₁ h=>?_) λZ Z e=>e
 revert h
 refine Mine.ed λN₁ O₁ x₁ hPP hnd _ hO _ hNO hfr=>?_
 have hul:us.length=xs.length:=by
  have e1:=hPP.length
  have e2:∀ (xs:List Str) (vs:List Expr) (as:List Fh),De r names owned σ xs vs=some as->as.length=xs.length:=by
   intro xs
   induction xs with
   |nil=>intro vs as h;cases vs with
    |nil=>(replace h:=Option.some.inj h;subst h);rfl
    |cons=>exact Aa h
   |cons x xs ih=>intro vs as h;cases vs with
    |nil=>exact Aa h
    |cons v vs=>
     revert h
     refine Mine.Br λa q1 h=>?_
     revert h
     refine Mine.FQ λas' q2 h=>?_
     subst h
     exact congrArg (· +1) (ih vs as' q2)
  rw[e1,e2 xs vs as hp]
 have hus:us.length<=Ap:=by rw[hul,hxl];rcases h23 with h|h<;>(rw[h];decide)
 refine ⟨Bb hus,?_⟩
 have y:=A1.push0 x₁.has ({cls:=.type "tuple",data:=.seq us.toArray}:Obj) s₁.toks
 have hT:(s₁.heap.push {cls:=.type "tuple",data:=.seq us.toArray}).IsTuple s₁.heap.objs.size us.toArray:=⟨_,Heap.get?_push_size _ rfl,rfl,_,rfl⟩
 have e3:xs.length=us.toArray.size:=by simp[hul]
 rw[e3]
 refine wpAny_unpackItems_tuple R.1 hT λh₂ hb₂=>?_
 have z:A1 N₁ {s₁ with heap:=s₁.heap.push {cls:=.type "tuple",data:=.seq us.toArray},toks:=s₁.toks} N₁ {s₁ with heap:=h₂}:=A1.of_keeps y.has ⟨h₂,s₁.toks,rfl,λb o e=>hb₂ b o (Nat.ne_of_lt (Heap.lt_size e)) e⟩
 have x₂:=(x₁.trans y).trans z
 have hv:us.toArray.toList.reverse=us.reverse:=by simp
 rw[hv]
 have er:=J3 hPP
 refine Lm (O:=O₁) hNO xs.reverse us.reverse as.reverse σ σ' M {s₁ with heap:=h₂} hPP.reverse hput (S.ext x₂) (Tr.of_ext x₂) (by rw[er];unfold List.Nodup;rw[List.pairwise_reverse];exact hnd.imp λh=>Ne.symm h) (λa ha=>?_) (λp hp _=>?_) _ λs' M' S' T'=>⟨N₁,M',S',T',trivial⟩
 ·rw[er,List.mem_reverse] at ha
  exact ⟨λhM=>(by obtain ⟨o,ho⟩:=S.live a hM;rw[hfr a ha] at ho;exact Aa ho),hfr a ha⟩
 ·exact Am (y.trans z).keeps _ _ (hO p hp).1
set_option tactic.hygienic false
end
section
variable {prog:Program} {w:World} {A:Around} {E:Value->Shared->Prop} {s s':Shared} {N N':Az} {M:Addr->Prop} {Gl:List (Str×D)} {k:Nat} {env:Env} {names:List (Str×NameKind)} {σ:Sg} {r:CA} {owned:List Str}
theorem J5 {v:Expr} {t:Option Expr} {line:Nat} (h:B0 v=true):swapsWith v t line env=pure false:=by
 rcases v with _|_<;>first|rfl|exact B7 h
theorem UB {x:Str} {px lp pos:Pos} {es:List Expr} {ds:List D} {σ':Sg} (R:AG k A) (hr:SE prog w w.params Gl k r.e) (S:SS w.params Gl env names N M σ s) (hp:Aj es=true) (hl:es.length<=100)
  (h:es.mapM (r.e names σ.loc σ.cel)=some ds) (hput:EC names x ds σ=some σ'):
  wpAny (model prog w) A (exec (.Assign [.Name x px] (.List es lp) pos) env) (BP w Gl names env N M s .next σ') E s:=by
 refine wpAny_Assign_Name (wpAny_List_spliced ?_) (J5 rfl)
 rw[AX lp es hp]
 refine Uj (FX R hr S.vw es ds h) λvs s₁ N₁ x₁ r₁=>?_
 have hlen:vs.length<=Ap:=by rw[r₁.length,Hs h];simp[Ap];exact Nat.le_trans (by assumption) (by decide)
 refine ⟨Bb hlen,?_⟩
 have y:=A1.push0 x₁.has (AZ vs 0) s₁.toks
 have x₂:=x₁.trans y
 have fr:s₁.heap.get? s₁.heap.objs.size=Option.none:=A3 _
 have S₁:=S.ext x₁
 refine QL (S.ext x₂) (Heap.get?_push_size _ rfl) r₁ hlen (λhM=>by obtain ⟨o,ho⟩:=S₁.live _ hM;rw[fr] at ho;exact Aa ho) (λp hp=>Nat.ne_of_lt (Heap.lt_size (x₁.has p hp))) (Tr.of_ext x₂) (Aw (Am x₁.keeps) fr) hput λs' S' T' Z=>⟨N₁,_,S',T',trivial⟩
theorem UC {x:Str} {px pos:Pos} {v:Expr} {f:Fl} {σ':Sg} (R:AG k A) (hr:SE prog w w.params Gl k r.e) (ht:ST prog w w.params Gl k r.t) (S:SS w.params Gl env names N M σ s) (h:OQ Gl r names owned σ x v=some (f,σ')):
  wpAny (model prog w) A (exec (.Assign [.Name x px] v pos) env) (BP w Gl names env N M s f σ') E s:=by
 have gen:∀v,B0 v=true->(K1 r names σ v).bind (MF names owned x)=some (f,σ')->wpAny (model prog w) A (exec (.Assign [.Name x px] v pos) env) (BP w Gl names env N M s f σ') E s:=λv hn h=>by
  revert h
  refine Mine.Br λp q1 h=>?_
  revert h
  refine Mine.FQ λσ₁ q2 h=>?_
  (refine NU h λe1 e2=>?_;clear h;subst e1 e2)
  exact wpAny_Assign_Name (J2 R hr S q1 λv s' N' M' S' T' rv=>D2 S' rv q2 λs₂ S₂ T₂=>⟨N',M',S₂,T'.trans T₂,trivial⟩) (J5 hn)
 have gen':∀v,(if B0 v then (K1 r names σ v).bind (MF names owned x) else none)=some (f,σ')->wpAny (model prog w) A (exec (.Assign [.Name x px] v pos) env) (BP w Gl names env N M s f σ') E s:=λv h=>by
  revert h
  refine BO λ_ h=>?_
  exact gen v (by assumption) h
 cases v with
 |List es lp=>
  unfold OQ at h
  dsimp only at h
  split at h
  ·split at h
   ·rename_i hc
    rw[Bool.and_eq_true,decide_eq_true_eq] at hc
    revert h
    refine Mine.Br λds q1 h=>?_
    revert h
    refine Mine.FQ λσ₁ q2 h=>?_
    (refine NU h λe1 e2=>?_;clear h;subst e1 e2)
    exact UB R hr S hc.1 hc.2 q1 q2
   ·exact Aa h
  ·exact gen _ rfl h
 |ListComp elt gens scope cpos=>
  cases gens with
  |nil=>exact Aa h
  |cons g gs=>
   unfold OQ at h
   dsimp only at h
   revert h
   refine Mine.Br λds q1 h=>?_
   revert h
   refine Mine.FQ λσ₁ q2 h=>?_
   (refine NU h λe1 e2=>?_;clear h;subst e1 e2)
   exact Iu R hr ht S q1 q2
 |_=>exact gen' _ h
set_option tactic.hygienic true
theorem UD {ts:List Expr} {c:Nat} {p pos:Pos} {xs:List Str} {v:Expr} {f:Fl} {σ':Sg} (R:AG k A) (hr:SE prog w w.params Gl k r.e) (S:SS w.params Gl env names N M σ s) (q0:AI ts=some xs) (h:OR r names owned σ ts xs v=some (f,σ')):
  wpAny (model prog w) A (exec (.Assign [.Tuple ts c p] v pos) env) (BP w Gl names env N M s f σ') E s:=by
 have gen:K6 v=none->(if B0 v then (K1 r names σ v).bind (Hi names owned xs) else none)=some (f,σ')->wpAny (model prog w) A (exec (.Assign [.Tuple ts c p] v pos) env) (BP w Gl names env N M s f σ') E s:=λhnt h=>by
  revert h
  refine BO λhn h=>?_
  revert h
  refine Mine.Br λp q1 h=>?_
  obtain ⟨d,σ₁⟩:=p
  rcases d with _|_<;>first|exact Aa h|skip
  rename_i ds
  revert h
  refine Mine.FQ λσ₂ q2 h=>?_
  (refine NU h λe1 e2=>?_;clear h;subst e1 e2)
  refine Assign_Tuple (J2 R hr S q1 λv s' N' M' S' T' rv=>?_) (show swapsWith v (some (.Tuple ts c p)) pos.line env=pure false from J5 hn) ?_
  ·have hb:AO names owned (.Tuple ts c p) (.tuple ds) σ₁=some σ₂:=by
    show (AI ts).bind (λxs=>EB names owned xs ds σ₁)=some σ₂
    rw[q0];exact q2
   exact Ln R.1 S' rv hb λs₂ S₂ T₂=>⟨N',M',S₂,T'.trans T₂,trivial⟩
  ·rcases v with _|_<;>first|rfl|cases hnt
 unfold OR at h
 cases q:K6 v with
 |none=>rw[q] at h;exact gen q h
 |some t=>
  rw[q] at h
  clear q gen
  obtain ⟨⟨vs,c2,p2⟩,rfl⟩:=t
  revert h
  refine BO λhsw h=>?_
  revert h
  refine Mine.Br λas q1 h=>Mine.om h λσ₁ q2 h=>?_
  (refine NU h λe1 e2=>?_;clear h;subst e1 e2)
  exact QP R hr S q0 hsw q1 q2
set_option tactic.hygienic false
theorem MR {v:Expr} {epos:Pos} {f:Fl} {σ':Sg} (R:AG k A) (hr:SE prog w w.params Gl k r.e) (S:SS w.params Gl env names N M σ s) (h:JV r names σ v=some (f,σ')):
  wpAny (model prog w) A (exec (.Expr v epos) env) (BP w Gl names env N M s f σ') E s:=by
 refine Mine.ob h λq _ h=>?_
 revert h
 refine BO λhk h=>Mine.ob h λa _ h=>Mine.ob h λx _ h=>?_
 revert h
 refine BO λhc=>?_
 simp only[Bool.and_eq_true,Bool.not_eq_true'] at hc
 revert hc
 refine Mine.T7 λhpos hd hloc=>?_
 have ev:∀m as,a.1.2.1=m->q.1.2.1=as->v=.Call (.Attribute (.Name x.1.1 x.1.2) m a.1.2.2) as [] q.1.2.2.2:=λm as h1 h2=>q.2.trans (IK (λf as ks=>Expr.Call f as ks q.1.2.2.2) (a.2.trans (Qo (λo m=>Expr.Attribute o m a.1.2.2) x.2 h1)) h2 (List.isEmpty_iff.mp hk))
 cases e:q.1.2.1 with
 |nil=>
  refine BO λhm h=>Mine.ob h λds q1 h=>Mine.ob h λd q2 h=>?_
  revert h
  refine i2 λhs h=>?_
  (refine NU h λe1 e2=>?_;clear h;subst e1 e2)
  exact Mine.wpE (congrArg (λv=>exec (.Expr v epos) env) (ev _ _ (eq_of_beq hm) e)) (UA S hd (by simpa using hpos) q1 (eq_of_beq hloc) q2 hs)
 |cons e0 es=>
  refine BO λhm h=>Mine.ob h λds q1 h=>Mine.ob h λd q2 h=>?_
  rw[Bool.and_eq_true,Bool.and_eq_true] at hm
  revert h
  refine i2 λhs h=>?_
  (refine NU h λe1 e2=>?_;clear h;subst e1 e2)
  exact Mine.wpE (congrArg (λv=>exec (.Expr v epos) env) (ev _ _ (eq_of_beq hm.2.1) (e.trans (congrArg (e0:: ·) (List.isEmpty_iff.mp hm.1))))) (MQ R hr S hd hm.2.2 (by simpa using hpos) q1 (eq_of_beq hloc) q2 hs)
set_option tactic.hygienic true
theorem O2 {ex:List Stmt->Sg->Option (Fl×Sg)} {fuel:Nat} (hr:SE prog w w.params Gl k r.e) (ht:ST prog w w.params Gl k r.t) (hx:SX prog w Gl k names ex):SO prog w Gl k names (CV Gl r names owned ex fuel):=by
 intro st σ f σ' h A E s N M env R S
 rcases st with _|_<;>first|(first|(exact Aa h)|(refine pj h λe1 e2=>?_;clear h;subst e1 e2))|skip
 ·
  rename_i v pos
  cases v with
  |none=>exact Aa h
  |some e=>
   unfold CV at h
   dsimp only at h
   simp only[Option.map_eq_some_iff] at h
   obtain ⟨⟨d,σ₁⟩,q,h⟩:=h
   (refine NU h λe1 e2=>?_;clear h;subst e1 e2)
   exact wpAny_Return_some (J2 R hr S q λv s' N' M' S' T' rv=>⟨N',M',S',T',rv⟩)
 ·
  rename_i ts v pos
  rcases ts with _|⟨t,_|⟨t2,ts⟩⟩<;>first|(exact Aa h;done)|skip
  rcases t with _|_<;>first|exact Aa h|skip
  ·exact UC R hr ht S h
  ·rename_i ts c p
   unfold CV at h
   dsimp only at h
   cases q0:AI ts with
   |none=>rw[q0] at h;exact Aa h
   |some xs=>rw[q0] at h;exact UD R hr S q0 h
 ·
  rename_i t op v pos
  rcases t with _|_<;>first|exact Aa h|skip
  rename_i x px
  unfold CV at h
  dsimp only at h
  revert h
  refine Mine.Br λold q1 h=>?_
  revert h
  refine BO λhc h=>?_
  simp only[Bool.and_eq_true,beq_iff_eq] at hc
  revert h
  refine Mine.Br λp q2 h=>?_
  obtain ⟨d,σ₁⟩:=p
  revert h
  refine Mine.Br λc q3 h=>?_
  split at h
  ·rename_i hsc
   revert h
   refine Mine.FQ λσ₂ q4 h=>?_
   (refine NU h λe1 e2=>?_;clear h;subst e1 e2)
   refine wpAny_AugAssign_Name (FW S.vw q1 λov rov=>J2 R hr S q2 λu s' N' M' S' T' ru=>?_)
   refine iv (Ye S'.has (Hr hc.1 rov) ru q3) λv₂ s₂ N₂ x₂ r₂=>?_
   exact D2 (S'.ext x₂) r₂ q4 λs₃ S₃ T₃=>⟨N₂,M',S₃,(T'.trans (Tr.of_ext x₂)).trans T₃,trivial⟩
  ·exact Aa h
 ·
  rename_i t it body orelse pos
  unfold CV at h
  dsimp only at h
  revert h
  refine Mine.Br λds q1 h=>?_
  refine Mine.S9 (J0 (E:=E) R hr S.vw q1) λhfold tup htup D5=>?_
  refine wpAny_For (wpAny_mono D5 (λx s₁ h₁=>wpAny_mono h₁ (λi s₂ h₂=>?_) λZ Z e=>e) λZ Z e=>e) hfold
  revert h₂
  refine Mine.dD λN₂ I fp wr St eq1 x₂ W st hf hw ho hl=>?_
  subst eq1
  have S₂:=S.ext x₂
  refine codeAny_mono (Uy R hx htup W (Nb:=N) (Mb:=M) (sb:=s) hw ds 0 σ σ' f N₂ M s₂ rfl (Nat.zero_le _) h S₂ (Tr.of_ext x₂) (λ_ h=>h) st ho λb hb hM=>?_) λres s' h=>?_
  ·rcases (hf b hb).2 with ⟨o,q⟩|q
   ·exact S₂.off _ q hM
   ·obtain ⟨o,ho⟩:=S.live b hM;rw[q] at ho;exact Aa ho
  ·revert h
   refine Mine.T0 λfl eq1 hb=>?_
   subst eq1
   exact hb
 ·
  exact wpAny_While (codeAny_mono (O1 R hx ht fuel σ σ' f N M s h S Tr.rfl') λres s' h=>by obtain ⟨fl,rfl,hb⟩:=h;exact hb)
 ·
  rename_i t body orelse pos
  unfold CV at h
  dsimp only at h
  revert h
  refine Mine.Br λb q1 h=>?_
  refine Mine.S0 S.full λO V hO=>?_
  refine wpAny_If (bI ht q1 R V λs₁ N₁ x=>?_)
  have y:=A1.of_keeps S.has x.keeps x.tk
  have S₁:=S.ext y
  cases b with
  |true=>
   rw[if_pos rfl] at h
   rw[if_pos rfl]
   refine TA (hx _ _ _ _ h A E s₁ N M env R S₁) λfl s₃ N' M' S' T' F'=>?_
   exact ⟨N',M',S',(Tr.of_ext y).trans T',F'⟩
  |false=>
   rw[if_neg Bool.false_ne_true] at h
   rw[if_neg Bool.false_ne_true]
   refine TA (hx _ _ _ _ h A E s₁ N M env R S₁) λfl s₃ N' M' S' T' F'=>?_
   exact ⟨N',M',S',(Tr.of_ext y).trans T',F'⟩
 ·
  rename_i body hs orelse fin pos
  unfold CV at h
  dsimp only at h
  revert h
  refine BO λhc h=>?_
  simp only[Bool.and_eq_true,Bool.not_eq_true',List.isEmpty_iff] at hc
  revert hc
  refine Mine.T7 λhne eq1 eq2=>?_
  subst eq1 eq2
  cases hs with
  |nil=>cases hne
  |cons hd hs=>
  refine wpAny_Try_except (wpAny_mono (hx _ _ _ _ h A _ s N M env R S) (λfl s₁ h₁=>?_) λZ Z e=>e)
  rcases fl with _|_<;>first|exact wpAny_execs_nil h₁|exact h₁
 ·
  exact MR R hr S h
 ·exact wpAny_Pass ⟨N,M,S,Tr.rfl',trivial⟩
 ·exact wpAny_Break ⟨N,M,S,Tr.rfl',trivial⟩
 ·exact wpAny_Continue ⟨N,M,S,Tr.rfl',trivial⟩
set_option tactic.hygienic false
theorem QQ {XS:Stmt->Sg->Option (Fl×Sg)} {ex:List Stmt->Sg->Option (Fl×Sg)} {fuel:Nat} (hr:SE prog w w.params Gl k r.e) (ht:ST prog w w.params Gl k r.t) (hXS:SO prog w Gl k names XS) (hx:SX prog w Gl k names ex):
  SO prog w Gl k names (IQ Gl r names owned XS ex fuel):=by
 intro st σ f σ' h
 unfold IQ at h
 split at h
 ·exact hXS st σ f σ' h
 ·exact O2 hr ht hx st σ f σ' h
theorem Yg {st:Stmt->Sg->Option (Fl×Sg)} (hs:SO prog w Gl k names st):SX prog w Gl k names (ZF st):=by
 intro sts
 induction sts with
 |nil=>
  intro σ f σ' h A E s N M env R S
  (refine pj h λe1 e2=>?_;clear h;subst e1 e2)
  exact wpAny_execs_nil ⟨N,M,S,Tr.rfl',trivial⟩
 |cons x sts ih=>
  intro σ f σ' h A E s N M env R S
  unfold ZF at h
  revert h
  refine Mine.Br λp q h=>?_
  obtain ⟨f₁,σ₁⟩:=p
  refine wpAny_execs_cons (TA (hs _ _ _ _ q A E s N M env R S) λfl s₁ N₁ M₁ S₁ T₁ F₁=>?_)
  have stop:f₁≠.next->f=f₁/\σ'=σ₁->BP w Gl names env N M s f σ' fl s₁:=λZ e=>by obtain ⟨rfl,rfl⟩:=e;exact ⟨N₁,M₁,S₁,T₁,F₁⟩
  cases f₁ with
  |next=>
   rcases fl with _|_<;>first|exact F₁.elim|skip
   refine TA (ih σ₁ f σ' h A E s₁ N₁ M₁ env R S₁) λfl s₂ N' M' S' T' F'=>?_
   exact ⟨N',M',S',T₁.trans T',F'⟩
  |brk=>(refine pj h λe1 e2=>?_;clear h;subst e1 e2);rcases fl with _|_<;>first|exact F₁.elim|exact ⟨N₁,M₁,S₁,T₁,F₁⟩
  |cont=>(refine pj h λe1 e2=>?_;clear h;subst e1 e2);rcases fl with _|_<;>first|exact F₁.elim|exact ⟨N₁,M₁,S₁,T₁,F₁⟩
  |ret d=>(refine pj h λe1 e2=>?_;clear h;subst e1 e2);rcases fl with _|_<;>first|exact F₁.elim|exact ⟨N₁,M₁,S₁,T₁,F₁⟩
theorem MS {XS:Stmt->Sg->Option (Fl×Sg)} {fuel:Nat} (hr:SE prog w w.params Gl k r.e) (ht:ST prog w w.params Gl k r.t) (hXS:SO prog w Gl k names XS):∀n,SX prog w Gl k names (PX Gl r names owned XS fuel n)
 |0=>λZ Z Z Z h=>(nomatch h)
 |n+1=>Yg (QQ hr ht hXS (MS hr ht hXS n))
end
structure QR (fd:FuncData) (body:List Stmt) (names:List (Str×NameKind)) (xs:List Str):Prop where
 body:fd.body=.stmts body
 co:fd.scope.isCoroutine=false
 gen:fd.scope.isGenerator=false
 kind:fd.scope.kind=.function
 nm:fd.scope.names=names
 glob:fd.globals=mainGlobals
 clo:fd.closure=[]
 blt:fd.builtins=builtinsNs
 loc:(xs.all λx=>names.lookup x==some .local)=true
 nodup:xs.Nodup
section
variable {prog:Program} {w:World} {A:Around} {E:Value->Shared->Prop} {s s':Shared} {N N':Az} {M:Addr->Prop} {Gl:List (Str×D)} {k:Nat} {env:Env} {names:List (Str×NameKind)} {σ:Sg} {r:CA} {owned:List Str}
theorem AG.deeper {k:Nat} {A:Around} (r:AG (k+1) A) (env:Env):AG k (A.deeper env):=⟨r.1,by show A.depth+1+k<_;have:=r.2.1;lia,by show A.units+3+100+8*k<_;have:=r.2.2;lia⟩
theorem Hv {Pa:Params} {kindOf:Str->Option NameKind}:∀ (xs:List Str) (vs:List Value) (m:Str->Option Value),(∀x∈xs,kindOf x=some .local)->bindL kindOf (xs.zip vs) m=Li xs vs m
 |[],_,_,_=>rfl
 |x::xs,[],_,_=>rfl
 |x::xs,v::vs,m,h=>by
  rw[List.zip_cons_cons,bindL,Gw,if_pos (h x (.head _))]
  exact Hv (Pa:=Pa) xs vs _ λy hy=>h y (.tail _ hy)
theorem Yh {ex:List Stmt->Sg->Option (Fl×Sg)} {fa:Addr} {o:Obj} {fd:FuncData} {body:List Stmt} {xs:List Str} {vs:List Value} {ds:List D} {d:D} {σ':Sg} (Df:QR fd body names xs) (hx:SX prog w Gl k names ex) (hdata:o.data=.func fd) (hN:(fa,o)∈N)
  (hcd:s.heap.CodeRec fd.code fd.qualname) (hbind:∀ (Q:List (Str×Value)->Shared->Prop) (E:Value->Shared->Prop),(∀s₁ N₁ vs₁,A1 N s N₁ s₁->Ar w.params N₁ vs₁ ds->Q (xs.zip vs₁) s₁)->wpAny (model prog w) A.in1 (bindArgs fd ⟨vs,[]⟩) Q E s) (T:Tp w.params Gl N s) (R:AG (k+1) A)
  (h:ex body ⟨xs.zip ds,[],[]⟩=some (.ret d,σ')):wpAny (model prog w) A (call (.ref fa) vs) (Gv w.params N s d) E s:=by
 refine wpAny_call (codeAny_call_function (by have:=R.2.1;lia) (T.has _ hN) hdata Df.co Df.gen Df.body hcd (hbind _ _ λs₀ N₀ vs₀ x₀ rs=>?_))
 have T:=T.ext x₀
 rw[Df.clo]
 have hloc:∀x∈xs,fd.scope.names.lookup x=some .local:=λx hx=>by
  have:=List.all_eq_true.mp Df.loc x hx
  rw[Df.nm];exact eq_of_beq this
 refine AV (wpAny_newFunctionEnv_cells Df.kind (λp hp=>.inl (hloc _ (List.of_mem_zip hp).1)) λenv he s₁ hI htk=>?_)
 have hkind:∀x,env.kindOf x=names.lookup x:=λx=>by rw[he];show fd.scope.names.lookup x=_;rw[Df.nm]
 have hkl:∀x∈xs,env.kindOf x=some .local:=λx hx=>by rw[hkind,<-Df.nm];exact hloc x hx
 have hb:=Hv (Pa:=w.params) (kindOf:=env.kindOf) xs vs₀ (λZ=>none) hkl
 have keep:=hI.toInCall.keep
 have hns:=hI.toInCall.ns
 rw[hb] at hns
 have hcells:env.cells=cellsFrom (s₀.heap.objs.size+1) fd.scope.names []:=by rw[he];rfl
 refine ⟨(T.top s₁.heap λp hp=>keep _ _ (T.has p hp)).2.1,codeAny_func ?_⟩
 have S:SS w.params Gl env names N₀ (λb=>b=env.locals\/∃x,names.lookup x=some .cell/\env.cells.lookup x=some b) ⟨xs.zip ds,[],[]⟩ s₁:=by
  refine ⟨by rw[he];exact Df.kind,by rw[he];exact Df.nm,by rw[he];exact Df.glob,by rw[he];exact Df.blt,λp hp=>keep _ _ (T.has p hp),Nat.lt_of_lt_of_le T.tk htk,T.top,λp hp hM=>?_,.inl rfl,λb hM=>?_,λx e=>?_,λx d e=>(by exact Aa e),λx y c e1 e2 h1 h2=>?_,_,[],hns,λp hp=>(by cases hp),λx d e=>J1 xs vs₀ ds _ x d Df.nodup rs e,λx ds e=>(by exact Aa e),λx y ds es a e=>(by exact Aa e)⟩
  ·have hp':p.1<s₀.heap.objs.size:=Heap.lt_size (T.has p hp)
   have hL:=hI.toInCall.fresh
   rcases hM with h|⟨x,_,h⟩
   ·rw[h] at hp';exact Nat.lt_irrefl _ (Nat.lt_of_lt_of_le hp' hL)
   ·have:=hI.above x p.1 (mem_of_lookup h)
    exact Nat.lt_irrefl _ (Nat.lt_trans (Nat.lt_of_lt_of_le hp' hL) this)
  ·rcases hM with rfl|⟨x,_,h⟩
   ·obtain ⟨o,_,_,ho,_⟩:=hns;exact ⟨o,ho⟩
   ·obtain ⟨o,ho,_⟩:=hI.cell x b h;exact ⟨o,ho⟩
  ·have hs:((cellsFrom (s₀.heap.objs.size+1) fd.scope.names []).lookup x).isSome=true:=cellsFrom_some _ _ _ (.inl (by rw[Df.nm];exact e))
   rw[<-hcells] at hs
   obtain ⟨c,hc⟩:=Option.isSome_iff_exists.mp hs
   exact ⟨c,_,hc,hI.cell x c hc,.inr ⟨x,e,hc⟩⟩
  ·exact name_of_addr hI.apart (mem_of_lookup h1) (mem_of_lookup h2)
 refine TA (hx _ _ _ _ h (A.deeper env) _ s₁ N₀ _ env (R.deeper env) S) λfl s₂ N' M' S' T' F'=>?_
 rcases fl with _|_<;>first|exact F'.elim|skip
 have hf:∀b,(b=env.locals\/∃x,names.lookup x=some .cell/\env.cells.lookup x=some b)->s₀.heap.get? b=Option.none:=λb hM=>by
  cases q:s₀.heap.get? b with
  |none=>rfl
  |some o=>
   have hp':b<s₀.heap.objs.size:=Heap.lt_size q
   have hL:=hI.toInCall.fresh
   rcases hM with h|⟨x,_,h⟩
   ·rw[h] at hp';exact (Nat.lt_irrefl _ (Nat.lt_of_lt_of_le hp' hL)).elim
   ·have:=hI.above x b (mem_of_lookup h)
    exact (Nat.lt_irrefl _ (Nat.lt_trans (Nat.lt_of_lt_of_le hp' hL) this)).elim
 have kp:∀b o,s₀.heap.get? b=some o->s₂.heap.get? b=some o:=λb o e=>T'.kp b o (λhM=>by rw[hf b hM] at e;exact Aa e) (keep b o e)
 refine Mine.S2 hI.toInCall.same λh1 t1 eq1=>?_
 subst eq1
 refine Mine.S2 T'.sh λh2 t2 eq1=>?_
 subst eq1
 refine ⟨N',x₀.trans ⟨⟨h2,t2,rfl,kp⟩,Nat.le_trans htk T'.tk,T'.sub,S'.has,λp hp=>?_⟩,F'⟩
 rcases T'.new p hp with h|h|h
 ·exact .inl h
 ·exact .inr (Aw keep h)
 ·exact .inr (hf _ h)
end
structure DT where
 fa:Addr
 ix:Nat
 ca:Addr
 owned:List Str:=[]
 two:Bool:=false
noncomputable def DT.body (e:DT):List Stmt:=(JR top e.ix).2.1
noncomputable def DT.names (e:DT):List (Str×NameKind):=(JR top e.ix).2.2.names
noncomputable def DT.xs (e:DT):List Str:=(JR top e.ix).1.args.map (·.arg)++((JR top e.ix).1.vararg.map (·.arg)).toList
noncomputable def DT.args (e:DT) (as:List D):Option (List D):=
 if e.two then (match as with
  |[a,b]=>some [a,.tuple [b]]
  |_=>none)
 else if as.length=e.xs.length then some as else none
noncomputable def PY:List DT:=[⟨66,14,65,[],false⟩,⟨74,15,73,[],false⟩,⟨86,19,85,[],false⟩,⟨93,20,92,[],false⟩,⟨166,29,165,[],false⟩,⟨180,33,179,[],false⟩,⟨187,34,186,[],true⟩,⟨194,35,193,[],false⟩,
 ⟨201,36,200,[],false⟩,⟨208,37,207,["new_comps"],false⟩,⟨213,38,212,[],false⟩,⟨220,40,219,[],false⟩,⟨227,41,226,[],false⟩,⟨234,49,233,[],false⟩,⟨274,63,273,["perm"],false⟩,
 ⟨281,65,280,[],false⟩,⟨288,66,287,[],false⟩,⟨295,67,294,[],false⟩,⟨302,68,301,["modes","parts"],false⟩,⟨309,69,308,["left"],false⟩,⟨316,70,315,[],false⟩,
 ⟨321,71,320,["places"],false⟩,⟨328,72,327,["places"],false⟩,⟨335,73,334,[],false⟩,⟨340,74,339,[],false⟩]
noncomputable def Di (P:Params) (fd:FuncData) (e:DT):Prop:=∀ (M:Model) (A:Around) (s:Shared) (N:Az) (vs:List Value) (as ds:List D),Cn N s->(KK P).In s.heap->e.args as=some ds->Ar P N vs as->
 ∀ (Q:List (Str×Value)->Shared->Prop) (E:Value->Shared->Prop),(∀s₁ N₁ vs₁,A1 N s N₁ s₁->Ar P N₁ vs₁ ds->Q (e.xs.zip vs₁) s₁)->wpAny M A (bindArgs fd ⟨vs,[]⟩) Q E s
structure Lq (P:Params) (e:DT):Prop where
 ex:∃o fd co fs t,(e.fa,o)∈KK P/\o.data=.func fd/\QR fd e.body e.names e.xs/\(e.ca,co)∈KK P/\fd.code=.ref e.ca/\co.data=.fields fs/\fs[1]?=some (.str fd.qualname t)/\Di P fd e
theorem D3 {P:Params} {fd:FuncData} {e:DT} (h2:e.two=false) (hb:∀ (vs:List Value),vs.length=e.xs.length->∀s:Shared,(KK P).In s.heap->BindsTo s fd ⟨vs,[]⟩ (e.xs.zip vs)):Di P fd e:=by
 intro M A s N vs as ds hN K ha r Q E hq
 unfold DT.args at ha
 rw[h2] at ha
 simp only[Bool.false_eq_true,if_false] at ha
 revert ha
 refine BO λhl ha=>?_
 (replace ha:=Option.some.inj ha;subst ha)
 exact hb vs (by rw[r.length,hl]) s K M A E Q (hq s N vs (A1.rfl' hN) r)
theorem WH {Pa:Params} {N:Az} {s:Shared} (h:Cn N s) (k:∀p∈KK Pa,p∈N):(KK Pa).In s.heap:=λa o e=>by
 have:(a,o)∈KK Pa:=by
  have hm:=List.lookup_eq_some_iff.mp e
  revert hm
  refine Mine.T1 λl1 l2 h _=>?_
  rw[h];simp
 exact h _ (k _ this)
noncomputable def Dx (o:Obj):FuncData:=match o.data with| .func fd=>fd|_=>default
noncomputable def Yi (o:Obj):Array Value:=match o.data with| .fields fs=>fs|_=>#[]
noncomputable def bK (v:Option Value):Tok:=match v with|some (.str _ t)=>t|_=>0
theorem bL {α:Type} {vs:List α} (h:vs.length=1):∃v,vs=[v]:=List.length_eq_one_iff.mp h
theorem UE {α:Type} {vs:List α} (h:vs.length=2):∃v u,vs=[v,u]:=by
 cases vs with
 |nil=>cases h
 |cons v vs=>obtain ⟨u,rfl⟩:=bL (Nat.succ.inj h);exact ⟨v,u,rfl⟩
theorem eM {α:Type} {vs:List α} (h:vs.length=3):∃v u t,vs=[v,u,t]:=by
 cases vs with
 |nil=>cases h
 |cons v vs=>obtain ⟨u,t,rfl⟩:=UE (Nat.succ.inj h);exact ⟨v,u,t,rfl⟩
theorem UF {fd:FuncData} {x:Str} {P:Params} {e:DT} (h2:e.two=false) (hx:e.xs=[x]) (h:∀v,bindArgs fd ⟨[v],[]⟩=pure [(x,v)]):Di P fd e:=
 D3 h2 λvs hl s K=>by
  rw[hx] at hl ⊢
  obtain ⟨v,rfl⟩:=bL hl
  exact BindsTo.of_eq (h v)
theorem UG {fd:FuncData} {x y:Str} {P:Params} {e:DT} (h2:e.two=false) (hx:e.xs=[x,y]) (h:∀v u,bindArgs fd ⟨[v,u],[]⟩=pure [(x,v),(y,u)]):Di P fd e:=
 D3 h2 λvs hl s K=>by
  rw[hx] at hl ⊢
  refine Mine.S2 (UE hl) λv u eq1=>?_
  subst eq1
  exact BindsTo.of_eq (h v u)
theorem O3 {fd:FuncData} {x y z:Str} {P:Params} {e:DT} (h2:e.two=false) (hx:e.xs=[x,y,z]) (h:∀v u t,bindArgs fd ⟨[v,u,t],[]⟩=pure [(x,v),(y,u),(z,t)]):Di P fd e:=
 D3 h2 λvs hl s K=>by
  rw[hx] at hl ⊢
  refine Mine.il (eM hl) λv u t eq1=>?_
  subst eq1
  exact BindsTo.of_eq (h v u t)
theorem Dj {P:Params} {a:Addr} {o:Obj} (e:(KK P).lookup a=some o):(a,o)∈KK P:=by
 refine Mine.S1 (List.lookup_eq_some_iff.mp e) λl1 l2 h _=>?_
 rw[h];simp
noncomputable def pa (o:Obj) (i:Nat):Str:=((Dx o).params.args.map (·.arg)).getD i default
theorem Bi {P:Params} {e:DT} (o co:Obj) (hb:Di P (Dx o) e) (h1:(KK P).lookup e.fa=some o:=by kernel_rfl) (h2:o.data=.func (Dx o):=by kernel_rfl) (h3:(KK P).lookup e.ca=some co:=by kernel_rfl) (h4:(Dx o).code=.ref e.ca:=by kernel_rfl) (h5:co.data=.fields (Yi co):=by kernel_rfl) (h6:(Yi co)[1]?=some (.str (Dx o).qualname (bK (Yi co)[1]?)):=by kernel_rfl)
  (h7:(Dx o).body=.stmts e.body:=by kernel_rfl) (h8:((Dx o).scope.isCoroutine,(Dx o).scope.isGenerator,(Dx o).scope.kind,(Dx o).globals,(Dx o).closure,(Dx o).builtins)=(false,false,.function,mainGlobals,[],builtinsNs):=by kernel_rfl) (h9:(Dx o).scope.names=e.names:=by kernel_rfl)
  (hl:(e.xs.all λx=>e.names.lookup x==some .local)=true:=by decide+kernel) (hn:e.xs.Nodup:=by decide+kernel):Lq P e:=by
 simp only[Prod.mk.injEq] at h8
 exact ⟨o,_,co,_,_,Dj h1,h2,⟨h7,h8.1,h8.2.1,h8.2.2.1,h9,h8.2.2.2.1,h8.2.2.2.2.1,h8.2.2.2.2.2,hl,hn⟩,Dj h3,h4,h5,h6,hb⟩
theorem K2 {P:Params} {e:DT} (o:Obj) (hx:e.xs=[pa o 0]:=by kernel_rfl) (h:∀v,bindArgs (Dx o) ⟨[v],[]⟩=pure [(pa o 0,v)]:=by intro v;kernel_rfl) (h2:e.two=false:=by rfl):Di P (Dx o) e:=UF h2 hx h
theorem dG {P:Params} {e:DT} (o:Obj) (hx:e.xs=[pa o 0,pa o 1]:=by kernel_rfl) (h:∀v u,bindArgs (Dx o) ⟨[v,u],[]⟩=pure [(pa o 0,v),(pa o 1,u)]:=by intro v u;kernel_rfl) (h2:e.two=false:=by rfl):Di P (Dx o) e:=UG h2 hx h
theorem iT {P:Params} {e:DT} (o:Obj) (hx:e.xs=[pa o 0,pa o 1,pa o 2]:=by kernel_rfl) (h:∀v u t,bindArgs (Dx o) ⟨[v,u,t],[]⟩=pure [(pa o 0,v),(pa o 1,u),(pa o 2,t)]:=by intro v u t;kernel_rfl) (h2:e.two=false:=by rfl):Di P (Dx o) e:=O3 h2 hx h
theorem UH (P:Params):Di P (Dx ZQ) ⟨74,15,73,[],false⟩:=D3 rfl λvs hl s K=>by
 have hx:DT.xs ⟨74,15,73,[],false⟩=[Str.ofString "header_bytes",Str.ofString "charset"]:=by kernel_rfl
 rw[hx] at hl ⊢
 refine Mine.S2 (UE hl) λv u eq1=>?_
 subst eq1
 exact kp_binds K λS=>(by kernel_rfl)
set_option tactic.hygienic true
theorem O4 (P:Params):Di P (Dx ON) ⟨187,34,186,[],true⟩:=by
 intro M A s N vs as ds hN K ha r Q E hq
 have hx:DT.xs ⟨187,34,186,[],true⟩=[Str.ofString "a",Str.ofString "p"]:=by kernel_rfl
 rw[hx] at hq
 have hl:as.length=2:=by
  rcases as with _|⟨a,_|⟨b,_|⟨c,as⟩⟩⟩<;>first|rfl|exact Aa ha
 refine Mine.S2 (UE hl) λa b eq1=>?_
 subst eq1
 (replace ha:=Option.some.inj ha;subst ha)
 cases r with
 |cons r1 r=>
  cases r with
  |cons r2 r=>
   cases r
   rename_i v u
   have e:bindArgs (Dx ON) ⟨[v,u],[]⟩=newTuple [u]>>=λt=>pure [(Str.ofString "a",v),(Str.ofString "p",t)]:=by kernel_rfl
   rw[e]
   refine wpAny_bind (wpAny_newTuple (wpAny_pure ?_) (Nat.le_of_ble_eq_true rfl))
   have y:=A1.push hN (Bs [u] 0) s.toks
   exact hq _ _ [v,_] y (.cons (y.rel r1) (.cons (.tuple (.head _) (by simp[Ap]) (.cons (y.rel r2) .nil)) .nil))
set_option tactic.hygienic false
theorem fc {P:Params} {a:DT} {l:List DT} (h:Lq P a) (k:∀e∈l,Lq P e):∀e∈a::l,Lq P e:=List.forall_mem_cons.mpr ⟨h,k⟩
theorem QS (P:Params):∀e∈PY,Lq P e:=fc (Bi ZP du (K2 ZP))<|fc (Bi ZQ dw (UH P))<|fc (Bi ZE dy (K2 ZE))<|fc (Bi ZS dz (K2 ZS))<|fc (Bi P1 TJ (K2 P1))<|fc (Bi P2 TK (K2 P2))<|fc (Bi ON TL (O4 P))<|fc (Bi P3 TM (K2 P3))<|fc (Bi P4 TN (K2 P4))<|fc (Bi P5 TO (K2 P5))<|fc (Bi P6 TP (K2 P6))<|fc (Bi P7 TQ (K2 P7))<|fc (Bi P8 TR (K2 P8))<|fc (Bi P9 TS (K2 P9))<|fc (Bi Qa TT (K2 Qa))<|fc (Bi Qb TU (K2 Qb))<|fc (Bi Qc TV (K2 Qc))<|fc (Bi Qd TW (K2 Qd))<|fc (Bi Qe TX (K2 Qe))<|fc (Bi Qf TY (dG Qf))<|fc (Bi Qg TZ (dG Qg))<|fc (Bi Qh T6 (dG Qh))<|fc (Bi Qi T8 (iT Qi))<|fc (Bi Qj Ua (dG Qj))<|fc (Bi Qk Ub (K2 Qk))<|nofun
noncomputable abbrev Bt:=D->List D->Option D
noncomputable abbrev MT:=D->Str->List D->Option D
noncomputable def F2 (f:D):Option DT:=
 match f with
 | .val v=>(match v with
  | .ref a=>PY.find? (·.fa==a)
  |_=>none)
 |_=>none
noncomputable def N5 (x:Option (Fl×Sg)):Option D:=
 match x with
 |some p=>(match p.1 with
  | .ret d=>some d
  |_=>none)
 |none=>none
section
variable (Gl:List (Str×D)) (Ak:Bt->MT) (XF:Bt->XE) (XSF:CA->List (Str×NameKind)->List Str->Stmt->Sg->Option (Fl×Sg))
noncomputable def BV (app lower:Bt):CA:=Dd Gl app (Ak lower) (XF lower) 40
noncomputable def Yj (r:CA) (e:DT):List Stmt->Sg->Option (Fl×Sg):=PX Gl r e.names e.owned (XSF r e.names e.owned) 100 40
noncomputable def EI (app lower:Bt) (e:DT) (as:List D):Option D:=
 (e.args as).bind λds=>N5 (Yj Gl XSF (BV Gl Ak XF app lower) e e.body ⟨e.xs.zip ds,[],[]⟩)
end
section
variable {w:World} {Gl:List (Str×D)} {Ak:Bt->MT} {XF:Bt->XE} {XSF:CA->List (Str×NameKind)->List Str->Stmt->Sg->Option (Fl×Sg)}
noncomputable def IW (w:World) (Gl:List (Str×D)) (k:Nat) (lower:Bt):Prop:=∀f as d,lower f as=some d->∃j,k=j+1/\Fi pw w w.params Gl j lower
theorem Lr {x:Option (Fl×Sg)} {d:D} (h:N5 x=some d):∃σ,x=some (.ret d,σ):=by
 cases x with
 |none=>exact Aa h
 |some p=>
  obtain ⟨f,σ⟩:=p
  rcases f with _|_<;>first|(first|(exact Aa h)|(replace h:=Option.some.inj h;subst h))|skip
  exact ⟨σ,rfl⟩
set_option tactic.hygienic true
theorem Hw {f:D} {e:DT} (h:F2 f=some e):f=.val (.ref e.fa)/\e∈PY:=by
 rcases f with _|_<;>first|exact Aa h|skip
 rename_i v
 rcases v with _|_<;>first|exact Aa h|skip
 rename_i a
 replace h:PY.find? (·.fa==a)=some e:=h
 have h1:=List.find?_some h
 exact ⟨by rw[eq_of_beq h1],List.mem_of_find?_eq_some h⟩
set_option tactic.hygienic false
end
noncomputable def Et (as:List D) (g:D->Option D):Option D:=
 match as with
 |[]=>none
 |a::r=>if r.isEmpty then g a else none
noncomputable def two (as:List D) (g:D->D->Option D):Option D:=
 match as with
 |[]=>none
 |a::r=>Et r (g a)
theorem EJ {as:List D} {g:D->Option D} {d:D} (h:Et as g=some d):∃a,as=[a]/\g a=some d:=by
 cases as with
 |nil=>exact Aa h
 |cons a r=>
  unfold Et at h
  dsimp only at h
  revert h
  refine BO λhr h=>?_
  rw[List.isEmpty_iff] at hr
  subst hr
  exact ⟨a,rfl,h⟩
theorem Fw {as:List D} {g:D->D->Option D} {d:D} (h:two as g=some d):∃a b,as=[a,b]/\g a b=some d:=by
 cases as with
 |nil=>exact Aa h
 |cons a r=>
  refine Mine.S0 (EJ (show Et r (g a)=some d from h)) λb eq1 h=>?_
  subst eq1
  exact ⟨a,b,rfl,h⟩
noncomputable def bM:D->Option D
 | .list ds=>some (.int ds.length)
 | .str s=>some (.int s.length)
 |_=>none
noncomputable def Yk:D->Option D
 | .str s=>if s.length=1 then some (.int (s.headD 0:Nat)) else none
 |_=>none
noncomputable def Yl:D->Option D
 | .int i=>if 0<=i/\i<1000 then some (.str [i.toNat]) else none
 |_=>none
noncomputable def N6:D->Option D
 | .str _=>some (.val (.type "str"))
 |_=>none
noncomputable def Ym:D->D->Option D
 | .str _,.val (.type t)=>if t="bytes" then some (.bool false) else none
 |_,_=>none
noncomputable def Fx:List D->Option (List Int)
 |[]=>some []
 | .int i::r=>(Fx r).map (i:: ·)
 |_=>none
noncomputable def MU:D->Option D
 | .list ds=>(Fx ds).bind λns=>if ns.all (λn=>decide (0<=n)&&decide (n<256)) then some (.bytes (byteArr ns)) else none
 |_=>none
section
variable {w:World} {A:Around} {E:Value->Shared->Prop} {s:Shared} {N:Az} {v u:Value} {vs:List Value} {a b d:D} {as:List D}
theorem EK {P:Params} (r:Ar P N vs [a]):∃v,vs=[v]/\Ax P N v a:=by
 cases r with
 |cons h r=>cases r;exact ⟨_,rfl,h⟩
theorem DO {P:Params} (r:Ar P N vs [a,b]):∃v u,vs=[v,u]/\Ax P N v a/\Ax P N u b:=by
 cases r with
 |cons h r=>obtain ⟨u,rfl,h2⟩:=EK r;exact ⟨_,_,rfl,h,h2⟩
theorem Hx (c:String->Value) {t n:String} {g:D->Option D} (e:t=n) (ok:∀v a,Ax w.params N v a->g a=some d->wpAny (model pw w) A (call (c n) [v]) (Gv w.params N s d) E s) (h:Et as g=some d) (rs:Ar w.params N vs as):wpAny (model pw w) A (call (c t) vs) (Gv w.params N s d) E s:=by
 subst e
 obtain ⟨a,rfl,h⟩:=EJ h
 obtain ⟨v,rfl,r⟩:=EK rs
 exact ok v a r h
theorem QT (c:String->Value) {t n:String} {g:D->D->Option D} (e:t=n) (ok:∀v u a b,Ax w.params N v a->Ax w.params N u b->g a b=some d->wpAny (model pw w) A (call (c n) [v,u]) (Gv w.params N s d) E s) (h:two as g=some d) (rs:Ar w.params N vs as):wpAny (model pw w) A (call (c t) vs) (Gv w.params N s d) E s:=by
 subst e
 obtain ⟨a,b,rfl,h⟩:=Fw h
 obtain ⟨v,u,rfl,r,r'⟩:=DO rs
 exact ok v u a b r r' h
set_option tactic.hygienic true
theorem Yn (hN:Cn N s) (rv:Ax w.params N v a) (h:bM a=some d):wpAny (model pw w) A (call (.builtin "len") [v]) (Gv w.params N s d) E s:=by
 rcases a with _|_<;>first|(first|(exact Aa h)|(replace h:=Option.some.inj h;subst h))|skip
 ·rename_i x
  refine Mine.S0 rv.strOf λt eq1 hx=>?_
  subst eq1
  have:=len_str (prog:=pw) (w:=w) (A:=A) (E:=E) (s:=s) (x:=S x) (t:=t) (Q:=Gv w.params N s (.int x.length)) (by rw[Ba];unfold Ap at hx;lia) (by rw[Ba];exact B3 hN _ _ _)
  exact this
 ·rename_i ds
  refine Mine.S4 rv.listOf λl us n eq1 m hl r=>?_
  subst eq1
  refine call_len_list (AM hN m) (by simp;unfold Ap at hl;lia) ?_
  have:(us.toArray.size:Int)=ds.length:=by simp[r.length]
  rw[this]
  exact B3 hN _ _ _
theorem Yo (hN:Cn N s) (rv:Ax w.params N v a) (h:Yk a=some d):wpAny (model pw w) A (call (.builtin "ord") [v]) (Gv w.params N s d) E s:=by
 rcases a with _|_<;>first|exact Aa h|skip
 rename_i x
 refine Mine.S0 rv.strOf λt eq1 hx=>?_
 subst eq1
 unfold Yk at h
 dsimp only at h
 revert h
 refine BO λhl h=>?_
 obtain ⟨c,rfl⟩:=List.length_eq_one_iff.mp hl
 (replace h:=Option.some.inj h;subst h)
 exact P.ord_of_char (B3 hN _ _ _)
theorem Yp (hN:Cn N s) (rv:Ax w.params N v a) (h:Yl a=some d):wpAny (model pw w) A (call (.builtin "chr") [v]) (Gv w.params N s d) E s:=by
 rcases a with _|_<;>first|exact Aa h|skip
 rename_i i
 obtain ⟨t,rfl⟩:=rv.intOf
 unfold Yl at h
 dsimp only at h
 revert h
 refine BO λhi h=>?_
 (replace h:=Option.some.inj h;subst h)
 exact P.chr_of_int (by simp;lia) (Dg hN [i.toNat] (by simp[Ap]) _ _)
theorem O5 (hN:Cn N s) (rv:Ax w.params N v a) (h:N6 a=some d):wpAny (model pw w) A (call (.type "type") [v]) (Gv w.params N s d) E s:=by
 rcases a with _|_<;>first|(first|(exact Aa h)|(replace h:=Option.some.inj h;subst h))|skip
 rename_i x
 refine Mine.S0 rv.strOf λt eq1 hx=>?_
 subst eq1
 exact call_type_of (typeIs_str _ _ _) (by decide+kernel) (Ce hN (.val _))
theorem Yq (hN:Cn N s) (rv:Ax w.params N v a) (ru:Ax w.params N u b) (h:Ym a b=some d):wpAny (model pw w) A (call (.builtin "isinstance") [v,u]) (Gv w.params N s d) E s:=by
 rcases a with _|_<;>first|exact Aa h|skip
 rcases b with _|_<;>first|exact Aa h|skip
 rename_i x u'
 rcases u' with _|_<;>first|exact Aa h|skip
 rename_i T
 refine Mine.S0 rv.strOf λt eq1 hx=>?_
 subst eq1
 obtain rfl:=ru.valOf
 unfold Ym at h
 dsimp only at h
 revert h
 refine BO λhT h=>?_
 subst hT
 (replace h:=Option.some.inj h;subst h)
 exact IsiPair.str_bytes ⟨N,A1.toks hN _,.bool _⟩
theorem Hy {P:Params}:∀ {ds:List D} {ns:List Int} {vs:List Value},Fx ds=some ns->Ar P N vs ds->IntsAre vs ns
 |[],ns,vs,h,r=>by (replace h:=Option.some.inj h;subst h);cases r;exact .nil
 |d::ds,ns,vs,h,r=>by
  rcases d with _|_<;>first|exact Aa h|skip
  rename_i i
  unfold Fx at h
  revert h
  refine Mine.FQ λms h h=>?_
  subst h
  cases r with
  |cons r1 r2=>
   obtain ⟨t,rfl⟩:=r1.intOf
   exact .cons _ _ (Hy h r2)
theorem QU (R:AG 0 A) (hN:Cn N s) (rv:Ax w.params N v a) (h:MU a=some d):wpAny (model pw w) A (call (.type "bytes") [v]) (Gv w.params N s d) E s:=by
 rcases a with _|_<;>first|exact Aa h|skip
 rename_i ds
 refine Mine.S4 rv.listOf λl us n eq1 m hl r=>?_
 subst eq1
 unfold MU at h
 dsimp only at h
 revert h
 refine Mine.Br λns q h=>?_
 revert h
 refine BO λhb h=>?_
 (replace h:=Option.some.inj h;subst h)
 have hi:=Hy q r
 have e:us.length=ns.length:=hi.length
 refine AV (call_bytes_ints (AM hN m) hi (λn hn=>by have:=List.all_eq_true.mp hb n hn;simpa using this) (Bb hl) R.1 λh' t k kp hk=>?_)
 refine ⟨N,A1.of_keeps hN ⟨h',k,rfl,kp⟩ hk,.bytes _ _ ?_⟩
 rw[byteArr_size,<-e];exact hl
set_option tactic.hygienic false
end
end Mine
namespace Mine
open PySem PySem.Calls PyProof.Rows PySem.W PySem.NumText
section
open Builtin
theorem Yr {id:String} {b:Array UInt8}:_codecs.decodeRoad id b (PySem.Str.ofString "latin1") none []=(_codecs.runDecoder id _codecs.latin1Decoder none true b 0 []>>=λr=>mkStr ⟨r.1⟩):=by kernel_rfl
theorem J6 {b:Array UInt8} {t t1 t2:Tok} {x:PySem.Str} {n:Nat} {d:PySem.Str} (hd:∀id,_codecs.runDecoder id _codecs.latin1Decoder none true b 0 []=pure (x.cps,n)):
  Meets («_codecs.decode.text» ⟨[.bytes b t,.str (PySem.Str.ofString "latin1") t1,.none,.str d t2],[]⟩) (λZ R s=>x.length<=sizeLine/\R (.ok (.ret (.str x s.toks))) {s with toks:=s.toks+1}):=by
 refine .of_wp λprog w A R s hS=>?_
 obtain ⟨hsz,h⟩:=hS
 show wpAny _ _ (Bytes.bytesLike _ (.bytes b t)>>=λr=>_) _ _ s
 refine wpAny_bind (wpAny_of_eq KBd.like_eq ?_)
 refine wpAny_bind (wpAny_of_eq KBd.held_eq ?_)
 show wpAny _ _ (_codecs.decodeRoad _ b (PySem.Str.ofString "latin1") none []>>=λv=>_) _ _ s
 rw[Yr,hd]
 refine wpAny_bind (wpAny_bind (wpAny_pure ?_))
 exact wpAny_mkStr (wpAny_pure ⟨_,rfl,h⟩) hsz
theorem J7 {c:UInt8} {cs:List UInt8} {t u:Tok}:«bytes.decode» ⟨[.bytes (c::cs).toArray t,.str (PySem.Str.ofString "latin1") u],[]⟩=(mkStr (PySem.Str.ofString "utf-8")>>=λZ=>mkStr (PySem.Str.ofString "latin1")>>=λe=>mkStr (PySem.Str.ofString "bytes.decode")>>=λd=>
 call (.builtin "_codecs.decode.text") [.bytes (c::cs).toArray t,e,.none,d]>>=λv=>ret v):=by kernel_rfl
theorem Hz {c:UInt8} {cs:List UInt8} {t u:Tok} {x:PySem.Str} {n:Nat} (hd:∀id,_codecs.runDecoder id _codecs.latin1Decoder none true (c::cs).toArray 0 []=pure (x.cps,n)):
  Meets («bytes.decode» ⟨[.bytes (c::cs).toArray t,.str (PySem.Str.ofString "latin1") u],[]⟩) (λZ R s=>x.length<=sizeLine/\∀t' k,R (.ok (.ret (.str x t'))) {s with toks:=k}):=by
 refine .of_wp λprog w A R s hS=>?_
 obtain ⟨hsz,h⟩:=hS
 rw[J7]
 refine wpAny_bind (wpAny_mkStr ?_ (by decide))
 refine wpAny_bind (wpAny_mkStr ?_ (by decide))
 refine wpAny_bind (wpAny_mkStr ?_ (by decide))
 exact wpAny_bind (call_function_meets KBd.kind_text KBd.plain_text KBd.entry_text (KBd.args_text _ _ _ _) (J6 hd) ⟨hsz,wpAny_pure ⟨_,rfl,h _ _⟩⟩)
theorem J8 (a b:Value):argsOk "bytes.decode" ⟨[a,b],[]⟩:=by unfold argsOk;kernel_rfl
theorem bO {id:String} {a b c d e f g h i j:UInt8}:_codecs.runDecoder id _codecs.latin1Decoder none true [a,b,c,d,e,f,g,h,i,j].toArray 0 []=pure ((S ([a,b,c,d,e,f,g,h,i,j].map (·.toNat))).cps,10):=by kernel_rfl
theorem Ls {w:World} {A:Around} {E:Value->Shared->Prop} {s:Shared} {Q:Value->Shared->Prop} {bs:List UInt8} {t u:Tok} (hl:bs.length=10) (h:∀t' k,Q (.str (S (bs.map (·.toNat))) t') {s with toks:=k}):
  wpAny (model pw w) A (call (.builtin "bytes.decode") [.bytes bs.toArray t,.str (PySem.Str.ofString "latin1") u]) Q E s:=by
 rcases bs with _|⟨a,_|⟨b,_|⟨c,_|⟨d,_|⟨e,_|⟨f,_|⟨g,_|⟨x,_|⟨i,_|⟨j,_|⟨k,bs⟩⟩⟩⟩⟩⟩⟩⟩⟩⟩⟩<;>first|cases hl|skip
 exact call_meets FB.slot_bytes_decode (typeIs_bytes _ _ _) FB.entry_bytes_decode (J8 _ _) (Hz λid=>bO) ⟨by show 10<=sizeLine;decide,h⟩
end
theorem O6 {M:Model} {A:Around} {E:Value->Shared->Prop} {s:Shared} {Q:Value->Shared->Prop} {v:Value} {text:List Nat} {n:Int}
  (hs:(text.takeWhile (·!=0)).length<=640) (hr:(int_private%"readNumeral") 0 16 (text.takeWhile (·!=0))=(int_private%"Numeral.value") n)
  (ha:((text.takeWhile (·!=0)).length==text.length)=true) (h:Q (.int n s.toks) {s with toks:=s.toks+1}):
  wpAny M A ((int_private%"intFromText") v text 16) Q E s:=by
 obtain ⟨hp,g,d,tk,os⟩:=s
 repeat (any_goals (first
  |assumption
  |(with_reducible refine wpAny_ite_true (decide_eq_true hs) ?_)
  |(with_reducible refine wpAny_ite_true (decide_eq_true ha) ?_)
  |wp_step))
 all_goals (try rw[hr])
 all_goals (try dsimp only)
 repeat (any_goals (first
  |assumption
  |(with_reducible refine wpAny_ite_true (decide_eq_true hs) ?_)
  |(with_reducible refine wpAny_ite_true (decide_eq_true ha) ?_)
  |wp_step))
set_option maxHeartbeats 4000000 in
theorem O7 {x:PySem.Str} {u t:Tok} {n:Int} (h16:x.cps.all (· <128)=true) (hs:(x.cps.toList.takeWhile (·!=0)).length<=640) (hr:(int_private%"readNumeral") 0 16 (x.cps.toList.takeWhile (·!=0))=(int_private%"Numeral.value") n)
  (ha:((x.cps.toList.takeWhile (·!=0)).length==x.cps.toList.length)=true):Gives (Builtin.«int.__new__» ⟨[.type "int",.str x u,.int 16 t],[]⟩) (.int n):=
 .of_wp λM A E s Q h=>by
  obtain ⟨hp,g,d,tk,os⟩:=s
  have f1:=F.conv_sub_int
  have f2:=F.madeHere_int
  have f6:typeOf (.str x u)=pure (.type "str"):=rfl
  repeat (any_goals (first
   |assumption
   |((with_reducible show wpAny _ _ ((int_private%"intFromText") _ _ _) _ _ _);rw[if_pos h16];exact O6 hs hr ha (wpAny_pure ⟨_,rfl,h⟩))
   |wp_step))
theorem J9 (a b:Value):checkTypeCall "int" ⟨[a,b],[]⟩=pure ():=by kernel_rfl
theorem Lu (a b:Value):checkBuiltinCall "int.__new__" ⟨[.type "int",a,b],[]⟩=pure ():=by kernel_rfl
theorem Ka (o a b:Value):argsOk "object.__init__" ⟨[o,a,b],[]⟩:=by unfold argsOk;kernel_rfl
theorem QV {prog:Program} {w:World} {A:Around} {E:Value->Shared->Prop} {s:Shared} {Q:Value->Shared->Prop} {x:PySem.Str} {u t:Tok} {n:Int} (h16:x.cps.all (· <128)=true) (hs:(x.cps.toList.takeWhile (·!=0)).length<=640) (hr:(int_private%"readNumeral") 0 16 (x.cps.toList.takeWhile (·!=0))=(int_private%"Numeral.value") n)
  (ha:((x.cps.toList.takeWhile (·!=0)).length==x.cps.toList.length)=true) (h:Q (.int n s.toks) {s with toks:=s.toks+1}):wpAny (model prog w) A (call (.type "int") [.str x u,.int 16 t]) Q E s:=
 callType_new F.called_int F.newNe_int (J9 _ _) (Lu _ _) (λobj=>Ka obj _ _) F.entry_int_new (O7 h16 hs hr ha).meets (show (Made.int n).post _ s from ⟨rfl,h⟩)
theorem QW:builtinKind "issubclass.nested"=none:=by decide+kernel
theorem O8:plainId "issubclass.nested"=true:=by decide+kernel
theorem QX (a b c:Value):argsOk "issubclass.nested" ⟨[a,b,c],[]⟩:=by unfold argsOk;kernel_rfl
theorem UI:isSubtype (.type "str") (.type "str")=pure true:=by rw[isSubtype_type];kernel_rfl
theorem UJ:isSubtype (.type "tuple") (.type "tuple")=pure true:=by rw[isSubtype_type];kernel_rfl
theorem UK {k:Value} {dep:Int} {tk:Tok}:k=.int dep tk->Meets (Builtin.«issubclass.nested» ⟨[.type "str",.type "str",k],[]⟩) (λZ R s=>R (.ok (.ret (.bool true))) s):=λe prog w A R s hs=>by
 subst e
 have f1:=UI
 have f2:typeOf (.type "str")=pure (.type "type"):=by kernel_rfl
 repeat (any_goals (first|assumption|(rewrite[f1];try with_reducible rfl)|wp_step))
theorem QY {prog:Program} {w:World} {A:Around} {R:Result->Shared->Prop} {s:Shared} {dep:Int} {tk:Tok} (h:R (.ok (.ret (.bool true))) s):codeAny (model prog w) A (.call (.builtin "issubclass.nested") ⟨[.type "str",.type "str",.int dep tk],[]⟩) R s:=by
 refine codeAny_call_builtin O8 F.entry_issubclass_nested ?_
 have Ud:=UK rfl prog w A R s h (dep:=dep) (tk:=tk)
 simp only[checkBuiltinCall,QW]
 cases hsig:Manifest.signature? "issubclass.nested" with
 |none=>exact wpAny_pure Ud
 |some sig=>
  have ok:=QX (.type "str") (.type "str") (.int dep tk)
  simp only[argsOk,hsig] at ok
  simp only[ok]
  exact wpAny_pure Ud
theorem UL {tu:Addr} {n:Nat} {u:Value} {tk:Tok}:Meets (Builtin.«issubclass.nested» ⟨[.type "str",.ref tu,.int 0 tk],[]⟩) (λZ R s=>s.heap.get? tu=some (Bs [.type "str",u] n)/\R (.ok (.ret (.bool true))) s):=λprog w A R s hs=>by
 obtain ⟨hp,g,d,t,os⟩:=s
 obtain ⟨ht,hs⟩:=hs
 have hT:(⟨hp,g,d,t,os⟩:Shared).TypeIs (.ref tu) "tuple":=⟨_,ht,rfl⟩
 have f1:=UJ
 repeat (any_goals (first|assumption|(rewrite[f1];try with_reducible rfl)|wp_step))
 refine QY ?_
 repeat (any_goals (first|assumption|wp_step))
theorem MV {w:World} {A:Around} {E:Value->Shared->Prop} {s:Shared} {Q:Value->Shared->Prop} {tu:Addr} {n:Nat} {u:Value} (ht:s.heap.get? tu=some (Bs [.type "str",u] n)) (h:Q (.bool true) s):
  wpAny (model pw w) A (call (.builtin "issubclass") [.type "str",.ref tu]) Q E s:=
 call_issubclass (S:=λZ R s=>s.heap.get? tu=some (Bs [.type "str",u] n)/\R (.ok (.ret (.bool true))) s) (λZ Z Z Z Z hs=>issubclass_outer (UL _ _ _ _ _ hs)) ⟨ht,h⟩
end Mine
namespace Mine
open PySem PySem.Calls PyProof.Rows PySem.W
noncomputable def HA (P:Params):Array Value:=match (Eo P).data with| .seq xs _=>xs|_=>#[]
noncomputable def Gy:Array Value:=match (Eo {strHash:=λZ=>0,shareClass:=λZ=>0,mergeTok:=id,idOf:=λZ=>0,idOfShared:=λZ Z=>0,followText:=λZ=>false,idOfImm:=λZ=>0}).data with| .seq xs _=>xs|_=>#[]
noncomputable def Bx (c:Nat):List Nat:=match Gy[c]? with|some (.str x _)=>x.cps.toList|_=>[]
set_option tactic.hygienic true
theorem Ys (P:Params) {c:Nat} (h:c<256):∃t,(HA P)[c]?=some (.str (S (Bx c)) t):=by
 have e:HA P=Gy:=by kernel_rfl
 rw[e]
 have key:((List.range 256).all λc=>match Gy[c]? with|some (.str _ _)=>true|_=>false)=true:=by kernel_rfl
 have:=List.all_eq_true.mp key c (List.mem_range.mpr h)
 unfold Bx
 split at this
 ·rename_i x t q
  rw[q]
  exact ⟨t,by simp⟩
 ·exact B7 this
set_option tactic.hygienic false
theorem QZ {P:Params} {s:Shared} (h:s.heap.get? 51=some (Eo P)):s.heap.IsList 51 (HA P):=⟨_,h,rfl,_,rfl⟩
theorem IX {prog:Program} {P:Params} {w:World} {A:Around} {E:Value->Shared->Prop} {s:Shared} {Q:PySem.Builtin.Str.Mapped->Shared->Prop} {c:Nat} (hs:s.heap.get? 51=some (Eo P)) (hc:c<256) (h:Q (.text (S (Bx c))) {s with toks:=s.toks+1}):
  wpAny (model prog w) A (PySem.Builtin.Str.tableLookup (.ref 51) c) Q E s:=by
 obtain ⟨t,ht⟩:=Ys P hc
 have hL:=QZ hs
 unfold PySem.Builtin.Str.tableLookup
 refine wpAny_bind (wpAny_attempt (wpAny_bind (wpAny_mkInt (wpAny_getItem_list hL (Int.natCast_nonneg _) (by lia) (by simpa using ht) ?_))))
 exact wpAny_bind (wpAny_pure (wpAny_bind (wpAny_pure (wpAny_pure h))))
noncomputable def D4 (c:Nat):Option (Option Nat):=if (S (Bx c)).length==1&&(S (Bx c)).cps.all (· <128) then some (S (Bx c)).cps[0]? else none
noncomputable def O9 (ps:List Str):Array Nat:=ps.reverse.foldl (λacc p=>acc++p.cps) #[]
theorem Pb (p:Str) (ps:List Str) (z:List Nat) (h:O9 ps=z.toArray):O9 (p::ps)=(z++p.cps.toList).toArray:=by
 unfold O9 at h ⊢
 rw[List.reverse_cons,List.foldl_append,h]
 simp
structure TI (P:Params) (x:List Nat) (s:Shared) (rest:List Nat) (b:List Str×Nat×Bool×List (Nat×Option Nat)×Bool) (s':Shared):Prop where
 ex:∃done,x=done++rest/\O9 b.1=(done.flatMap Bx).toArray/\b.2.1=(done.flatMap Bx).length
 kn:∀c a,b.2.2.2.1.lookup c=some a->a.isSome/\D4 c=some a
 dr:b.2.2.2.2=false
 st:∃k,s'={s with toks:=k}
theorem TI.add {P:Params} {x rest:List Nat} {s s':Shared} {ps:List Str} {tot:Nat} {fast fast' ad:Bool} {known known':List (Nat×Option Nat)} {c:Nat} (I:TI P x s (c::rest) (ps,tot,fast,known,ad) s') (q:Str) (hq:q.cps.toList=Bx c) (n:Nat) (hn:n=(Bx c).length)
  (hk:∀c a,known'.lookup c=some a->a.isSome/\D4 c=some a) {s'':Shared} (hs:∃k,s''={s with toks:=k}):TI P x s rest (q::ps,tot+n,fast',known',false) s'':=by
 refine Mine.S8 I.ex λdone h1 h2 h3=>?_
 refine ⟨⟨done++[c],by simp[h1],?_,?_⟩,hk,rfl,hs⟩
 ·have:=Pb q ps _ h2
  show O9 (q::ps)=_
  rw[this,hq];simp
 ·show tot+n=_
  have:tot=(done.flatMap Bx).length:=h3
  rw[this,hn];simp
theorem TI.elim {P:Params} {x rest:List Nat} {s:Shared} {M:List Str×Nat×Bool×List (Nat×Option Nat)×Bool->Shared->Prop}
  (k:∀ps tot fast known done j,x=done++rest->O9 ps=(done.flatMap Bx).toArray->tot=(done.flatMap Bx).length->TI P x s rest (ps,tot,fast,known,false) {s with toks:=j}->M (ps,tot,fast,known,false) {s with toks:=j})
  (b:List Str×Nat×Bool×List (Nat×Option Nat)×Bool) (s':Shared) (I:TI P x s rest b s'):M b s':=by
 obtain ⟨ps,tot,fast,known,ad⟩:=b
 obtain rfl:ad=false:=I.dr
 refine Mine.S8 I.ex λdone h1 h2 h3=>?_
 obtain ⟨j,rfl⟩:=I.st
 exact k ps tot fast known done j h1 h2 h3 I
theorem IY {c:Nat} {a:Option Nat} (h:D4 c=some a) (ha:a.isSome):∃d,a=some d/\Bx c=[d]:=by
 unfold D4 at h
 revert h
 refine BO λhc h=>?_
 rw[Bool.and_eq_true] at hc
 have hl:(Bx c).length=1:=by have:=eq_of_beq hc.1;rwa [Ba] at this
 obtain ⟨d,hd⟩:=List.length_eq_one_iff.mp hl
 rw[hd] at h
 have h:(S [d]).cps[0]?=a:=Option.some.inj h
 exact ⟨d,h.symm,hd⟩
theorem Lv {c:Nat} {a:Option Nat} (h:D4 c=some a):a.isSome:=by
 unfold D4 at h
 revert h
 refine BO λhc h=>?_
 rw[Bool.and_eq_true] at hc
 have hl:(Bx c).length=1:=by have:=eq_of_beq hc.1;rwa [Ba] at this
 obtain ⟨d,hd⟩:=List.length_eq_one_iff.mp hl
 rw[hd] at h
 have h:(S [d]).cps[0]?=a:=Option.some.inj h
 rw[<-h];rfl
set_option maxHeartbeats 1000000 in
theorem G3 {prog:Program} {P:Params} {w:World} {x:List Nat} {t:Tok} (hx:∀c∈x,c<128) (hne:x≠[]) (hd:(x.flatMap Bx).length<=1000) {A:Around} {R:Result->Shared->Prop} {s:Shared}
  (hs:s.heap.get? 51=some (Eo P)) (h:∀t' k,R (.ok (.ret (.str (S (x.flatMap Bx)) t'))) {s with toks:=k}):
  wpAny (model prog w) A.in1 (PySem.Builtin.«str.translate» ⟨[.str (S x) t,.ref 51],[]⟩) (λfin s'=>∃v,fin=.done (.ret v)/\R (.ok (.ret v)) s') (λe s'=>R (.error e) s') s:=by
 unfold PySem.Builtin.«str.translate»
 refine wpAny_bind (wpAny_pure ?_)
 dsimp only
 rw[if_neg (by rw[Ba];simpa using hne)]
 refine wpAny_bind (forIn_array_ _ (TI P x s) _ ?_ ?_ _ _ ⟨⟨[],rfl,rfl,rfl⟩,λc a e=>(by exact Aa e),rfl,⟨s.toks,rfl⟩⟩)
 ·refine λc rest=>TI.elim λps tot fast known done k h1 h2 h3 I=>?_
  have hc:c<128:=hx c (by rw[h1];simp)
  have htot:PySem.Builtin.Str.tooLong tot=false:=by
   have:tot=(done.flatMap Bx).length:=h3
   rw[h1] at hd
   simp at hd
   unfold PySem.Builtin.Str.tooLong
   rw[sizeLine_eq]
   exact decide_eq_false (by rw[this];simp;lia)
  dsimp only
  rw[htot]
  rw[if_neg Bool.false_ne_true]
  have slow:∀ (known':List (Nat×Option Nat)) (k:Nat),(∀c a,known'.lookup c=some a->a.isSome/\D4 c=some a)->∀fast':Bool,
    wpAny (model prog w) A.in1 (PySem.Builtin.Str.tableLookup (.ref 51) c>>=λr=>match r with
     | .keep=>pure (ForInStep.yield (({cps:=#[c]}:Str)::ps,tot+1,fast',known',false))
     | .drop=>pure (ForInStep.yield (ps,tot,fast',known',true))
     | .char d=>pure (ForInStep.yield (({cps:=#[d]}:Str)::ps,tot+1,fast',known',false))
     | .text t=>pure (ForInStep.yield (t::ps,tot+t.length,fast',known',false)))
     (λr s'=>match r with| .yield b'=>TI P x s rest b' s'| .done b'=>False) (λe s'=>R (.error e) s') {s with toks:=k}:=λknown' k hk fast'=>by
   refine wpAny_bind (IX hs (by exact Nat.le_trans (by assumption) (by decide)) ?_)
   exact wpAny_pure (I.add _ (by simp) _ (Ba _) hk ⟨_,rfl⟩)
  cases fast with
  |false=>
   rw[if_neg Bool.false_ne_true]
   exact wpAny_mono (slow known k I.kn false) (λr s' h=>by rcases r with _|_<;>first|exact h|exact h.elim) λZ Z e=>e
  |true=>
   rw[if_pos rfl]
   cases q:known.lookup c with
   |some a=>
    obtain ⟨g1,g2⟩:=I.kn c a q
    refine Mine.S0 (IY g2 g1) λd eq1 hT=>?_
    subst eq1
    exact wpAny_bind (wpAny_pure (wpAny_pure (I.add ⟨#[d]⟩ (by rw[hT]) 1 (by rw[hT];rfl) I.kn ⟨_,rfl⟩)))
   |none=>
    refine wpAny_bind (IX hs (by exact Nat.le_trans (by assumption) (by decide)) ?_)
    dsimp only
    have e:(if ((S (Bx c)).length==1&&(S (Bx c)).cps.all (λx=>decide (x<128)))=true then some (S (Bx c)).cps[0]? else none)=D4 c:=rfl
    rw[e]
    cases qf:D4 c with
    |none=>
     refine wpAny_bind (wpAny_pure (wpAny_bind (wpAny_rule ?_)))
     exact wpAny_mono (slow known (k+1) I.kn false) (λr s' h=>by rcases r with _|_<;>first|exact h|exact h.elim) λZ Z e=>e
    |some a=>
     refine Mine.S0 (IY qf (Lv qf)) λd eq1 hT=>?_
     subst eq1
     refine wpAny_bind (wpAny_pure (wpAny_pure (I.add ⟨#[d]⟩ (by rw[hT]) 1 (by rw[hT];rfl) (λc' a' e'=>?_) ⟨_,rfl⟩)))
     rw[List.lookup_cons] at e'
     cases hcc:c'==c with
     |true=>
      rw[hcc] at e'
      (replace e':=Option.some.inj e';subst e')
      rw[eq_of_beq hcc]
      exact ⟨Lv qf,qf⟩
     |false=>rw[hcc] at e';exact I.kn c' a' e'
 ·refine TI.elim λps tot fast known done k h1 h2 h3 I=>?_
  rw[List.append_nil] at h1
  subst h1
  have htot:PySem.Builtin.Str.tooLong tot=false:=by
   have:tot=(x.flatMap Bx).length:=h3
   unfold PySem.Builtin.Str.tooLong
   rw[sizeLine_eq]
   exact decide_eq_false (by lia)
  dsimp only
  rw[htot]
  rw[if_neg Bool.false_ne_true]
  have e:(⟨ps.reverse.foldl (λacc p=>acc++p.cps) #[]⟩:Str)=S (x.flatMap Bx):=congrArg Str.mk h2
  rw[e]
  exact wpAny_bind (wpAny_mkStr (wpAny_pure ⟨_,rfl,h _ _⟩) (by rw[Ba,sizeLine_eq];exact Nat.le_trans (by assumption) (by decide)))
noncomputable def Ao (sep:List Nat):List (List Nat)->List Nat
 |[]=>[]
 |x::r=>x++(match r with|[]=>[]|_=>sep++Ao sep r)
noncomputable def Ai (c:Nat):List Nat->List (List Nat)
 |[]=>[[]]
 |a::r=>if a=c then []::Ai c r else (a::(Ai c r).headD [])::(Ai c r).tail
noncomputable def A4 (c:Nat):List Nat->Int
 |[]=> -1
 |a::r=>if 0<=A4 c r then A4 c r+1 else if a=c then 0 else-1
noncomputable def AE (c:Nat) (z:List Nat) (x:List Nat):List Nat:=x.flatMap λa=>if a=c then z else [a]
theorem AJ (sep x y:List Nat) (r:List (List Nat)):Ao sep (x::y::r)=x++(sep++Ao sep (y::r)):=rfl
theorem AH (sep x:List Nat):Ao sep [x]=x:=by show x++[]=x;simp
theorem E9 (c:Nat) (x:List Nat):Ai c x≠[]:=by
 cases x with
 |nil=>simp[Ai]
 |cons a r=>unfold Ai;split<;>exact List.cons_ne_nil _ _
theorem By (c:Nat):∀ps:List (List Nat),ps≠[]->(∀p∈ps,c∉p)->Ai c (Ao [c] ps)=ps
 |[],h,_=>(h rfl).elim
 |[p],_,hf=>by
  rw[AH]
  have hp:=hf p (by exact List.mem_cons_self)
  clear hf
  induction p with
  |nil=>rfl
  |cons a r ih=>
   simp only[List.mem_cons,not_or] at hp
   unfold Ai
   rw[if_neg (Ne.symm hp.1),ih (by exact List.cons_ne_nil _ _) hp.2];rfl
 |p::q::ps,_,hf=>by
  have ih:=By c (q::ps) (by exact List.cons_ne_nil _ _) λp h=>hf p (List.mem_cons_of_mem _ h)
  rw[AJ]
  have hp:=hf p (by exact List.mem_cons_self)
  clear hf
  induction p with
  |nil=>show Ai c (c::Ao [c] (q::ps))=_;unfold Ai;rw[if_pos rfl,ih]
  |cons a r ih2=>
   simp only[List.mem_cons,not_or] at hp
   show Ai c (a::(r++([c]++Ao [c] (q::ps))))=_
   unfold Ai
   rw[if_neg (Ne.symm hp.1),ih2 (by exact List.cons_ne_nil _ _) hp.2];rfl
theorem bP (x:Str):S x.cps.toList=x:=rfl
theorem G9 (sep:List Nat):∀ps:List (List Nat),Str.join (S sep) (ps.map S)=S (Ao sep ps)
 |[]=>rfl
 |[p]=>by rw[AH];rfl
 |p::q::ps=>by
  have ih:=G9 sep (q::ps)
  rw[AJ]
  show S p++S sep++Str.join (S sep) ((q::ps).map S)=_
  rw[ih,IR,IR];simp
theorem N7 (sep:List Nat) (ps:List (List Nat)):Txt.join (S sep) (ps.map S)=S (Ao sep ps):=by
 unfold Txt.join
 rw[StrLaws.glued_eq_join,G9]
theorem Lw (c:Nat) (x:List Nat):Txt.split (S x) (S [c])=(Ai c x).map S:=by
 have all:∀l:List Str,∃ps:List (List Nat),l=ps.map S:=λl=>by
  induction l with
  |nil=>exact ⟨[],rfl⟩
  |cons s l ih=>obtain ⟨ps,rfl⟩:=ih;exact ⟨s.cps.toList::ps,by rw[List.map_cons,bP]⟩
 obtain ⟨ps,hps⟩:=all (Txt.split (S x) (S [c]))
 have h1:=StrLaws.join_split (S x) (S [c])
 have h2:=StrLaws.split_free (S x) c
 have h3:=PyProof.Rows.split_pos (S x) (S [c])
 rw[hps] at h1 h3 ⊢
 replace h2:∀p∈ps,c∉p:=λp hp hc=>h2 (S p) (by rw[show Txt.split (S x) ⟨#[c]⟩=ps.map S from hps];exact List.mem_map_of_mem hp) (by simpa using hc)
 rw[G9] at h1
 rw[<-Lg h1,By c ps (λe=>by subst e;simp at h3) h2]
theorem Pc (x y:List Nat):Txt.startswith (S x) (S y)=y.isPrefixOf x:=by
 unfold Txt.startswith
 rw[StrLaws.subAt_eq,Ba,Ba]
 simp only[List.drop_zero]
 rw[Bool.eq_iff_iff]
 simp only[Bool.and_eq_true,decide_eq_true_eq,beq_iff_eq,List.isPrefixOf_iff_prefix]
 constructor
 ·rintro ⟨_,h⟩
  rw[<-h];exact List.take_prefix _ _
 ·intro h
  refine ⟨by have:=h.length_le;lia,?_⟩
  exact (List.prefix_iff_eq_take.mp h).symm
theorem UM (x:List Nat) (c:Nat):Txt.endswith (S x) (S [c])=(x.getLast?==some c):=by
 unfold Txt.endswith
 rw[StrLaws.subAt_eq,Ba,Ba]
 rw[Bool.eq_iff_iff]
 simp only[Bool.and_eq_true,decide_eq_true_eq,beq_iff_eq,List.length_cons,List.length_nil]
 rcases List.eq_nil_or_concat x with rfl|⟨l,b,rfl⟩
 ·simp
 ·simp
theorem F3 (c:Nat):∀x:List Nat,(A4 c x= -1/\c∉x)\/∃i:Nat,A4 c x=i/\x[i]?=some c/\∀k,i<k->x[k]?≠some c
 |[]=>.inl ⟨rfl,by simp⟩
 |a::r=>by
  unfold A4
  rcases F3 c r with ⟨h1,h2⟩|⟨i,h1,h2,h3⟩
  ·rw[h1,if_neg (by decide)]
   by_cases h:a=c
   ·rw[if_pos h]
    refine .inr ⟨0,rfl,by simp[h],λk hk hc=>?_⟩
    obtain ⟨k,rfl⟩:=Nat.exists_eq_succ_of_ne_zero (Nat.ne_of_gt hk)
    rw[List.getElem?_cons_succ] at hc
    exact h2 (List.mem_of_getElem? hc)
   ·rw[if_neg h]
    exact .inl ⟨rfl,by simp[h2,Ne.symm h]⟩
  ·rw[h1,if_pos (Int.natCast_nonneg i)]
   refine .inr ⟨i+1,by simp,by simpa using h2,λk hk=>?_⟩
   obtain ⟨k,rfl⟩:=Nat.exists_eq_succ_of_ne_zero (Nat.ne_of_gt (Nat.lt_of_le_of_lt (Nat.zero_le _) hk))
   rw[List.getElem?_cons_succ]
   exact h3 k (by lia)
theorem Q0 (x:List Nat) (c:Nat):Txt.rfind (S x) (S [c])=A4 c x:=by
 have at_iff:∀i,StrLaws.At (S x) (S [c]) (S x).length i↔x[i]?=some c:=λi=>by
  have:=StrLaws.subAt_one (S x) c i
  unfold StrLaws.At
  rw[show (S [c])=(⟨#[c]⟩:Str) from rfl,this]
 unfold Txt.rfind
 rcases StrLaws.last_spec (S x) (S [c]) with ⟨h1,h2⟩|⟨i,h1,h2,h3⟩<;>rcases F3 c x with ⟨g1,g2⟩|⟨j,g1,g2,g3⟩
 ·rw[h1,g1]
 ·exact (h2 j ((at_iff j).mpr g2)).elim
 ·exact (g2 (List.mem_of_getElem? ((at_iff i).mp h2))).elim
 ·rw[h1,g1]
  have:i=j:=by
   rcases Nat.lt_trichotomy i j with h|h|h
   ·exact (h3 j h ((at_iff j).mpr g2)).elim
   ·exact h
   ·exact (g3 i h ((at_iff i).mp h2)).elim
  rw[this]
theorem IZ (c:Nat) (z:List Nat):∀x:List Nat,Ao z (Ai c x)=AE c z x
 |[]=>by simp[Ai,Ao,AE]
 |a::r=>by
  have ih:=IZ c z r
  refine Mine.S2 (List.exists_cons_of_ne_nil (E9 c r)) λq qs hq=>?_
  unfold Ai
  rw[hq] at ih ⊢
  have e:AE c z (a::r)=(if a=c then z else [a])++AE c z r:=by simp[AE]
  rw[e,<-ih]
  split
  ·rw[AJ];simp
  ·simp only[List.headD_cons,List.tail_cons]
   cases qs with
   |nil=>rw[AH,AH];simp
   |cons y ys=>rw[AJ,AJ];simp
theorem MW (c:Nat) (x z:List Nat):Txt.replace (S x) (S [c]) (S z)=S (AE c z x):=by
 have h:=StrLaws.replace_one (S x) (S z) c
 rw[show (⟨#[c]⟩:Str)=S [c] from rfl] at h
 rw[h,Lw,G9,IZ]
noncomputable def MX (x:List Nat):D->Option D
 | .str y=>if y.length=1/\x.length+2<=Ap then some (.list ((Ai (y.headD 0) x).map .str)) else none
 |_=>none
noncomputable def Q1 (x:List Nat):D->Option D
 | .list ds=>(A7 ds).bind λxs=>if (xs.map List.length).sum+xs.length*x.length<=Ap/\(Ao x xs).length<=Ap then some (.str (Ao x xs)) else none
 |_=>none
noncomputable def N8 (x:List Nat):D->Option D
 | .str y=>some (.bool (y.isPrefixOf x))
 |_=>none
noncomputable def Q2 (x:List Nat):D->Option D
 | .str y=>if y.length=1 then some (.bool (x.getLast?==some (y.headD 0))) else none
 |_=>none
noncomputable def MY (x:List Nat):D->Option D
 | .str y=>if y.length=1 then some (.int (A4 (y.headD 0) x)) else none
 |_=>none
noncomputable def MZ (x:List Nat):D->Option D
 | .val (.ref a)=>if a=51/\(x.all λc=>decide (c<128))=true/\x≠[]/\(x.flatMap Bx).length<=1000 then some (.str (x.flatMap Bx)) else none
 |_=>none
noncomputable def Kb (x:List Nat) (name:Str) (as:List D):Option D:=
 if name="split" then Et as (MX x)
 else if name="join" then Et as (Q1 x)
 else if name="startswith" then Et as (N8 x)
 else if name="endswith" then Et as (Q2 x)
 else if name="rfind" then Et as (MY x)
 else if name="translate" then Et as (MZ x)
 else none
noncomputable def Gz (b:Array UInt8) (name:Str) (as:List D):Option D:=
 if name=Str.ofString "decode" then Et as λa=>match a with
  | .str y=>if y=(Str.ofString "latin1").cps.toList/\b.size=10 then some (.str (b.toList.map (·.toNat))) else none
  |_=>none
 else none
section
variable {w:World} {Gl:List (Str×D)} {A:Around} {E:Value->Shared->Prop} {s:Shared} {N:Az} {v u:Value} {vs:List Value} {a b d:D} {as:List D} {x y:List Nat} {k:Nat}
noncomputable def Ct (w:World) (Gl:List (Str×D)) (k:Nat) (o:D) (name:Str) (as:List D) (d:D):Prop:=∃id,
 (∀ (A:Around) (E:Value->Shared->Prop) (s:Shared) (N:Az) (ov:Value) (pl:Sem Bool) (Q:Value×List Value->Shared->Prop),AG k A->Tp w.params Gl N s->Ax w.params N ov o->Q (.builtin id,[ov]) s->wpAny (model pw w) A (getMethod ov name pl) Q E s)/\
 (∀ (A:Around) (E:Value->Shared->Prop) (s:Shared) (N:Az) (ov:Value) (vs:List Value),AG k A->Tp w.params Gl N s->Ax w.params N ov o->Ar w.params N vs as->wpAny (model pw w) A (call (.builtin id) (ov::vs)) (Gv w.params N s d) E s)
theorem DP {name:Str} {id:String} (slot:Slot "str" name id) (ty:typeOf (.builtin id)=pure (.type "method_descriptor"))
  (h:∀ (A:Around) (E:Value->Shared->Prop) (s:Shared) (N:Az) (t:Tok) (v:Value),x.length<=Ap->Tp w.params Gl N s->Ax w.params N v a->wpAny (model pw w) A (call (.builtin id) [.str (S x) t,v]) (Gv w.params N s d) E s):
  Ct w Gl k (.str x) name [a] d:=by
 refine ⟨id,λA E s N ov pl Q R T ro hq=>?_,λA E s N ov vs R T ro rs=>?_⟩
 ·refine Mine.S0 ro.strOf λt eq1 hx=>?_
  subst eq1
  exact GM.of (.str (S x) t) (typeIs_str _ _ _) slot ty GM.noRef hq
 ·refine Mine.S0 ro.strOf λt eq1 hx=>?_
  subst eq1
  refine Mine.S0 (EK rs) λv eq1 rv=>?_
  subst eq1
  exact h A E s N t v hx T rv
theorem M0 {t u:Tok} {c:Nat} {Q:Value->Shared->Prop} (hsz:x.length+2<=sizeLine)
  (h:∀ (l:List (Str×Tok)) k,l.map (·.1)=(Ai c x).map S->Q (.ref s.heap.objs.size) {s with heap:=s.heap.push (AZ (strValues l) 0),toks:=k}):wpAny (model pw w) A (call (.builtin "str.split") [.str (S x) t,.str (S [c]) u]) Q E s:=by
 rw[<-Lw] at h
 have hx:(S x).length<=sizeLine:=by rw[Ba];lia
 have hn:(PySem.Builtin.Str.partsBetween (S x) (PySem.Builtin.Str.occurrences (S x) (S [c]) 0 (S x).length ((S x).length+1)) (S [c]).length).length<=sizeLine:=by
  have e1:=StrLaws.occ_length_le (S x) (S [c]) 0 (S x).length ((S x).length+1)
  rw[Ba] at e1
  rw[length_partsBetween,Ba];lia
 cases h1:(decide ((S x).length<(S [c]).length)||decide (PySem.Builtin.Str.strKind (S x)<PySem.Builtin.Str.strKind (S [c])))
 ·cases hf:(PySem.Builtin.Str.occurrences (S x) (S [c]) 0 (S x).length ((S x).length+1)).isEmpty
  ·refine call_meets F.slot_str_split (typeIs_str _ _ _) F.entry_str_split (F.args_str_split_2 _ _) (meets_str_split_sep _ _ t u h1 rfl hf hx hn) ?_
   show wants Q E _ {s with toks:=_,heap:=s.heap.push {cls:=.type "list",data:=.seq (strsFrom s.toks (PySem.Builtin.Str.partsBetween (S x) (PySem.Builtin.Str.occurrences (S x) (S [c]) 0 (S x).length ((S x).length+1)) (S [c]).length)).toArray}}
   rw[strsFrom_eq]
   exact h (numbered s.toks _) _ ((numbered_texts _ _).trans ((if_neg (ne_true_of_eq_false h1)).trans (if_neg (ne_true_of_eq_false hf))).symm)
  ·exact call_meets F.slot_str_split (typeIs_str _ _ _) F.entry_str_split (F.args_str_split_2 _ _) (meets_str_split_not_found _ _ t u h1 rfl hf)
    (h [(S x,t)] s.toks ((if_neg (ne_true_of_eq_false h1)).trans (if_pos hf)).symm)
 ·exact call_meets F.slot_str_split (typeIs_str _ _ _) F.entry_str_split (F.args_str_split_2 _ _) (meets_str_split_cannot_occur _ _ t u h1)
   (h [(S x,t)] s.toks (if_pos h1).symm)
theorem I0 (c:Nat):∀x:List Nat,(Ai c x).length<=x.length+1/\∀p∈Ai c x,p.length<=x.length
 |[]=>⟨Nat.le_refl _,by simp[Ai]⟩
 |a::r=>by
  obtain ⟨h1,h2⟩:=I0 c r
  refine Mine.S2 (List.exists_cons_of_ne_nil (E9 c r)) λq qs hq=>?_
  unfold Ai
  rw[hq] at h1 h2 ⊢
  split
  ·refine ⟨by simpa using h1,λp hp=>?_⟩
   rcases List.mem_cons.mp hp with rfl|hp
   ·simp
   ·exact Nat.le_succ_of_le (h2 p hp)
  ·refine ⟨by simp only[List.length_cons,List.tail_cons] at h1 ⊢;lia,λp hp=>?_⟩
   simp only[List.headD_cons,List.tail_cons,List.mem_cons] at hp
   rcases hp with rfl|hp
   ·exact Nat.succ_le_succ (h2 q (by exact List.mem_cons_self))
   ·exact Nat.le_succ_of_le (h2 p (by simp[hp]))
theorem HB {P:Params}:∀ {l:List (Str×Tok)} {ps:List (List Nat)},l.map (·.1)=ps.map S->(∀p∈ps,p.length<=Ap)->Ar P N (strValues l) (ps.map .str)
 |[],[],_,_=>.nil
 |(z,t)::l,p::ps,e,h=>by
  rw[List.map_cons,List.map_cons] at e
  obtain ⟨e1,e2⟩:=List.cons.inj e
  replace e1:z=S p:=e1
  rw[e1]
  exact .cons (.str p t (h p (List.mem_cons_self ..))) (HB e2 λq hq=>h q (List.mem_cons_of_mem _ hq))
set_option tactic.hygienic true
theorem Q3 (h:MX x a=some d):Ct w Gl k (.str x) "split" [a] d:=by
 rcases a with _|_<;>first|exact Aa h|skip
 rename_i y
 unfold MX at h
 dsimp only at h
 revert h
 refine BO λhc h=>?_
 obtain ⟨hy,hl⟩:=hc
 obtain ⟨c,rfl⟩:=List.length_eq_one_iff.mp hy
 (replace h:=Option.some.inj h;subst h)
 refine DP F.slot_str_split F.type_str_split λA E s N t v hx T rv=>?_
 refine Mine.S0 rv.strOf λu eq1 _=>?_
 subst eq1
 obtain ⟨p1,p2⟩:=I0 c x
 refine AV (M0 (c:=c) (by rw[sizeLine_eq];unfold Ap at hl;exact Nat.le_trans (by assumption) (by decide)) λl kk el hk=>?_)
 have y:=A1.push T.has (AZ (strValues l) 0) kk rfl hk
 have hlen:(strValues l).length<=Ap:=by
  have:=congrArg List.length el
  simp at this
  simp[strValues];lia
 exact ⟨_,y,.list (.head _) hlen (HB el λp hp=>Nat.le_trans (p2 p hp) hx)⟩
theorem HC {P:Params}:∀ {vs:List Value} {ds:List D} {xs:List (List Nat)},A7 ds=some xs->Ar P N vs ds->StrsAre vs (xs.map S)
 |[],ds,xs,h,r=>by cases r;(replace h:=Option.some.inj h;subst h);exact .nil
 |v::vs,ds,xs,h,r=>by
  cases r with
  |cons r1 r2=>
   rename_i dd ds
   unfold A7 at h
   rw[List.mapM_cons] at h
   rcases dd with _|_<;>first|exact Aa h|skip
   rename_i z
   refine Mine.ob (show (ds.mapM Bm).bind (λr=>some (z::r))=some _ from h) λzs q h=>?_
   (replace h:=Option.some.inj h;subst h)
   refine Mine.S0 r1.strOf λt eq1 _=>?_
   subst eq1
   exact .cons _ _ (HC (show A7 ds=some zs from q) r2)
theorem UN (h:Q1 x a=some d):Ct w Gl k (.str x) "join" [a] d:=by
 rcases a with _|_<;>first|exact Aa h|skip
 rename_i ds
 unfold Q1 at h
 dsimp only at h
 revert h
 refine Mine.Br λxs q h=>?_
 revert h
 refine BO λhl h=>?_
 (replace h:=Option.some.inj h;subst h)
 refine DP F.slot_str_join F.type_str_join λA E s N t v hx T rv=>?_
 refine Mine.S4 rv.listOf λl us n eq1 m hn r=>?_
 subst eq1
 refine AV (join_list (AM T.has m) (HC q r) ?_ λt' kk hk=>?_)
 ·have:=hl.1
  unfold Ap at this
  rw[List.map_map,List.length_map,Ba]
  have e:(Str.length∘S:List Nat->Nat)=List.length:=by funext z;exact Ba z
  rw[e];exact this
 ·rw[N7]
  exact Dg T.has _ hl.2 _ _
set_option tactic.hygienic false
theorem Pd (h:N8 x a=some d):Ct w Gl k (.str x) "startswith" [a] d:=by
 obtain ⟨y,rfl,rfl⟩:∃y,a=.str y/\d=.bool (y.isPrefixOf x):=by
  cases a with
  |str y=>(replace h:=Option.some.inj h;subst h);exact ⟨_,rfl,rfl⟩
  |_=>exact Aa h
 refine DP F.slot_str_startswith F.type_str_startswith λA E s N t v hx T rv=>?_
 refine Mine.S0 rv.strOf λu eq1 _=>?_
 subst eq1
 exact SC.startswith (by rw[Pc];exact JW T.has _)
set_option tactic.hygienic true
theorem UO (h:Q2 x a=some d):Ct w Gl k (.str x) "endswith" [a] d:=by
 rcases a with _|_<;>first|exact Aa h|skip
 rename_i y
 unfold Q2 at h
 dsimp only at h
 revert h
 refine BO λhy h=>?_
 obtain ⟨c,rfl⟩:=List.length_eq_one_iff.mp hy
 (replace h:=Option.some.inj h;subst h)
 refine DP F.slot_str_endswith F.type_str_endswith λA E s N t v hx T rv=>?_
 refine Mine.S0 rv.strOf λu eq1 _=>?_
 subst eq1
 exact SC.endswith (by rw[UM];exact JW T.has _)
theorem Q4 (h:MY x a=some d):Ct w Gl k (.str x) "rfind" [a] d:=by
 rcases a with _|_<;>first|exact Aa h|skip
 rename_i y
 unfold MY at h
 dsimp only at h
 revert h
 refine BO λhy h=>?_
 obtain ⟨c,rfl⟩:=List.length_eq_one_iff.mp hy
 (replace h:=Option.some.inj h;subst h)
 refine DP F.slot_str_rfind F.type_str_rfind λA E s N t v hx T rv=>?_
 refine Mine.S0 rv.strOf λu eq1 _=>?_
 subst eq1
 exact SC.rfind (by rw[Q0];exact B3 T.has _ _ _)
theorem Q5 (h:MZ x a=some d):Ct w Gl k (.str x) "translate" [a] d:=by
 rcases a with _|_<;>first|exact Aa h|skip
 rename_i v
 rcases v with _|_<;>first|exact Aa h|skip
 rename_i a
 unfold MZ at h
 dsimp only at h
 revert h
 refine BO λhc h=>?_
 revert hc
 refine Mine.bm λeq1 h1 h2 h3=>?_
 subst eq1
 (replace h:=Option.some.inj h;subst h)
 refine DP F.slot_str_translate F.type_str_translate λA E s N t v hx T rv=>?_
 obtain rfl:=rv.valOf
 have hs:=T.has _ (T.kk _ (Dj (a:=51) (o:=Eo w.params) (by kernel_rfl)))
 refine AV (call_meets F.slot_str_translate (typeIs_str _ _ _) F.entry_str_translate (F.args_str_translate_2 _ _)
  (S:=λZ R s=>s.heap.get? 51=some (Eo w.params)/\∀t' k,R (.ok (.ret (.str (S (x.flatMap Bx)) t'))) {s with toks:=k})
  (.of_wp λprog w' A R s hS=>G3 (λc hc=>by have:=List.all_eq_true.mp h1 c hc;simpa using this) h2 h3 hS.1 hS.2) ⟨hs,λt' kk hk=>?_⟩)
 exact Dg T.has _ (by unfold Ap;exact Nat.le_trans (by assumption) (by decide)) _ _
set_option tactic.hygienic false
theorem I1 {o:D} {name n:Str} {g:D->Option D} (e:name=n) (ok:∀a,g a=some d->Ct w Gl k o n [a] d) (h:Et as g=some d):Ct w Gl k o name as d:=by
 subst e
 obtain ⟨a,rfl,h⟩:=EJ h
 exact ok a h
theorem M1 {name:Str} (h:Kb x name as=some d):Ct w Gl k (.str x) name as d:=by
 unfold Kb at h
 refine Iq h (λe h=>?_) λh=>Iq h (λe h=>?_) λh=>Iq h (λe h=>?_) λh=>Iq h (λe h=>?_) λh=>Iq h (λe h=>?_) λh=>Iq h (λe h=>?_) λh=>Aa h
 ·exact I1 e (λ_ h=>Q3 h) h
 ·exact I1 e (λ_ h=>UN h) h
 ·exact I1 e (λ_ h=>Pd h) h
 ·exact I1 e (λ_ h=>UO h) h
 ·exact I1 e (λ_ h=>Q4 h) h
 ·exact I1 e (λ_ h=>Q5 h) h
set_option tactic.hygienic true
theorem Kc {b:Array UInt8} {name:Str} (h:Gz b name as=some d):Ct w Gl k (.bytes b) name as d:=by
 unfold Gz at h
 revert h
 refine BO λhn h=>?_
 subst hn
 refine Mine.S0 (EJ h) λa eq1 h2=>?_
 subst eq1
 clear h
 rcases a with _|_<;>first|exact Aa h2|skip
 rename_i y
 replace h2:(if y=(Str.ofString "latin1").cps.toList/\b.size=10 then some (D.str (b.toList.map (·.toNat))) else none)=some d:=h2
 revert h2
 refine BO λhc h2=>?_
 obtain ⟨rfl,hb⟩:=hc
 (replace h2:=Option.some.inj h2;subst h2)
 refine ⟨"bytes.decode",λA E s N ov pl Q R T ro hq=>?_,λA E s N ov vs R T ro rs=>?_⟩
 ·refine Mine.S0 ro.inv λt eq1 hl=>?_
  subst eq1
  exact KBd.method hq
 ·refine Mine.S0 ro.inv λt eq1 hl=>?_
  subst eq1
  ·skip
   refine Mine.S0 (EK rs) λv eq1 rv=>?_
   subst eq1
   refine Mine.S0 rv.strOf λu eq1 _=>?_
   subst eq1
   have hS:S (Str.ofString "latin1").cps.toList=PySem.Str.ofString "latin1":=bP _
   rw[hS]
   have hb':b.toList.length=10:=by simpa using hb
   have:=Ls (w:=w) (A:=A) (E:=E) (s:=s) (Q:=λv s'=>s.toks<=s'.toks->Gv w.params N s (.str (b.toList.map (·.toNat))) v s') (bs:=b.toList) (t:=t) (u:=u) hb' λt' kk hk=>Dg T.has _ (by rw[List.length_map,hb'];simp[Ap]) _ _
   rw[Array.toArray_toList] at this
   exact AV this
set_option tactic.hygienic false
end
end Mine
namespace Mine
open PySem PySem.Sre
noncomputable abbrev CC:Array Nat:=#[14,8,1,3,3,1,1,61,0,16,61,24,16,2,2,13,11,9,0,67043328,126,126,0,0,0,0,0,1,1]
noncomputable def BA (c:Nat):Bool:=c<256&&(CC.getD (17+(1+c/32)) 0).testBit (c%32)
noncomputable def At (t:Array Nat) (p:Nat) (o:Bool) (sn:Seen):M:=
 {code:=CC,text:=t,lim:=t.size,start:=p,lastStart:=t.size,pc:=9,pos:=p,handed:=p,outermost:=o,marks:=#[],frames:=[{wait:=.nextStart,pc:=9,pos:=p,outermost:=o}],weight:=1,seen:=sn}
theorem DQ {m:M} (h:m.outcome.isSome=true) (b:Nat):m.runFor b=m:=by
 cases b with
 |zero=>rfl
 |succ b=>show (if m.outcome.isSome then m else m.step.runFor b)=m;rw[if_pos h]
theorem Cu {m:M} (h:m.outcome.isSome=false) (b:Nat):m.runFor (b+1)=m.step.runFor b:=by
 show (if m.outcome.isSome then m else m.step.runFor b)=_
 rw[h];rfl
theorem Kd (b:Nat):∀ (a:Nat) (m:M),m.runFor (a+b)=(m.runFor a).runFor b
 |0,m=>by rw[Nat.zero_add];rfl
 |a+1,m=>by
  rw[Nat.add_right_comm]
  cases h:m.outcome.isSome with
  |true=>rw[DQ h,DQ h,DQ h]
  |false=>rw[Cu h,Cu h,Kd b a m.step]
theorem Yt (c:Nat) (sn:Seen):∃sn',inSet CC c CC.size 17 true sn=.ok (BA c,sn'):=by
 show ∃sn',(if (c<256&&(CC.getD (17+(1+c/32)) 0).testBit (c%32))=true then Except.ok (true,sn.add 9) else inSet CC c 28 26 true (sn.add 9))=.ok (BA c,sn')
 cases h:BA c with
 |true=>exact ⟨_,if_pos h⟩
 |false=>
  refine ⟨(sn.add 9).add 0,(if_neg (ne_true_of_eq_false h)).trans rfl⟩
theorem Q6 (c:Nat) (sn:Seen):∃sn',accepts CC 15 c sn=.ok (BA c,sn'):=Yt c sn
theorem Q7 (c:Nat) (sn:Seen):accepts CC 9 c sn=.ok (c==61,sn):=rfl
theorem Q8 {t:Array Nat} {p:Nat} {o:Bool} {sn:Seen} (hp:p<t.size) (hc:t.getD p 0≠61):∃sn',∀k,(At t p o sn).runFor (k+2)=(At t (p+1) false sn').runFor k:=by
 refine ⟨sn.add 16,λk=>?_⟩
 have e1:(At t p o sn).step={At t p o (sn.add 16) with answer:=some false}:=by
  show (At t p o sn).exec=_
  show (if p>=t.size then _ else match accepts CC 9 (t.getD p 0) (sn.add 16) with| .error why=>_| .ok (false,seen)=>_| .ok (true,seen)=>_)=_
  rw[if_neg (by lia),Q7,show (t.getD p 0==61)=false from beq_false_of_ne hc]
  rfl
 have e2:({At t p o (sn.add 16) with answer:=some false}:M).step=At t (p+1) false (sn.add 16):=by
  show (if p<t.size then _ else _)=_
  rw[if_pos hp]
  rfl
 rw[Cu rfl,e1,Cu rfl,e2]
theorem Q9 (t:Array Nat) (p:Nat) (sn:Seen):∃n sn',run CC t 15 2 p 0 sn=.ok (n,sn')/\(n<2↔¬ (BA (t.getD p 0)=true/\BA (t.getD (p+1) 0)=true))/\n<=2:=by
 obtain ⟨s1,h1⟩:=Q6 (t.getD p 0) sn
 obtain ⟨s2,h2⟩:=Q6 (t.getD (p+1) 0) s1
 show ∃n sn',(accepts CC 15 (t.getD p 0) sn>>=λr=>if r.1 then run CC t 15 1 (p+1) 1 r.2 else pure (0,r.2))=.ok (n,sn')/\_
 rw[h1]
 cases q1:BA (t.getD p 0) with
 |false=>exact ⟨0,s1,rfl,by simp,by lia⟩
 |true=>
  show ∃n sn',(accepts CC 15 (t.getD (p+1) 0) s1>>=λr=>if r.1 then run CC t 15 0 (p+1+1) 2 r.2 else pure (1,r.2))=.ok (n,sn')/\_
  rw[h2]
  cases q2:BA (t.getD (p+1) 0) with
  |false=>exact ⟨1,s2,rfl,by simp,by lia⟩
  |true=>exact ⟨2,s2,rfl,by simp,by lia⟩
noncomputable def I6 (t:Array Nat) (p:Nat) (o:Bool) (sn:Seen):M:={At t p o sn with pc:=11,pos:=p+1}
theorem WI {t:Array Nat} {p:Nat} {o:Bool} {sn:Seen} (hp:p<t.size) (hc:t.getD p 0=61):(At t p o sn).step=I6 t p o (sn.add 16):=by
 show (if p>=t.size then _ else match accepts CC 9 (t.getD p 0) (sn.add 16) with| .error why=>_| .ok (false,seen)=>_| .ok (true,seen)=>_)=_
 rw[if_neg (by lia),Q7,show (t.getD p 0==61)=true from beq_iff_eq.mpr hc]
 rfl
theorem UP {t:Array Nat} {p:Nat} {o:Bool} {sn:Seen} (hp:p<t.size) (hc:t.getD p 0=61) (hn:¬ (p+2<t.size/\BA (t.getD (p+1) 0)=true/\BA (t.getD (p+2) 0)=true)):
  ∃sn',∀k,(At t p o sn).runFor (k+3)=(At t (p+1) false sn').runFor k:=by
 have back:∀sn':Seen,({I6 t p o sn' with answer:=some false}:M).step=At t (p+1) false sn':=λsn'=>by
  show (if p<t.size then _ else _)=_
  rw[if_pos hp]
  rfl
 have key:∃sn',(I6 t p o (sn.add 16)).step=({I6 t p o sn' with answer:=some false}:M):=by
  by_cases hr:((2:Nat):Int)>(t.size:Int)-((p+1:Nat):Int)
  ·refine ⟨(sn.add 16).add 24,?_⟩
   show (if ((2:Nat):Int)>(t.size:Int)-((p+1:Nat):Int) then _ else _)=_
   rw[if_pos hr]
   rfl
  ·have hsz:p+2<t.size:=by lia
   refine Mine.S3 (Q9 t (p+1) (((sn.add 16).add 24).add 13)) λn s' h1 h2 h3=>?_
   have hlt:n<2:=h2.mpr λh=>hn ⟨hsz,h⟩
   have hm:min 2 ((t.size:Int)-((p+1:Nat):Int)).toNat=2:=bv hsz
   refine ⟨s',?_⟩
   show (if ((2:Nat):Int)>(t.size:Int)-((p+1:Nat):Int) then _ else match run CC t 15 (min 2 ((t.size:Int)-((p+1:Nat):Int)).toNat) (p+1) 0 (((sn.add 16).add 24).add 13) with| .error why=>_| .ok (n,seen)=>_)=_
   rw[if_neg hr,hm,h1]
   show (if n<2 then _ else _)=_
   rw[if_pos hlt]
   rfl
 obtain ⟨sn',key⟩:=key
 refine ⟨sn',λk=>?_⟩
 rw[Cu rfl,WI hp hc,Cu rfl,key,Cu rfl,back]
theorem Yu {t:Array Nat} {o:Bool} {sn:Seen}:((At t t.size o sn).runFor 3).outcome=some .failed:=by
 have e1:(At t t.size o sn).step={At t t.size o (sn.add 16) with answer:=some false}:=by
  show (if t.size>=t.size then _ else _)=_
  rw[if_pos (Nat.le_refl _)]
  rfl
 have e2:({At t t.size o (sn.add 16) with answer:=some false}:M).step={At t t.size o (sn.add 16) with answer:=some false,frames:=[],weight:=0}:=by
  show (if t.size<t.size then _ else _)=_
  rw[if_neg (Nat.lt_irrefl _)]
  rfl
 rw[Cu rfl,e1,Cu rfl,e2]
 rfl
theorem Ra {t:Array Nat} {p:Nat} {o:Bool} {sn:Seen} (hc:t.getD p 0=61) (hsz:p+2<t.size) (h1:BA (t.getD (p+1) 0)=true) (h2:BA (t.getD (p+2) 0)=true):
  ∃m,(At t p o sn).runFor 6=m/\m.outcome=some .matched/\m.start=p/\m.handed=p+3/\m.lastmark= -1/\m.marks=#[]/\m.lastindex= -1:=by
 refine Mine.S3 (Q9 t (p+1) (((sn.add 16).add 24).add 13)) λn s' g1 g2 g3=>?_
 have hn:n=2:=by
  have:¬ n<2:=λh=>(g2.mp h) ⟨h1,h2⟩
  lia
 subst hn
 have hm:min 2 ((t.size:Int)-((p+1:Nat):Int)).toNat=2:=bv hsz
 have key:(I6 t p o (sn.add 16)).step={I6 t p o s' with pc:=28,pos:=p+3,handed:=p+3,outermost:=o,frames:=[{wait:=.giveBack,pc:=11,pos:=p+3,outermost:=o,count:=2},{wait:=.nextStart,pc:=9,pos:=p,outermost:=o}],weight:=2}:=by
  show (if ((2:Nat):Int)>(t.size:Int)-((p+1:Nat):Int) then _ else match run CC t 15 (min 2 ((t.size:Int)-((p+1:Nat):Int)).toNat) (p+1) 0 (((sn.add 16).add 24).add 13) with| .error why=>_| .ok (n,seen)=>_)=_
  rw[if_neg (by lia),hm,g1]
  rfl
 rw[Cu rfl,WI (by lia) hc,Cu rfl,key]
 rcases o with _|_<;>exact ⟨_,rfl,rfl,rfl,rfl,rfl,rfl,rfl⟩
end Mine
namespace Mine
open PySem PySem.Sre PySem.Calls PyProof.Rows PySem.W PySem.Builtin.Re
noncomputable def D5 (t:Array Nat) (q:Nat):Bool:=decide (q+2<t.size)&&(t.getD q 0==61)&&BA (t.getD (q+1) 0)&&BA (t.getD (q+2) 0)
theorem Cv {t:Array Nat} {q:Nat}:D5 t q=true↔q+2<t.size/\t.getD q 0=61/\BA (t.getD (q+1) 0)=true/\BA (t.getD (q+2) 0)=true:=by
 unfold D5
 simp only[Bool.and_eq_true,decide_eq_true_eq,beq_iff_eq,and_assoc]
noncomputable def GT (t:Array Nat) (p:Nat) (m:M):Prop:=
 (∃q,p<=q/\D5 t q=true/\(∀r,p<=r->r<q->D5 t r=false)/\m.outcome=some .matched/\m.start=q/\m.handed=q+3/\m.lastmark= -1/\m.marks=#[]/\m.lastindex= -1)\/
 ((∀r,p<=r->D5 t r=false)/\m.outcome=some .failed)
theorem GT.step {t:Array Nat} {p:Nat} {m:M} (h:GT t (p+1) m) (hp:D5 t p=false):GT t p m:=by
 rcases h with ⟨q,h1,h2,h3,h4⟩|⟨h1,h2⟩
 ·refine .inl ⟨q,by lia,h2,λr a b=>?_,h4⟩
  by_cases e:r=p
  ·rw[e];exact hp
  ·exact h3 r (by lia) b
 ·refine .inr ⟨λr a=>?_,h2⟩
  by_cases e:r=p
  ·rw[e];exact hp
  ·exact h1 r (by lia)
theorem EL {t:Array Nat}:∀ (n p:Nat) (o:Bool) (sn:Sre.Seen),p+n=t.size->∃N,N<=3*n+6/\GT t p ((At t p o sn).runFor N)
 |0,p,o,sn,h=>by
  have:p=t.size:=h
  subst this
  exact ⟨3,by lia,.inr ⟨λr a=>by rw[Bool.eq_false_iff];intro q;have:=(Cv.mp q).1;lia,Yu⟩⟩
 |n+1,p,o,sn,h=>by
  have hp:p<t.size:=by lia
  cases hh:D5 t p with
  |true=>
   refine Mine.ig (Cv.mp hh) λh1 h2 h3 h4=>?_
   refine Mine.S0 (Ra (o:=o) (sn:=sn) h2 h1 h3 h4) λm e g=>?_
   exact ⟨6,by lia,.inl ⟨p,Nat.le_refl _,hh,λr a b=>by lia,by rw[e];exact g⟩⟩
  |false=>
   by_cases hc:t.getD p 0=61
   ·obtain ⟨sn',e⟩:=UP (o:=o) (sn:=sn) hp hc λq=>by rw[Cv.mpr ⟨q.1,hc,q.2⟩] at hh;cases hh
    refine Mine.S0 (EL (t:=t) n (p+1) false sn' (by lia)) λN hN en=>?_
    exact ⟨N+3,by lia,by rw[e];exact en.step hh⟩
   ·obtain ⟨sn',e⟩:=Q8 (o:=o) (sn:=sn) hp hc
    refine Mine.S0 (EL (t:=t) n (p+1) false sn' (by lia)) λN hN en=>?_
    exact ⟨N+2,by lia,by rw[e];exact en.step hh⟩
theorem Rb {t:Array Nat} {p:Nat} (hp:p<=t.size):∃N,N<=3*t.size+6/\GT t p ((forSearch CC t 0 p t.size false).runFor N):=by
 by_cases hs:t.size-p<3
 ·refine ⟨1,by lia,.inr ⟨λr a=>by rw[Bool.eq_false_iff];intro q;have:=(Cv.mp q).1;lia,?_⟩⟩
  have hb:(decide (p>t.size)||decide (t.size-p<3))=true:=by rw[decide_eq_true hs,Bool.or_true]
  have e:forSearch CC t 0 p t.size false={code:=CC,text:=t,lim:=t.size,start:=p,pc:=9,pos:=p,handed:=p,marks:=#[],seen:=({}:Sre.Seen).add 14,answer:=some false}:=by
   show (if (decide (p>t.size)||decide (t.size-p<3))=true then _ else _)=_
   rw[if_pos hb]
   rfl
  rw[e];rfl
 ·have hb:¬ (decide (p>t.size)||decide (t.size-p<3))=true:=by
   rw[Bool.or_eq_true,decide_eq_true_eq,decide_eq_true_eq];lia
  have e:forSearch CC t 0 p t.size false=At t p true (({}:Sre.Seen).add 14):=by
   show (if (decide (p>t.size)||decide (t.size-p<3))=true then _ else _)=_
   rw[if_neg hb]
   rfl
  refine Mine.S0 (EL (t:=t) (t.size-p) p true (({}:Sre.Seen).add 14) (by lia)) λN hN en=>?_
  exact ⟨N,by lia,by rw[e];exact en⟩
theorem HD {t:Array Nat} {p:Nat} {m:M} (h:GT t p m):m.outcome.isSome=true:=by
 rcases h with ⟨q,_,_,_,h,_⟩|⟨_,h⟩<;>rw[h]<;>rfl
theorem Lx {Md:Model} {A:Around} {E:Value->Shared->Prop} {s:Shared} {Q:M->Shared->Prop}:∀ (k turns:Nat) (m:M),k<turns->(m.runFor (4*k)).outcome.isSome=true->Q (m.runFor (4*k)) s->wpAny Md A (reDrive turns m) Q E s
 |k,0,m,h,_,_=>absurd h (Nat.not_lt_zero _)
 |0,turns+1,m,h,ho,hq=>by
  have ho:m.outcome.isSome=true:=ho
  have e:m.runFor 4=m:=DQ ho 4
  show wpAny Md A (if (m.runFor 4).outcome.isSome then pure (m.runFor 4) else _) Q E s
  rw[e,if_pos ho]
  exact wpAny_pure hq
 |k+1,turns+1,m,h,ho,hq=>by
  have e:m.runFor (4*(k+1))=(m.runFor 4).runFor (4*k):=by rw[<-Kd];congr 1;lia
  rw[e] at ho hq
  show wpAny Md A (if (m.runFor 4).outcome.isSome then pure (m.runFor 4) else (do rule "sre.turn";reDrive turns (m.runFor 4))) Q E s
  cases h4:(m.runFor 4).outcome.isSome with
  |true=>
   rw[if_pos rfl]
   rw[DQ h4] at hq
   exact wpAny_pure hq
  |false=>
   rw[if_neg (by decide)]
   exact wpAny_bind (wpAny_rule (Lx k turns (m.runFor 4) (by lia) ho hq))
noncomputable def Fa (m:M):Option M:=match m.outcome with|some .matched=>some m|_=>none
theorem UQ {Md:Model} {A:Around} {E:Value->Shared->Prop} {s:Shared} {Q:Option M->Shared->Prop} {t:Array Nat} {p:Nat} (hp:p<=t.size) (hl:t.size<=Ap)
  (h:∀m,GT t p m->Q (Fa m) s):wpAny Md A (reRunToEnd (forSearch CC t 0 p t.size false)) Q E s:=by
 refine Mine.S0 (Rb hp) λN hN en=>?_
 have e:(forSearch CC t 0 p t.size false).runFor (4*N)=(forSearch CC t 0 p t.size false).runFor N:=by
  rw[show 4*N=N+3*N by lia,Kd,DQ (HD en)]
 generalize forSearch CC t 0 p t.size false=m₀ at en e
 unfold reRunToEnd
 refine wpAny_bind (Lx N _ _ (by unfold Ap at hl;lia) (by rw[e];exact HD en) ?_)
 rw[e]
 generalize m₀.runFor N=m at en
 refine wpAny_bind (wpAny_forIn_list _ (λ_ _ s'=>s'=s) _ (λx rest b s' hs=>?_) (λb s' hs=>?_) _ _ rfl)
 ·split
  ·exact wpAny_bind (wpAny_rule (wpAny_pure hs))
  ·exact wpAny_pure hs
 ·subst hs
  have hq:=h m en
  unfold Fa at hq
  rcases en with ⟨q,_,_,_,ho,_⟩|⟨_,ho⟩
  ·rw[ho] at hq ⊢
   exact wpAny_pure hq
  ·rw[ho] at hq ⊢
   exact wpAny_pure hq
end Mine
namespace Mine
open PySem PySem.Calls PyProof.Rows PySem.W PySem.Builtin.Re
namespace RF
theorem plain_pat:PlainAttrs "re.Pattern":=⟨⟨"object.__getattribute__",by rw[typeLookup_type,builtinLookup_eq_fast];kernel_rfl,by decide+kernel⟩,by rw[typeLookup_type,builtinLookup_eq_fast];kernel_rfl⟩
theorem plain_mat:PlainAttrs "re.Match":=⟨⟨"object.__getattribute__",by rw[typeLookup_type,builtinLookup_eq_fast];kernel_rfl,by decide+kernel⟩,by rw[typeLookup_type,builtinLookup_eq_fast];kernel_rfl⟩
theorem slot_sub:Slot "re.Pattern" "sub" "re.Pattern.sub":=
 .of (owner:="re.Pattern") (n:="sub") (by rw[typeLookup_type,builtinLookup_eq_fast];kernel_rfl) (by decide+kernel) (by decide+kernel) (by decide+kernel)
  (by first|exact .inl (by decide+kernel)|exact .inr (by decide+kernel)) (by rw[isSubtype_type];kernel_rfl)
theorem slot_group:Slot "re.Match" "group" "re.Match.group":=
 .of (owner:="re.Match") (n:="group") (by rw[typeLookup_type,builtinLookup_eq_fast];kernel_rfl) (by decide+kernel) (by decide+kernel) (by decide+kernel)
  (by first|exact .inl (by decide+kernel)|exact .inr (by decide+kernel)) (by rw[isSubtype_type];kernel_rfl)
theorem type_sub:typeOf (.builtin "re.Pattern.sub")=pure (.type "method_descriptor"):=by show builtinType _=_;rw[builtinType_eq_fast];kernel_rfl
theorem type_group:typeOf (.builtin "re.Match.group")=pure (.type "method_descriptor"):=by show builtinType _=_;rw[builtinType_eq_fast];kernel_rfl
theorem entry_sub:entryFor table "re.Pattern.sub"=some Builtin.«re.Pattern.sub»:=entryFor_of_tree (by kernel_rfl)
theorem entry_loop:entryFor table "re.Pattern.sub.loop"=some Builtin.«re.Pattern.sub.loop»:=entryFor_of_tree (by kernel_rfl)
theorem entry_group:entryFor table "re.Match.group"=some Builtin.«re.Match.group»:=entryFor_of_tree (by kernel_rfl)
theorem args_sub (a b c:Value):argsOk "re.Pattern.sub" ⟨[a,b,c],[]⟩:=by unfold argsOk;kernel_rfl
theorem args_group (a b:Value):argsOk "re.Match.group" ⟨[a,b],[]⟩:=by unfold argsOk;kernel_rfl
theorem quiet_loop (args:Args):(Code.builtin "re.Pattern.sub.loop" args).quiet=true:=Code.quiet_builtin _ (by decide+kernel)
theorem weight_loop (args:Args):(Code.builtin "re.Pattern.sub.loop" args).weight=0:=rfl
end RF
theorem Rc (x:List Nat) (b e:Nat):(⟨(S x).cps.extract b e⟩:Str)=S ((x.drop b).take (e-b)):=by
 have:((S x).cps.extract b e)=((x.drop b).take (e-b)).toArray:=by
  apply Array.toList_inj.mp
  simp
 rw[this]
theorem dH {x:List Nat} {p k n:Nat} (h:x.length<=n):((x.drop p).take k).length<=n:=Nat.le_trans ((List.take_sublist _ _).trans (List.drop_sublist _ _)).length_le h
theorem Fy {Md:Model} {A:Around} {E:Value->Shared->Prop} {s:Shared} {Q:Value->Shared->Prop} {x:List Nat} {b e:Nat} (hx:x.length<=Ap) (h:Q (.str (S ((x.drop b).take (e-b))) s.toks) {s with toks:=s.toks+1}):wpAny Md A (reSlice (S x).cps 0 b e) Q E s:=by
 show wpAny Md A (mkStr ⟨(S x).cps.extract b e⟩) Q E s
 rw[Rc]
 refine wpAny_mkStr h ?_
 rw[Ba,sizeLine_eq]
 exact Nat.le_trans (dH hx) (by decide)
section
variable {w:World} {Gl:List (Str×D)} {A:Around} {E:Value->Shared->Prop} {s:Shared} {N:Az} {k:Nat} {x:List Nat} {b e:Nat}
theorem Ly {a ta:Addr} {t tz:Tok} {n:Nat} {fs:Array Value} (hx:x.length<=Ap) (h0:fs[0]?=some (.str (S x) t)) (h5:fs[5]?=some (.ref ta)):Meets (Builtin.«re.Match.group» ⟨[.ref a,.int 0 tz],[]⟩)
  (λZ R s=>s.heap.get? a=some ({cls:=.type "re.Match",data:=.fields fs}:Obj)/\s.heap.get? ta=some (Bs [.int b 0,.int e 0] n)/\R (.ok (.ret (.str (S ((x.drop b).take (e-b))) s.toks))) {s with toks:=s.toks+1}):=by
 refine .of_wp λprog w A R s hS=>?_
 revert hS
 refine Mine.dE λh1 h2 h=>?_
 obtain ⟨hp,g,d,tk,os⟩:=s
 have e0:fs.getD 0 .none=.str (S x) t:=by rw[Array.getD_eq_getD_getElem?,h0];rfl
 have e5:fs.getD 5 .none=.ref ta:=by rw[Array.getD_eq_getD_getElem?,h5];rfl
 unfold Builtin.«re.Match.group» reFound
 repeat (any_goals (first|assumption|(rw[e5])|wp_step))
 have em:Array.map reRawOf ((some #[Value.int ((b:Nat):Int) 0,Value.int ((e:Nat):Int) 0]).getD #[])=#[(b:Int),(e:Int)]:=by simp[reRawOf]
 rw[em]
 show wpAny _ _ (if (decide (((b:Nat):Int)<0)||decide (((e:Nat):Int)<0))=true then _ else (reTextOf (fs.getD 0 .none)>>=λz=>reSlice z.1 z.2 ((b:Nat):Int).toNat ((e:Nat):Int).toNat)) _ _ _
 rw[if_neg (by simp),e0]
 refine wpAny_bind (wpAny_pure (Fy hx ?_))
 exact wpAny_pure ⟨_,rfl,h⟩
noncomputable def Ke (x:List Nat) (b e:Nat) (name:Str) (as:List D):Option D:=
 if name="group" then Et as (λa=>match a with
  | .int i=>if i=0 then some (.str ((x.drop b).take (e-b))) else none
  |_=>none)
 else none
set_option tactic.hygienic true
theorem M2 {name:Str} {as:List D} {d:D} (h:Ke x b e name as=some d):Ct w Gl k (.mat x b e) name as d:=by
 unfold Ke at h
 revert h
 refine BO λhn h=>?_
 subst hn
 refine Mine.S0 (EJ h) λa eq1 h2=>?_
 subst eq1
 clear h
 rcases a with _|_<;>first|exact Aa h2|skip
 rename_i i
 replace h2:(if i=0 then some (D.str ((x.drop b).take (e-b))) else none)=some d:=h2
 revert h2
 refine BO λhi h2=>?_
 subst hi
 (replace h2:=Option.some.inj h2;subst h2)
 refine ⟨"re.Match.group",λA E s N ov pl Q R T ro hq=>?_,λA E s N ov vs R T ro rs=>?_⟩
 ·obtain ⟨a,ta,t,n,fs,rfl,m,_⟩:=ro.inv
  exact getMethod_builtin (T:="re.Match") ⟨_,T.has _ m,rfl⟩ RF.plain_mat RF.slot_group RF.type_group (λa e=>by cases e;exact ⟨_,T.has _ m,rfl⟩) hq
 ·obtain ⟨a,ta,t,n,fs,rfl,m,h0,h5,ht,hl⟩:=ro.inv
  ·skip
   refine Mine.S0 (EK rs) λv eq1 rv=>?_
   subst eq1
   obtain ⟨tz,rfl⟩:=rv.intOf
   refine call_meets RF.slot_group ⟨_,T.has _ m,rfl⟩ RF.entry_group (RF.args_group _ _) (Ly hl h0 h5) ⟨T.has _ m,T.has _ ht,Dg T.has _ ?_ _ _⟩
   exact dH hl
set_option tactic.hygienic false
end
noncomputable def D6 (x:List Nat):Nat->Nat->Option Nat
 |0,_=>none
 |n+1,p=>if D5 x.toArray p then some p else D6 x n (p+1)
noncomputable def Kf (app:Bt) (f:D) (x:List Nat):Nat->Nat->Option (List (List Nat))
 |0,_=>none
 |n+1,p=>match D6 x (x.length-p) p with
  |none=>some (if p<x.length then [x.drop p] else [])
  |some q=>(app f [.mat x q (q+3)]).bind λd=>(Bm d).bind λz=>(Kf app f x n (q+3)).map λr=>(if p<q then [(x.drop p).take (q-p)] else [])++z::r
theorem D7 (x:List Nat):∀n p,p+n=x.length->(∃q,D6 x n p=some q/\p<=q/\D5 x.toArray q=true/\∀r,p<=r->r<q->D5 x.toArray r=false)\/(D6 x n p=none/\∀r,p<=r->D5 x.toArray r=false)
 |0,p,h=>.inr ⟨rfl,λr a=>by rw[Bool.eq_false_iff];intro q;have:=(Cv.mp q).1;simp at this;lia⟩
 |n+1,p,h=>by
  unfold D6
  cases hp:D5 x.toArray p with
  |true=>exact .inl ⟨p,rfl,Nat.le_refl _,hp,λr a b=>by lia⟩
  |false=>
   rw[if_neg Bool.false_ne_true]
   rcases D7 x n (p+1) (by lia) with ⟨q,h1,h2,h3,h4⟩|⟨h1,h2⟩
   ·refine .inl ⟨q,h1,by lia,h3,λr a b=>?_⟩
    by_cases e:r=p
    ·rw[e];exact hp
    ·exact h4 r (by lia) b
   ·refine .inr ⟨h1,λr a=>?_⟩
    by_cases e:r=p
    ·rw[e];exact hp
    ·exact h2 r (by lia)
theorem M3 {x:List Nat} {p:Nat} (hp:p<=x.length) {m:Sre.M} (h:GT x.toArray p m):
  (D6 x (x.length-p) p=none/\Fa m=none)\/∃q,D6 x (x.length-p) p=some q/\Fa m=some m/\p<=q/\q+3<=x.length/\m.start=q/\m.handed=q+3/\m.lastmark= -1/\m.marks=#[]/\m.lastindex= -1:=by
 rcases D7 x (x.length-p) p (by lia) with ⟨q,h1,h2,h3,h4⟩|⟨h1,h2⟩<;>rcases h with ⟨q',g1,g2,g3,g4,g5⟩|⟨g1,g2⟩
 ·have:q=q':=by
   rcases Nat.lt_trichotomy q q' with h|h|h
   ·rw[g3 q h2 h] at h3;exact B7 h3
   ·exact h
   ·rw[h4 q' g1 h] at g2;exact B7 g2
  subst this
  have:=(Cv.mp h3).1
  exact .inr ⟨q,h1,by unfold Fa;rw[g4],h2,by simp at this;lia,g5⟩
 ·rw[g1 q h2] at h3;exact B7 h3
 ·rw[h2 q' g1] at g2;exact B7 g2
 ·exact .inl ⟨h1,by unfold Fa;rw[g2]⟩
structure F4 (P:Params) (N₀:Az) (s₀:Shared) (L:Addr) (N:Az) (s:Shared) (pcs:List (List Nat)):Prop where
 sh:∃h t,s={s₀ with heap:=h,toks:=t}
 tk:s₀.toks<=s.toks
 kp:∀b o,s₀.heap.get? b=some o->s.heap.get? b=some o
 has:Cn N s
 sub:∀p∈N₀,p∈N
 new:∀p∈N,p∈N₀\/s₀.heap.get? p.1=none
 fr:s₀.heap.get? L=none
 off:∀p∈N,p.1≠L
 at':∃vs n,s.heap.get? L=some (AZ vs n)/\Ar P N vs (pcs.map .str)
section
variable {P:Params} {N₀ N N':Az} {s₀ s s':Shared} {L:Addr} {pcs:List (List Nat)}
theorem F4.ext (I:F4 P N₀ s₀ L N s pcs) (x:A1 N s N' s'):F4 P N₀ s₀ L N' s' pcs:=by
 refine Mine.S1 I.at' λvs n h1 h2=>?_
 refine ⟨?_,Nat.le_trans I.tk x.tk,λb o e=>Am x.keeps _ _ (I.kp b o e),x.has,λp hp=>x.sub p (I.sub p hp),λp hp=>?_,I.fr,λp hp e=>?_,vs,n,Am x.keeps _ _ h1,x.rels h2⟩
 ·refine Mine.S2 I.sh λh t eq1=>?_
  subst eq1
  refine Mine.S1 x.keeps λh' t' eq1 _=>?_
  subst eq1
  exact ⟨h',t',rfl⟩
 ·rcases x.new p hp with h|h
  ·exact I.new p h
  ·refine .inr ?_
   cases q:s₀.heap.get? p.1 with
   |none=>rfl
   |some o=>rw[I.kp _ _ q] at h;cases h
 ·rcases x.new p hp with h|h
  ·exact I.off p h e
  ·rw[e,h1] at h;cases h
theorem F4.fin (I:F4 P N₀ s₀ L N s pcs):A1 N₀ s₀ N s:=by
 refine Mine.S2 I.sh λh t eq1=>?_
 subst eq1
 exact ⟨⟨h,t,rfl,I.kp⟩,I.tk,I.sub,I.has,I.new⟩
theorem F4.push {Md:Model} {A:Around} {E:Value->Shared->Prop} {Q:Unit->Shared->Prop} {z:List Nat} {t:Tok} (I:F4 P N₀ s₀ L N s pcs) (hz:z.length<=Ap) (hl:pcs.length<Ap)
  (hq:∀s',F4 P N₀ s₀ L N s' (pcs++[z])->Q () s'):wpAny Md A (updateSeq L (·.push (.str (S z) t))) Q E s:=by
 refine Mine.S1 I.at' λvs n h1 h2=>?_
 have hlen:vs.length=pcs.length:=by rw[h2.length,List.length_map]
 refine wpAny_updateSeq h1 rfl (hq _ ?_) (Bb (by simp;lia)) (by simp;rw[sizeLine_eq];unfold Ap at hl;lia)
 have hb:Heap.SameBut L s.heap (s.heap.update L (Obj.mapSeq λxs=>xs.push (.str (S z) t))):=Heap.SameBut.update ..
 have ne:∀b o,s₀.heap.get? b=some o->b≠L:=λb o e q=>by rw[q,I.fr] at e;exact Aa e
 have ex:∃n',Obj.mapSeq (λxs=>xs.push (.str (S z) t)) (AZ vs n)={cls:=.type "list",data:=.seq (vs.toArray.push (.str (S z) t)) n'}:=⟨_,rfl⟩
 obtain ⟨n',ex⟩:=ex
 refine ⟨?_,I.tk,λb o e=>hb.extBut _ _ (ne b o e) (I.kp b o e),λp hp=>hb.extBut _ _ (I.off p hp) (I.has p hp),I.sub,I.new,I.fr,I.off,vs++[.str (S z) t],n',?_,?_⟩
 ·refine Mine.S2 I.sh λh k eq1=>?_
  subst eq1
  exact ⟨_,k,rfl⟩
 ·refine (Heap.get?_update_self _ h1 (by rw[ex];rfl)).trans ?_
  rw[ex];simp
 ·rw[List.map_append]
  exact h2.append (.cons (.str z t hz) .nil)
end
theorem UR (P:Params):(match OM.data with| .seq xs _=>(xs.map reRawOf).map (·.toNat)|_=>#[])=CC:=by kernel_rfl
theorem I7 {Md:Model} {P:Params} {A:Around} {E:Value->Shared->Prop} {s:Shared} {Q:ReTarget->Shared->Prop} {x:List Nat} {t:Tok} (h43:s.heap.get? 43=some PW) (h42:s.heap.get? 42=some OM)
  (h:Q ⟨.ref 43,.str (S x) t,CC,x.toArray,0,0,0,x.length⟩ s):wpAny Md A (reWholeTarget (.ref 43) (.str (S x) t)) Q E s:=by
 unfold reWholeTarget
 refine wpAny_bind (wpAny_fieldsOf h43 rfl ?_)
 refine wpAny_bind (wpAny_pure ?_)
 dsimp only
 rw[if_neg (by decide)]
 rw[if_neg (by decide)]
 refine wpAny_bind (wpAny_pure ?_)
 refine wpAny_bind (wpAny_bind (wpAny_seqItems h42 rfl (wpAny_pure ?_)))
 have e:=UR P
 have e2:x.toArray.size=x.length:=by simp
 refine wpAny_pure ?_
 rw[e2]
 dsimp only[OM] at e
 dsimp only[Option.getD_some]
 rw[e]
 exact h
section
variable {w:World} {Gl:List (Str×D)} {lower:Bt} {k j:Nat} {f:D} {x:List Nat} {t:Tok} {fv:Value} {N₀:Az} {s₀:Shared} {L:Addr}
theorem Bj:∀l:List (List Nat),A7 (l.map D.str)=some l
 |[]=>rfl
 |z::l=>by unfold A7;rw[List.map_cons,List.mapM_cons,show (l.map D.str).mapM Bm=some l from Bj l];rfl
theorem GA:∀l:List (List Nat),Ao [] l=l.flatten
 |[]=>rfl
 |[z]=>by rw[AH];simp
 |z::y::l=>by rw[AJ,GA (y::l)];simp
theorem HE {P:Params} {Md:Model} {A:Around} {E:Value->Shared->Prop} {N:Az} {s:Shared} {pcs:List (List Nat)} {Q:PySem.Fin->Shared->Prop} {K:Sem PySem.Fin} {p e:Nat} (I:F4 P N₀ s₀ L N s pcs) (hx:x.length<=Ap) (hl:pcs.length<Ap)
  (h:∀s',F4 P N₀ s₀ L N s' (pcs++if p<e then [(x.drop p).take (e-p)] else [])->wpAny Md A K Q E s'):
  wpAny Md A (if ((p:Nat):Int).toNat<e then (reSlice x.toArray 0 ((p:Nat):Int).toNat e>>=λv=>updateSeq L (λz=>z.push v)>>=λZ=>K) else K) Q E s:=by
 rw[Int.toNat_natCast]
 by_cases hlt:p<e
 ·rw[if_pos hlt]
  refine wpAny_bind (Fy hx ?_)
  have I':F4 P N₀ s₀ L N {s with toks:=s.toks+1} pcs:=I.ext (A1.toks I.has _)
  refine wpAny_bind (I'.push ?_ hl λs' I''=>h s' (by rw[if_pos hlt];exact I''))
  exact dH hx
 ·rw[if_neg hlt]
  exact h s (by rw[if_neg hlt,List.append_nil];exact I)
theorem Rd {Md:Model} {A:Around} {E:Value->Shared->Prop} {s:Shared} {N:Az} {Q:Value->Shared->Prop} {m:Sre.M} {q n:Nat} {v:Value} (hst:m.start=q) (hhd:m.handed=q+3) (hN:Cn N s)
  (h:Q (.ref (s.heap.objs.size+1)) {s with heap:=(s.heap.push (Bs [.int (q:Nat) 0,.int ((q+3:Nat):Int) 0] 0)).push ({cls:=.type "re.Match",data:=.fields #[v,.ref 43,.int 0 0,.int (n:Nat) 0,.int m.lastindex 0,.ref s.heap.objs.size]}:Obj)}):
  wpAny Md A (reNewMatch (.ref 43) v 0 0 n m) Q E s:=by
 unfold reNewMatch
 dsimp only
 refine wpAny_ite ?_
 rw[if_neg (by simp),hst,hhd]
 refine wpAny_bind (wpAny_newTuple (hsz:=by show 2<=sizeLine;decide) ?_)
 refine wpAny_newObj_type ?_
 rw[Heap.size_push]
 exact h
set_option tactic.hygienic true
theorem Rf {A:Around} (ha:Fi pw w w.params Gl j lower) (R:AG (j+1) A) (hx:x.length<Ap) (T:Tp w.params Gl N₀ s₀) (rf:Ax w.params N₀ fv f):∀ (n p:Nat) (cnt:Int) (pcs ps:List (List Nat)) (N:Az) (s:Shared),p<=x.length->Kf lower f x n p=some ps->
  F4 w.params N₀ s₀ L N s pcs->pcs.length+ps.length<Ap->(∀z∈pcs,z.length<=Ap)->(pcs++ps).flatten.length<=Ap->
  codeAny (model pw w) A (.builtin "re.Pattern.sub.loop" ⟨[.ref 43,.str (S x) t,fv,.int 1 0,.int 0 0,.int cnt 0,.int p 0,.int p 0,.bool false,.ref L,.bool false],[]⟩) (λr s'=>∃v,r=.ok (.ret v)/\Gv w.params N₀ s₀ (.str (pcs++ps).flatten) v s') s:=by
 intro n
 induction n with
 |zero=>intro p cnt pcs ps N s _ h;exact Aa h
 |succ n ih=>
  intro p cnt pcs ps N s hp h I hl hz htot
  refine codeAny_builtin RF.entry_loop ?_
  rw[Around.under_plain (RF.weight_loop _) rfl]
  unfold Builtin.«re.Pattern.sub.loop»
  have k43:=I.has _ (I.sub _ (T.kk _ (Dj (a:=43) (o:=PW) (by kernel_rfl))))
  have k42:=I.has _ (I.sub _ (T.kk _ (Dj (a:=42) (o:=OM) (by kernel_rfl))))
  refine wpAny_bind (I7 (P:=w.params) k43 k42 ?_)
  dsimp only
  rw[if_neg (by decide)]
  refine wpAny_bind ?_
  rw[if_neg (by simp)]
  refine UQ (t:=x.toArray) (by simpa using hp) (by simp;lia) λm en=>?_
  rcases M3 hp en with ⟨h1,h2⟩|⟨q,h1,h2,hpq,hq3,hst,hhd,hlm,hmk,hli⟩
  ·rw[h2]
   dsimp only
   unfold Kf at h
   rw[h1] at h
   replace h:some (if p<x.length then [x.drop p] else [])=some ps:=h
   (replace h:=Option.some.inj h;subst h)
   refine HE I (Nat.le_of_lt hx) (by lia) λs' I'=>?_
   have es:(pcs++if p<x.length then [(x.drop p).take (x.length-p)] else [])=pcs++if p<x.length then [x.drop p] else []:=by
    rw[show (x.drop p).take (x.length-p)=x.drop p from List.take_of_length_le (by simp)]
   rw[es] at I'
   generalize (pcs++if p<x.length then [x.drop p] else [])=pc at I' htot
   refine wpAny_bind (Fy (Nat.le_of_lt hx) ?_)
   have I2:F4 w.params N₀ s₀ L N {s' with toks:=s'.toks+1} pc:=I'.ext (A1.toks I'.has _)
   refine Mine.S1 I2.at' λvs nn hL rs=>?_
   refine wpAny_bind (wpAny_seqItems hL rfl ?_)
   dsimp only[Option.getD_some]
   cases pc with
   |nil=>
    cases rs
    rw[if_pos (show ([]:List Value).toArray.isEmpty=true from rfl)]
    refine wpAny_bind (wpAny_pure ?_)
    rw[if_neg (by decide)]
    refine wpAny_pure ⟨_,rfl,N,I2.fin,?_⟩
    exact .str [] _ (Nat.zero_le _)
   |cons z pc=>
    cases rs with
    |cons r1 r2=>
    rw[if_neg (by simp)]
    rw[show (if ((0:Nat)==0)=true then "str.join" else "bytes.join")="str.join" from rfl]
    have hst:StrsAre (_::_) ((z::pc).map S):=HC (P:=w.params) (N:=N) (ds:=(z::pc).map D.str) (Bj _) (.cons r1 r2)
    refine wpAny_bind (AV (join_list ⟨_,hL,rfl,_,rfl⟩ hst ?_ λt' kk hk=>?_))
    ·have e:(Str.length∘S:List Nat->Nat)=List.length:=by funext y;exact Ba y
     rw[List.map_map,e,show (S ((x.drop 0).take (0-0))).length=0 by simp[Ba],Nat.mul_zero,Nat.add_zero,<-List.length_flatten]
     exact htot
    ·have ej:Txt.join (S ((x.drop 0).take (0-0))) ((z::pc).map S)=S (z::pc).flatten:=by
      rw[N7]
      congr 2
      simp only[Nat.sub_self,List.take_zero]
      exact GA _
     rw[ej,if_neg (by decide)]
     exact wpAny_pure ⟨_,rfl,N,I2.fin.trans (A1.toks I2.has _ hk),.str _ _ htot⟩
  ·rw[h2]
   dsimp only
   unfold Kf at h
   rw[h1] at h
   replace h:((lower f [.mat x q (q+3)]).bind λd=>(Bm d).bind λz=>(Kf lower f x n (q+3)).map λr=>(if p<q then [(x.drop p).take (q-p)] else [])++z::r)=some ps:=h
   revert h
   refine Mine.Br λd q1 h=>?_
   rcases d with _|_<;>first|(exact Aa h;done)|skip
   rename_i z
   replace h:((Kf lower f x n (q+3)).map λr=>(if p<q then [(x.drop p).take (q-p)] else [])++z::r)=some ps:=h
   refine Mine.om h λr q2 h'=>?_
   subst h'
   rw[hst]
   refine HE I (Nat.le_of_lt hx) (by lia) λs' I'=>?_
   generalize hpc:(pcs++if p<q then [(x.drop p).take (q-p)] else [])=pc at I'
   rw[<-List.append_assoc,hpc] at htot
   rw[if_neg (by decide)]
   refine wpAny_bind (Rd hst hhd I'.has ?_)
   have y1:=A1.push I'.has (Bs [.int (q:Nat) 0,.int ((q+3:Nat):Int) 0] 0) s'.toks
   have y2:=A1.push y1.has ({cls:=.type "re.Match",data:=.fields #[.str (S x) t,.ref 43,.int 0 0,.int (x.length:Nat) 0,.int m.lastindex 0,.ref s'.heap.objs.size]}:Obj) s'.toks
   have I3:=(I'.ext y1).ext y2
   have T3:Tp w.params Gl _ _:=⟨I3.has,Nat.lt_of_lt_of_le T.tk I3.tk,T.top.mono I3.sub⟩
   have hm:Ax w.params (((s'.heap.push (Bs [.int (q:Nat) 0,.int ((q+3:Nat):Int) 0] 0)).objs.size,({cls:=.type "re.Match",data:=.fields #[.str (S x) t,.ref 43,.int 0 0,.int (x.length:Nat) 0,.int m.lastindex 0,.ref s'.heap.objs.size]}:Obj))::(s'.heap.objs.size,Bs [.int (q:Nat) 0,.int ((q+3:Nat):Int) 0] 0)::N) (.ref (s'.heap.push (Bs [.int (q:Nat) 0,.int ((q+3:Nat):Int) 0] 0)).objs.size) (.mat x q (q+3)):=Ax.mat (List.Mem.head _) rfl rfl (List.Mem.tail _ (List.Mem.head _)) (Nat.le_of_lt hx)
   rw[show (s'.heap.push (Bs [.int (q:Nat) 0,.int ((q+3:Nat):Int) 0] 0)).objs.size=s'.heap.objs.size+1 from Heap.size_push ..] at hm y2 I3 T3
   rw[if_pos (by decide)]
   refine wpAny_bind (wpAny_holding (wpAny_mono (ha f [.mat x q (q+3)] (.str z) q1 A.in1 _ _ _ fv [.ref (s'.heap.objs.size+1)] R.in1 T3 (rf.mono I3.sub) (.cons hm .nil)).2 (λv s4 h4=>?_) λZ Z e=>e))
   revert h4
   refine Mine.T0 λN4 x4 r4=>?_
   have I4:=I3.ext x4
   refine Mine.S0 r4.strOf λt4 eq1 hz4=>?_
   subst eq1
   rw[if_pos (show (Value.str (S z) t4 !=Value.none)=true from rfl)]
   have hpcl:pc.length<=pcs.length+1:=by rw[<-hpc];split<;>simp
   have hlen:((if p<q then [(x.drop p).take (q-p)] else [])++z::r).length=(pc.length-pcs.length)+(r.length+1):=by
    rw[<-hpc];simp
   have hge:pcs.length<=pc.length:=by rw[<-hpc];simp
   refine wpAny_bind (I4.push hz4 (by rw[hlen] at hl;exact Nat.lt_of_le_of_lt (Nat.le_trans (Nat.le_succ _) (Nat.le_add_right _ _)) (bu hl)) λs5 I5=>?_)
   refine wpAny_pure ⟨RF.quiet_loop _,?_⟩
   rw[hhd,show (q+3==q)=false by simp]
   have e1:pc++z::r=(pc++[z])++r:=by simp
   have e2:pcs++((if p<q then [(x.drop p).take (q-p)] else [])++z::r)=(pc++[z])++r:=by rw[<-List.append_assoc,hpc,e1]
   rw[e2]
   refine ih (q+3) (cnt+1) (pc++[z]) r N4 s5 hq3 q2 I5 ?_ ?_ (by rw[<-e1];exact htot)
   ·rw[hlen] at hl
    simpa using bu hl
   ·intro y hy
    rw[<-hpc] at hy
    rcases List.mem_append.mp hy with hy|hy
    ·rcases List.mem_append.mp hy with hy|hy
     ·exact hz y hy
     ·split at hy
      ·simp at hy
       rw[hy]
       exact dH (Nat.le_of_lt hx)
      ·cases hy
    ·simp at hy
     rw[hy];exact hz4
set_option tactic.hygienic false
end
noncomputable def Pe (lower:Bt) (f:D) (x:List Nat):Option D:=
 if x.length<Ap then (Kf lower f x (x.length+1) 0).bind λps=>if ps.length<Ap/\ps.flatten.length<=Ap then some (.str ps.flatten) else none else none
noncomputable def Kg (lower:Bt) (a:Addr) (name:Str) (as:List D):Option D:=
 if name="sub"/\a=43 then two as (λf y=>match f,y with
  | .val (.ref fa),.str x=>if fa=86/\(lower (.val (.ref 86)) [.mat [61,50,69] 0 3]).isSome=true then Pe lower (.val (.ref 86)) x else none
  |_,_=>none)
 else none
theorem Rg (f y:Value):reNamed "re.Pattern.sub" "sub" ["repl","string","count"] 2 [f,y] []=pure [some f,some y,none]:=by kernel_rfl
theorem US:typeLookup (.type "function") "__call__"=pure (some (.builtin "function.__call__")):=by rw[typeLookup_type,builtinLookup_eq_fast];kernel_rfl
theorem M4:isSubtype (.type "str") (.type "bytearray")=pure false:=by rw[isSubtype_type];kernel_rfl
section
variable {w:World} {Gl:List (Str×D)} {lower:Bt} {j:Nat} {x:List Nat}
theorem Yv {A:Around} {E:Value->Shared->Prop} {s:Shared} {N:Az} {t:Tok} {d:D} (ha:Fi pw w w.params Gl j lower) (R:AG (j+1) A) (T:Tp w.params Gl N s) (h:Pe lower (.val (.ref 86)) x=some d):
  wpAny (model pw w) A (call (.builtin "re.Pattern.sub") [.ref 43,.ref 86,.str (S x) t]) (Gv w.params N s d) E s:=by
 unfold Pe at h
 revert h
 refine BO λhx h=>?_
 revert h
 refine Mine.Br λps q h=>?_
 replace h:(if ps.length<Ap/\ps.flatten.length<=Ap then some (D.str ps.flatten) else none)=some d:=h
 revert h
 refine BO λhp h=>?_
 (replace h:=Option.some.inj h;subst h)
 have k43:=T.has _ (T.kk _ (Dj (a:=43) (o:=PW) (by kernel_rfl)))
 have k42:=T.has _ (T.kk _ (Dj (a:=42) (o:=OM) (by kernel_rfl)))
 have k86:=T.has _ (T.kk _ (Dj (a:=86) (o:=ZE) (by kernel_rfl)))
 refine wpAny_call (codeAny_call_builtin RF.slot_sub.plain RF.entry_sub (RF.slot_sub.check _ _ _ _ _ _ _ _ ⟨_,k43,rfl⟩ (RF.args_sub _ _ _) ?_))
 unfold Builtin.«re.Pattern.sub» reSubstitute
 dsimp only
 rw[Rg]
 refine wpAny_bind (wpAny_pure ?_)
 dsimp only
 refine wpAny_bind (wpAny_pure ?_)
 refine wpAny_bind (wpAny_specialOf (T:="function") ⟨_,k86,rfl⟩ US ?_)
 rw[if_pos (show (some (Value.builtin "function.__call__")).isSome=true from rfl)]
 refine wpAny_bind (wpAny_pure ?_)
 rw[if_pos (show (some (Value.builtin "function.__call__")).isSome=true from rfl)]
 refine wpAny_bind (wpAny_pure ?_)
 refine wpAny_bind (wpAny_holding (I7 (P:=w.params) k43 k42 ?_))
 rw[if_pos (by decide)]
 have nh:reNotHeld "re.Pattern.sub" (.str (S x) t)=(do if<-isInstance (.str (S x) t) (.type "bytearray") then unsupported "re.Pattern.sub:bytearray-held"):=by kernel_rfl
 rw[nh]
 refine wpAny_bind (wpAny_bind (wpAny_isInstance (T:="str") (b:=false) (typeIs_str _ _ _) M4 ?_))
 rw[if_neg (by decide)]
 refine wpAny_pure (wpAny_bind (wpAny_newObj_type ?_))
 refine wpAny_pure ⟨RF.quiet_loop _,?_⟩
 have y:=A1.push0 T.has (AZ [] 0) s.toks
 have fr:s.heap.get? s.heap.objs.size=none:=A3 _
 have I:F4 w.params N s s.heap.objs.size N {s with heap:=s.heap.push (AZ [] 0),toks:=s.toks} []:=
  ⟨⟨_,_,rfl⟩,Nat.le_refl _,Am y.keeps,y.has,λ_ h=>h,λ_ h=>.inl h,fr,λp hp=>Nat.ne_of_lt (Heap.lt_size (T.has p hp)),[],0,Heap.get?_push_size _ rfl,.nil⟩
 refine codeAny_mono (Rf (t:=t) ha R hx T (.val _) (x.length+1) 0 0 [] ps N _ (Nat.zero_le _) q I (by simpa using hp.1) (λz h=>nomatch h) (by simpa using hp.2)) λr s' h=>?_
 revert h
 refine Mine.T0 λv eq1 hv=>?_
 subst eq1
 exact hv
set_option tactic.hygienic true
theorem M5 {a:Addr} {name:Str} {as:List D} {d:D} {k:Nat} (hl:IW w Gl k lower) (h:Kg lower a name as=some d):Ct w Gl k (.val (.ref a)) name as d:=by
 unfold Kg at h
 revert h
 refine BO λhn h=>?_
 obtain ⟨rfl,rfl⟩:=hn
 refine Mine.S1 (Fw h) λf y eq1 h2=>?_
 subst eq1
 clear h
 rcases f with _|_<;>first|exact Aa h2|skip
 rename_i fv
 rcases fv with _|_<;>first|exact Aa h2|skip
 rcases y with _|_<;>first|exact Aa h2|skip
 rename_i fa x
 replace h2:(if fa=86/\(lower (.val (.ref 86)) [.mat [61,50,69] 0 3]).isSome=true then Pe lower (.val (.ref 86)) x else none)=some d:=h2
 revert h2
 refine BO λhf h2=>?_
 obtain ⟨rfl,hs⟩:=hf
 obtain ⟨d0,h0⟩:=Option.isSome_iff_exists.mp hs
 refine Mine.S0 (hl _ _ _ h0) λj eq1 ha=>?_
 subst eq1
 refine ⟨"re.Pattern.sub",λA E s N ov pl Q R T ro hq=>?_,λA E s N ov vs R T ro rs=>?_⟩
 ·obtain rfl:=ro.valOf
  have k43:=T.has _ (T.kk _ (Dj (a:=43) (o:=PW) (by kernel_rfl)))
  exact getMethod_builtin (T:="re.Pattern") ⟨_,k43,rfl⟩ RF.plain_pat RF.slot_sub RF.type_sub (λa e=>by cases e;exact ⟨_,k43,rfl⟩) hq
 ·obtain rfl:=ro.valOf
  refine Mine.S3 (DO rs) λv u eq1 rv ru=>?_
  subst eq1
  obtain rfl:=rv.valOf
  refine Mine.S0 ru.strOf λt eq1 hx=>?_
  subst eq1
  exact Yv ha R T h2
set_option tactic.hygienic false
end
end Mine
set_option backward.match.sparseCases false
namespace Mine
open PySem PySem.Calls PyProof.Rows PySem.W PySem.SeqAt PySem.MeetsSeq PySem.MeetsSeq2 PySem.MeetsSeq3
abbrev I8:=List (List Nat×D)
noncomputable def G4 (k:List Nat) (d:D) (l:I8):I8:=if l.any (λp=>p.1=k) then l.map (λp=>if p.1=k then (p.1,d) else p) else l++[(k,d)]
noncomputable def Rh (r:CA) (names:List (Str×NameKind)) (cel:List (Str×D)) (t kx vx:Expr):List D->I8->Option I8
 |[],acc=>some acc
 |d::ds,acc=>(Hg names t d []).bind λloc=>(r.e names loc cel kx).bind λk=>(Bm k).bind λk=>(r.e names loc cel vx).bind λv=>Rh r names cel t kx vx ds (G4 k v acc)
noncomputable def N9:Expr->Bool
 | .Name .. =>true
 |_=>false
noncomputable def M6 (w:World) (h:Heap) (a:Addr) (N:Az) (l:I8):Prop:=∃kvs,h.DictOf (strKind pw w) a kvs/\kvs.map (·.1)=l.map (λp=>S p.1)/\Ar w.params N (kvs.map (·.2)) (l.map (·.2))/\∀p∈l,p.1.length<=Ap
section
variable {w:World} {h h':Heap} {a:Addr} {N N':Az} {l:I8} {s:Shared}
theorem WJ (k:List Nat):∀ (kvs:List (Str×Value)) (l:I8),kvs.map (·.1)=l.map (λp=>S p.1)->kvs.any (λkv=>kv.1=S k)=l.any (λp=>p.1=k)
 |[],[],_=>rfl
 |kv::kvs,p::l,e=>by
  rw[List.map_cons,List.map_cons] at e
  obtain ⟨e1,e2⟩:=List.cons.inj e
  rw[List.any_cons,List.any_cons,WJ k kvs l e2]
  congr 1
  rw[Bool.eq_iff_iff]
  simp only[decide_eq_true_eq]
  rw[e1]
  exact ⟨Lg,λe=>by rw[e]⟩
theorem bQ {P:Params} (k:List Nat) (v:Value) (d:D) (rv:Ax P N v d) (kvs:List (Str×Value)):∀ (l:I8),kvs.map (·.1)=l.map (λp=>S p.1)->Ar P N (kvs.map (·.2)) (l.map (·.2))->
  (kvs.map (λkv=>if kv.1=S k then (kv.1,v) else kv)).map (·.1)=(l.map (λp=>if p.1=k then (p.1,d) else p)).map (λp=>S p.1)/\
  Ar P N ((kvs.map (λkv=>if kv.1=S k then (kv.1,v) else kv)).map (·.2)) ((l.map (λp=>if p.1=k then (p.1,d) else p)).map (·.2)):=by
 induction kvs with
 |nil=>intro l e _;cases l with
  |nil=>exact ⟨rfl,.nil⟩
  |cons p l=>exact nomatch e
 |cons kv kvs ih=>intro l e r;cases l with
  |nil=>exact nomatch e
  |cons p l=>
   obtain ⟨e1,e2⟩:=List.cons.inj (e:kv.1::_=S p.1::_)
   replace e1:kv.1=S p.1:=e1
   cases r with
   |cons r1 r2=>
   obtain ⟨h1,h2⟩:=ih l e2 r2
   by_cases hk:p.1=k
   ·have hk':kv.1=S k:=by rw[e1,hk]
    simp only[List.map_cons,if_pos hk,if_pos hk']
    exact ⟨by rw[h1,e1],.cons rv h2⟩
   ·have hk':¬ kv.1=S k:=λq=>hk (Lg (e1.symm.trans q))
    simp only[List.map_cons,if_neg hk,if_neg hk']
    exact ⟨by rw[h1,e1],.cons r1 h2⟩
theorem Ri (k:List Nat) (d:D) (l:I8):(G4 k d l).length<=l.length+1:=by
 unfold G4
 split<;>simp
theorem M6.put {A:Around} {E:Value->Shared->Prop} {Q:Unit->Shared->Prop} {k:List Nat} {t:Tok} {v:Value} {d:D} (x:M6 w s.heap a N l) (rv:Ax w.params N v d) (hk:k.length<=Ap) (hl:l.length<=Ap)
  (hq:∀h',M6 w h' a N (G4 k d l)->Heap.SameBut a s.heap h'->Q () {s with heap:=h',toks:=s.toks+1}):wpAny (model pw w) A (dictSet a (.str (S k) t) v) Q E s:=by
 revert x
 refine Mine.ip λkvs h1 h2 h3 h4=>?_
 have hlen:kvs.length=l.length:=by have:=congrArg List.length h2;simpa using this
 refine wpAny_dictSet_pairs (knd:=strKind pw w) (k:=S k) (by simp[PySem.strKind,Value.isStrOf]) h1 (λh' g1 g2=>hq h' ⟨_,g1,?_⟩ g2) (Bb (by lia))
 unfold stored G4
 rw[WJ k kvs l h2]
 split
 ·obtain ⟨u1,u2⟩:=bQ k v d rv kvs l h2 h3
  refine ⟨u1,u2,λp hp=>?_⟩
  refine Mine.S0 (List.mem_map.mp hp) λq hq eq1=>?_
  subst eq1
  split
  ·exact h4 q hq
  ·exact h4 q hq
 ·refine ⟨by simp[h2],?_,λp hp=>?_⟩
  ·rw[List.map_append,List.map_append]
   exact h3.append (.cons rv .nil)
  ·rcases List.mem_append.mp hp with hp|hp
   ·exact h4 p hp
   ·simp at hp;rw[hp];exact hk
theorem M6.mono (x:M6 w h a N l) (hs:∀p∈N,p∈N') (kp:∀o,h.get? a=some o->h'.get? a=some o):M6 w h' a N' l:=by
 revert x
 refine Mine.ip λkvs h1 h2 h3 h4=>?_
 exact ⟨kvs,h1.at kp,h2,h3.mono hs,h4⟩
theorem M6.live (x:M6 w h a N l):∃o,h.get? a=some o:=by
 revert x
 refine Mine.iO λkvs o es ep ho _ _=>?_
 exact ⟨o,ho⟩
theorem M6.rel (x:M6 w h a N l) (hs:(a==sysModules)=false) (hl:l.length<=Ap):∃o,h.get? a=some o/\Ax w.params ((a,o)::N) (.ref a) (.dict (l.map (·.1)) (l.map (·.2))):=by
 revert x
 refine Mine.iQ λkvs o es ep ho hc hd hk hp hn h2 h3 h4=>?_
 have eo:o={cls:=.type "dict",data:=.dict es ep}:=by
  obtain ⟨c,dd,dt,sl⟩:=o
  revert hc
  refine Mine.dE λc1 c2 c3=>?_
  replace c1:c=_:=c1;replace c2:dd=_:=c2;replace c3:sl=_:=c3;replace hd:dt=_:=hd
  subst c1 c2 c3 hd;rfl
 obtain ⟨el,rfl⟩:∃el:List DictEntry,es=el.toArray:=⟨es.toList,by simp⟩
 have keys:∀ (el:List DictEntry) (kvs:List (Str×Value)) (l:I8),(∀e∈el,∃k,(strKind pw w).is k e.key=true/\e.hash=(strKind pw w).hash k)->Pairs (strKind pw w) el kvs->kvs.map (·.1)=l.map (λp=>S p.1)->Ip w.params el (l.map (·.1))/\el.map (·.val)=kvs.map (·.2):=by
  intro el
  induction el with
  |nil=>intro kvs l _ hp e;cases hp;cases l with
   |nil=>exact ⟨.nil,rfl⟩
   |cons=>cases e
  |cons e0 el ih=>
   intro kvs l hk hp e
   cases hp with
   |cons h1 h2 h3=>
    cases l with
    |nil=>cases e
    |cons p l=>
     rw[List.map_cons,List.map_cons] at e
     obtain ⟨e1,e2⟩:=List.cons.inj e
     obtain ⟨i1,i2⟩:=ih _ l (λe he=>hk e (List.mem_cons_of_mem _ he)) h3 e2
     refine Mine.S0 (hk e0 (List.mem_cons_self ..)) λk' k1 k2=>?_
     obtain ⟨t,ht⟩:=Value.isStrOf_shape h1
     obtain ⟨t',ht'⟩:=Value.isStrOf_shape k1
     rw[ht] at ht'
     injection ht' with q1 q2
     rw[e1] at ht q1
     exact ⟨.cons ht (by rw[k2,<-q1];rfl) i1,by rw[List.map_cons,List.map_cons,i2,h2]⟩
 obtain ⟨k1,k2⟩:=keys el kvs l (λe he=>hk e (by simpa using he)) (by simpa using hp) h2
 refine ⟨o,ho,?_⟩
 rw[eo]
 refine .dict (n:=ep) (.head _) ?_ ?_ (λk hk=>?_) hs k1 (by rw[k2];exact h3.mono λZ h=>.tail _ h)
 ·rw[F0 k1,List.length_map];exact hl
 ·rw[h2] at hn
  have:(l.map (λp=>S p.1))=(l.map (·.1)).map S:=by rw[List.map_map];rfl
  rw[this] at hn
  exact (List.pairwise_map.mp hn).imp λhne e=>hne (by rw[e])
 ·refine Mine.S0 (List.mem_map.mp hk) λp hp eq1=>?_
  subst eq1
  exact h4 p hp
end
end Mine
set_option backward.match.sparseCases true
namespace Mine
open PySem PySem.Calls PyProof.Rows PySem.W PySem.SeqAt PySem.MeetsSeq PySem.MeetsSeq2 PySem.MeetsSeq3
section
variable {w:World} {A:Around} {E:Value->Shared->Prop} {s:Shared} {N:Az} {Gl:List (Str×D)} {k:Nat} {env:Env} {names:List (Str×NameKind)} {loc cel:List (Str×D)} {r:CA} {Da:Addr}
noncomputable def Rj (w:World) (A:Around) (R:Result->Shared->Prop) (kx vx iter:Expr) (x:Str) (px:Pos) (scope:Scope) (pos:Pos) (it:Value) (Da:Addr) (env:Env) (E':Value->Shared->Prop) (v:Value) (s₁:Shared):Prop:=
 wpAny (model pw w) A (assign (.Name x px) env v) (λZ s₂=>wpAny (model pw w) A (eval kx env) (λkv s₃=>wpAny (model pw w) A (eval vx env) (λvv s₄=>wpAny (model pw w) A (dictSet Da kv vv) (λZ s₅=>
  codeAny (model pw w) A (.compLoop (.DictComp kx vx [⟨.Name x px,iter,[],0⟩] scope pos) 0 it (.ref Da) env) R s₅) E' s₄) E' s₃) E' s₂) E' s₁
theorem HF {R:Result->Shared->Prop} {kx vx iter:Expr} {x:Str} {px:Pos} {scope:Scope} {pos:Pos} {it:Value} {env:Env}
  (h:∀E',wpAny (model pw w) A (pyNext it) (λrr s₁=>match rr with
   |none=>R (.ok .next) s₁
   |some v=>wpAny (model pw w) A (letOwnedTupleGo (.Name x px) it v) (λZ s₁=>Rj w A R kx vx iter x px scope pos it Da env E' v s₁) E' s₁) E' s):
  codeAny (model pw w) A (.compLoop (.DictComp kx vx [⟨.Name x px,iter,[],0⟩] scope pos) 0 it (.ref Da) env) R s:=by
 refine codeAny_of_tree ?_
 show wpAny _ A ((compTurn (.DictComp kx vx [⟨.Name x px,iter,[],0⟩] scope pos) 0 it (.ref Da) env).onRaise (λx=>do noteFrame x env;theTreesLotGoes x)) _ _ s
 refine wpAny_noted ?_
 rw[compTurn_dict]
 refine wpAny_bind (wpAny_standAt (wpAny_bind (wpAny_mono (h _) (λrr s₁ h₁=>?_) λZ Z h'=>h')))
 cases rr with
 |none=>exact wpAny_pure h₁
 |some v=>
  refine wpAny_bind (wpAny_mono h₁ (λ_ s₁ h₁=>?_) λZ Z h'=>h')
  unfold Rj at h₁
  refine wpAny_bind (wpAny_mono h₁ (λ_ s₂ h₂=>?_) λZ Z h'=>h')
  refine wpAny_bind (wpAny_pure ?_)
  dsimp only
  rw[if_pos rfl]
  exact wpAny_bind (wpAny_bind (wpAny_mono h₂ (λkv s₃ h₃=>wpAny_bind (wpAny_holding (wpAny_mono h₃ (λvv s₄ h₄=>wpAny_bind (wpAny_standAt (wpAny_holding (wpAny_mono h₄ (λZ s₅ h₅=>wpAny_pure ⟨rfl,h₅⟩) λZ Z h'=>h')))) λZ Z h'=>h'))) λZ Z h'=>h'))
structure GB (w:World) (Gl:List (Str×D)) (env:Env) (names:List (Str×NameKind)) (cel:List (Str×D)) (Da:Addr) (N₀:Az) (wr:List Addr) (St:Nat->Heap->Prop) (i:Nat) (Ac:Az->Heap->Prop) (N:Az) (s:Shared):Prop where
 sub:∀p∈N₀,p∈N
 st:St i s.heap
 vw:Vw w.params Gl N env names [] cel s
 off:∀p∈N,p.1≠env.locals/\p.1≠Da
 acc:Ac N s.heap
 dc:Da≠env.locals
 ow:∀p∈N,p.1∉wr
structure M7 (Da:Addr) (Ac:Az->Heap->Prop):Prop where
 mono:∀ {N N':Az} {h h':Heap},Ac N h->(∀p∈N,p∈N')->(∀o,h.get? Da=some o->h'.get? Da=some o)->Ac N' h'
 live:∀ {N:Az} {h:Heap},Ac N h->∃o,h.get? Da=some o
section
variable {tup:Bool} {N₀ N':Az} {I:Addr} {fp wr:List Addr} {items:List D} {St:Nat->Heap->Prop} {i:Nat} {s':Shared} {Ac Ac':Az->Heap->Prop}
theorem GB.live (b:GB w Gl env names cel Da N₀ wr St i Ac N s) (S:M7 Da Ac):∀a,a=env.locals\/a=Da->∃o,s.heap.get? a=some o:=by
 rintro a (rfl|rfl)
 ·obtain ⟨m,⟨o,_,_,ho,_⟩,_⟩:=b.vw.loc;exact ⟨o,ho⟩
 ·exact S.live b.acc
theorem GB.ext (b:GB w Gl env names cel Da N₀ wr St i Ac N s) (S:M7 Da Ac) (W:Wk tup pw w A w.params N₀ I fp wr items St) (x:A1 N s N' s'):GB w Gl env names cel Da N₀ wr St i Ac N' s':=by
 obtain ⟨o1,h1⟩:=b.live S _ (.inl rfl)
 obtain ⟨o2,h2⟩:=b.live S _ (.inr rfl)
 refine ⟨λp h=>x.sub p (b.sub p h),W.frame _ _ _ b.st λa _ o e=>Am x.keeps a o e,b.vw.ext x,λp hp=>?_,S.mono b.acc x.sub λo e=>Am x.keeps _ _ e,b.dc,λp hp hw=>?_⟩
 ·rcases x.new p hp with h|h
  ·exact b.off p h
  ·exact ⟨λe=>(by rw[e,h1] at h;cases h),λe=>(by rw[e,h2] at h;cases h)⟩
 ·rcases x.new p hp with h|h
  ·exact b.ow p h hw
  ·obtain ⟨o,ho⟩:=W.live _ _ b.st _ (W.sub _ hw)
   rw[ho] at h;cases h
theorem GB.done (b:GB w Gl env names cel Da N₀ wr St i Ac N s) (S:M7 Da Ac) (W:Wk tup pw w A w.params N₀ I fp wr items St) (hfp:∀b∈fp,b≠env.locals/\b≠Da) (hcw:∀x c,names.lookup x=some .cell->env.cells.lookup x=some c->c∉wr)
  {h':Heap} {tk:Nat} (hk:s.toks<=tk) (kp:∀b o,b∉wr->s.heap.get? b=some o->h'.get? b=some o):Vw w.params Gl N env names [] cel {s with heap:=h',toks:=tk}/\Ac N h'/\Gm env.locals Da wr N s N {s with heap:=h',toks:=tk}:=by
 have hC:env.locals∉wr:=λh=>(hfp _ (W.sub _ h)).1 rfl
 have hD:Da∉wr:=λh=>(hfp _ (W.sub _ h)).2 rfl
 obtain ⟨o1,h1⟩:=b.live S _ (.inl rfl)
 obtain ⟨o2,h2⟩:=b.live S _ (.inr rfl)
 refine ⟨b.vw.move (λZ h=>h) (λp hp=>kp _ _ (b.ow p hp) (b.vw.has p hp)) hk (λo e=>kp _ _ hC e) (λx c e1 e2 o e=>kp _ _ (hcw x c e1 e2) e),S.mono b.acc (λZ h=>h) (λo e=>kp _ _ hD e),⟨_,_,rfl⟩,hk,λb o h1 _ _ e=>kp b o h1 e,?_,λZ h=>h,λZ h=>.inl h⟩
 rintro b (rfl|rfl)
 ·exact ⟨o1,kp _ _ hC h1⟩
 ·exact ⟨o2,kp _ _ hD h2⟩
theorem GB.upd (b:GB w Gl env names cel Da N₀ wr St i Ac N s) (S:M7 Da Ac') (W:Wk tup pw w A w.params N₀ I fp wr items St) (hfp:∀b∈fp,b≠env.locals/\b≠Da) (hnc:∀v,¬ s.heap.IsCell Da v)
  {h':Heap} {tk:Nat} (a:Ac' N h') (hb:Heap.SameBut Da s.heap h') (hk:s.toks<=tk):GB w Gl env names cel Da N₀ wr St i Ac' N {s with heap:=h',toks:=tk}/\Gm env.locals Da wr N s N {s with heap:=h',toks:=tk}:=by
 have b':GB w Gl env names cel Da N₀ wr St i Ac' N {s with heap:=h',toks:=tk}:=⟨b.sub,W.frame _ _ _ b.st λc hc o e=>hb.extBut _ _ (hfp c hc).2 e,b.vw.move (λZ h=>h) (λp hp=>hb.extBut _ _ (b.off p hp).2 (b.vw.has p hp)) hk (λo e=>hb.extBut _ _ (Ne.symm b.dc) e) (λx c e1 e2 o e=>hb.extBut _ _ (λq=>by
  refine Mine.S1 (b.vw.cls x e1) λc' v' g1 g2=>?_
  rw[e2] at g1;(replace g1:=Option.some.inj g1;subst g1)
  exact hnc _ (q▸g2)) e),b.off,a,b.dc,b.ow⟩
 exact ⟨b',⟨_,_,rfl⟩,hk,λc o Z Z h e=>hb.extBut _ _ h e,b'.live S,λZ h=>h,λZ h=>.inl h⟩
theorem GB.turn (b:GB w Gl env names cel Da N₀ wr St i Ac N s) (S:M7 Da Ac) (R1:A.handled=none) (W:Wk tup pw w A w.params N₀ I fp wr items St) (hfp:∀b∈fp,b≠env.locals/\b≠Da) (hcw:∀x c,names.lookup x=some .cell->env.cells.lookup x=some c->c∉wr)
  {x:Str} {px:Pos} {d:D} {loc':List (Str×D)} (qb:Hg names (.Name x px) d []=some loc') {Q:Shared->Prop}
  (K:∀N₂ s₂,GB w Gl env names cel Da N₀ wr St (i+1) Ac N₂ s₂->Vw w.params Gl N₂ env names loc' cel s₂->Gm env.locals Da wr N s N₂ s₂->Q s₂)
  (v:Value) (h':Heap) (tk:Nat) (N₁:Az) (hk:s.toks<=tk) (rv:Ax w.params N₁ v d) (st₁:St (i+1) h') (k₁:∀b o,b∉wr->s.heap.get? b=some o->h'.get? b=some o) (sub₁:∀p∈N,p∈N₁) (has₁:Cn N₁ {s with heap:=h',toks:=tk})
  (new₁:∀p∈N₁,p∈N\/s.heap.get? p.1=Option.none):wpAny (model pw w) A (assign (.Name x px) env v) (λ_ s₂=>Q s₂) E {s with heap:=h',toks:=tk}:=by
 have hC:env.locals∉wr:=λh=>(hfp _ (W.sub _ h)).1 rfl
 have hD:Da∉wr:=λh=>(hfp _ (W.sub _ h)).2 rfl
 have live:=b.live S
 have off₁:∀p∈N₁,p.1≠env.locals/\p.1≠Da:=λp hp=>by
  rcases new₁ p hp with h|h
  ·exact b.off p h
  ·obtain ⟨o,ho⟩:=live env.locals (.inl rfl)
   obtain ⟨o',ho'⟩:=live Da (.inr rfl)
   exact ⟨λe=>(by rw[e,ho] at h;cases h),λe=>(by rw[e,ho'] at h;cases h)⟩
 have b₁:GB w Gl env names cel Da N₀ wr St (i+1) Ac N₁ {s with heap:=h',toks:=tk}:=⟨λp h=>sub₁ p (b.sub p h),st₁,b.vw.move sub₁ has₁ hk (λo e=>k₁ _ _ hC e) (λx c e1 e2 o e=>k₁ _ _ (hcw x c e1 e2) e),off₁,S.mono b.acc sub₁ λo e=>k₁ _ _ hD e,b.dc,λp hp hw=>by
  rcases new₁ p hp with h|h
  ·exact b.ow p h hw
  ·obtain ⟨o,ho⟩:=W.live _ _ b.st _ (W.sub _ hw)
   rw[ho] at h;cases h⟩
 have t₁:Gm env.locals Da wr N s N₁ {s with heap:=h',toks:=tk}:=⟨⟨_,_,rfl⟩,hk,λb o h1 Z Z e=>k₁ b o h1 e,b₁.live S,sub₁,λp hp=>(new₁ p hp).imp id .inl⟩
 generalize ({s with heap:=h',toks:=tk}:Shared)=s₁ at b₁ t₁ ⊢
 clear k₁ new₁ st₁ has₁ off₁ sub₁ live hk
 refine Mine.S0 b₁.vw.loc λm hm ql=>?_
 refine AV (Lk b₁.vw.kind b₁.vw.nm R1 b₁.vw.has rv qb hm ql λh₂ tk₂ m₂ hm₂ k₂ ql₂ wk₂ hk₂=>?_)
 have V₂:=b₁.vw.bind hm (λp hp=>(b₁.off p hp).1) k₂ hk₂ hm₂ ql₂
 have b₂:GB w Gl env names cel Da N₀ wr St (i+1) Ac N₁ {s₁ with heap:=h₂,toks:=tk₂}:=⟨b₁.sub,W.frame _ _ _ b₁.st λb hb o e=>k₂ b o (hfp b hb).1 e,V₂.weaken (λx d e=>nomatch e),b₁.off,S.mono b₁.acc (λZ h=>h) λo e=>k₂ _ _ b₁.dc e,b₁.dc,b₁.ow⟩
 have t₂:Gm env.locals Da wr N₁ s₁ N₁ {s₁ with heap:=h₂,toks:=tk₂}:=⟨⟨_,_,rfl⟩,hk₂,λb o Z h1 Z e=>k₂ b o h1 e,b₂.live S,λZ h=>h,λZ h=>.inl h⟩
 generalize ({s₁ with heap:=h₂,toks:=tk₂}:Shared)=s₂ at b₂ t₂ V₂ ⊢
 exact K _ _ b₂ V₂ (t₁.trans t₂)
end
noncomputable abbrev DB (w:World) (Gl:List (Str×D)) (env:Env) (names:List (Str×NameKind)) (cel:List (Str×D)) (Da:Addr) (N₀:Az) (wr:List Addr) (St:Nat->Heap->Prop) (i:Nat) (acc:I8) (N:Az) (s:Shared):Prop:=GB w Gl env names cel Da N₀ wr St i (λN h=>M6 w h Da N acc) N s
theorem HG (w:World) (Da:Addr) (acc:I8):M7 Da (λN h=>M6 w h Da N acc):=⟨λa hs hg=>a.mono hs hg,λa=>a.live⟩
theorem M6.nc {h:Heap} {acc:I8} (a:M6 w h Da N acc):∀v,¬ h.IsCell Da v:=λv c=>by
 obtain ⟨kvs,⟨od,es,ep,q1,q2,q3,_⟩,_⟩:=a
 obtain ⟨o,g2,g3⟩:=c
 rw[q1] at g2;(replace g2:=Option.some.inj g2;subst g2)
 rw[q3] at g3;cases g3
set_option tactic.hygienic true
theorem Rk (R:AG k A) (hr:SE pw w w.params Gl k r.e) {kx vx iter:Expr} {x:Str} {px:Pos} {scope:Scope} {pos:Pos} {tup:Bool} {N₀:Az} {I:Addr} {fp wr:List Addr} {items:List D} {St:Nat->Heap->Prop} (htup:tup=false) (W:Wk tup pw w A w.params N₀ I fp wr items St) (hfp:∀b∈fp,b≠env.locals/\b≠Da)
  (hcw:∀x c,names.lookup x=some .cell->env.cells.lookup x=some c->c∉wr):∀ (rem:List D) (i:Nat) (acc out:I8) (N:Az) (s:Shared),items.drop i=rem->i<=items.length->Rh r names cel (.Name x px) kx vx rem acc=some out->
   DB w Gl env names cel Da N₀ wr St i acc N s->acc.length+rem.length<=Ap->
   codeAny (model pw w) A (.compLoop (.DictComp kx vx [⟨.Name x px,iter,[],0⟩] scope pos) 0 (.ref I) (.ref Da) env) (λres s'=>res=.ok .next/\∃N',Vw w.params Gl N' env names [] cel s'/\(∀p∈N',p.1≠env.locals/\p.1≠Da)/\M6 w s'.heap Da N' out/\Gm env.locals Da wr N s N' s'/\out.length<=Ap) s:=by
 intro rem
 induction rem with
 |nil=>
  intro i acc out N s hdr hi h hB hl
  (replace h:=Option.some.inj h;subst h)
  have hil:i=items.length:=by have:=List.drop_eq_nil_iff.mp hdr;lia
  refine HF λE'=>W.done2 s E' _ (hil▸hB.st) λh' tk hk kp=>?_
  obtain ⟨v,a,t⟩:=hB.done (HG w Da acc) W hfp hcw hk kp
  exact ⟨rfl,N,v,hB.off,a,t,by simpa using hl⟩
 |cons d rem ih=>
  intro i acc out N s hdr hi h hB hl
  have hd:items[i]?=some d:=by
   have:=congrArg (·[0]?) hdr
   simpa using this
  have hdr':items.drop (i+1)=rem:=by
   have:=congrArg (List.drop 1) hdr
   simpa [List.drop_drop,Nat.add_comm] using this
  have hi':i+1<=items.length:=(List.getElem?_eq_some_iff.mp hd).1
  unfold Rh at h
  revert h
  refine Mine.Br λloc' qb h=>?_
  revert h
  refine Mine.Br λkd qk h=>?_
  rcases kd with _|_<;>first|exact Aa h|skip
  rename_i ks
  replace h:((r.e names loc' cel vx).bind λv=>Rh r names cel (.Name x px) kx vx rem (G4 ks v acc))=some out:=h
  revert h
  refine Mine.Br λvd qv h=>?_
  replace h:Rh r names cel (.Name x px) kx vx rem (G4 ks vd acc)=some out:=h
  refine HF λE'=>?_
  refine wpAny_mono (W.item2 i d s N (.Name x px) E' (Rj w A _ kx vx iter x px scope pos (.ref I) Da env E') (λe=>by rw[htup] at e;exact B7 e) hd hB.st hB.vw.has hB.sub hB.ow
    (hB.turn (HG w Da acc) R.1 W hfp hcw qb λN₁ s₂ b₂ V₂ t₂=>?_)) (λrr s₁ h=>by obtain ⟨v,e,h⟩:=h;subst e;exact h) λZ Z e=>e
  refine Gq hr qk R V₂ λkv s₃ N₃ x₃ r₃=>?_
  have V₃:=V₂.ext x₃
  have b₃:=b₂.ext (HG w Da acc) W x₃
  have t₃:=t₂.trans (Gm.of_ext (wr:=wr) x₃ (b₂.live (HG w Da acc)))
  refine Gq hr qv R V₃ λvv s₄ N₄ x₄ r₄=>?_
  have b₄:=b₃.ext (HG w Da acc) W x₄
  have t₄:=t₃.trans (Gm.of_ext (wr:=wr) x₄ (b₃.live (HG w Da acc)))
  refine Mine.S0 r₃.strOf λtk eq1 hks=>?_
  subst eq1
  have hput:=Ri ks vd acc
  refine b₄.acc.put r₄ hks (by simp at hl;lia) λh₅ a₅ hb₅=>?_
  obtain ⟨b₅,t₅⟩:=b₄.upd (HG w Da (G4 ks vd acc)) W hfp b₄.acc.nc a₅ hb₅ (Nat.le_succ _)
  refine codeAny_mono (ih (i+1) (G4 ks vd acc) out N₄ _ hdr' hi' h b₅ (by simp at hl;lia)) λres s' h=>?_
  revert h
  refine Mine.iq λe1 N' g1 g2 g3 g4 g5=>?_
  exact ⟨e1,N',g1,g2,g3,(t₄.trans t₅).trans g4,g5⟩
set_option tactic.hygienic false
end
noncomputable def GU (Gl:List (Str×D)) (r:CA) (names:List (Str×NameKind)) (loc cel:List (Str×D)) (kx vx t it:Expr) (scope:Scope):Option I8:=
 if Ft names scope.names&&decide (scope.kind=.function)&&N9 t then
  (Bu Gl r names loc cel t it).bind λitems=>if items.length<=Ap then Rh r (Cj names scope.names) cel t kx vx items [] else none
 else none
section
variable {w:World} {A:Around} {E:Value->Shared->Prop} {s:Shared} {N:Az} {Gl:List (Str×D)} {k:Nat} {env:Env} {names:List (Str×NameKind)} {loc cel:List (Str×D)} {r:CA} {M:Addr->Prop} {σ:Sg} {owned:List Str}
theorem GV {kx vx it:Expr} {x:Str} {px:Pos} {scope:Scope} {pos ipos:Pos} {out:I8} {use:Option (Value->Sem Unit)} {Q:Value->Shared->Prop} (R:AG k A) (hr:SE pw w w.params Gl k r.e)
  (V:Vw w.params Gl N env names loc cel s) (h:GU Gl r names loc cel kx vx (.Name x px) it scope=some out)
  (hq:∀a C N' s',A1 N s N' s'->Ax w.params N' a (.dict (out.map (·.1)) (out.map (·.2)))->(∃m,s'.heap.Ns C m)->(∀p∈N',p.1≠C)->s.heap.get? C=Option.none->compPost (model pw w) A E use Q a C (.ok .next) s'):
  wpAny (model pw w) A (comprehension (.DictComp kx vx [⟨.Name x px,it,[],0⟩] scope pos) scope env ipos newDict false (eval it env) use) Q E s:=by
 unfold GU at h
 revert h
 refine BO λhc h=>?_
 rw[Bool.and_eq_true,Bool.and_eq_true,decide_eq_true_eq] at hc
 revert hc
 refine Mine.T7 λhco hkind _=>?_
 revert h
 refine Mine.Br λitems qi h=>?_
 replace h:(if items.length<=Ap then Rh r (Cj names scope.names) cel (.Name x px) kx vx items [] else none)=some out:=h
 revert h
 refine BO λhil h=>?_
 have h0:=h
 clear h
 refine Fv (PO:=λo=>o={cls:=.type "dict",dict:=none,data:=.dict #[]}) R hr V rfl hco hkind qi (λ_ e=>e▸rfl) (λh=>wpAny_newObj_type (h _ rfl)) (λa b=>codeAny_compStart_dict a (b _)) λ{tup cl N₂ I fp wr St s₂ h₁ o} htup po W st ho hD x₂ c=>?_
 subst po
 have htup':tup=false:=by
  cases tup with
  |false=>rfl
  |true=>cases htup rfl
 have hacc:h₁.DictOf (strKind pw w) s₂.heap.objs.size []:=(Heap.DictOf.new s₂.heap).at λo e=>by
  rw[Heap.get?_push_size _ rfl] at e
  rw[<-e];exact hD
 refine codeAny_mono (Rk (iter:=it) R hr htup' W c.fp c.cw items 0 [] out N₂ _ rfl (Nat.zero_le _) h0 ⟨λZ h=>h,st,c.vw,c.off,⟨[],hacc,rfl,.nil,λp hp=>nomatch hp⟩,c.dc,ho⟩ (by simpa using hil)) λres s' h=>?_
 revert h
 refine Mine.iq λeq1 N' c' off' a' t' hol=>?_
 subst eq1
 have hsys:(s₂.heap.objs.size==sysModules)=false:=by
  have h2:=Am x₂.keeps _ _ (V.has _ ((V.top s.heap V.has).2.2 _ (Dj (a:=2) (o:=o2 w.params) (by kernel_rfl))))
  have h3:2<s₂.heap.objs.size:=Heap.lt_size h2
  refine beq_false_of_ne λe=>?_
  rw[e] at h3
  exact absurd h3 (by decide)
 refine Mine.S0 (a'.rel hsys hol) λo hDo hrel=>?_
 obtain ⟨sh,tk,sub,nw⟩:=c.out t'
 refine Mine.S0 c'.loc λm' hm' _=>?_
 refine hq (.ref s₂.heap.objs.size) _ ((s₂.heap.objs.size,o)::N') s' ⟨sh,tk,λp hp=>.tail _ (sub p hp),λp hp=>?_,λp hp=>?_⟩ hrel ⟨m',hm'⟩ (λp hp=>?_) c.frC
 ·rcases List.mem_cons.mp hp with rfl|hp
  ·exact hDo
  ·exact c'.has p hp
 ·rcases List.mem_cons.mp hp with rfl|hp
  ·exact .inr (c.frs _ (Nat.le_refl _))
  ·exact nw p hp
 ·rcases List.mem_cons.mp hp with rfl|hp
  ·exact c.dc
  ·exact (off' p hp).1
theorem Iv {y:Str} {py:Pos} {kx vx it:Expr} {x:Str} {px:Pos} {scope:Scope} {cpos pos:Pos} {out:I8} {σ':Sg} (R:AG k A) (hr:SE pw w w.params Gl k r.e)
  (S:SS w.params Gl env names N M σ s) (h:GU Gl r names σ.loc σ.cel kx vx (.Name x px) it scope=some out) (hp:put names owned y (.dict (out.map (·.1)) (out.map (·.2))) σ=some σ'):
  wpAny (model pw w) A (exec (.Assign [.Name y py] (.DictComp kx vx [⟨.Name x px,it,[],0⟩] scope cpos) pos) env) (BP w Gl names env N M s .next σ') E s:=by
 have hsw:∃b,swapsWith (.DictComp kx vx [⟨.Name x px,it,[],0⟩] scope cpos) (some (.Name y py)) pos.line env=pure b:=⟨_,rfl⟩
 obtain ⟨b,hsw⟩:=hsw
 cases b with
 |true=>
  rw[exec_Assign_Name_used _ _ _ _ hsw]
  refine wpAny_bind (wpAny_standAt (wpAny_bind ?_))
  show wpAny _ A (do let _<-comprehension (.DictComp kx vx [⟨.Name x px,it,[],0⟩] scope cpos) scope env _ newDict false (eval it env) (some (assign (.Name y py) env))) _ _ s
  refine wpAny_bind (wpAny_mono (GV (use:=some (assign (.Name y py) env)) (Q:=λ_ s'=>BP w Gl names env N M s .next σ' .next s') R hr S.vw h λacc C N' s' y rv hC ho hf=>?_) (λZ s' hq=>wpAny_pure (wpAny_pure hq)) λZ Z e=>e)
  obtain ⟨m,hm⟩:=hC
  show wpAny _ A (assign (.Name _ py) env acc) _ _ s'
  have S₁:=S.ext y
  have hMC:¬ M C:=λhM=>by obtain ⟨o,ho⟩:=S.live C hM;rw[hf] at ho;exact Aa ho
  refine wpAny_assign_Name (D2 S₁ rv hp λs₂ S₂ t₂=>?_)
  refine ⟨m,hm.at' λo e=>t₂.kp _ _ hMC e,λh' hs=>?_⟩
  have kp:∀b o,¬ (b=C)->s₂.heap.get? b=some o->h'.get? b=some o:=λb o hb e=>hs.extBut b o hb e
  have T:=(Tr.of_ext (M:=M) y).trans t₂
  refine ⟨N',M,S₂.step (W:=λb=>b=C) (s':={s₂ with heap:=h'}) (Nat.le_refl _) kp (λb hM e=>hMC (e▸hM)) (λZ h=>h) (λp hp=>kp _ _ (ho p hp) (S₂.has p hp)) λZ h=>.inl h,T.step (W:=λb=>b=C) (s':={s₂ with heap:=h'}) (Nat.le_refl _) kp (λb e=>e▸hf) ⟨h',s₂.toks,rfl⟩ (λZ h=>h) λZ h=>.inl h,trivial⟩
 |false=>
  refine wpAny_Assign_Name ?_ hsw
  rw[arm_eval_DictComp]
  refine GV (use:=none) R hr S.vw h λacc C N' s' y rv hC ho hf=>?_
  obtain ⟨m,hm⟩:=hC
  refine ⟨m,hm,λh' hs=>?_⟩
  have hne:∀b o,s.heap.get? b=some o->b≠C:=λb o e q=>by rw[q,hf] at e;exact Aa e
  have y':A1 N s N' {s' with heap:=h'}:=by
   refine Mine.S1 y.keeps λh2 t2 eq1 k2=>?_
   subst eq1
   exact ⟨⟨h',t2,rfl,λb o e=>hs.extBut b o (hne b o e) (k2 b o e)⟩,y.tk,y.sub,λp hp=>hs.extBut _ _ (ho p hp) (y.has p hp),y.new⟩
  exact D2 (S.ext y') rv hp λs₂ S₂ t₂=>⟨N',M,S₂,(Tr.of_ext y').trans t₂,trivial⟩
end
end Mine
namespace Mine
open PySem PySem.Calls PyProof.Rows PySem.W
noncomputable def Kh (k:List Nat) (dflt:D):List (List Nat)->List D->D
 |k'::ks,d::ds=>if k'=k then d else Kh k dflt ks ds
 |_,_=>dflt
noncomputable def HH (ks:List (List Nat)) (ds:List D) (name:Str) (as:List D):Option D:=
 if name="get" then two as (λa dflt=>(Bm a).bind λk=>if ks.length=ds.length then some (Kh k dflt ks ds) else none) else none
theorem Pf (a b c:Value):argsOk "dict.get" ⟨[a,b,c],[]⟩:=by unfold argsOk;kernel_rfl
section
variable {w:World} {Gl:List (Str×D)} {k:Nat} {N:Az}
theorem UT {P:Params} {x:List Nat} {dv:Value} {dflt:D} (rd:Ax P N dv dflt) (ks:List (List Nat)):∀ (vs:List Value) (ds:List D),ks.length=vs.length->Ar P N vs ds->Ax P N ((valueAt ((ks.map S).zip vs) (S x)).getD dv) (Kh x dflt ks ds):=by
 induction ks with
 |nil=>
  intro vs ds _ _
  show Ax P N dv (Kh x dflt [] ds)
  unfold Kh
  exact rd
 |cons k' ks ih=>
  intro vs ds hl r
  cases r with
  |nil=>exact absurd hl (Nat.succ_ne_zero _)
  |cons r1 r2=>
   replace ih:=ih _ _ (Nat.succ.inj hl) r2
   unfold valueAt at ih ⊢
   rw[List.map_cons,List.zip_cons_cons,List.find?_cons]
   show Ax P N _ (if k'=x then _ else _)
   by_cases hk:k'=x
   ·rw[if_pos hk,decide_eq_true (by rw[hk])]
    exact r1
   ·rw[if_neg hk,decide_eq_false (λq=>hk (Lg q))]
    exact ih
set_option tactic.hygienic true
theorem Lz {ks:List (List Nat)} {ds as:List D} {name:Str} {d:D} (h:HH ks ds name as=some d):Ct w Gl k (.dict ks ds) name as d:=by
 unfold HH at h
 revert h
 refine BO λhn h=>?_
 subst hn
 refine Mine.S1 (Fw h) λa dflt eq1 h2=>?_
 subst eq1
 clear h
 rcases a with _|_<;>first|exact Aa h2|skip
 rename_i x
 replace h2:(if ks.length=ds.length then some (Kh x dflt ks ds) else none)=some d:=h2
 split at h2
 rotate_left
 ·exact Aa h2
 (replace h2:=Option.some.inj h2;subst h2)
 refine ⟨"dict.get",λA E s N ov pl Q R T ro hq=>?_,λA E s N ov vs R T ro rs=>?_⟩
 ·refine Mine.S5 ro.inv λa es n eq1 m _=>?_
  subst eq1
  exact getMethod_builtin (T:="dict") ⟨_,T.has _ m,rfl⟩ F.plainAttrs_dict F.slot_dict_get F.type_dict_get (λa e=>by cases e;exact ⟨_,T.has _ m,rfl⟩) hq
 ·refine Mine.ik ro.inv λa es n eq1 m hl hnd hks hsys hk r=>?_
  subst eq1
  ·skip
   refine Mine.S3 (DO rs) λv u eq1 rv ru=>?_
   subst eq1
   refine Mine.S0 rv.strOf λt eq1 hx=>?_
   subst eq1
   have hD:=Qz (prog:=pw) (T.has _ m) hnd hk
   have hDO:s.heap.DictOf (strKind pw w) a ((ks.map S).zip (es.map (·.val))):=by
    obtain ⟨o,e1,q1,q2,q3,q4,q5,q6⟩:=hD
    exact ⟨o,e1,_,q1,q2,q3,q4,q5,q6⟩
   have hlen:ks.length=(es.map (·.val)).length:=by rw[List.length_map,F0 hk]
   have hkey:(PySem.strKind pw w).is (S x) (.str (S x) t)=true:=by simp[PySem.strKind,Value.isStrOf]
   refine call_meetsIn F.slot_dict_get ⟨_,T.has _ m,rfl⟩ F.entry_dict_get (Pf _ _ _) (meets_dict_get_default (hkey:=hkey) (hd:=hsys) (dflt:=u)) ⟨_,hDO.mapOf,?_⟩
   exact ⟨N,A1.toks T.has _,UT ru ks _ ds hlen r⟩
set_option tactic.hygienic false
end
end Mine
namespace Mine
open PySem PySem.Calls PyProof.Rows PySem.W PySem.SeqAt PySem.MeetsSeq PySem.MeetsSeq2 PySem.MeetsSeq3
noncomputable def Co (lt:Bool):List (List Nat)->List (List Nat)->Bool
 |x::xs,y::ys=>if x=y then Co lt xs ys else (if lt then decide (x<y) else decide (y<x))
 |xs,ys=>if lt then decide (xs.length<ys.length) else decide (ys.length<xs.length)
noncomputable def Rl (vs:Array Value) (xs:List (List Nat)):Prop:=vs.size=xs.length/\∀ (j:Nat) (x:List Nat),xs[j]?=some x->∃t,vs[j]?=some (Value.str (S x) t)
theorem LA (lt:Bool) (xs ys:List (List Nat)) (i:Nat) (hx:i<=xs.length) (hy:i<=ys.length) (h:xs.length=i\/ys.length=i):Co lt (xs.drop i) (ys.drop i)=(if lt then decide (xs.length<ys.length) else decide (ys.length<xs.length)):=by
 have e1:(xs.drop i).length=xs.length-i:=List.length_drop
 have e2:(ys.drop i).length=ys.length-i:=List.length_drop
 have key:Co lt (xs.drop i) (ys.drop i)=if lt then decide ((xs.drop i).length<(ys.drop i).length) else decide ((ys.drop i).length<(xs.drop i).length):=by
  cases qx:xs.drop i with
  |nil=>cases qy:ys.drop i<;>rfl
  |cons x xr=>
   cases qy:ys.drop i with
   |nil=>rfl
   |cons y yr=>
    rw[qx] at e1;rw[qy] at e2
    rcases h with h|h
    ·rw[h,Nat.sub_self] at e1;exact absurd e1 (Nat.succ_ne_zero _)
    ·rw[h,Nat.sub_self] at e2;exact absurd e2 (Nat.succ_ne_zero _)
 rw[key,e1,e2]
 have a1:decide (xs.length-i<ys.length-i)=decide (xs.length<ys.length):=decide_eq_decide.mpr (Nat.sub_lt_sub_iff_right hx)
 have a2:decide (ys.length-i<xs.length-i)=decide (ys.length<xs.length):=decide_eq_decide.mpr (Nat.sub_lt_sub_iff_right hy)
 rw[a1,a2]
theorem Rm (lt:Bool) (l b:Addr) (items items2:Array Value) (xs ys:List (List Nat)) (n n2:Nat) (dd dd2:Option Addr) (sl sl2:Array (Option Value)) (hx:Rl items xs) (hy:Rl items2 ys) (k:Nat):
  ∀i:Nat,items.size-i=k->i<=items.size->i<=items2.size->Meets (Builtin.«list.__eq__.loop» ⟨[.ref l,.ref b,rawInt i,rawInt (cond lt 0 4)],[]⟩)
   (λA R s=>s.heap.get? l=some {cls:=.type "list",dict:=dd,data:=.seq items n,slots:=sl}/\s.heap.get? b=some {cls:=.type "list",dict:=dd2,data:=.seq items2 n2,slots:=sl2}/\
    R (.ok (.ret (.bool (Co lt (xs.drop i) (ys.drop i))))) s):=by
 obtain ⟨bb,hbb⟩:∃b,b=lt:=⟨_,rfl⟩
 cases lt<;>dsimp only[cond]<;>(
 induction k with
 |zero=>
  intro i hk hi1' hi2' prog w A R s h
  obtain ⟨hp,g,d,tk,os⟩:=s;obtain ⟨hl,hb,h⟩:=h
  wp_walk using wpAny_loadPart' hl,wpAny_loadPart' hb
  have hi1:items[((i:Nat):Int).toNat]?=none:=by simp;lia
  rw[hi1]
  wp_walk using wpAny_loadPart' hl,wpAny_loadPart' hb
  rw[LA _ xs ys i (by rw[<-hx.1];exact hi1') (by rw[<-hy.1];exact hi2') (.inl (ek hk hi1' hx.1)),<-hx.1,<-hy.1] at h
  exact h
 |succ k ih=>
  intro i hk hi1' hi2' prog w A R s h
  obtain ⟨hp,g,d,tk,os⟩:=s;obtain ⟨hl,hb,h⟩:=h
  wp_walk using wpAny_loadPart' hl,wpAny_loadPart' hb
  have hlt:i<items.size:=eq hk
  have hc:((i:Int)+1)=((i+1:Nat):Int):=by push_cast;rfl
  by_cases hlt2:i<items2.size
  ·obtain ⟨t,ht⟩:=hx.2 i (xs[i]'(by rw[<-hx.1];exact hlt)) (List.getElem?_eq_getElem _)
   obtain ⟨u,hu⟩:=hy.2 i (ys[i]'(by rw[<-hy.1];exact hlt2)) (List.getElem?_eq_getElem _)
   have hi1:items[((i:Nat):Int).toNat]?=some (.str (S (xs[i]'(by rw[<-hx.1];exact hlt))) t):=by simpa using ht
   have hi2:items2[((i:Nat):Int).toNat]?=some (.str (S (ys[i]'(by rw[<-hy.1];exact hlt2))) u):=by simpa using hu
   rw[List.drop_eq_getElem_cons (l:=xs) (by rw[<-hx.1];exact hlt),List.drop_eq_getElem_cons (l:=ys) (by rw[<-hy.1];exact hlt2)] at h
   unfold Co at h
   generalize (xs[i]'(by rw[<-hx.1];exact hlt))=x at hi1 h
   generalize (ys[i]'(by rw[<-hy.1];exact hlt2))=y at hi2 h
   rw[hi1,hi2]
   refine wpAny_bind (Lb x y t u prog w _ _ ?_)
   by_cases hxy:x=y
   ·rw[if_pos hxy] at h
    rw[decide_eq_true hxy]
    wp_walk
    rw[hc]
    exact ⟨plainId_quiet plain_eq_loop _,codeAny_builtin entry_eq_loop (by
     rw[Around.under_plainId plain_eq_loop _]
     exact ih (i+1) (ei hk) hlt hlt2 prog w A R _ ⟨hl,hb,h⟩)⟩
   ·rw[if_neg hxy] at h
    rw[decide_eq_false hxy]
    wp_walk using wpAny_loadPart' hl,wpAny_loadPart' hb
    rw[hi1,hi2]
    first|have Z:=(hbb:bb=true);refine wpAny_bind (richCompare_meets (op:=.Lt) (typeIs_str _ _ _) (typeIs_str _ _ _) F.slot_str_lt F.entry_str_lt (F.args_str_lt_2 _ _) (gives_str_lt _ _ t u).meets ⟨(λe=>nomatch e),?_⟩)|refine wpAny_bind (richCompare_meets (op:=.Gt) (typeIs_str _ _ _) (typeIs_str _ _ _) F.slot_str_gt F.entry_str_gt (F.args_str_gt_2 _ _) (gives_str_gt _ _ t u).meets ⟨(λe=>nomatch e),?_⟩)
    refine wpAny_pure ?_
    rw[CO,CO]
    exact h
  ·have hi2:items2[((i:Nat):Int).toNat]?=none:=by simp;lia
   have hi1:items[((i:Nat):Int).toNat]?=some items[i]:=by simp[hlt]
   rw[hi1,hi2]
   wp_walk using wpAny_loadPart' hl,wpAny_loadPart' hb
   rw[LA _ xs ys i (by rw[<-hx.1];exact hi1') (by rw[<-hy.1];exact hi2') (.inr (by have:=hy.1;lia)),<-hx.1,<-hy.1] at h
   exact h)
theorem Pg (lt:Bool) {prog:Program} {w:World} {A:Around} {E:Value->Shared->Prop} {s:Shared} {Q:Value->Shared->Prop} {l b:Addr} {items items2:Array Value} {xs ys:List (List Nat)} (hl:s.heap.IsList l items) (hb:s.heap.IsList b items2) (hx:Rl items xs) (hy:Rl items2 ys) (hu:A.units<cLine)
   (h:Q (.bool (Co lt xs ys)) s):wpAny (model prog w) A (richCompare (cond lt .Lt .Gt) (.ref l) (.ref b)) Q E s:=by
 obtain ⟨bb,hbb⟩:∃b,b=lt:=⟨_,rfl⟩
 cases lt<;>dsimp only[cond]<;>(
 obtain ⟨⟨cls,dd,data,sl⟩,ho,hc,n,hd⟩:=id hl
 obtain ⟨⟨cls2,dd2,data2,sl2⟩,ho2,hc2,n2,hd2⟩:=id hb
 simp only at hc hd hc2 hd2
 subst hc hd hc2 hd2
 (first
  |have Z:=(hbb:bb=true);refine richCompare_meets_room (op:=.Lt) (S:=λA R s=>s.heap.get? l=some {cls:=.type "list",dict:=dd,data:=.seq items n,slots:=sl}/\s.heap.get? b=some {cls:=.type "list",dict:=dd2,data:=.seq items2 n2,slots:=sl2}/\
    R (.ok (.ret (.bool (Co _ xs ys)))) s) ⟨_,ho,rfl⟩ ⟨_,ho2,rfl⟩ F.slot_list_lt F.entry_list_lt (F.args_list_lt_2 _ _) ?_ ⟨ho,ho2,show Value.bool _≠Value.notImplemented/\Q _ s from ⟨(λx=>nomatch x),h⟩⟩ hu
  |refine richCompare_meets_room (op:=.Gt) (S:=λA R s=>s.heap.get? l=some {cls:=.type "list",dict:=dd,data:=.seq items n,slots:=sl}/\s.heap.get? b=some {cls:=.type "list",dict:=dd2,data:=.seq items2 n2,slots:=sl2}/\
    R (.ok (.ret (.bool (Co _ xs ys)))) s) ⟨_,ho,rfl⟩ ⟨_,ho2,rfl⟩ F.slot_list_gt F.entry_list_gt (F.args_list_gt_2 _ _) ?_ ⟨ho,ho2,show Value.bool _≠Value.notImplemented/\Q _ s from ⟨(λx=>nomatch x),h⟩⟩ hu)
 intro prog w A R s h
 obtain ⟨hp,g,d,tk,os⟩:=s;obtain ⟨hl,hb,h⟩:=h
 have f3:=AutoSeq1.sub_list_list
 wp_walk using wpAny_loadPart' hl,wpAny_loadPart' hb
 exact ⟨plainId_quiet plain_eq_loop _,codeAny_builtin entry_eq_loop (by
   rw[Around.under_plainId plain_eq_loop _]
   exact Rm _ l b items items2 xs ys n n2 dd dd2 sl sl2 hx hy _ 0 rfl (Nat.zero_le _) (Nat.zero_le _) prog w A R _ ⟨hl,hb,by simpa using h⟩)⟩)
noncomputable def D8:D->Option (List (List Nat))
 | .list ds=>A7 ds
 |_=>none
noncomputable def Oa (lt:Bool):D->Option D
 | .list ds=>two ds λa b=>(D8 a).bind λxs=>(D8 b).bind λys=>some (if Co lt ys xs then b else a)
 |_=>none
section
variable {w:World} {A:Around} {E:Value->Shared->Prop} {s:Shared} {N:Az} {v u:Value} {vs:List Value} {a b d:D} {as:List D}
set_option tactic.hygienic true
theorem I9 {P:Params}:∀ {vs:List Value} {ds:List D} {xs:List (List Nat)},A7 ds=some xs->Ar P N vs ds->vs.length=xs.length/\∀ (j:Nat) (x:List Nat),xs[j]?=some x->∃t,vs[j]?=some (Value.str (S x) t)
 |[],ds,xs,h,r=>by cases r;(replace h:=Option.some.inj h;subst h);exact ⟨rfl,λj x h=>by simp at h⟩
 |v::vs,ds,xs,h,r=>by
  cases r with
  |cons r1 r2=>
   rename_i dd ds
   unfold A7 at h
   rw[List.mapM_cons] at h
   rcases dd with _|_<;>first|exact Aa h|skip
   rename_i z
   refine Mine.ob (show (ds.mapM Bm).bind (λr=>some (z::r))=some _ from h) λzs q h=>?_
   (replace h:=Option.some.inj h;subst h)
   refine Mine.S0 r1.strOf λt eq1 _=>?_
   subst eq1
   obtain ⟨e,k⟩:=I9 (show A7 ds=some zs from q) r2
   refine ⟨by simp[e],λj y hj=>?_⟩
   cases j with
   |zero=>simp at hj;subst hj;exact ⟨t,rfl⟩
   |succ j=>exact k j y (by simpa using hj)
theorem Ob {P:Params} {xs:List (List Nat)} (r:Ax P N v a) (h:D8 a=some xs):∃l vs n,v=.ref l/\(l,AZ vs n)∈N/\Rl vs.toArray xs:=by
 rcases a with _|_<;>first|exact Aa h|skip
 rename_i ds
 refine Mine.S4 r.listOf λl vs n eq1 m hl rr=>?_
 subst eq1
 obtain ⟨e,k⟩:=I9 h rr
 exact ⟨l,vs,n,rfl,m,by simpa using e,λj x hj=>by obtain ⟨t,q⟩:=k j x hj;exact ⟨t,by simpa using q⟩⟩
set_option tactic.hygienic false
theorem UU {lt:Bool} (h:Oa lt a=some d):∃x y xs ys,a=.list [x,y]/\D8 x=some xs/\D8 y=some ys/\d=(if Co lt ys xs then y else x):=by
 rcases a with _|_<;>first|exact Aa h|skip
 replace h:=Fw (show two _ _=some d from h)
 revert h
 refine Mine.T1 λx y eq1 h=>?_
 subst eq1
 revert h
 refine Mine.Br λxs q h=>?_
 revert h
 refine Mine.Br λys q2 h=>?_
 (replace h:=Option.some.inj h;subst h)
 exact ⟨x,y,xs,ys,rfl,q,q2,rfl⟩
noncomputable def iU:String->Builtin:=(λ(f:String->Builtin) (_:f "min"=Builtin.«min»)=>f) _ rfl
noncomputable def iV:String->CmpOp->Builtin:=(λ(f:String->CmpOp->Builtin) (_:f "min" .Lt=Builtin.«min.loop»)=>f) _ rfl
theorem Fz (lt:Bool):plainId (cond lt "min.loop" "max.loop")=true:=by cases lt;exact F.plain_max_loop;exact F.plain_min_loop
theorem M8 (lt:Bool):entryFor table (cond lt "min.loop" "max.loop")=some (iV (cond lt "min" "max") (cond lt .Lt .Gt)):=by cases lt;exact F.entry_max_loop;exact F.entry_min_loop
theorem Oc (lt:Bool) (R:AG 0 A) (hN:Cn N s) (rv:Ax w.params N v a) (h:Oa lt a=some d):wpAny (model pw w) A (call (.builtin (cond lt "min" "max")) [v]) (Gv w.params N s d) E s:=by
 refine Mine.iP (UU h) λx y xs ys eq1 h1 h2 eq2=>?_
 subst eq1 eq2
 refine Mine.S4 rv.listOf λl us n eq1 m hl r=>?_
 subst eq1
 refine Mine.S3 (DO r) λv u eq1 r1 r2=>?_
 subst eq1
 refine Mine.S5 (Ob r1 h1) λl1 vs1 n1 eq1 m1 t1=>?_
 subst eq1
 refine Mine.S5 (Ob r2 h2) λl2 vs2 n2 eq1 m2 t2=>?_
 subst eq1
 have hL:=AM hN m
 have L1:=AM hN m1
 have L2:=AM hN m2
 have off:∀p∈N,p.1≠s.heap.objs.size:=λp hp=>Nat.ne_of_lt (Heap.lt_size (hN p hp))
 have off2:∀p∈N,p.1≠s.heap.objs.size+1:=λp hp=>Nat.ne_of_lt (Nat.lt_succ_of_lt (Heap.lt_size (hN p hp)))
 have hu:A.in1.units<cLine:=by have:=R.2.2;show A.units+1<cLine;lia
 have hname:(toString (cond lt "min" "max")++toString ".loop":String)=cond lt "min.loop" "max.loop":=by cases lt<;>decide
 refine AV ?_
 refine call_function_tree (b:=iU (cond lt "min" "max")) (by cases lt;exact F.kind_max;exact F.kind_min) (by cases lt;exact F.plain_max;exact F.plain_min) (by cases lt;exact F.entry_max;exact F.entry_min) (by cases lt;exact F.args_max1 _;exact F.args_min1 _) ?_
 show wpAny _ A.in1 (Builtin.Builtins.bindParams (cond lt "min" "max") ["key","default"] 0 ⟨[],[]⟩>>=_) _ _ s
 refine wpAny_bind (wpAny_of_eq (show Builtin.Builtins.bindParams (cond lt "min" "max") ["key","default"] 0 ⟨[],[]⟩=pure [none,none] from rfl) ?_)
 refine wpAny_bind (wpAny_pure ?_)
 refine wpAny_bind (wpAny_pyIter_list hL ?_)
 refine wpAny_bind (wpAny_newObj_type ?_)
 rw[hname]
 have W:=Walks.list (prog:=pw) (w:=w) (A:=A.in1) R.1 s.heap.objs.size l (off _ m) #[.ref l1,.ref l2]
 have sz:(s.heap.push ({cls:=.type "list_iterator",data:=.fields #[.ref l,.int 0 0]}:Obj)).objs.size=s.heap.objs.size+1:=by simp[Heap.push]
 have hwr:∀b:Addr,b≠s.heap.objs.size->b∉[s.heap.objs.size]:=λb h hb=>h (by simpa using hb)
 have hSw:s.heap.objs.size+1∉[s.heap.objs.size]:=hwr _ (Nat.succ_ne_self _)
 have MA:∀b∈[s.heap.objs.size,l],s.heap.objs.size+1≠b:=by
  intro b hb
  simp only[List.mem_cons,List.not_mem_nil,or_false] at hb
  rcases hb with rfl|rfl
  ·exact Nat.succ_ne_self _
  ·exact (off2 _ m).symm
 refine wpAny_pure ⟨plainId_quiet (Fz lt) _,?_⟩
 have S0:((s.heap.push ({cls:=.type "list_iterator",data:=.fields #[.ref l,.int 0 0]}:Obj)).push ({cls:=.type "list",data:=.seq #[]}:Obj)).get? (s.heap.objs.size+1)=some ({cls:=.type "list",data:=.seq #[]}:Obj):=by
  have:=Heap.get?_push_size (s.heap.push ({cls:=.type "list_iterator",data:=.fields #[.ref l,.int 0 0]}:Obj)) (o:=({cls:=.type "list",data:=.seq #[]}:Obj)) rfl
  rw[sz] at this;exact this
 rw[sz]
 have st0:((s.heap.push ({cls:=.type "list_iterator",data:=.fields #[.ref l,.int 0 0]}:Obj)).push ({cls:=.type "list",data:=.seq #[]}:Obj)).IsListIter s.heap.objs.size l 0/\((s.heap.push ({cls:=.type "list_iterator",data:=.fields #[.ref l,.int 0 0]}:Obj)).push ({cls:=.type "list",data:=.seq #[]}:Obj)).IsList l #[.ref l1,.ref l2]:=
  ⟨⟨_,Heap.get?_push_of_some _ (Heap.get?_push_size _ rfl),rfl,rfl⟩,(hL.push _).push _⟩
 have k0:∀b o,s.heap.get? b=some o->((s.heap.push ({cls:=.type "list_iterator",data:=.fields #[.ref l,.int 0 0]}:Obj)).push ({cls:=.type "list",data:=.seq #[]}:Obj)).get? b=some o:=λb o e=>Heap.get?_push_of_some _ (Heap.get?_push_of_some _ e)
 generalize ((s.heap.push ({cls:=.type "list_iterator",data:=.fields #[.ref l,.int 0 0]}:Obj)).push ({cls:=.type "list",data:=.seq #[]}:Obj))=h0 at S0 st0 k0 ⊢
 refine codeAny_builtin (M8 lt) ?_
 rw[Around.under_plainId (Fz lt) _]
 show wpAny _ A.in1 (seqItems? (.ref (s.heap.objs.size+1))>>=_) _ _ _
 refine wpAny_bind (wpAny_seqItems S0 rfl ?_)
 show wpAny _ A.in1 (tryCatch (pyNext (.ref s.heap.objs.size)) _>>=_) _ _ _
 refine wpAny_bind (wpAny_tryCatch (W.item 0 _ _ _ Nat.zero_lt_two st0 λv h' tk hP hst' hk'=>?_))
 have e1:v=.ref l1:=by simpa using hP.symm
 subst e1
 have hS':=hk' _ _ hSw S0
 show wpAny _ A.in1 (updateSeq (s.heap.objs.size+1) (λZ=>#[.ref l1,.ref l1])>>=_) _ _ _
 refine wpAny_bind ?_
 refine wpAny_updateSeq hS' rfl ?_
 rw[hname]
 have S1:=Heap.get?_update_self (Obj.mapSeq λZ=>#[.ref l1,.ref l1]) hS' rfl
 have st1:=W.frame _ _ _ hst' λb hb o e=>(Heap.get?_update_other _ (Obj.mapSeq λZ=>#[.ref l1,.ref l1]) (MA b hb)).trans e
 have k1:∀b o,b≠s.heap.objs.size->b≠s.heap.objs.size+1->s.heap.get? b=some o->(h'.update (s.heap.objs.size+1) (Obj.mapSeq λ_=>#[.ref l1,.ref l1])).get? b=some o:=λb o x y e=>(Heap.get?_update_other _ _ (Ne.symm y)).trans (hk' b o (hwr b x) (k0 b o e))
 generalize (h'.update (s.heap.objs.size+1) (Obj.mapSeq λZ=>#[.ref l1,.ref l1]))=g1 at S1 st1 k1 ⊢
 clear hS' hk' hst'
 refine wpAny_pure ⟨plainId_quiet (Fz lt) _,?_⟩
 refine codeAny_builtin (M8 lt) ?_
 rw[Around.under_plainId (Fz lt) _]
 show wpAny _ A.in1 (seqItems? (.ref (s.heap.objs.size+1))>>=_) _ _ _
 refine wpAny_bind (wpAny_seqItems S1 rfl ?_)
 show wpAny _ A.in1 (tryCatch (pyNext (.ref s.heap.objs.size)) _>>=_) _ _ _
 refine wpAny_bind (wpAny_tryCatch (W.item 1 _ _ _ Nat.one_lt_two st1 λv h'' tk2 hP hst' hk'=>?_))
 have e2:v=.ref l2:=by simpa using hP.symm
 subst e2
 have hS':=hk' _ _ hSw S1
 have k2:∀b o,b≠s.heap.objs.size->b≠s.heap.objs.size+1->s.heap.get? b=some o->h''.get? b=some o:=λb o x y e=>hk' b o (hwr b x) (k1 b o x y e)
 have kp:∀ (h3:Heap),(∀b o,b≠s.heap.objs.size->b≠s.heap.objs.size+1->s.heap.get? b=some o->h3.get? b=some o)->∀b o,s.heap.get? b=some o->h3.get? b=some o:=λh3 k b o e=>
  k b o (Nat.ne_of_lt (Heap.lt_size e)) (Nat.ne_of_lt (Nat.lt_succ_of_lt (Heap.lt_size e))) e
 have kpl:∀ (h3:Heap) (q:Addr) (o:Obj),(∀b o,s.heap.get? b=some o->h3.get? b=some o)->(q,o)∈N->h3.get? q=some o:=λh3 q o k hq=>k _ _ (hN _ hq)
 show wpAny _ A.in1 (tryCatch (holding [Value.ref l2,Value.ref l2] (richCompare (cond lt .Lt .Gt) (.ref l2) (.ref l1)>>=_)) _>>=_) _ _ _
 refine wpAny_bind (wpAny_tryCatch (wpAny_holding (wpAny_bind (Pg lt ⟨_,kpl _ _ _ (kp _ k2) m2,rfl,n2,rfl⟩ ⟨_,kpl _ _ _ (kp _ k2) m1,rfl,n1,rfl⟩ t2 t1 hu ?_))))
 refine wpAny_bind (wpAny_holding (wpAny_truthy_bool ?_))
 refine wpAny_bind (wpAny_letGo (wpAny_pure ?_))
 have last:∀ (h3:Heap) (tk3:Nat) (i:Addr) (c:Nat) (R':Result->Shared->Prop),(∀h4 tk4,(∀b o,s.heap.get? b=some o->h4.get? b=some o)->R' (.ok (.ret (.ref i))) {s with heap:=h4,toks:=tk4})->h3.get? (s.heap.objs.size+1)=some ({cls:=.type "list",data:=.seq #[.ref i,.ref i] c}:Obj)->h3.IsListIter s.heap.objs.size l 2/\h3.IsList l #[.ref l1,.ref l2]->
   (∀b o,b≠s.heap.objs.size->b≠s.heap.objs.size+1->s.heap.get? b=some o->h3.get? b=some o)->
   codeAny (model pw w) A (.builtin (cond lt "min.loop" "max.loop") ⟨[.ref s.heap.objs.size,.none,.ref (s.heap.objs.size+1)],[]⟩) R' {s with heap:=h3,toks:=tk3}:=by
  intro h3 tk3 i c R' hR S3 Sm k3
  refine codeAny_builtin (M8 lt) ?_
  rw[Around.under_plainId (Fz lt) _]
  show wpAny _ A.in1 (seqItems? (.ref (s.heap.objs.size+1))>>=_) _ _ _
  refine wpAny_bind (wpAny_seqItems S3 rfl ?_)
  show wpAny _ A.in1 (tryCatch (pyNext (.ref s.heap.objs.size)) _>>=_) _ _ _
  refine wpAny_bind (wpAny_tryCatch (W.done _ _ _ Sm λh4 tk4 hk4=>?_))
  have hS4:=hk4 _ _ hSw S3
  show wpAny _ A.in1 (updateSeq (s.heap.objs.size+1) (λZ=>#[])>>=_) _ _ _
  refine wpAny_bind ?_
  refine wpAny_updateSeq hS4 rfl (wpAny_bind (wpAny_letGo (wpAny_pure ?_)))
  exact hR _ _ (kp _ λb o x y e=>(Heap.get?_update_other _ _ (Ne.symm y)).trans (hk4 b o (hwr b x) (k3 b o x y e)))
 cases q:Co lt ys xs with
 |true=>
  rw[if_pos rfl]
  refine wpAny_bind ?_
  refine wpAny_updateSeq hS' rfl (wpAny_bind (wpAny_letGo ?_))
  rw[hname]
  refine wpAny_pure ⟨plainId_quiet (Fz lt) _,last _ _ l2 _ _ (λh4 tk4 k hk=>⟨N,A1.of_keeps hN ⟨_,tk4,rfl,k⟩ hk,r2⟩) (Heap.get?_update_self _ hS' rfl) (W.frame _ _ _ hst' λb hb o e=>(Heap.get?_update_other _ _ (MA b hb)).trans e) λb o x y e=>(Heap.get?_update_other _ _ (Ne.symm y)).trans (k2 b o x y e)⟩
 |false=>
  rw[if_neg Bool.false_ne_true]
  refine wpAny_bind (wpAny_letGo ?_)
  rw[hname]
  exact wpAny_pure ⟨plainId_quiet (Fz lt) _,last _ _ l1 _ _ (λh4 tk4 k hk=>⟨N,A1.of_keeps hN ⟨_,tk4,rfl,k⟩ hk,r1⟩) hS' hst' k2⟩
end
open PySem.F (owner_object args_object_init_3)
theorem Ca:Slot "map" "__next__" "map.__next__":=
 .of (owner:="map") (n:="__next__") (by rw[typeLookup_type,builtinLookup_eq_fast];kernel_rfl) (by decide+kernel) (by decide+kernel) (by decide+kernel)
  (by first|exact .inl (by decide+kernel)|exact .inr (by decide+kernel)) (by rw[isSubtype_type];kernel_rfl)
theorem EM:entryFor table "map.__next__"=some Builtin.«map.__next__»:=entryFor_of_tree (by kernel_rfl)
theorem Fk (a:Value):argsOk "map.__next__" ⟨[a],[]⟩:=by unfold argsOk;kernel_rfl
theorem Fm:Slot "map" "__iter__" "map.__iter__":=
 .of (owner:="map") (n:="__iter__") (by rw[typeLookup_type,builtinLookup_eq_fast];kernel_rfl) (by decide+kernel) (by decide+kernel) (by decide+kernel)
  (by first|exact .inl (by decide+kernel)|exact .inr (by decide+kernel)) (by rw[isSubtype_type];kernel_rfl)
theorem HI:entryFor table "map.__iter__"=some Builtin.«dict_keyiterator.__iter__»:=
 entryFor_alias (id':="dict_keyiterator.__iter__") (by kernel_rfl) (by first|rfl|decide+kernel|(unfold String.splitOn;simp+decide [String.splitOnAux])) (by decide+kernel) (by kernel_rfl)
theorem Iw (a:Value):argsOk "map.__iter__" ⟨[a],[]⟩:=by unfold argsOk;kernel_rfl
theorem Ix:Slot "map" "__init__" "object.__init__":=
 .of (owner:="object") (n:="__init__") (by rw[typeLookup_type,builtinLookup_eq_fast];kernel_rfl) (by decide+kernel) (by decide+kernel) (by decide+kernel)
  (by first|exact .inl (by decide+kernel)|exact .inr (by decide+kernel)) (by rw[isSubtype_type];kernel_rfl)
theorem M9:typeLookup (.type "map") "__len__"=pure none:=by rw[typeLookup_type,builtinLookup_eq_fast];kernel_rfl
theorem LB:typeLookup (.type "map") "__length_hint__"=pure none:=by rw[typeLookup_type,builtinLookup_eq_fast];kernel_rfl
theorem Od:mroOf (.type "map")=pure [.type "map",.type "object"]:=by rw[mroOf_type];kernel_rfl
theorem HJ:typeLookup (.type "map") "__new__"=pure (some (.builtin "map.__new__")):=by rw[typeLookup_type,builtinLookup_eq_fast];kernel_rfl
theorem Na:TypeCalled "map" "map.__new__" "object.__init__":=
 ⟨by decide+kernel,by decide+kernel,⟨_,_,Od⟩,madeBy_type Od HJ (by decide+kernel),by decide+kernel,by rw[isSubtype_type];kernel_rfl,Ix⟩
theorem Ki (a b:Value):checkTypeCall "map" ⟨[a,b],[]⟩=pure ():=by kernel_rfl
theorem LD (a b:Value):checkBuiltinCall "map.__new__" ⟨[.type "map",a,b],[]⟩=pure ():=by kernel_rfl
theorem Iy:entryFor table "map.__new__"=some Builtin.«map.__new__»:=entryFor_of_tree (by kernel_rfl)
theorem UV:isSubtype (.type "map") (.type "map")=pure true:=by rw[isSubtype_type];kernel_rfl
theorem Iz (f:Value) (l:Addr) (xs:Array Value):
  Meets (Builtin.«map.__new__» ⟨[.type "map",f,.ref l],[]⟩) (λZ R s=>s.heap.IsList l xs/\
   R (.ok (.ret (.ref (s.heap.objs.size+2)))) {s with heap:=((s.heap.push {cls:=.type "list_iterator",data:=.fields #[.ref l,.int 0 0]}).push {cls:=.type "tuple",data:=.seq #[.ref s.heap.objs.size]}).push {cls:=.type "map",data:=.fields #[.ref (s.heap.objs.size+1),f]}}):=
 .of_wp λprog w A R s h=>by
  obtain ⟨hp,g,d,tk,os⟩:=s;obtain ⟨hl,h⟩:=h
  have hsub:=UV
  have hL1:Heap.IsList (Shared.heap ⟨hp,g,d,tk,os⟩) l xs:=hl
  wp_walk using wpAny_pyIter_list hL1
  refine ⟨_,rfl,?_⟩
  have z1:(hp.push ({cls:=.type "list_iterator",data:=.fields #[.ref l,.int 0 0]}:Obj)).objs.size=hp.objs.size+1:=Heap.size_push ..
  have z2:((hp.push ({cls:=.type "list_iterator",data:=.fields #[.ref l,.int 0 0]}:Obj)).push ({cls:=.type "tuple",data:=.seq #[.ref hp.objs.size]}:Obj)).objs.size=hp.objs.size+2:=by rw[Heap.size_push,z1]
  show R (.ok (.ret (.ref ((hp.push ({cls:=.type "list_iterator",data:=.fields #[.ref l,.int 0 0]}:Obj)).push ({cls:=.type "tuple",data:=.seq #[.ref hp.objs.size]}:Obj)).objs.size))) ⟨((hp.push ({cls:=.type "list_iterator",data:=.fields #[.ref l,.int 0 0]}:Obj)).push ({cls:=.type "tuple",data:=.seq #[.ref hp.objs.size]}:Obj)).push ({cls:=.type "map",data:=.fields #[.ref (hp.push ({cls:=.type "list_iterator",data:=.fields #[.ref l,.int 0 0]}:Obj)).objs.size,f]}:Obj),g,d,tk,os⟩
  rw[z2,z1]
  exact h
section
variable {prog:Program} {w:World} {A:Around} {E:Value->Shared->Prop} {s:Shared}
theorem Rn {f:Value} {l:Addr} {xs:Array Value} {Q:Value->Shared->Prop} (hl:s.heap.IsList l xs)
  (h:Q (.ref (s.heap.objs.size+2)) {s with heap:=((s.heap.push {cls:=.type "list_iterator",data:=.fields #[.ref l,.int 0 0]}).push {cls:=.type "tuple",data:=.seq #[.ref s.heap.objs.size]}).push {cls:=.type "map",data:=.fields #[.ref (s.heap.objs.size+1),f]}}):
  wpAny (model prog w) A (call (.type "map") [f,.ref l]) Q E s:=by
 refine callType_new Na (by decide) (Ki _ _) (LD _ _) (λobj=>args_object_init_3 obj _ _) Iy (Iz f l xs) ⟨hl,?_⟩
 have z1:(s.heap.push ({cls:=.type "list_iterator",data:=.fields #[.ref l,.int 0 0]}:Obj)).objs.size=s.heap.objs.size+1:=Heap.size_push ..
 have z2:((s.heap.push ({cls:=.type "list_iterator",data:=.fields #[.ref l,.int 0 0]}:Obj)).push ({cls:=.type "tuple",data:=.seq #[.ref s.heap.objs.size]}:Obj)).objs.size=s.heap.objs.size+2:=by rw[Heap.size_push,z1]
 refine ⟨⟨{cls:=.type "map",data:=.fields #[.ref (s.heap.objs.size+1),f]},?_,rfl⟩,h⟩
 have:=Heap.get?_push_size ((s.heap.push ({cls:=.type "list_iterator",data:=.fields #[.ref l,.int 0 0]}:Obj)).push ({cls:=.type "tuple",data:=.seq #[.ref s.heap.objs.size]}:Obj)) (o:=({cls:=.type "map",data:=.fields #[.ref (s.heap.objs.size+1),f]}:Obj)) rfl
 rw[z2] at this
 exact this
noncomputable def EN (h:Heap) (m T I l:Addr) (f:Value) (vs:Array Value) (i:Nat):Prop:=
 h.get? m=some ({cls:=.type "map",data:=.fields #[.ref T,f]}:Obj)/\h.get? T=some ({cls:=.type "tuple",data:=.seq #[.ref I]}:Obj)/\h.IsListIter I l i/\h.IsList l vs
theorem EN.at {h h':Heap} {m T I l:Addr} {f:Value} {vs:Array Value} {i:Nat} (x:EN h m T I l f vs i) (k:∀b∈[m,T,I,l],∀o,h.get? b=some o->h'.get? b=some o):EN h' m T I l f vs i:=
 ⟨k _ (by exact List.mem_cons_self) _ x.1,k _ (by simp) _ x.2.1,x.2.2.1.at λo e=>k I (by simp) o e,x.2.2.2.at λo e=>k l (by simp) o e⟩
theorem IA {m T I l:Addr} {f x:Value} {vs:Array Value} {i:Nat} {Q:Option Value->Shared->Prop} (hli:l≠I) (hm:m≠I) (hT:T≠I) (hx:vs[i]?=some x) (M:EN s.heap m T I l f vs i)
  (h:∀ (E':Value->Shared->Prop) h',EN h' m T I l f vs (i+1)->Heap.SameBut I s.heap h'->wpAny (model prog w) A.in1 (call f [x]) (λv s'=>Q (some v) s') E' {s with heap:=h'}):
  wpAny (model prog w) A (pyNext (.ref m)) Q E s:=by
 have hTy:s.TypeIs (.ref m) "map":=⟨_,M.1,rfl⟩
 unfold pyNext
 refine wpAny_bind (wpAny_attempt (wpAny_callSpecial?_slot (name:="__next__") hTy Ca (wpAny_call_entry Ca hTy EM ?_ (Fk _))))
 show wpAny _ _ (field (.ref m) 0>>=_) _ _ _
 refine wpAny_bind (wpAny_field M.1 rfl (x:=.ref T) rfl ?_)
 refine wpAny_bind (wpAny_seqItems M.2.1 rfl ?_)
 dsimp only
 refine wpAny_bind ?_
 simp only[List.forIn_toArray,List.forIn_cons,List.forIn_nil]
 refine wpAny_bind (wpAny_bind (wpAny_holding ?_))
 refine wpAny_nextOf_list_item M.2.2.1 M.2.2.2 hx λh₂ h1₂ hs₂=>wpAny_pure (wpAny_pure ?_)
 have M₂:EN h₂ m T I l f vs (i+1):=⟨hs₂.extBut _ _ hm M.1,hs₂.extBut _ _ hT M.2.1,h1₂,M.2.2.2.extBut hs₂.extBut hli⟩
 refine wpAny_bind (wpAny_field M₂.1 rfl (x:=f) rfl ?_)
 refine wpAny_bind (wpAny_holding (wpAny_mono (h _ h₂ M₂ hs₂) (λv s' hq=>?_) λZ Z e=>e))
 exact wpAny_bind (wpAny_letGo (wpAny_pure ⟨v,rfl,wpAny_pure hq⟩))
theorem Kj {m T I l:Addr} {f:Value} {vs:Array Value} {i:Nat} {Q:Option Value->Shared->Prop} (hh:A.handled=none) (hx:vs[i]?=none) (M:EN s.heap m T I l f vs i)
  (h:∀h',(∀b o,b≠I->s.heap.get? b=some o->h'.get? b=some o)->Q none {s with heap:=h'}):
  wpAny (model prog w) A (pyNext (.ref m)) Q E s:=by
 have hTy:s.TypeIs (.ref m) "map":=⟨_,M.1,rfl⟩
 unfold pyNext
 refine wpAny_bind (wpAny_attempt (wpAny_callSpecial?_slot (name:="__next__") hTy Ca (wpAny_call_entry Ca hTy EM ?_ (Fk _))))
 show wpAny _ _ (field (.ref m) 0>>=_) _ _ _
 refine wpAny_bind (wpAny_field M.1 rfl (x:=.ref T) rfl ?_)
 refine wpAny_bind (wpAny_seqItems M.2.1 rfl ?_)
 dsimp only
 refine wpAny_bind ?_
 simp only[List.forIn_toArray,List.forIn_cons,List.forIn_nil]
 refine wpAny_bind (wpAny_bind (wpAny_holding ?_))
 refine wpAny_nextOf_list_end hh M.2.2.1 M.2.2.2 hx λh₂ e hs₂ he=>?_
 revert he
 refine Mine.T0 λo ho hc=>?_
 refine wpAny_bind (wpAny_isInstance (T:="StopIteration") (b:=true) ⟨o,ho,hc⟩ isSubtype_stop ?_)
 exact wpAny_pure (h _ hs₂)
theorem Ro {m T I l:Addr} {f:Value} {vs:Array Value} {i:Nat} {Q:Value->Shared->Prop} (M:EN s.heap m T I l f vs i) (h:Q (.ref m) s):wpAny (model prog w) A (pyIter (.ref m)) Q E s:=by
 have hTy:s.TypeIs (.ref m) "map":=⟨_,M.1,rfl⟩
 refine wpAny_pyIter_slot hTy Fm (wpAny_call_entry Fm hTy HI ?_ (Iw _))
 show wpAny _ _ (ret (.ref m)) _ _ s
 exact wpAny_pure ⟨_,rfl,"map",_,hTy,Ca.lookup,h⟩
end
open AutoSeq1 (wpAny_loadPart')
section
variable {w:World} {Gl:List (Str×D)} {A:Around} {E:Value->Shared->Prop} {s:Shared} {N:Az} {k:Nat} {lower:D->List D->Option D}
theorem Ph {m T I l:Addr} {f:Value} {fd:D} {vs:List Value} {ds:List D} {ys:List (List Nat)} (ha:Fi pw w w.params Gl k lower) (R:AG k A.in1) (rf:Ax w.params N f fd) (rs:Ar w.params N vs ds)
  (hy:∀ (i:Nat) d,ds[i]?=some d->∃y,ys[i]?=some y/\lower fd [d]=some (.str y)) (hm:m≠I) (hT:T≠I) (hl:l≠I) (hN:∀p∈N,p.1≠I):
  WalksS pw w A m ([m,T,I,l]++N.map (·.1)) [I] (λa b=>b=a) ds.length (λi v=>∃y t,ys[i]?=some y/\v=.str (S y) t/\y.length<=Ap) (λi s=>EN s.heap m T I l f vs.toArray i/\Tp w.params Gl N s) where
 sub:=λb hb=>by simp at hb;simp[hb]
 grefl:=λZ=>rfl
 gtrans:=λZ Z Z h1 h2=>h2.trans h1
 frame:=λi s h' tk st ht hk=>⟨st.1.at λb hb o e=>hk b (List.mem_append_left _ hb) o e,⟨λp hp=>hk p.1 (List.mem_append_right _ (List.mem_map_of_mem hp)) _ (st.2.has p hp),Nat.lt_of_lt_of_le st.2.tk ht,st.2.top⟩⟩
 item:=λi s Q E hi st hQ=>by
  obtain ⟨M,Tn⟩:=st
  obtain ⟨d,hd⟩:∃d,ds[i]?=some d:=⟨_,List.getElem?_eq_getElem hi⟩
  refine Mine.S0 (hy i d hd) λy hy1 hy2=>?_
  refine Mine.S0 (rs.get hd) λx hx rx=>?_
  refine IA hl hm hT (by simpa using hx) M λE' h' M' hs=>?_
  have Tn':Tp w.params Gl N {s with heap:=h'}:=⟨λp hp=>hs.extBut _ _ (hN p hp) (Tn.has p hp),Tn.tk,Tn.top⟩
  refine wpAny_mono (ha fd [d] (.str y) hy2 A.in1 E' _ N f [x] R Tn' rf (.cons rx .nil)).2 (λv s' h=>?_) λZ Z e=>e
  revert h
  refine Mine.T0 λN' e rv=>?_
  refine Mine.S0 rv.strOf λt eq1 hlen=>?_
  subst eq1
  have kp:=Am e.keeps
  refine hQ _ s' ⟨y,t,hy1,rfl,hlen⟩ ⟨M'.at λb _ o e=>kp b o e,λp hp=>kp _ _ (Tn'.has p hp),Nat.lt_of_lt_of_le Tn'.tk e.tk,Tn.top⟩ ?_
  have ht:=e.tk
  refine Mine.S1 e.keeps λh2 t2 eq1 _=>?_
  subst eq1
  exact ⟨λb o hb e=>kp b o (hs.extBut b o (λh=>hb (by simp[h])) e),rfl,rfl,rfl,ht⟩
 done:=λs Q E st hQ=>by
  have hn:vs.toArray[ds.length]?=none:=by simp[rs.length]
  refine Kj R.1 hn st.1 λh' kp=>hQ _ ⟨λb o hb e=>kp b o (λh=>hb (by simp[h])) e,rfl,rfl,rfl,Nat.le_refl _⟩
 self:=λi s Q E st hQ=>Ro st.1 hQ
end
section
variable {prog:Program} {w:World} {A:Around} {E:Value->Shared->Prop} {s:Shared} {I:Addr} {fp wr:List Addr} {G:Array GenState->Array GenState->Prop} {n:Nat} {P:Nat->Value->Prop} {St:Nat->Shared->Prop}
theorem LE {Q:List Value->Shared->Prop} (W:WalksS prog w A.in1 I fp wr G n P St) (hT:∀i s,St i s->s.TypeIs (.ref I) "map") (hst:St 0 s) (hfp:∀b∈fp,b<s.heap.objs.size) (hI:I∈fp)
  (hQ:∀s' acc,Moved wr G s s'->ItemsOf P acc n->Q acc.toList s') (hn:n<=sizeLine):wpAny (model prog w) A (collect (.ref I)) Q E s:=by
 have MA:s.heap.objs.size∉fp:=λhm=>Nat.lt_irrefl _ (hfp _ hm)
 have hSI:s.heap.objs.size≠I:=λe=>MA (e▸hI)
 let o0:Obj:={cls:=.type "list",data:=.seq ([]:List Value).toArray}
 have W1:∀ (h':Heap),(∀b o,b≠s.heap.objs.size->s.heap.get? b=some o->h'.get? b=some o)->St 0 {s with heap:=h'}:=λh' k=>W.frame 0 s h' s.toks hst (Nat.le_refl _) λb hb o e=>k b o (λh=>MA (h▸hb)) e
 unfold collect
 refine wpAny_bind (wpAny_runValue (codeAny_builtin F.entry_proto_collect ?_))
 rw[Around.under_plainId F.plain_proto_collect _]
 show wpAny _ A.in1 (newList []>>=λl=>again (.builtin "list.__iadd__" ⟨[l,.ref I],[]⟩)) _ _ s
 refine wpAny_bind (wpAny_newObj_type (wpAny_pure ⟨plainId_quiet F.plain_list_iadd _,codeAny_builtin F.entry_list_iadd ?_⟩))
 rw[Around.under_plainId F.plain_list_iadd _]
 have up:∀b o,s.heap.get? b=some o->(s.heap.push o0).get? b=some o:=λb o e=>Heap.get?_push_of_some _ e
 have hS₁:(s.heap.push o0).get? s.heap.objs.size=some o0:=Heap.get?_push_size _ rfl
 have hst₁:=W1 (s.heap.push o0) λb o Z e=>up b o e
 have e1:Builtin.List.listSameRef (.ref s.heap.objs.size) (.ref I)=false:=by simp[Builtin.List.listSameRef,hSI]
 show wpAny _ A.in1 (Builtin.List.listExtendWith (.ref s.heap.objs.size) (.ref I) (.ref s.heap.objs.size)) _ _ {s with heap:=s.heap.push o0}
 unfold Builtin.List.listExtendWith
 refine wpAny_bind (wpAny_typeOf (hT 0 _ hst₁) ?_)
 rw[e1]
 have e2:(Value.type "map"==Value.type "list")=false:=by decide
 have e3:(Value.type "map"==Value.type "tuple")=false:=by decide
 rw[e2,e3]
 simp only[Bool.or_false,Bool.false_eq_true,if_false]
 refine wpAny_bind (W.self 0 _ _ _ hst₁ (wpAny_bind (wpAny_holding ?_)))
 unfold Builtin.List.listLengthHint
 refine wpAny_bind (wpAny_specialOf (hT 0 _ hst₁) M9 ?_)
 refine wpAny_bind (m:=specialOf (Value.ref I) "__length_hint__") (wpAny_specialOf (hT 0 _ hst₁) LB (wpAny_pure ?_))
 show wpAny _ A.in1 (rule "list.extend.makes-room">>=λZ=>(updateSeq s.heap.objs.size (·.push .none)>>=λZ=>updateSeq s.heap.objs.size (·.pop))>>=λZ=>
  again (.builtin "list.extend.loop" ⟨[.ref s.heap.objs.size,.ref I,.ref s.heap.objs.size],[]⟩)) _ _ {s with heap:=s.heap.push o0}
 refine wpAny_bind (wpAny_rule (wpAny_bind (wpAny_bind (wpAny_updateSeq hS₁ rfl ?_))))
 have hS₂:=Heap.get?_update_self (Obj.mapSeq (·.push Value.none)) hS₁ rfl
 refine wpAny_updateSeq hS₂ rfl ?_
 have hS₃:=Heap.get?_update_self (Obj.mapSeq (·.pop)) hS₂ rfl
 have oth:∀b o,b≠s.heap.objs.size->s.heap.get? b=some o->(((s.heap.push o0).update s.heap.objs.size (Obj.mapSeq (·.push Value.none))).update s.heap.objs.size (Obj.mapSeq (·.pop))).get? b=some o:=
  λb o hb e=>(Heap.get?_update_other _ _ (Ne.symm hb)).trans ((Heap.get?_update_other _ _ (Ne.symm hb)).trans (up b o e))
 refine wpAny_pure ⟨plainId_quiet F.plain_extend_loop _,codeAny_extend_loopS W hn _ MA _ n 0 _ _ _ rfl (Nat.zero_le _) (W1 _ oth) hS₃ (ItemsOf.nil P) λs' acc' c' hm hS' hacc=>?_⟩
 show wpAny _ A (load s.heap.objs.size>>=_) _ _ s'
 refine wpAny_bind (wpAny_load hS' (wpAny_pure (hQ s' acc' ⟨λb o hb e=>?_,hm.gens,hm.drawn,hm.os,hm.toks⟩ hacc)))
 have hne:b≠s.heap.objs.size:=Nat.ne_of_lt (Heap.lt_size e)
 exact hm.heap b o (λh=>(List.mem_cons.mp h).elim hne hb) (oth b o hne e)
theorem Pi {Q:Value->Shared->Prop} (W:WalksS prog w A.in1.in1.in1 I fp wr G n P St) (hT:∀i s,St i s->s.TypeIs (.ref I) "map") (hst:St 0 s) (hfp:∀b∈fp,b<s.heap.objs.size) (hI:I∈fp)
  (hQ:∀s' acc,Moved wr G s s'->ItemsOf P acc n->Q (.ref s'.heap.objs.size) {s' with heap:=s'.heap.push {cls:=.type "tuple",data:=.seq acc}}) (hsz:n<=sizeLine):
  wpAny (model prog w) A (call (.type "tuple") [.ref I]) Q E s:=by
 refine callType_codes (Q₁:=λobj s₁=>s₁.TypeIs obj "tuple"/\Q obj s₁) F.called_tuple (F.typeCall_tuple_1 _) F.entry_object_init ?_ λobj s₁ h₁=>
  ⟨h₁.1,F.args_object_init_2 obj _,object_init_meets F.called_tuple.init.lookup F.called_tuple.made (by decide) prog w A.in1 _ s₁ ⟨h₁.1,rfl,h₁.2⟩⟩
 refine codeAny_of_tree ?_
 show wpAny _ A.in1.in1 (do checkBuiltinCall "tuple.__new__" ⟨[.type "tuple",.ref I],[]⟩;again (.builtin "tuple.__new__" ⟨[.type "tuple",.ref I],[]⟩)) _ _ s
 refine wpAny_bind (wpAny_of_eq (F.newCall_tuple_1 _) (wpAny_pure ⟨plainId_quiet F.plain_tuple_new _,codeAny_builtin F.entry_tuple_new ?_⟩))
 rw[Around.under_plainId F.plain_tuple_new _]
 have hsub:=sub_tuple_self
 have hinit:=init_tuple_lookup
 have hmh:=madeHere_tuple
 have hTI:=hT 0 s hst
 wp_walk using wpAny_typeOf hTI,LE (hn:=hsz) W hT hst hfp hI
 intro s' acc hm hacc
 show wpAny _ _ (Builtin.Tuple.tupleExact acc.toList.toArray>>=λv=>ret v) _ _ _
 unfold Builtin.Tuple.tupleExact
 rw[show acc.toList.toArray=acc by simp]
 refine wpAny_bind (wpAny_newObj_type ?_ (by show acc.size<=sizeLine;rw[hacc.1];exact hsz))
 exact wpAny_pure ⟨⟨_,Heap.get?_push_size _ rfl,rfl⟩,hQ s' acc hm hacc⟩
end
end Mine
set_option backward.match.sparseCases false
namespace Mine
open PySem PySem.Calls PyProof.Rows PySem.W PySem.SeqAt PySem.MeetsSeq PySem.MeetsSeq2 PySem.MeetsSeq3
noncomputable def Yw (e:Expr):Option (Str×Str×Expr×Expr):=
 (IJ e).bind λq=>(Ey q.1.1).bind λt=>(K7 q.1.2.1).bind λa=>(IJ a).bind λr=>(Ey r.1.1).bind λg=>(X0 r.1.2.1).bind λp=>if q.1.2.2.1.isEmpty=true/\r.1.2.2.1.isEmpty=true then some (t.1.1,g.1.1,p.1,p.2) else none
noncomputable def Yx (e:Expr):Option (Expr×Str×Str):=
 (IJ e).bind λq=>(Qn q.1.1).bind λt=>(X0 q.1.2.1).bind λp=>(ME p.1).bind λa=>(X1 a.1.1).bind λy=>(ME p.2).bind λb=>(X1 b.1.1).bind λz=>
  if q.1.2.2.1.isEmpty=true/\t.1.2.1="replace"/\(t.1.2.2.endLine==q.1.2.2.2.line)=true/\B8 t.1.1=true then some (t.1.1,y,z) else none
noncomputable def G5 (lower:D->List D->Option D) (fd:D):List D->Option (List (List Nat))
 |[]=>some []
 |d::ds=>(lower fd [d]).bind λr=>(Bm r).bind λy=>(G5 lower fd ds).map (y:: ·)
noncomputable def FA (Gl:List (Str×D)) (lower:D->List D->Option D) (r:CA) (names:List (Str×NameKind)) (loc cel:List (Str×D)) (q:Str×Str×Expr×Expr):Option D:=
 if Aj [q.2.2.1,q.2.2.2]&&!(q.1=="__debug__")&&!(q.2.1=="__debug__") then
  (Dy Gl names loc cel q.1).bind λa=>(Dy Gl names loc cel q.2.1).bind λb=>if headT a "tuple"&&headT b "map" then
   (r.e names loc cel q.2.2.1).bind λfd=>(r.e names loc cel q.2.2.2).bind λxd=>match xd with
    | .list ds=>if ds.isEmpty then none else (G5 lower fd ds).map λys=>.tuple (ys.map .str)
    |_=>none
  else none
 else none
where headT (d:D) (t:String):Bool:=match d with
 | .val v=>(match v with| .type t'=>t'==t|_=>false)
 |_=>false
noncomputable def Oe (r:CA) (names:List (Str×NameKind)) (loc cel:List (Str×D)) (q:Expr×Str×Str):Option D:=
 (r.e names loc cel q.1).bind λo=>match o with
  | .str x=>if q.2.1.cps.size=1/\(q.2.1==q.2.2)=false/\x.length+(x.length+1)*q.2.2.cps.size<=Ap then some (.str (AE (q.2.1.cps.toList.headD 0) q.2.2.cps.toList x)) else none
  |_=>none
noncomputable def Rp (r:CA) (names:List (Str×NameKind)) (loc cel:List (Str×D)) (e:Expr):Option (List Nat):=
 match e with
 | .Constant c _ _=>(JS c).bind Bm
 | .FormattedValue v n sp _=>if n=115/\sp.isNone=true then (r.e names loc cel v).bind Bm else none
 |_=>none
noncomputable def Rq (r:CA) (names:List (Str×NameKind)) (loc cel:List (Str×D)) (es:List Expr):Option D:=
 if 2<=es.length then (es.mapM (Rp r names loc cel)).bind λxs=>if xs.flatten.length<=Ap then some (.str xs.flatten) else none else none
noncomputable def bR:Expr->Option (List Expr)
 | .JoinedStr es _=>some es
 |_=>none
noncomputable def AC (Gl:List (Str×D)) (lower:D->List D->Option D):XE:=λr names loc cel e=>
 match Yw e with
 |some q=>FA Gl lower r names loc cel q
 |none=>match bR e with
  |some es=>Rq r names loc cel es
  |none=>(Yx e).bind (Oe r names loc cel)
theorem UW {e:Expr} {z:Str×Str×Expr×Expr} (h:Yw e=some z):∃p1 p2 p3 p4,e=.Call (.Name z.1 p1) [.Call (.Name z.2.1 p2) [z.2.2.1,z.2.2.2] [] p3] [] p4:=by
 refine ob h λq h1 h=>ob h λt' h2 h=>ob h λa h3 h=>ob h λr h4 h=>ob h λg' h5 h=>ob h λp h6 h=>?_
 refine Mine.S7 (IL h) λh7 h8 h9=>?_
 subst h9
 exact ⟨t'.1.2,g'.1.2,r.1.2.2.2,q.1.2.2.2,q.2.trans (IK (λf as ks=>Expr.Call f as ks _) t'.2 ((FR h3).trans (congrArg (λa=>[a]) (r.2.trans (IK (λf as ks=>Expr.Call f as ks _) g'.2 (NW h6) (List.isEmpty_iff.mp h8))))) (List.isEmpty_iff.mp h7))⟩
theorem UX {e:Expr} {w:Expr×Str×Str} (h:Yx e=some w):∃apos k1 p1 k2 p2 pos,e=.Call (.Attribute w.1 "replace" apos) [.Constant (.str w.2.1) k1 p1,.Constant (.str w.2.2) k2 p2] [] pos/\(apos.endLine==pos.line)=true/\B8 w.1=true:=by
 refine ob h λq h1 h=>ob h λt h2 h=>ob h λp h3 h=>ob h λa h4 h=>ob h λy' h5 h=>ob h λb h6 h=>ob h λz' h7 h=>?_
 obtain ⟨⟨h8,h9,h10,h11⟩,h12⟩:=IL h
 subst h12
 exact ⟨t.1.2.2,a.1.2.1,a.1.2.2,b.1.2.1,b.1.2.2,q.1.2.2.2,q.2.trans (IK (λf as ks=>Expr.Call f as ks _) (t.2.trans (congrArg (λm=>Expr.Attribute _ m _) h9)) ((NW h3).trans (Qo (λa b=>[a,b]) (a.2.trans (congrArg (λc=>Expr.Constant c _ _) (NX h5))) (b.2.trans (congrArg (λc=>Expr.Constant c _ _) (NX h7))))) (List.isEmpty_iff.mp h8)),h10,h11⟩
section
variable {w:World} {Gl:List (Str×D)} {A:Around} {E:Value->Shared->Prop} {s:Shared} {N:Az} {k:Nat} {lower:D->List D->Option D} {env:Env} {names:List (Str×NameKind)} {loc cel:List (Str×D)} {r:CA}
set_option tactic.hygienic true
theorem Of {fd:D}:∀ {ds:List D} {ys:List (List Nat)},G5 lower fd ds=some ys->ys.length=ds.length/\∀ (i:Nat) d,ds[i]?=some d->∃y,ys[i]?=some y/\lower fd [d]=some (.str y)
 |[],ys,h=>by (replace h:=Option.some.inj h;subst h);exact ⟨rfl,λi d h=>by simp at h⟩
 |d::ds,ys,h=>by
  unfold G5 at h
  revert h
  refine Mine.Br λr q1 h=>?_
  rcases r with _|_<;>first|exact Aa h|skip
  rename_i y
  revert h
  refine Mine.FQ λzs q2 h=>?_
  subst h
  obtain ⟨e,hh⟩:=Of q2
  refine ⟨by simp[e],λi d' hi=>?_⟩
  cases i with
  |zero=>simp at hi;subst hi;exact ⟨y,rfl,q1⟩
  |succ i=>exact hh i d' (by simpa using hi)
theorem Rr {d:D} {t:String} (h:FA.headT d t=true):d=.val (.type t):=by
 rcases d with _|_<;>first|exact B7 h|skip
 rename_i v
 rcases v with _|_<;>first|exact B7 h|skip
 rename_i t'
 have:t'=t:=eq_of_beq h
 rw[this]
set_option tactic.hygienic false
theorem AG.in4 {j:Nat} (R:AG (j+1) A):AG j A.in1.in1.in1.in1:=
 ⟨R.1,Nat.lt_of_succ_lt R.2.1,by
  show A.units+100+4+8*j<_
  rw[Nat.add_right_comm]
  exact Nat.lt_of_le_of_lt (Nat.add_le_add_left (by decide:4<=8) (A.units+100+8*j)) R.2.2⟩
theorem Nc {P:Params} {vs:List Value}:∀ {ds:List D},vs.length=ds.length->(∀ (i:Nat) v,vs[i]?=some v->∃d,ds[i]?=some d/\Ax P N v d)->Ar P N vs ds:=by
 induction vs with
 |nil=>intro ds h _;cases ds with
  |nil=>exact .nil
  |cons=>exact absurd h.symm (Nat.succ_ne_zero _)
 |cons v vs ih=>intro ds h hh;cases ds with
  |nil=>exact absurd h (Nat.succ_ne_zero _)
  |cons d ds=>
   refine Mine.S0 (hh 0 v rfl) λd' e r=>?_
   (replace e:=Option.some.inj e;subst e)
   exact .cons r (ih (Nat.succ.inj h) λi v hi=>hh (i+1) v hi)
theorem LF {m T I l:Addr} {f:Value} {fd:D} {vs:List Value} {ds:List D} {ys:List (List Nat)} (hw:IW w Gl k lower) (R:AG k A) (Tn:Tp w.params Gl N s) (rf:Ax w.params N f fd) (rs:Ar w.params N vs ds)
  (hy:G5 lower fd ds=some ys) (hne:ds≠[]) (hl:vs.length<=Ap) (M:EN s.heap m T I l f vs.toArray 0) (hIm:I<m) (hT:T≠I) (hlI:l≠I) (hN:∀p∈N,p.1≠I):
  wpAny (model pw w) A (call (.type "tuple") [.ref m]) (λv s'=>(∀b o,b≠I->s.heap.get? b=some o->s'.heap.get? b=some o)/\s.toks<=s'.toks/\(∃h t,s'={s with heap:=h,toks:=t})/\∃us,v=.ref (s'.heap.objs.size-1)/\s'.heap.get? (s'.heap.objs.size-1)=some (Bs us 0)/\s.heap.get? (s'.heap.objs.size-1)=none/\us.length<=Ap/\Ar w.params N us (ys.map .str)) E s:=by
 obtain ⟨hlen,hat⟩:=Of hy
 have hm:m≠I:=(Nat.ne_of_lt hIm).symm
 have fin:∀ (W:∃St,WalksS pw w A.in1.in1.in1 m ([m,T,I,l]++N.map (·.1)) [I] (λa b=>b=a) ds.length (λi v=>∃y t,ys[i]?=some y/\v=.str (S y) t/\y.length<=Ap) St/\(∀i s,St i s->s.TypeIs (.ref m) "map")/\St 0 s),
   wpAny (model pw w) A (call (.type "tuple") [.ref m]) (λv s'=>(∀b o,b≠I->s.heap.get? b=some o->s'.heap.get? b=some o)/\s.toks<=s'.toks/\(∃h t,s'={s with heap:=h,toks:=t})/\∃us,v=.ref (s'.heap.objs.size-1)/\s'.heap.get? (s'.heap.objs.size-1)=some (Bs us 0)/\s.heap.get? (s'.heap.objs.size-1)=none/\us.length<=Ap/\Ar w.params N us (ys.map .str)) E s:=by
  rintro ⟨St,W,hTy,st⟩
  refine Pi W hTy st ?_ (by exact List.mem_cons_self) (λs' acc hm' hacc=>?_) (by rw[<-rs.length];exact Bb hl)
  ·intro b hb
   rcases List.mem_append.mp hb with hb|hb
   ·simp only[List.mem_cons,List.not_mem_nil,or_false] at hb
    rcases hb with rfl|rfl|rfl|rfl
    ·exact Heap.lt_size M.1
    ·exact Heap.lt_size M.2.1
    ·obtain ⟨_,e,_⟩:=M.2.2.1;exact Heap.lt_size e
    ·obtain ⟨_,e,_⟩:=M.2.2.2;exact Heap.lt_size e
   ·refine Mine.S0 (List.mem_map.mp hb) λp hp eq1=>?_
    subst eq1
    exact Heap.lt_size (Tn.has p hp)
  ·have kp:∀b o,b≠I->s.heap.get? b=some o->s'.heap.get? b=some o:=λb o hb e=>hm'.heap b o (by simpa using hb) e
   have sz:(s'.heap.push ({cls:=.type "tuple",data:=.seq acc}:Obj)).objs.size-1=s'.heap.objs.size:=by rw[Heap.size_push];rfl
   have ea:acc=acc.toList.toArray:=by simp
   refine ⟨λb o hb e=>Heap.get?_push_of_some _ (kp b o hb e),hm'.toks,⟨s'.heap.push ({cls:=.type "tuple",data:=.seq acc}:Obj),s'.toks,?_⟩,acc.toList,?_,?_,?_,?_,?_⟩
   ·have h1:=hm'.gens
    have h2:=hm'.drawn
    have h3:=hm'.os
    obtain ⟨hp,g,d,tk,os⟩:=s'
    obtain ⟨hp0,g0,d0,tk0,os0⟩:=s
    simp only at h1 h2 h3
    subst h1 h2 h3
    rfl
   ·show Value.ref _=Value.ref ((s'.heap.push ({cls:=.type "tuple",data:=.seq acc}:Obj)).objs.size-1)
    rw[sz]
   ·show (s'.heap.push ({cls:=.type "tuple",data:=.seq acc}:Obj)).get? ((s'.heap.push ({cls:=.type "tuple",data:=.seq acc}:Obj)).objs.size-1)=some (Bs acc.toList 0)
    rw[sz]
    have:=Heap.get?_push_size s'.heap (o:=({cls:=.type "tuple",data:=.seq acc}:Obj)) rfl
    rw[this,Bs,<-ea]
   ·show s.heap.get? ((s'.heap.push ({cls:=.type "tuple",data:=.seq acc}:Obj)).objs.size-1)=none
    rw[sz]
    cases q:s.heap.get? s'.heap.objs.size with
    |none=>rfl
    |some o=>
     by_cases e:s'.heap.objs.size=I
     ·exact absurd (Heap.lt_size (kp _ _ hm M.1)) (by rw[e];exact Nat.lt_asymm hIm)
     ·exact absurd (Heap.lt_size (kp _ _ e q)) (Nat.lt_irrefl _)
   ·have:=hacc.1
    simp only[Array.length_toList,this,<-rs.length];exact hl
   ·refine Nc (by simp only[Array.length_toList,hacc.1,List.length_map,hlen]) λi v hi=>?_
    refine Mine.S3 (hacc.2 i v (by simpa using hi)) λy t h1 eq1 h2=>?_
    subst eq1
    exact ⟨.str y,by simp[h1],.str _ _ h2⟩
 cases hds:ds with
 |nil=>exact absurd hds hne
 |cons d ds'=>
  obtain ⟨y,_,hlow⟩:=hat 0 d (by rw[hds];rfl)
  refine Mine.S0 (hw _ _ _ hlow) λj eq1 ha=>?_
  subst eq1
  exact fin ⟨_,Ph ha R.in4 rf rs hat hm hT hlI hN,λi s st=>⟨_,st.1.1,rfl⟩,M,Tn⟩
theorem Og {d:D} {t:String} {v:Value} (h:FA.headT d t=true) (rv:Ax w.params N v d):v=.type t:=by
 rw[Rr h] at rv
 exact rv.valOf
set_option tactic.hygienic true
theorem Pj {q:Str×Str×Expr×Expr} {p1 p2 p3 p4:Pos} {d:D} (hw:IW w Gl k lower) (R:AG k A) (hr:SE pw w w.params Gl k r.e) (V:Vw w.params Gl N env names loc cel s)
  (h:FA Gl lower r names loc cel q=some d):wpAny (model pw w) A (eval (.Call (.Name q.1 p1) [.Call (.Name q.2.1 p2) [q.2.2.1,q.2.2.2] [] p3] [] p4) env) (Gv w.params N s d) E s:=by
 unfold FA at h
 revert h
 refine BO λhc h=>?_
 simp only[Bool.and_eq_true,Bool.not_eq_true'] at hc
 revert hc
 refine Mine.T7 λhp hd1 hd2=>?_
 revert h
 refine Mine.Br λa e1 h=>?_
 revert h
 refine Mine.Br λb e2 h=>?_
 replace h:(if FA.headT a "tuple"&&FA.headT b "map" then
   (r.e names loc cel q.2.2.1).bind λfd=>(r.e names loc cel q.2.2.2).bind λxd=>match xd with
    | .list ds=>if ds.isEmpty then none else (G5 lower fd ds).map λys=>.tuple (ys.map .str)
    |_=>none
  else none)=some d:=h
 revert h
 refine BO λhh h=>?_
 rw[Bool.and_eq_true] at hh
 revert h
 refine Mine.Br λfd e3 h=>?_
 revert h
 refine Mine.Br λxd e4 h=>?_
 rcases xd with _|_<;>first|exact Aa h|skip
 rename_i ds
 replace h:(if ds.isEmpty then none else (G5 lower fd ds).map λys=>D.tuple (ys.map .str))=some d:=h
 split at h
 ·exact Aa h
 rename_i hne
 revert h
 refine Mine.FQ λys e5 h=>?_
 subst h
 show wpAny _ A (do callWith p4 (<-eval (.Name q.1 p1) env) [] (backTo p4 (starEach [.Call (.Name q.2.1 p2) [q.2.2.1,q.2.2.2] [] p3] env)) (backToKw p4 (keywordEach [] env))) _ E s
 rw[AX p4 [.Call (.Name q.2.1 p2) [q.2.2.1,q.2.2.2] [] p3] rfl]
 refine wpAny_bind (wpAny_Name (FW V e1 λv rv=>?_) hd1)
 obtain rfl:=Og hh.1 rv
 refine callWith_of (P:=λ_=>True) BS (λh _=>⟨.machine,.inr (.inl rfl),Looks.of_pure rfl⟩) ?_
 refine evalArgs_plain (spliced_cons ?_)
 show wpAny _ A (do callWith p3 (<-eval (.Name q.2.1 p2) env) [] (backTo p3 (starEach [q.2.2.1,q.2.2.2] env)) (backToKw p3 (keywordEach [] env))) _ E s
 rw[AX p3 [q.2.2.1,q.2.2.2] hp]
 refine wpAny_bind (wpAny_Name (FW V e2 λv rv=>?_) hd2)
 obtain rfl:=Og hh.2 rv
 refine callWith_of (P:=λ_=>True) BS (λh _=>⟨.machine,.inr (.inl rfl),Looks.of_pure rfl⟩) ?_
 refine CP R hr V [q.2.2.1,q.2.2.2] [fd,.list ds] (by simp[e3,e4]) λus s₂ h=>Mine.S0 h λN₂ x₂ r₂=>⟨trivial,?_⟩
 refine Mine.S3 (DO r₂) λfv lv eq1 rf rl=>?_
 subst eq1
 refine Mine.S4 rl.listOf λl vs n eq1 m hl rs=>?_
 subst eq1
 have hL:=AM x₂.has m
 refine Rn hL (spliced_nil ⟨trivial,?_⟩)
 have nI:∀b o,s₂.heap.get? b=some o->b≠s₂.heap.objs.size:=λb o e=>Nat.ne_of_lt (Heap.lt_size e)
 have z1:(s₂.heap.push ({cls:=.type "list_iterator",data:=.fields #[.ref l,.int 0 0]}:Obj)).objs.size=s₂.heap.objs.size+1:=Heap.size_push ..
 have z2:((s₂.heap.push ({cls:=.type "list_iterator",data:=.fields #[.ref l,.int 0 0]}:Obj)).push ({cls:=.type "tuple",data:=.seq #[.ref s₂.heap.objs.size]}:Obj)).objs.size=s₂.heap.objs.size+2:=by rw[Heap.size_push,z1]
 have g1:(s₂.heap.push ({cls:=.type "list_iterator",data:=.fields #[.ref l,.int 0 0]}:Obj)).get? s₂.heap.objs.size=some _:=Heap.get?_push_size _ rfl
 have g2:((s₂.heap.push ({cls:=.type "list_iterator",data:=.fields #[.ref l,.int 0 0]}:Obj)).push ({cls:=.type "tuple",data:=.seq #[.ref s₂.heap.objs.size]}:Obj)).get? (s₂.heap.objs.size+1)=some ({cls:=.type "tuple",data:=.seq #[.ref s₂.heap.objs.size]}:Obj):=by rw[<-z1];exact Heap.get?_push_size _ rfl
 have g3:(((s₂.heap.push ({cls:=.type "list_iterator",data:=.fields #[.ref l,.int 0 0]}:Obj)).push ({cls:=.type "tuple",data:=.seq #[.ref s₂.heap.objs.size]}:Obj)).push ({cls:=.type "map",data:=.fields #[.ref (s₂.heap.objs.size+1),fv]}:Obj)).get? (s₂.heap.objs.size+2)=some ({cls:=.type "map",data:=.fields #[.ref (s₂.heap.objs.size+1),fv]}:Obj):=by rw[<-z2];exact Heap.get?_push_size _ rfl
 have kp:∀b o,s₂.heap.get? b=some o->(((s₂.heap.push ({cls:=.type "list_iterator",data:=.fields #[.ref l,.int 0 0]}:Obj)).push ({cls:=.type "tuple",data:=.seq #[.ref s₂.heap.objs.size]}:Obj)).push ({cls:=.type "map",data:=.fields #[.ref (s₂.heap.objs.size+1),fv]}:Obj)).get? b=some o:=λb o e=>Heap.get?_push_of_some _ (Heap.get?_push_of_some _ (Heap.get?_push_of_some _ e))
 have M:EN (((s₂.heap.push ({cls:=.type "list_iterator",data:=.fields #[.ref l,.int 0 0]}:Obj)).push ({cls:=.type "tuple",data:=.seq #[.ref s₂.heap.objs.size]}:Obj)).push ({cls:=.type "map",data:=.fields #[.ref (s₂.heap.objs.size+1),fv]}:Obj)) (s₂.heap.objs.size+2) (s₂.heap.objs.size+1) s₂.heap.objs.size l fv vs.toArray 0:=
  ⟨g3,Heap.get?_push_of_some _ g2,⟨_,Heap.get?_push_of_some _ (Heap.get?_push_of_some _ g1),rfl,rfl⟩,((hL.push _).push _).push _⟩
 generalize (((s₂.heap.push ({cls:=.type "list_iterator",data:=.fields #[.ref l,.int 0 0]}:Obj)).push ({cls:=.type "tuple",data:=.seq #[.ref s₂.heap.objs.size]}:Obj)).push ({cls:=.type "map",data:=.fields #[.ref (s₂.heap.objs.size+1),fv]}:Obj))=h3 at kp M ⊢
 have V₂:=V.ext x₂
 have T3:Tp w.params Gl N₂ {s₂ with heap:=h3}:=⟨λp hp=>kp _ _ (x₂.has p hp),V₂.tk,V₂.top⟩
 refine wpAny_mono (LF hw R T3 rf rs e5 (by intro h;rw[h] at hne;exact hne rfl) hl M (Nat.lt_add_of_pos_right (by decide)) (Nat.succ_ne_self _) (nI _ _ (x₂.has _ m)) λp hp=>nI _ _ (x₂.has p hp)) (λv s' hq=>?_) λZ Z e=>e
 revert hq
 refine Mine.iR λk4 t4 h4 tk4 eq1 us eq2 hT hnone hul ru=>?_
 subst eq1 eq2
 have kk:∀b o,s₂.heap.get? b=some o->h4.get? b=some o:=λb o e=>k4 b o (nI b o e) (kp b o e)
 refine ⟨(h4.objs.size-1,Bs us 0)::N₂,x₂.trans ⟨⟨h4,tk4,rfl,kk⟩,t4,λp hp=>.tail _ hp,λp hp=>?_,λp hp=>?_⟩,.tuple (.head _) hul (ru.mono λp hp=>.tail _ hp)⟩
 ·rcases List.mem_cons.mp hp with rfl|hp
  ·exact hT
  ·exact kk _ _ (x₂.has p hp)
 ·rcases List.mem_cons.mp hp with rfl|hp
  ·exact .inr (Aw kp hnone)
  ·exact .inl hp
set_option tactic.hygienic false
theorem UY {y:Str} (h:y.cps.size=1):y=S [y.cps.toList.headD 0]:=by
 obtain ⟨a⟩:=y
 obtain ⟨l⟩:=a
 match l,h with
 |[c],_=>rfl
theorem LG (c:Nat) (zl:List Nat):∀x:List Nat,(AE c zl x).length<=x.length+(x.length+1)*zl.length
 |[]=>by simp[AE]
 |a::x=>by
  have ih:=LG c zl x
  have e0:AE c zl (a::x)=(if a=c then zl else [a])++AE c zl x:=by simp[AE]
  have e1:(if a=c then zl else [a]).length<=zl.length+1:=by split<;>simp
  have e:(x.length+1+1)*zl.length=(x.length+1)*zl.length+zl.length:=by rw[Nat.succ_mul]
  rw[e0,List.length_append,List.length_cons]
  exact eD ih e1
set_option tactic.hygienic true
theorem Rs {o:Expr} {y z:Str} {apos pos p1 p2:Pos} {k1 k2} {d:D} (R:AG k A) (hr:SE pw w w.params Gl k r.e) (V:Vw w.params Gl N env names loc cel s) (hpos:(apos.endLine==pos.line)=true) (h0:B8 o=true)
  (h:Oe r names loc cel (o,y,z)=some d):wpAny (model pw w) A (eval (.Call (.Attribute o "replace" apos) [.Constant (.str y) k1 p1,.Constant (.str z) k2 p2] [] pos) env) (Gv w.params N s d) E s:=by
 unfold Oe at h
 revert h
 refine Mine.Br λod e1 h=>?_
 rcases od with _|_<;>first|exact Aa h|skip
 rename_i x
 replace h:(if y.cps.size=1/\(y==z)=false/\x.length+(x.length+1)*z.cps.size<=Ap then some (D.str (AE (y.cps.toList.headD 0) z.cps.toList x)) else none)=some d:=h
 revert h
 refine BO λhc h=>?_
 revert hc
 refine Mine.dE λhy hyz hb=>?_
 (replace h:=Option.some.inj h;subst h)
 show wpAny _ A (do
  let ov<-attributeBase o "replace" env (eval o env)
  standAt apos.atName
  methodCall o "replace" apos pos env ov ([Expr.Constant (.str y) k1 p1,.Constant (.str z) k2 p2].length+([]:List Keyword).length) (backTo pos (starEach [.Constant (.str y) k1 p1,.Constant (.str z) k2 p2] env)) (backToKw pos (keywordEach [] env))) _ E s
 rw[B4 h0,AX pos _ (by rfl)]
 refine wpAny_bind (Gq hr e1 R V λov s₁ N₁ x₁ r₁=>wpAny_bind (wpAny_standAt ?_))
 refine Mine.S0 r₁.strOf λt eq1 hx=>?_
 subst eq1
 unfold methodCall
 have hfew:=Gr (env:=env) (pos:=pos) (es:=[Expr.Constant (.str y) k1 p1,.Constant (.str z) k2 p2]) (Nat.le_of_ble_eq_true rfl)
 rw[hfew]
 refine wpAny_bind (wpAny_holding ?_)
 refine GM.replace ?_
 refine wpAny_bind ?_
 unfold methodCallPos
 rw[hpos]
 refine wpAny_pure ?_
 refine callWith_of (P:=λ_=>True) BS (λh _=>⟨.machine,.inr (.inl rfl),Looks.of_pure rfl⟩) ?_
 refine evalArgs_plain (spliced_cons (wpAny_Constant_str (spliced_cons (wpAny_Constant_str (spliced_nil ⟨trivial,?_⟩)))))
 have hp:=(V.ext x₁).tk
 have ey:=UY hy
 generalize y.cps.toList.headD 0=c at ey ⊢
 subst ey
 have ez:z=S z.cps.toList:=by obtain ⟨a⟩:=z;rfl
 have hzl:z.cps.size=z.cps.toList.length:=by simp
 rw[hzl] at hb
 generalize z.cps.toList=zl at ez hb ⊢
 subst ez
 have hrl:(AE c zl x).length<=Ap:=Nat.le_trans (LG c zl x) hb
 refine AV (SC.replace (Nat.ne_of_gt hp) (Nat.succ_ne_zero _) (Nat.ne_of_lt (Nat.lt_succ_self _)) hyz ?_ λt' kk hk=>?_)
 ·rw[Ba,Ba];unfold Ap at hb;exact Nat.le_trans (by assumption) (by decide)
 ·rw[MW]
  obtain ⟨N',y,rv⟩:=Dg (Pa:=w.params) x₁.has (AE c zl x) hrl t' kk (by have hk':s₁.toks+1+1<=kk:=hk;lia)
  exact ⟨N',x₁.trans y,rv⟩
theorem Rt {e:Expr} {x:List Nat} {Q:Value->Shared->Prop} (R:AG k A) (hr:SE pw w w.params Gl k r.e) (V:Vw w.params Gl N env names loc cel s) (h:Rp r names loc cel e=some x)
  (hq:∀t N' s',A1 N s N' s'->x.length<=Ap->Q (.str (S x) t) s'):wpAny (model pw w) A (eval e env) Q E s:=by
 rcases e with _|_<;>first|(exact Aa h;done)|skip
 ·rename_i v n sp p
  replace h:(if n=115/\sp.isNone=true then (r.e names loc cel v).bind Bm else none)=some x:=h
  revert h
  refine BO λhc h=>?_
  obtain ⟨rfl,hsp⟩:=hc
  rw[Option.isNone_iff_eq_none] at hsp
  subst hsp
  revert h
  refine Mine.Br λd q h=>?_
  rcases d with _|_<;>first|(exact Aa h;done)|skip
  replace h:=(Option.some.inj h).symm;subst h
  refine wpAny_FormattedValue_s (Gq hr q R V λv s₁ N₁ x₁ r₁=>?_)
  refine Mine.S0 r₁.strOf λt eq1 hx=>?_
  subst eq1
  have hz:(S x).length<=sizeLine:=by rw[Ba];unfold Ap at hx;rw[sizeLine_eq];exact Nat.le_trans (by assumption) (by decide)
  refine AV (SB.convS_str (λt' tk=>?_) hz)
  intro hk
  refine AV (SB.field_str (λt'' tk'=>?_) hz)
  intro hk2
  exact hq _ N₁ _ (x₁.trans (A1.toks x₁.has _ (Nat.le_trans hk hk2))) hx
 ·rename_i c kk p
  replace h:(JS c).bind Bm=some x:=h
  rcases c with _|_<;>first|(exact Aa h;done)|skip
  rename_i y
  replace h:((if y.cps.size<=1000 then some (D.str y.cps.toList) else none).bind Bm)=some x:=h
  revert h
  refine Mine.Br λd q h=>?_
  revert q
  refine i2 λhl q=>?_
  subst q
  (replace h:=Option.some.inj h;subst h)
  refine wpAny_Constant_str ?_
  have e:y=S y.cps.toList:=by obtain ⟨a⟩:=y;rfl
  have hl':y.cps.toList.length<=Ap:=by rw[Array.length_toList];exact Nat.le_trans hl (by decide)
  have:=hq s.toks N _ (A1.toks V.has (s.toks+1)) hl'
  rw[<-e] at this
  exact this
set_option tactic.hygienic false
theorem LH (R:AG k A) (hr:SE pw w w.params Gl k r.e) {Q:Str->Shared->Prop}:∀ (es:List Expr) (xs:List (List Nat)) (acc:List Nat) (N:Az) (s:Shared),es.mapM (Rp r names loc cel)=some xs->Vw w.params Gl N env names loc cel s->(acc++xs.flatten).length<=Ap->
  (∀N' s',A1 N s N' s'->Q (S (acc++xs.flatten)) s')->Joins (model pw w) A E (evalEach es env) (S acc) Q s
 |[],xs,acc,N,s,h,V,hl,hq=>by
  (replace h:=Option.some.inj h;subst h)
  have:=hq N s (A1.rfl' V.has)
  rw[show acc++([]:List (List Nat)).reverse.flatten=acc from List.append_nil acc] at this
  exact this
 |e::es,xs,acc,N,s,h,V,hl,hq=>by
  rw[List.mapM_cons] at h
  revert h
  refine Mine.Br λx q1 h=>?_
  revert h
  refine Mine.Br λys q2 h=>?_
  (replace h:=Option.some.inj h;subst h)
  show wpAny (model pw w) A (eval e env) (λv s₁=>∃y t,v=.str y t/\(S acc++y).length<=sizeLine/\Joins (model pw w) A E (evalEach es env) (S acc++y) Q s₁) E s
  refine Rt R hr V q1 λt N' s' x₁ hx=>⟨_,t,rfl,?_,?_⟩
  ·rw[IR,Ba]
   have h3:(acc++(x::ys).flatten).length<=Ap:=hl
   simp only[List.flatten_cons,List.length_append] at h3 ⊢
   unfold Ap at h3
   rw[sizeLine_eq];lia
  ·rw[IR]
   refine LH R hr es ys (acc++x) N' s' q2 (V.ext x₁) (by simpa [List.append_assoc] using hl) λN₂ s₂ x₂=>?_
   have:=hq N₂ s₂ (x₁.trans x₂)
   simpa [List.append_assoc] using this
theorem Ru {es:List Expr} {pos:Pos} {d:D} (R:AG k A) (hr:SE pw w w.params Gl k r.e) (V:Vw w.params Gl N env names loc cel s) (h:Rq r names loc cel es=some d):
  wpAny (model pw w) A (eval (.JoinedStr es pos) env) (Gv w.params N s d) E s:=by
 unfold Rq at h
 revert h
 refine BO λh2 h=>?_
 revert h
 refine Mine.Br λxs q h=>?_
 replace h:(if xs.flatten.length<=Ap then some (D.str xs.flatten) else none)=some d:=h
 revert h
 refine BO λhl h=>?_
 (replace h:=Option.some.inj h;subst h)
 rcases es with _|⟨e1,_|⟨e2,es⟩⟩
 ·exact absurd h2 (Nat.not_succ_le_zero 1)
 ·exact absurd h2 (Nat.not_succ_le_self 1)
 ·refine wpAny_JoinedStr (LH R hr (e1::e2::es) xs [] N s q V (by simpa using hl) λN' s' x=>⟨?_,?_⟩)
  ·rw[Ba];simp only[List.nil_append];unfold Ap at hl;rw[sizeLine_eq];exact Nat.le_trans (by assumption) (by decide)
  ·refine Mine.S0 (Dg (Pa:=w.params) x.has xs.flatten hl s'.toks (s'.toks+1)) λN2 y rv=>?_
   exact ⟨N2,x.trans y,rv⟩
theorem LI (hw:IW w Gl k lower):iw pw w Gl k (AC Gl lower):=λr hr ht names loc cel e d h A E s N env R V=>by
 unfold AC at h
 cases q:Yw e with
 |some q'=>
  rw[q] at h
  obtain ⟨p1,p2,p3,p4,rfl⟩:=UW q
  exact Pj (q:=q') hw R hr V h
 |none=>
  rw[q] at h
  cases q0:bR e with
  |some es=>
   rw[q0] at h
   obtain ⟨pos,rfl⟩:∃pos,e=.JoinedStr es pos:=by
    rcases e with _|_<;>first|(exact Aa q0;done)|skip
    (replace q0:=Option.some.inj q0;subst q0);exact ⟨_,rfl⟩
   exact Ru R hr V h
  |none=>
  rw[q0] at h
  replace h:(Yx e).bind (Oe r names loc cel)=some d:=h
  revert h
  refine Mine.Br λq' q2 h=>?_
  refine Mine.ir (UX q2) λapos k1 p1 k2 p2 pos eq1 h1 h2=>?_
  subst eq1
  exact Rs R hr V h1 h2 h
end
end Mine
set_option backward.match.sparseCases true
namespace Mine
open PySem PySem.Calls PyProof.Rows PySem.W PySem.SeqAt PySem.MeetsSeq PySem.MeetsSeq2 PySem.MeetsSeq3
noncomputable def bN (b:Bool):Nat:=if b then 1 else 0
noncomputable def F5 (b led full:Bool):SetTable:={mask:=7,place:=if full then #[bN b] else #[],dummies:=#[],finger:=0,led,moves:=0,plain:=true}
noncomputable def FC (b full:Bool):Array (Int×Value):=if full then #[((bN b:Nat),.bool b)] else #[]
noncomputable def EO (b led full:Bool) (ep:Nat):Obj:={cls:=.type "set",dict:=none,data:=.set (FC b full) ep (F5 b led full)}
theorem Dk (b led full:Bool):(F5 b led full).fits (FC b full).size=true:=by rcases b with _|_<;>rcases led with _|_<;>rcases full with _|_<;>decide+kernel
theorem Pk (b led:Bool):layNew (F5 b led false) (FC b false) (bN b:Nat) (.bool b)=(FC b true,F5 b led true,false,false):=by rcases b with _|_<;>rcases led with _|_<;>kernel_rfl
theorem Rv (b led:Bool):(F5 b led true).tooFull=false:=by rcases b with _|_<;>rcases led with _|_<;>decide+kernel
section
variable {prog:Program} {w:World} {A:Around} {E:Value->Shared->Prop} {s:Shared} {a:Addr} {b led full:Bool} {ep:Nat}
theorem Pl {Q:Int->Shared->Prop} (h:Q (bN b:Nat) {s with toks:=s.toks+1}):wpAny (model prog w) A (pyHash (.bool b)) Q E s:=by
 have hT:s.TypeIs (.bool b) "bool":=PySem.typeIs_bool s b
 unfold pyHash
 have hv:[Value.bool b].any Value.onHeap=false:=rfl
 refine wpAny_bind ?_
 rw[cRoomFor,if_neg (by rw[hv];exact Bool.false_ne_true)];refine wpAny_pure ?_
 refine wpAny_bind (wpAny_specialOf hT F.slot_bool_hash.lookup ?_)
 show wpAny _ _ (if (some (Value.builtin "int.__hash__")==some Value.none)=true then _ else _) Q E s
 rw[if_neg (by rw[beq_builtin_none];exact Bool.false_ne_true)]
 refine wpAny_bind (wpAny_specialOf hT F.slot_bool_hash.lookup ?_)
 show wpAny _ _ (callSpecialIfBoundUnlessNone? (.bool b) "__hash__" _>>=_) Q E s
 refine wpAny_bind (wpAny_callSpecialIfBoundUnlessNone?_slot hT F.slot_bool_hash
  (wpAny_call_entry F.slot_bool_hash hT entry_int_hash ?_ (args_int_hash _)))
 rcases b with _|_
 ·exact (show wpAny _ _ (do ret (<-mkInt _)) _ _ s from wpAny_ret_mkInt (wpAny_of_eq (a:=(0:Int)) (by kernel_rfl) h))
 ·exact (show wpAny _ _ (do ret (<-mkInt _)) _ _ s from wpAny_ret_mkInt (wpAny_of_eq (a:=(1:Int)) (by kernel_rfl) h))
theorem UZ {Q:Value->Shared->Prop} (h:∀led:Bool,(led=true\/w.params.followText "set-order"=true)->Q (.ref s.heap.objs.size) {s with heap:=s.heap.push (EO b led false 0)}):
  wpAny (model prog w) A (newSet (.type "set")) Q E s:=by
 unfold newSet setsByText
 refine wpAny_bind (wpAny_bind (wpAny_askSetting (wpAny_pure ?_)))
 dsimp only
 simp only[newObj]
 refine wpAny_bind (wpAny_alloc (wpAny_pure (h _ ?_)))
 show (!w.params.followText "set-order")=true\/_
 cases w.params.followText "set-order"<;>simp
theorem F6 {Q:(Array (Int×Value)×Nat×SetTable)->Shared->Prop} (ho:s.heap.get? a=some (EO b led full ep)) (h:Q (FC b full,ep,F5 b led full) s):wpAny (model prog w) A (setState a) Q E s:=
 wpAny_setState_of ho rfl (Dk b led full) h
theorem U0 {Q:Value->Shared->Prop} (ho:s.heap.get? a=some (EO b led full ep))
  (h:∀h' ep',h'.get? a=some (EO b led true ep')->Heap.SameBut a s.heap h'->Q .none {s with heap:=h',toks:=s.toks+1}):
  wpAny (model prog w) A (call (.builtin "set.add") [.ref a,.bool b]) Q E s:=by
 have hT:s.TypeIs (.ref a) "set":=⟨_,ho,rfl⟩
 refine wpAny_call_entry F.slot_set_add hT F.entry_set_add ?_ (F.args_set_add_2 _ _)
 unfold Builtin.«set.add» Builtin.Frozenset.oneOther
 simp only[List.isEmpty_nil,bind_assoc]
 unfold Builtin.Frozenset.addrOf setAdd
 refine wpAny_bind (wpAny_pure ?_)
 try dsimp only
 refine wpAny_bind (wpAny_pure ?_)
 try dsimp only
 refine wpAny_bind (wpAny_holding (wpAny_bind (Pl ?_)))
 unfold setAddHashed setAddHashedIn
 refine wpAny_holding (wpAny_bind (wpAny_setState_of (s:={s with toks:=s.toks+1}) ho rfl (Dk b led full) ?_))
 dsimp only
 have hb:byScan (.bool b) (FC b full)=true:=by rcases b with _|_<;>rcases full with _|_<;>decide+kernel
 rw[hb]
 simp only[↓reduceIte]
 unfold setAddByScan
 refine wpAny_bind (wpAny_bind (wpAny_rule ?_))
 cases full with
 |true=>
  have e:setScan a (.bool b) (bN b:Nat) true (FC b true)=(do
   let before<-setEpoch a
   let same<-eqBool (.bool b) (.bool b)
   if true&&same then return .found 0
   if (<-setEpoch a) !=before then rule "set.scan.anew";return .anew
   if same then return .found 0
   setScanFrom a (.bool b) (bN b:Nat) true [] 1):=by rcases b with _|_<;>rfl
  rw[e]
  refine wpAny_bind (wpAny_bind (wpAny_setEpoch_of (s:={s with toks:=s.toks+1}) ho rfl (Dk b led true) (wpAny_bind ?_)))
  unfold eqBool
  refine wpAny_holding ?_
  rewrite[if_pos (by rcases b with _|_<;>decide)]
  refine wpAny_bind (wpAny_rule (wpAny_pure ?_))
  simp only[Bool.and_self,↓reduceIte]
  refine wpAny_pure (wpAny_pure (wpAny_pure ?_))
  show wpAny _ _ (ret Value.none) _ _ _
  exact wpAny_pure ⟨_,rfl,h s.heap ep ho (Heap.SameBut.refl a s.heap)⟩
 |false=>
  refine wpAny_bind (wpAny_of_eq (a:=ScanMet.absent) rfl ?_)
  dsimp only
  rw[Pk]
  dsimp only
  refine wpAny_bind (wpAny_of_eq (a:=()) rfl ?_)
  rw[if_pos (show (F5 b led true).plain=true from rfl)]
  refine wpAny_bind (wpAny_of_eq (a:=true) rfl ?_)
  simp only[if_true,Rv,Bool.and_false,Bool.false_eq_true,if_false]
  refine wpAny_bind (wpAny_storeSet_of (s:={s with toks:=s.toks+1}) ho rfl (wpAny_pure (wpAny_pure ?_)) (by rcases b with _|_<;>decide+kernel))
  show wpAny _ _ (ret Value.none) _ _ _
  refine wpAny_pure ⟨_,rfl,h _ (ep+1) ?_ (Heap.SameBut.update s.heap a _)⟩
  have:=Heap.get?_update_self (Obj.putSet (FC b true) (F5 b led true)) ho rfl
  exact this
noncomputable def bS (first at':Value) (src:Value) (ep:Nat):Obj:={cls:=.type "set_iterator",data:=.fields #[first,at',src,rawInt 1,rawInt ep]}
theorem BW:Slot "set_iterator" "__next__" "set_iterator.__next__":=
 .of (owner:="set_iterator") (n:="__next__") (by rw[typeLookup_type,builtinLookup_eq_fast];kernel_rfl) (by decide+kernel) (by decide+kernel) (by decide+kernel)
  (by first|exact .inl (by decide+kernel)|exact .inr (by decide+kernel)) (by rw[isSubtype_type];kernel_rfl)
theorem Eu:entryFor table "set_iterator.__next__"=some Builtin.«set_iterator.__next__»:=entryFor_of_tree (by kernel_rfl)
theorem EP (a:Value):argsOk "set_iterator.__next__" ⟨[a],[]⟩:=by unfold argsOk;kernel_rfl
theorem Rw {Q:Value->Shared->Prop} (ho:s.heap.get? a=some (EO b led true ep)) (h:Q (.ref s.heap.objs.size) {s with heap:=s.heap.push (bS (rawInt 0) (rawInt 0) (.ref a) ep)}):
  wpAny (model prog w) A (pyIter (.ref a)) Q E s:=by
 have hT:s.TypeIs (.ref a) "set":=⟨_,ho,rfl⟩
 have hentry:entryFor table "set.__iter__"=some Builtin.«frozenset.__iter__»:=
  entryFor_alias (id':="frozenset.__iter__") (by kernel_rfl) (by first|rfl|decide+kernel|(unfold String.splitOn;simp+decide [String.splitOnAux])) (by decide+kernel) (by kernel_rfl)
 refine wpAny_pyIter_slot hT F.slot_set_iter (wpAny_call_entry F.slot_set_iter hT hentry ?_ (F.args_set_iter_1 _))
 unfold Builtin.«frozenset.__iter__» Builtin.Frozenset.slot0
 show wpAny _ _ (Builtin.Frozenset.sizeOf a>>=_) _ _ s
 have hn:(FC b true).size=1:=by rcases b with _|_<;>rfl
 refine wpAny_bind (wpAny_bind (wpAny_setEntries_of ho rfl (Dk b led true) (wpAny_pure ?_)))
 rw[hn]
 refine wpAny_bind ?_
 unfold setDrawn
 refine wpAny_bind (F6 ho ?_)
 dsimp only
 refine wpAny_bind ?_
 unfold setsByText
 refine wpAny_bind (wpAny_askSetting (wpAny_pure ?_))
 have hd:(!w.params.followText "set-order"&&(!(F5 b led true).plain&&decide ((FC b true).size>1)))=false:=by rw[hn];simp
 refine wpAny_of_eq (a:=false) (by exact congrArg pure hd) ?_
 rw[if_neg Bool.false_ne_true]
 refine wpAny_bind (wpAny_pure (wpAny_bind (wpAny_setEpoch_of ho rfl (Dk b led true) ?_)))
 refine wpAny_bind (wpAny_newObj_type ?_)
 exact wpAny_pure ⟨_,rfl,"set_iterator",_,⟨_,Heap.get?_push_size _ rfl,rfl⟩,BW.lookup,h⟩
theorem Rx {α:Type} (f:Nat->Nat) (x:α):pickOrder f #[x]=#[x]:=by
 show (match [x][f 0%1]? with|some y=>pickOrder.go f 0 1 ([x].eraseIdx (f 0%1)) (#[].push y)|none=>#[])=#[x]
 rw[Nat.mod_one]
 rfl
theorem Ja {Q:Array (Int×Value)->Shared->Prop} (hB:w.params.followText "set-order"=true) (ho:s.heap.get? a=some (EO b led true ep)) (h:Q (FC b true) s):
  wpAny (model prog w) A (setWalk a) Q E s:=by
 unfold setWalk
 refine wpAny_bind (F6 ho ?_)
 dsimp only
 refine wpAny_bind ?_
 unfold setsByText
 refine wpAny_bind (wpAny_askSetting (wpAny_pure ?_))
 rw[show (model prog w).w.params.followText "set-order"=true from hB]
 rw[if_pos rfl]
 refine wpAny_bind (wpAny_askSetting (wpAny_pure ?_))
 have e:∀f,pickOrder f (FC b true)=FC b true:=λf=>Rx f _
 rw[e]
 exact h
theorem Kk {Q:Option (Value×Nat)->Shared->Prop} (hl:led=true\/w.params.followText "set-order"=true) (ho:s.heap.get? a=some (EO b led true ep)) (h:∀p:Nat,(p=bN b+1\/w.params.followText "set-order"=true)->Q (some (.bool b,p)) s):
  wpAny (model prog w) A (setNext a 0 0 ep) Q E s:=by
 unfold setNext
 refine wpAny_bind (F6 ho ?_)
 dsimp only
 refine wpAny_bind ?_
 unfold setsByText
 refine wpAny_bind (wpAny_askSetting (wpAny_pure ?_))
 have e:(model prog w).w.params.followText "set-order"=w.params.followText "set-order":=rfl
 rw[e]
 cases hB:w.params.followText "set-order" with
 |true=>
  simp only[if_true,bne_self_eq_false,Bool.false_eq_true,if_false]
  exact wpAny_bind (Ja hB ho (wpAny_pure (h 0 (.inr hB))))
 |false=>
  have hl:led=true:=hl.resolve_right (by rw[hB];exact Bool.false_ne_true)
  subst hl
  rw[if_neg Bool.false_ne_true]
  split
  ·rename_i hd
   exact absurd hd (by rcases b with _|_<;>decide)
  ·refine wpAny_bind (wpAny_of_eq (a:=()) (by rcases b with _|_<;>rfl) (wpAny_pure ?_))
   have:=h (bN b+1) (.inl rfl)
   rcases b with _|_<;>exact this
theorem LJ {p:Nat} {Q:Option (Value×Nat)->Shared->Prop} (hl:led=true\/w.params.followText "set-order"=true) (hp:p=bN b+1\/w.params.followText "set-order"=true) (ho:s.heap.get? a=some (EO b led true ep)) (h:Q none s):
  wpAny (model prog w) A (setNext a p 1 ep) Q E s:=by
 unfold setNext
 refine wpAny_bind (F6 ho ?_)
 dsimp only
 refine wpAny_bind ?_
 unfold setsByText
 refine wpAny_bind (wpAny_askSetting (wpAny_pure ?_))
 have e:(model prog w).w.params.followText "set-order"=w.params.followText "set-order":=rfl
 rw[e]
 cases hB:w.params.followText "set-order" with
 |true=>
  simp only[if_true,bne_self_eq_false,Bool.false_eq_true,if_false]
  exact wpAny_bind (Ja hB ho (wpAny_pure h))
 |false=>
  have hl:led=true:=hl.resolve_right (by rw[hB];exact Bool.false_ne_true)
  have hp:p=bN b+1:=hp.resolve_right (by rw[hB];exact Bool.false_ne_true)
  subst hl hp
  rw[if_neg Bool.false_ne_true]
  split
  ·rename_i hd
   exact absurd hd (by rcases b with _|_<;>decide)
  ·refine wpAny_bind (wpAny_of_eq (a:=()) (by rcases b with _|_<;>rfl) (wpAny_pure ?_))
   rcases b with _|_<;>exact h
theorem Pm {i:Addr} {Q:Option Value->Shared->Prop} (hl:led=true\/w.params.followText "set-order"=true) (ho:s.heap.get? a=some (EO b led true ep)) (hi:s.heap.get? i=some (bS (rawInt 0) (rawInt 0) (.ref a) ep))
  (h:∀ (h':Heap) (p:Nat),h'.get? i=some (bS (rawInt p) (rawInt 1) (.ref a) ep)->(p=bN b+1\/w.params.followText "set-order"=true)->Heap.SameBut i s.heap h'->Q (some (.bool b)) {s with heap:=h'}):
  wpAny (model prog w) A (pyNext (.ref i)) Q E s:=by
 have hT:s.TypeIs (.ref i) "set_iterator":=⟨_,hi,rfl⟩
 unfold pyNext
 refine wpAny_bind (wpAny_attempt (wpAny_callSpecial?_slot (name:="__next__") hT BW (wpAny_call_entry BW hT Eu ?_ (EP _))))
 show wpAny _ _ (fieldsOf (.ref i)>>=_) _ _ s
 refine wpAny_bind (wpAny_fieldsOf hi rfl ?_)
 have hn:(FC b true).size=1:=by rcases b with _|_<;>rfl
 show wpAny _ _ (setEntries a>>=_) _ _ _
 refine wpAny_bind (wpAny_setEntries_of ho rfl (Dk b led true) ?_)
 rw[hn]
 dsimp only
 rw[if_neg (by decide)]
 refine wpAny_bind (Kk hl ho λp hp=>?_)
 dsimp only
 refine wpAny_bind (wpAny_setField_rec hi (by simp) λh₁ hi₁ hs₁=>?_)
 refine wpAny_bind (wpAny_setField_rec hi₁ (by simp) λh₂ hi₂ hs₂=>?_)
 exact wpAny_pure ⟨_,rfl,wpAny_pure (h h₂ p hi₂ hp (hs₁.trans hs₂))⟩
theorem Kl {i:Addr} {p:Nat} {Q:Option Value->Shared->Prop} (hh:A.handled=none) (hl:led=true\/w.params.followText "set-order"=true) (hp:p=bN b+1\/w.params.followText "set-order"=true)
  (ho:s.heap.get? a=some (EO b led true ep)) (hi:s.heap.get? i=some (bS (rawInt p) (rawInt 1) (.ref a) ep)) (h:∀h',(∀b o,b≠i->s.heap.get? b=some o->h'.get? b=some o)->Q none {s with heap:=h'}):
  wpAny (model prog w) A (pyNext (.ref i)) Q E s:=by
 have hT:s.TypeIs (.ref i) "set_iterator":=⟨_,hi,rfl⟩
 unfold pyNext
 refine wpAny_bind (wpAny_attempt (wpAny_callSpecial?_slot (name:="__next__") hT BW (wpAny_call_entry BW hT Eu ?_ (EP _))))
 show wpAny _ _ (fieldsOf (.ref i)>>=_) _ _ s
 refine wpAny_bind (wpAny_fieldsOf hi rfl ?_)
 have hn:(FC b true).size=1:=by rcases b with _|_<;>rfl
 show wpAny _ _ (setEntries a>>=_) _ _ _
 refine wpAny_bind (wpAny_setEntries_of ho rfl (Dk b led true) ?_)
 rw[hn]
 dsimp only
 rw[if_neg (by decide)]
 refine wpAny_bind (LJ hl hp ho ?_)
 dsimp only
 refine wpAny_bind (wpAny_setField_rec hi (by simp) λh₁ hi₁ hs₁=>?_)
 refine wpAny_bind ?_
 simp only[newExc,newTuple]
 refine wpAny_bind (wpAny_newObj_type ?_ (by size_fits))
 refine wpAny_bind (m:=firstArgMember _ _) (wpAny_of_eq (a:=Value.none) (by first|rfl|(simp only[firstArgMember];rfl)) ?_)
 refine wpAny_newObj_type ?_ (by size_fits)
 unfold raiseNew
 refine wpAny_bind (wpAny_bind (wpAny_handled ?_))
 first|rw[show A.in1.handled=none from hh]|rw[hh]
 refine wpAny_pure (wpAny_throw ?_)
 refine wpAny_bind (wpAny_isInstance (T:="StopIteration") (b:=true) ⟨_,Heap.get?_push_size _ rfl,rfl⟩ isSubtype_stop ?_)
 exact wpAny_pure (h _ λb o hb e=>Heap.get?_push_of_some _ (Heap.get?_push_of_some _ (hs₁.extBut b o hb e)))
end
noncomputable def U1:D->Option Bool
 | .bool b=>some b
 |_=>none
noncomputable def bT (r:CA) (names:List (Str×NameKind)) (cel:List (Str×D)) (t elt:Expr):List D->Option (List Bool)
 |[]=>some []
 |d::ds=>(Hg names t d []).bind λloc=>(r.e names loc cel elt).bind λv=>(U1 v).bind λb=>(bT r names cel t elt ds).map (b:: ·)
section
variable {w:World} {A:Around} {E:Value->Shared->Prop} {s:Shared} {N:Az} {Gl:List (Str×D)} {k:Nat} {env:Env} {names:List (Str×NameKind)} {loc cel:List (Str×D)} {r:CA} {Da:Addr} {bb led:Bool}
noncomputable def Ry (w:World) (A:Around) (R:Result->Shared->Prop) (kx iter:Expr) (x:Str) (px:Pos) (scope:Scope) (pos:Pos) (it:Value) (Da:Addr) (env:Env) (E':Value->Shared->Prop) (v:Value) (s₁:Shared):Prop:=
 wpAny (model pw w) A (assign (.Name x px) env v) (λZ s₂=>wpAny (model pw w) A (eval kx env) (λkv s₃=>wpAny (model pw w) A (call (.builtin "set.add") [.ref Da,kv]) (λZ s₅=>
  codeAny (model pw w) A (.compLoop (.SetComp kx [⟨.Name x px,iter,[],0⟩] scope pos) 0 it (.ref Da) env) R s₅) E' s₃) E' s₂) E' s₁
theorem HL {R:Result->Shared->Prop} {kx iter:Expr} {x:Str} {px:Pos} {scope:Scope} {pos:Pos} {it:Value} {env:Env}
  (h:∀E',wpAny (model pw w) A (pyNext it) (λrr s₁=>match rr with
   |none=>R (.ok .next) s₁
   |some v=>wpAny (model pw w) A (letOwnedTupleGo (.Name x px) it v) (λZ s₁=>Ry w A R kx iter x px scope pos it Da env E' v s₁) E' s₁) E' s):
  codeAny (model pw w) A (.compLoop (.SetComp kx [⟨.Name x px,iter,[],0⟩] scope pos) 0 it (.ref Da) env) R s:=by
 refine codeAny_of_tree ?_
 show wpAny _ A ((compTurn (.SetComp kx [⟨.Name x px,iter,[],0⟩] scope pos) 0 it (.ref Da) env).onRaise (λx=>do noteFrame x env;theTreesLotGoes x)) _ _ s
 refine wpAny_noted ?_
 show wpAny _ A (standAt iter.pos>>=_) _ _ s
 refine wpAny_bind (wpAny_standAt (wpAny_bind (wpAny_mono (h _) (λrr s₁ h₁=>?_) λZ Z h'=>h')))
 cases rr with
 |none=>exact wpAny_pure h₁
 |some v=>
  refine wpAny_bind (wpAny_mono h₁ (λ_ s₁ h₁=>?_) λZ Z h'=>h')
  unfold Ry at h₁
  refine wpAny_bind (wpAny_mono h₁ (λ_ s₂ h₂=>?_) λZ Z h'=>h')
  refine wpAny_bind (wpAny_pure ?_)
  dsimp only
  rw[if_pos rfl]
  exact wpAny_bind (wpAny_bind (wpAny_mono h₂ (λkv s₃ h₃=>wpAny_bind (wpAny_standAt (wpAny_bind (wpAny_mono h₃ (λZ s₅ h₅=>wpAny_pure (wpAny_pure ⟨rfl,h₅⟩)) λZ Z h'=>h')))) λZ Z h'=>h'))
noncomputable abbrev iz (Da:Addr) (bb led acc:Bool):Az->Heap->Prop:=λ_ h=>∃ep,h.get? Da=some (EO bb led acc ep)
noncomputable abbrev SB (w:World) (Gl:List (Str×D)) (env:Env) (names:List (Str×NameKind)) (cel:List (Str×D)) (Da:Addr) (N₀:Az) (wr:List Addr) (St:Nat->Heap->Prop) (i:Nat) (bb led acc:Bool) (N:Az) (s:Shared):Prop:=GB w Gl env names cel Da N₀ wr St i (iz Da bb led acc) N s
theorem LK (Da:Addr) (bb led acc:Bool):M7 Da (iz Da bb led acc):=⟨λa _ hg=>a.imp λep h=>hg _ h,λa=>a.elim λ_ h=>⟨_,h⟩⟩
set_option tactic.hygienic true
theorem Rz (R:AG k A) (hr:SE pw w w.params Gl k r.e) {kx iter:Expr} {x:Str} {px:Pos} {scope:Scope} {pos:Pos} {tup:Bool} {N₀:Az} {I:Addr} {fp wr:List Addr} {items:List D} {St:Nat->Heap->Prop} (htup:tup=false) (W:Wk tup pw w A w.params N₀ I fp wr items St) (hfp:∀b∈fp,b≠env.locals/\b≠Da)
  (hcw:∀x c,names.lookup x=some .cell->env.cells.lookup x=some c->c∉wr):∀ (rem:List D) (i:Nat) (acc:Bool) (bs:List Bool) (N:Az) (s:Shared),items.drop i=rem->i<=items.length->bT r names cel (.Name x px) kx rem=some bs->(∀x∈bs,x=bb)->
   SB w Gl env names cel Da N₀ wr St i bb led acc N s->
   codeAny (model pw w) A (.compLoop (.SetComp kx [⟨.Name x px,iter,[],0⟩] scope pos) 0 (.ref I) (.ref Da) env) (λres s'=>res=.ok .next/\∃N',Vw w.params Gl N' env names [] cel s'/\(∀p∈N',p.1≠env.locals/\p.1≠Da)/\(∃ep,s'.heap.get? Da=some (EO bb led (acc||!rem.isEmpty) ep))/\Gm env.locals Da wr N s N' s') s:=by
 intro rem
 induction rem with
 |nil=>
  intro i acc bs N s hdr hi h hbs hB
  (replace h:=Option.some.inj h;subst h)
  have hil:i=items.length:=by have:=List.drop_eq_nil_iff.mp hdr;lia
  refine HL λE'=>W.done2 s E' _ (hil▸hB.st) λh' tk hk kp=>?_
  obtain ⟨v,a,t⟩:=hB.done (LK Da bb led acc) W hfp hcw hk kp
  exact ⟨rfl,N,v,hB.off,by simpa using a,t⟩
 |cons d rem ih=>
  intro i acc bs N s hdr hi h hbs hB
  have hd:items[i]?=some d:=by
   have:=congrArg (·[0]?) hdr
   simpa using this
  have hdr':items.drop (i+1)=rem:=by
   have:=congrArg (List.drop 1) hdr
   simpa [List.drop_drop,Nat.add_comm] using this
  have hi':i+1<=items.length:=(List.getElem?_eq_some_iff.mp hd).1
  unfold bT at h
  revert h
  refine Mine.Br λloc' qb h=>?_
  revert h
  refine Mine.Br λkd qk h=>?_
  rcases kd with _|_<;>first|exact Aa h|skip
  rename_i b0
  revert h
  refine Mine.FQ λbs' qv h=>?_
  subst h
  obtain rfl:b0=bb:=hbs b0 (List.mem_cons_self ..)
  refine HL λE'=>?_
  refine wpAny_mono (W.item2 i d s N (.Name x px) E' (Ry w A _ kx iter x px scope pos (.ref I) Da env E') (λe=>by rw[htup] at e;exact B7 e) hd hB.st hB.vw.has hB.sub hB.ow
    (hB.turn (LK Da b0 led acc) R.1 W hfp hcw qb λN₁ s₂ b₂ V₂ t₂=>?_)) (λrr s₁ h=>by obtain ⟨v,e,h⟩:=h;subst e;exact h) λZ Z e=>e
  refine Gq hr qk R V₂ λkv s₃ N₃ x₃ r₃=>?_
  have b₃:=b₂.ext (LK Da b0 led acc) W x₃
  have t₃:=t₂.trans (Gm.of_ext (wr:=wr) x₃ (b₂.live (LK Da b0 led acc)))
  have hbool:kv=.bool b0:=r₃.boolOf
  subst hbool
  obtain ⟨ep,hset⟩:=b₃.acc
  refine AV (U0 hset λh₅ ep' a₅ hb₅ hk₅=>?_)
  obtain ⟨b₅,t₅⟩:=b₃.upd (LK Da b0 led true) W hfp (λv c=>by
   obtain ⟨o,g2,g3⟩:=c
   rw[hset] at g2;(replace g2:=Option.some.inj g2;subst g2)
   cases g3) ⟨ep',a₅⟩ hb₅ (Nat.le_succ _)
  refine codeAny_mono (ih (i+1) true bs' N₃ _ hdr' hi' qv (λy hy=>hbs y (List.mem_cons_of_mem _ hy)) b₅) λres s' h=>?_
  obtain ⟨e1,N',g1,g2,g3,g4⟩:=h
  exact ⟨e1,N',g1,g2,(by simpa using g3),(t₃.trans t₅).trans g4⟩
set_option tactic.hygienic false
end
noncomputable def LL (Gl:List (Str×D)) (r:CA) (names:List (Str×NameKind)) (loc cel:List (Str×D)) (kx t it:Expr) (scope:Scope):Option Bool:=
 if Ft names scope.names&&decide (scope.kind=.function)&&N9 t then
  (Bu Gl r names loc cel t it).bind λitems=>(bT r (Cj names scope.names) cel t kx items).bind λbs=>if bs.isEmpty then none else if bs.all (· ==bs.headD false) then some (bs.headD false) else none
 else none
section
variable {w:World} {A:Around} {E:Value->Shared->Prop} {s:Shared} {N:Az} {Gl:List (Str×D)} {k:Nat} {env:Env} {names:List (Str×NameKind)} {loc cel:List (Str×D)} {r:CA} {M:Addr->Prop} {σ:Sg} {owned:List Str}
theorem Ev {R:Result->Shared->Prop} {kx target iter:Expr} {ifs:List Expr} {rest:List Comprehension} {scope:Scope} {pos:Pos} {it acc:Value} {env:Env}
  (h0:codeAny (model pw w) A (.compLoop (.SetComp kx (⟨target,iter,ifs,0⟩::rest) scope pos) 0 it acc env) R s)
  (h:wpAny (model pw w) A (pyIter it) (λit' s'=>codeAny (model pw w) A (.compLoop (.SetComp kx (⟨target,iter,ifs,0⟩::rest) scope pos) 0 it' acc env) R s')
   (notedBy (model pw w) A env λx s'=>R (.error x) s') s):
  codeAny (model pw w) A (.compStart (.SetComp kx (⟨target,iter,ifs,0⟩::rest) scope pos) 0 it acc env) R s:=by
 refine codeAny_of_tree ?_
 show wpAny _ A ((compStart (.SetComp kx (⟨target,iter,ifs,0⟩::rest) scope pos) 0 it acc env).onRaise (λx=>do noteFrame x env;standAt theWindowsPlace)) _ _ s
 refine wpAny_notedAt ?_
 unfold compStart
 show wpAny _ A (ask>>=_) _ _ s
 refine wpAny_bind (wpAny_askSetting (wpAny_ite ?_))
 split
 ·first
   |exact wpAny_bind (wpAny_pure (wpAny_pure (And.intro rfl h0)))
   |exact wpAny_pure (And.intro rfl h0)
 ·first
   |exact wpAny_bind (wpAny_rule (wpAny_bind (wpAny_standAt (wpAny_bind (wpAny_mono h (λit' s' h'=>wpAny_pure (And.intro rfl h')) λZ Z x=>x)))))
   |(refine wpAny_bind (wpAny_rule ?_);show wpAny _ _ (standAt iter.pos>>=_) _ _ s;exact wpAny_bind (wpAny_standAt (wpAny_bind (wpAny_mono h (λit' s' h'=>wpAny_pure (And.intro rfl h')) λZ Z x=>x))))
theorem Nd {kx it:Expr} {x:Str} {px:Pos} {scope:Scope} {pos ipos:Pos} {out:Bool} {use:Option (Value->Sem Unit)} {Q:Value->Shared->Prop} (R:AG k A) (hr:SE pw w w.params Gl k r.e)
  (V:Vw w.params Gl N env names loc cel s) (h:LL Gl r names loc cel kx (.Name x px) it scope=some out)
  (hq:∀ (a:Addr) C N' s' led ep,(led=true\/w.params.followText "set-order"=true)->A1 N s N' s'->s'.heap.get? a=some (EO out led true ep)->(∃m,s'.heap.Ns C m)->(∀p∈N',p.1≠C)->s.heap.get? C=Option.none->C≠a->s.heap.get? a=Option.none->compPost (model pw w) A E use Q (.ref a) C (.ok .next) s'):
  wpAny (model pw w) A (comprehension (.SetComp kx [⟨.Name x px,it,[],0⟩] scope pos) scope env ipos (newSet (.type "set")) false (eval it env) use) Q E s:=by
 unfold LL at h
 revert h
 refine BO λhc h=>?_
 rw[Bool.and_eq_true,Bool.and_eq_true,decide_eq_true_eq] at hc
 revert hc
 refine Mine.T7 λhco hkind _=>?_
 revert h
 refine Mine.Br λitems qi h=>?_
 replace h:((bT r (Cj names scope.names) cel (.Name x px) kx items).bind λbs=>if bs.isEmpty then none else if bs.all (· ==bs.headD false) then some (bs.headD false) else none)=some out:=h
 revert h
 refine Mine.Br λbs h0 h=>?_
 replace h:(if bs.isEmpty then none else if bs.all (· ==bs.headD false) then some (bs.headD false) else none)=some out:=h
 split at h
 ·exact Aa h
 rename_i hne
 revert h
 refine BO λhall h=>?_
 (replace h:=Option.some.inj h;subst h)
 have hbs:∀x∈bs,x=bs.headD false:=λx hx=>eq_of_beq (List.all_eq_true.mp hall x hx)
 have hit0:items≠[]:=by rintro rfl;(replace h0:=Option.some.inj h0;subst h0);exact hne rfl
 generalize bs.headD false=out at hq hbs
 refine Fv (PO:=λo=>∃led,(led=true\/w.params.followText "set-order"=true)/\o=EO out led false 0) R hr V rfl hco hkind qi (λ_ h=>h.elim λ_ h=>h.2▸rfl) (λh=>UZ (b:=out) λled hled=>h _ ⟨led,hled,rfl⟩) (λa b=>Ev a (b _)) λ{tup cl N₂ I fp wr St s₂ h₁ o} htup po W st ho hacc x₂ c=>?_
 obtain ⟨led,hled,po⟩:=po
 subst po
 have htup':tup=false:=by
  cases tup with
  |false=>rfl
  |true=>cases htup rfl
 refine codeAny_mono (Rz (iter:=it) R hr htup' W c.fp c.cw items 0 false bs N₂ _ rfl (Nat.zero_le _) h0 hbs ⟨λZ h=>h,st,c.vw,c.off,⟨0,hacc⟩,c.dc,ho⟩) λres s' h=>?_
 obtain ⟨rfl,N',c',off',⟨ep',a'⟩,t'⟩:=h
 have hemp:(false||!items.isEmpty)=true:=by rcases items with _|_<;>simp at hit0 ⊢
 rw[hemp] at a'
 obtain ⟨sh,tk,sub,nw⟩:=c.out t'
 refine Mine.S0 c'.loc λm' hm' _=>?_
 exact hq s₂.heap.objs.size _ _ s' led ep' hled ⟨sh,tk,sub,c'.has,nw⟩ a' ⟨m',hm'⟩ (λp hp=>(off' p hp).1) c.frC (Ne.symm c.dc) (c.frs _ (Nat.le_refl _))
theorem Nf {a:Addr} {b led:Bool} {ep tk:Nat} {tp:Pos} {y:Str} {py:Pos} {Q:Unit->Shared->Prop} (hh:A.handled=none) (hled:led=true\/w.params.followText "set-order"=true) (hset:s.heap.get? a=some (EO b led true ep))
  (h:∀h',(∀b o,s.heap.get? b=some o->h'.get? b=some o)->wpAny (model pw w) A (assignInOrder ((assignEach [.Name y py] env).map (·.2)) [.bool b]) Q E {s with heap:=h'}):
  wpAny (model pw w) A (assign (.Tuple [.Name y py] tk tp) env (.ref a)) Q E s:=by
 rw[arm_assign_Tuple]
 refine wpAny_bind (wpAny_standAt ?_)
 unfold unpack
 refine wpAny_bind (wpAny_holding ?_)
 show wpAny _ A (unpackItems (.ref a) 1 none) _ E s
 have hT:s.TypeIs (.ref a) "set":=⟨_,hset,rfl⟩
 unfold unpackItems
 refine wpAny_bind ?_
 unfold notIterableAtAll
 refine wpAny_bind (wpAny_specialOf hT F.slot_set_iter.lookup ?_)
 refine wpAny_pure ?_
 rw[if_neg Bool.false_ne_true]
 refine wpAny_bind (wpAny_holding (Rw hset ?_))
 have k0:∀b o,s.heap.get? b=some o->(s.heap.push (bS (rawInt 0) (rawInt 0) (.ref a) ep)).get? b=some o:=λb o e=>Heap.get?_push_of_some _ e
 have hne:∀b o,s.heap.get? b=some o->b≠s.heap.objs.size:=λb o e=>Nat.ne_of_lt (Heap.lt_size e)
 refine wpAny_bind (wpAny_holding ?_)
 unfold draw
 refine wpAny_bind (Pm hled (k0 _ _ hset) (Heap.get?_push_size _ rfl) λh₁ p hi₁ hp hs₁=>?_)
 refine wpAny_bind (wpAny_holding (wpAny_pure (wpAny_pure ?_)))
 refine wpAny_bind (wpAny_holding ?_)
 refine Kl hh hled hp (hs₁.extBut _ _ (hne _ _ hset) (k0 _ _ hset)) hi₁ λh₂ k₂=>?_
 exact wpAny_pure (h h₂ λb o e=>k₂ b o (hne b o e) (hs₁.extBut b o (hne b o e) (k0 b o e)))
theorem Km {y:Str} {py tp:Pos} {tk:Nat} {kx it:Expr} {x:Str} {px:Pos} {scope:Scope} {cpos pos:Pos} {out:Bool} {σ':Sg} (R:AG k A) (hr:SE pw w w.params Gl k r.e)
  (S:SS w.params Gl env names N M σ s) (h:LL Gl r names σ.loc σ.cel kx (.Name x px) it scope=some out) (hp:put names owned y (.bool out) σ=some σ'):
  wpAny (model pw w) A (exec (.Assign [.Tuple [.Name y py] tk tp] (.SetComp kx [⟨.Name x px,it,[],0⟩] scope cpos) pos) env) (BP w Gl names env N M s .next σ') E s:=by
 refine Assign_Tuple ?_ rfl rfl
 rw[arm_eval_SetComp]
 refine Nd (use:=none) R hr S.vw h λa C N' s' led ep hled x hset hC ho hf hCa ha=>?_
 obtain ⟨m,hm⟩:=hC
 refine ⟨m,hm,λh' hs=>?_⟩
 have hne:∀b o,s.heap.get? b=some o->b≠C:=λb o e q=>by rw[q,hf] at e;exact Aa e
 have y':A1 N s N' {s' with heap:=h'}:=by
  refine Mine.S1 x.keeps λh2 t2 eq1 k2=>?_
  subst eq1
  exact ⟨⟨h',t2,rfl,λb o e=>hs.extBut b o (hne b o e) (k2 b o e)⟩,x.tk,x.sub,λp hp=>hs.extBut _ _ (ho p hp) (x.has p hp),x.new⟩
 have hset':h'.get? a=some (EO out led true ep):=hs.extBut _ _ (Ne.symm hCa) hset
 replace hset':({s' with heap:=h'}:Shared).heap.get? a=some (EO out led true ep):=hset'
 generalize ({s' with heap:=h'}:Shared)=s₁ at y' hset' ⊢
 refine Nf R.1 hled hset' λh₂ kp=>?_
 have z:A1 N' s₁ N' {s₁ with heap:=h₂}:=A1.of_keeps y'.has ⟨h₂,s₁.toks,rfl,kp⟩
 have hpa:EB names owned [y] [D.bool out] σ=some σ':=by
  show (put names owned y (.bool out) σ).bind (EB names owned [] [])=some σ'
  rw[hp];rfl
 exact IV [.Name y py] [y] [.bool out] [.bool out] σ σ' _ rfl (.cons (.bool _) .nil) hpa (S.ext (y'.trans z)) _ λs₂ S₂ t₂=>⟨N',M,S₂,(Tr.of_ext (y'.trans z)).trans t₂,trivial⟩
end
end Mine
set_option backward.match.sparseCases false
namespace Mine
open PySem PySem.Calls PyProof.Rows PySem.W
noncomputable def RA (gs:List Comprehension):Option Comprehension:=(K7 gs).bind λg=>(Ey g.target).bind λZ=>if g.ifs.isEmpty=true/\g.is_async=0 then some g else none
theorem LM {gs:List Comprehension} {g:Comprehension} (h:RA gs=some g):∃x px,g.target=.Name x px/\gs=[⟨.Name x px,g.iter,[],0⟩]:=by
 refine ob h λg' h1 h=>ob h λq h2 h=>?_
 refine Mine.S7 (IL h) λh3 h4 eq1=>?_
 subst eq1
 obtain ⟨t,i,fs,n⟩:=g'
 exact ⟨q.1.1,q.1.2,q.2,(FR h1).trans (IK (λt fs n=>[(⟨t,i,fs,n⟩:Comprehension)]) q.2 (List.isEmpty_iff.mp h3) h4)⟩
noncomputable def U2 (t v:Expr):Option (Str×Expr×Expr×Expr×Expr×Scope):=
 (Ey t).bind λy=>(bx v).bind λq=>(RA q.1.2.2.1).bind λg=>some (y.1.1,q.1.1,q.1.2.1,g.target,g.iter,q.1.2.2.2.1)
noncomputable def bU (t v:Expr):Option (Str×Expr×Expr×Expr×Scope):=
 (K6 t).bind λts=>(K7 ts.1.1).bind λt1=>(Ey t1).bind λy=>(eF v).bind λq=>(RA q.1.2.1).bind λg=>some (y.1.1,q.1.1,g.target,g.iter,q.1.2.2.1)
noncomputable def Oh (Gl:List (Str×D)) (r:CA) (names:List (Str×NameKind)) (owned:List Str) (t v:Expr) (σ:Sg):Option Sg:=
 match U2 t v with
 |some q=>(GU Gl r names σ.loc σ.cel q.2.1 q.2.2.1 q.2.2.2.1 q.2.2.2.2.1 q.2.2.2.2.2).bind λout=>put names owned q.1 (.dict (out.map (·.1)) (out.map (·.2))) σ
 |none=>(bU t v).bind λq=>(LL Gl r names σ.loc σ.cel q.2.1 q.2.2.1 q.2.2.2.1 q.2.2.2.2).bind λb=>put names owned q.1 (.bool b) σ
noncomputable def CF (Gl:List (Str×D)):CA->List (Str×NameKind)->List Str->Stmt->Sg->Option (Fl×Sg):=λr names owned st σ=>
 match st with
 | .Assign ts v _=>(match ts with
  |[t]=>(Oh Gl r names owned t v σ).map λσ=>(.next,σ)
  |_=>none)
 |_=>none
theorem U3 {t v:Expr} {z:Str×Expr×Expr×Expr×Expr×Scope} (h:U2 t v=some z):∃py x px pos,t=.Name z.1 py/\z.2.2.2.1=.Name x px/\v=.DictComp z.2.1 z.2.2.1 [⟨.Name x px,z.2.2.2.2.1,[],0⟩] z.2.2.2.2.2 pos:=by
 refine ob h λy' h1 h=>ob h λq h2 h=>ob h λg h3 h=>?_
 replace h:=Option.some.inj h;subst h
 refine Mine.S1 (LM h3) λx px e1 e2=>?_
 exact ⟨y'.1.2,x,px,q.1.2.2.2.2,y'.2,e1,q.2.trans (congrArg (λgs=>Expr.DictComp _ _ gs _ _) e2)⟩
theorem U4 {t v:Expr} {z:Str×Expr×Expr×Expr×Scope} (h:bU t v=some z):∃py tk tp x px pos,t=.Tuple [.Name z.1 py] tk tp/\z.2.2.1=.Name x px/\v=.SetComp z.2.1 [⟨.Name x px,z.2.2.2.1,[],0⟩] z.2.2.2.2 pos:=by
 refine ob h λts h1 h=>ob h λt1 h2 h=>ob h λy' h3 h=>ob h λq h4 h=>ob h λg h5 h=>?_
 replace h:=Option.some.inj h;subst h
 refine Mine.S1 (LM h5) λx px e1 e2=>?_
 exact ⟨y'.1.2,ts.1.2.1,ts.1.2.2,x,px,q.1.2.2.2,ts.2.trans (congrArg (λl=>Expr.Tuple l _ _) ((FR h2).trans (congrArg (λa=>[a]) y'.2))),e1,q.2.trans (congrArg (λgs=>Expr.SetComp _ gs _ _) e2)⟩
theorem Jb {w:World} {Gl:List (Str×D)} {k:Nat} (r:CA) (names:List (Str×NameKind)) (owned:List Str) (hr:SE pw w w.params Gl k r.e):SO pw w Gl k names (CF Gl r names owned):=by
 intro st σ f σ' h A E s N M env R S
 refine ob (show (eG st).bind (λq=>match q.1.1 with
  |[t]=>(Oh Gl r names owned t q.1.2.1 σ).map λσ=>(Fl.next,σ)
  |_=>none)=some (f,σ') from ?_) λq h1 h=>?_
 ·rcases st with _|_<;>exact h
 obtain ⟨⟨ts,v,pos⟩,rfl⟩:=q
 rcases ts with _|⟨t,_|⟨t2,ts⟩⟩
 ·exact Aa h
 ·replace h:(Oh Gl r names owned t v σ).map (λσ=>(Fl.next,σ))=some (f,σ'):=h
  revert h
  refine Mine.FQ λσ₁ q h=>?_
  (refine NU h λe1 e2=>?_;clear h;subst e1 e2)
  unfold Oh at q
  cases q1:U2 t v with
  |some a=>
   rw[q1] at q
   obtain ⟨y,kx,vx,tg,it,scope⟩:=a
   obtain ⟨py,x,px,cpos,rfl,rfl,rfl⟩:=show ∃py x px pos,t=.Name y py/\tg=.Name x px/\v=.DictComp kx vx [⟨.Name x px,it,[],0⟩] scope pos from U3 q1
   replace q:((GU Gl r names σ.loc σ.cel kx vx (.Name x px) it scope).bind λout=>put names owned y (.dict (out.map (·.1)) (out.map (·.2))) σ)=some σ₁:=q
   revert q
   refine Mine.Br λout q2 q=>?_
   exact Iv R hr S q2 q
  |none=>
   rw[q1] at q
   revert q
   refine Mine.Br λa q3 q=>?_
   obtain ⟨y,kx,tg,it,scope⟩:=a
   refine Mine.ir (show ∃py tk tp x px pos,t=.Tuple [.Name y py] tk tp/\tg=.Name x px/\v=.SetComp kx [⟨.Name x px,it,[],0⟩] scope pos from U4 q3) λpy tk tp x px cpos eq1 eq2 eq3=>?_
   subst eq1 eq2 eq3
   replace q:((LL Gl r names σ.loc σ.cel kx (.Name x px) it scope).bind λb=>put names owned y (.bool b) σ)=some σ₁:=q
   revert q
   refine Mine.Br λout q2 q=>?_
   exact Km R hr S q2 q
 ·exact Aa h
end Mine
set_option backward.match.sparseCases true
namespace Mine
open PySem PySem.Calls PyProof.Rows PySem.W PySem.NumText
noncomputable def DR (x:List Nat):Option Int:=
 if x=[50,69] then some 46 else if x=[50,101] then some 46 else if x=[50,70] then some 47 else if x=[50,102] then some 47 else if x=[51,70] then some 63 else none
noncomputable def bV (a b:D):Option D:=(Bm a).bind λx=>match b with
 | .int i=>if i=16 then (DR x).map .int else none
 |_=>none
noncomputable def GW:D->Option String
 | .val v=>(match v with| .type t=>some t|_=>none)
 |_=>none
noncomputable def Ng (a b:D):Option D:=(GW a).bind λt=>match b with
 | .tuple ds=>if t="str"/\(ds.head?.bind GW)=some "str"/\ds.length=2/\(ds.getLast?.bind GW)=some "bytes" then some (.bool true) else none
 |_=>none
noncomputable def GX (id:String) (as:List D):Option D:=
 if id="len" then Et as bM else if id="ord" then Et as Yk else if id="chr" then Et as Yl else if id="isinstance" then two as Ym
 else if id="issubclass" then two as Ng else if id="min" then Et as (Oa true) else if id="max" then Et as (Oa false) else none
noncomputable def Jc (t:String) (as:List D):Option D:=
 if t="type" then Et as N6 else if t="bytes" then Et as MU else if t="int" then two as bV else none
noncomputable def Oi:Bt:=λf as=>match f with
 | .val v=>(match v with
  | .builtin id=>GX id as
  | .type t=>Jc t as
  |_=>none)
 |_=>none
noncomputable def Ak (lower:Bt):MT:=λo name as=>match o with
 | .str x=>Kb x name as
 | .bytes b=>Gz b name as
 | .dict ks ds=>HH ks ds name as
 | .mat x b e=>Ke x b e name as
 | .val v=>(match v with| .ref a=>Kg lower a name as|_=>none)
 |_=>none
set_option tactic.hygienic true
theorem LN {w:World} {Gl:List (Str×D)} {k:Nat} {lower:Bt} (hl:IW w Gl k lower):Hk pw w w.params Gl k (Ak lower):=by
 intro o name as d h
 rcases o with _|_<;>first|exact Aa h|skip
 ·exact M1 h
 ·exact Kc h
 ·exact Lz h
 ·rename_i v
  rcases v with _|_<;>first|exact Aa h|skip
  exact M5 hl h
 ·exact M2 h
set_option tactic.hygienic false
section
variable {w:World} {A:Around} {E:Value->Shared->Prop} {s:Shared} {N:Az} {v u:Value} {vs:List Value} {a b d:D} {as:List D} {Gl:List (Str×D)}
set_option tactic.hygienic true
theorem Yy (hN:Cn N s) (rv:Ax w.params N v a) (ru:Ax w.params N u b) (h:bV a b=some d):wpAny (model pw w) A (call (.type "int") [v,u]) (Gv w.params N s d) E s:=by
 rcases a with _|_<;>first|exact Aa h|skip
 rename_i x
 rcases b with _|_<;>first|exact Aa h|skip
 rename_i i
 refine Mine.S0 rv.strOf λt eq1 hx=>?_
 subst eq1
 obtain ⟨t',rfl⟩:=ru.intOf
 replace h:(if i=16 then (DR x).map D.int else none)=some d:=h
 revert h
 refine BO λhi h=>?_
 subst hi
 refine Mine.om h λn q h=>?_
 unfold DR at q
 refine Iq q (λe q=>?_) λq=>Iq q (λe q=>?_) λq=>Iq q (λe q=>?_) λq=>Iq q (λe q=>?_) λq=>Iq q (λe q=>?_) λq=>Aa q
 all_goals
  subst e;(replace q:=Option.some.inj q;subst q);subst h
  exact QV (by decide+kernel) (by decide+kernel) (by rfl) (by rfl) (B3 hN _ _ _)
theorem Kn {t:String} (h:GW a=some t):a=.val (.type t):=by
 rcases a with _|_<;>first|exact Aa h|skip
 rename_i v
 rcases v with _|_<;>first|(first|(exact Aa h)|(replace h:=Option.some.inj h;subst h))|skip
 rfl
theorem RB (hN:Cn N s) (rv:Ax w.params N v a) (ru:Ax w.params N u b) (h:Ng a b=some d):wpAny (model pw w) A (call (.builtin "issubclass") [v,u]) (Gv w.params N s d) E s:=by
 unfold Ng at h
 revert h
 refine Mine.Br λt q h=>?_
 have:=Kn q
 subst this
 rcases b with _|_<;>first|exact Aa h|skip
 rename_i ds
 replace h:(if t="str"/\(ds.head?.bind GW)=some "str"/\ds.length=2/\(ds.getLast?.bind GW)=some "bytes" then some (D.bool true) else none)=some d:=h
 revert h
 refine BO λhc h=>?_
 revert hc
 refine Mine.bm λeq1 h1 h2 h3=>?_
 subst eq1
 (replace h:=Option.some.inj h;subst h)
 obtain ⟨x,y,rfl⟩:∃x y,ds=[x,y]:=by
  rcases ds with _|⟨x,_|⟨y,_|⟨z,ds⟩⟩⟩<;>first|exact ⟨_,_,rfl⟩|cases h2
 have e1:=Kn (show GW x=some "str" from h1)
 have e2:=Kn (show GW y=some "bytes" from h3)
 subst e1 e2
 obtain rfl:=rv.valOf
 refine Mine.S4 ru.tupleOf λtu us n eq1 m hl rs=>?_
 subst eq1
 refine Mine.S3 (DO rs) λp q eq1 r1 r2=>?_
 subst eq1
 obtain rfl:=r1.valOf
 exact MV (hN _ m) (JW hN true)
theorem HM:∀k,Fi pw w w.params Gl k Oi:=by
 intro k f as d h A E s N v vs R T rv rs
 have R0:=R.le (Nat.zero_le k)
 rcases f with _|_<;>first|exact Aa h|skip
 rename_i f
 obtain rfl:=rv.valOf
 rcases v with _|_<;>first|exact Aa h|skip
 ·rename_i t
  refine ⟨.inr (.inl ⟨_,rfl⟩),?_⟩
  replace h:Jc t as=some d:=h
  unfold Jc at h
  refine Iq h (λe h=>?_) λh=>Iq h (λe h=>?_) λh=>Iq h (λe h=>?_) λh=>Aa h
  ·exact Hx .type e (λ_ _ r h=>O5 T.has r h) h rs
  ·exact Hx .type e (λ_ _ r h=>QU R0 T.has r h) h rs
  ·exact QT .type e (λ_ _ _ _ r r' h=>Yy T.has r r' h) h rs
 ·rename_i id
  refine ⟨.inl ⟨_,rfl⟩,?_⟩
  replace h:GX id as=some d:=h
  unfold GX at h
  refine Iq h (λe h=>?_) λh=>Iq h (λe h=>?_) λh=>Iq h (λe h=>?_) λh=>Iq h (λe h=>?_) λh=>Iq h (λe h=>?_) λh=>Iq h (λe h=>?_) λh=>Iq h (λe h=>?_) λh=>Aa h
  ·exact Hx .builtin e (λ_ _ r h=>Yn T.has r h) h rs
  ·exact Hx .builtin e (λ_ _ r h=>Yo T.has r h) h rs
  ·exact Hx .builtin e (λ_ _ r h=>Yp T.has r h) h rs
  ·exact QT .builtin e (λ_ _ _ _ r r' h=>Yq T.has r r' h) h rs
  ·exact QT .builtin e (λ_ _ _ _ r r' h=>RB T.has r r' h) h rs
  ·exact Hx .builtin e (λ_ _ r h=>Oc true R0 T.has r h) h rs
  ·exact Hx .builtin e (λ_ _ r h=>Oc false R0 T.has r h) h rs
set_option tactic.hygienic false
end
end Mine
namespace Mine
open PySem PySem.Calls PyProof.Rows PySem.W
noncomputable def RC (K:Frag) (a:Addr):Option (List Value):=
 match K.lookup a with
 |some o=>(match o.cls with
  | .type t=>if t="tuple"/\o.dict.isNone=true/\o.slots.isEmpty=true then (match o.data with| .seq vs _=>some vs.toList|_=>none) else none
  |_=>none)
 |none=>none
noncomputable def LO (K:Frag):Nat->Value->Option D
 |0,_=>none
 |n+1,v=>match v with
  | .int i _=>some (.int i)
  | .str s _=>if s.cps.size<=1000 then some (.str s.cps.toList) else none
  | .ref a=>(RC K a).bind λvs=>if vs.length<=100 then (vs.mapM (LO K n)).map .tuple else none
  |_=>none
set_option tactic.hygienic true
theorem RD {K:Frag} {a:Addr} {vs:List Value} (h:RC K a=some vs):∃n,(a,Bs vs n)∈K:=by
 unfold RC at h
 cases q:K.lookup a with
 |none=>rw[q] at h;exact Aa h
 |some o=>
  rw[q] at h
  obtain ⟨c,dd,dt,sl⟩:=o
  rcases c with _|_<;>first|exact Aa h|skip
  rename_i t
  dsimp only at h
  revert h
  refine BO λhc h=>?_
  revert hc
  refine Mine.dE λeq1 h1 h2=>?_
  subst eq1
  rcases dt with _|_<;>first|(exact Aa h;done)|skip
  rename_i xs n
  (replace h:=Option.some.inj h;subst h)
  rw[Option.isNone_iff_eq_none] at h1
  rw[Array.isEmpty_iff] at h2
  subst h1 h2
  refine Mine.S1 (List.lookup_eq_some_iff.mp q) λl1 l2 e _=>?_
  refine ⟨n,?_⟩
  rw[e]
  have:(⟨.type "tuple",none,.seq xs n,#[]⟩:Obj)=Bs xs.toList n:=by simp[Bs]
  rw[this];simp
theorem LQ {P:Params} {K N:Az} (hs:∀p∈K,p∈N):∀ (n:Nat) (v:Value) (d:D),LO K n v=some d->Ax P N v d
 |0,_,_,h=>nomatch h
 |n+1,v,d,h=>by
  rcases v with _|_<;>first|(first|(exact Aa h)|(replace h:=Option.some.inj h;subst h))|skip
  ·exact .int _ _
  ·rename_i s t
   unfold LO at h
   dsimp only at h
   revert h
   refine BO λhl h=>?_
   (replace h:=Option.some.inj h;subst h)
   have e:s=S s.cps.toList:=by obtain ⟨a⟩:=s;rfl
   have hl':s.cps.toList.length<=Ap:=by simp only[Array.length_toList];exact Nat.le_trans hl (by decide)
   generalize s.cps.toList=l at e hl' ⊢
   subst e
   exact .str _ _ hl'
  ·rename_i a
   unfold LO at h
   dsimp only at h
   revert h
   refine Mine.Br λvs q h=>?_
   revert h
   refine BO λhl h=>?_
   obtain ⟨m,hm⟩:=RD q
   revert h
   refine Mine.FQ λds q2 h=>?_
   subst h
   refine .tuple (hs _ hm) (Nat.le_trans hl (by decide)) ?_
   clear hl hm q
   induction vs generalizing ds with
   |nil=>(replace q2:=Option.some.inj q2;subst q2);exact .nil
   |cons v vs ih=>
    rw[List.mapM_cons] at q2
    revert q2
    refine Mine.Br λd q3 q2=>?_
    revert q2
    refine Mine.Br λds' q4 q2=>?_
    (replace q2:=Option.some.inj q2;subst q2)
    exact .cons (LQ hs n v d q3) (ih _ q4)
set_option tactic.hygienic false
noncomputable def bW:D:=.tuple [.tuple [.tuple [.int 40960,.str [108]],.tuple [.int 49152,.str [115]],.tuple [.int 32768,.str [45]],.tuple [.int 24576,.str [98]],.tuple [.int 16384,.str [100]],.tuple [.int 8192,.str [99]],.tuple [.int 4096,.str [112]]],.tuple [.tuple [.int 256,.str [114]]],.tuple [.tuple [.int 128,.str [119]]],.tuple [.tuple [.int 2112,.str [115]],.tuple [.int 2048,.str [83]],.tuple [.int 64,.str [120]]],.tuple [.tuple [.int 32,.str [114]]],.tuple [.tuple [.int 16,.str [119]]],.tuple [.tuple [.int 1032,.str [115]],.tuple [.int 1024,.str [83]],.tuple [.int 8,.str [120]]],.tuple [.tuple [.int 4,.str [114]]],.tuple [.tuple [.int 2,.str [119]]],.tuple [.tuple [.int 513,.str [116]],.tuple [.int 512,.str [84]],.tuple [.int 1,.str [120]]]]
noncomputable def Gl:List (Str×D):=[
 (Str.ofString "unquote",.val (.ref 66)),
 (Str.ofString "header_encode",.val (.ref 74)),
 (Str.ofString "_unquote_match",.val (.ref 86)),
 (Str.ofString "header_decode",.val (.ref 93)),
 (Str.ofString "fspath",.val (.ref 166)),
 (Str.ofString "_get_sep",.val (.ref 180)),
 (Str.ofString "join",.val (.ref 187)),
 (Str.ofString "splitroot",.val (.ref 194)),
 (Str.ofString "basename",.val (.ref 201)),
 (Str.ofString "normpath",.val (.ref 208)),
 (Str.ofString "commonpath",.val (.ref 213)),
 (Str.ofString "S_IMODE",.val (.ref 220)),
 (Str.ofString "S_IFMT",.val (.ref 227)),
 (Str.ofString "S_ISDIR",.val (.ref 234)),
 (Str.ofString "filemode",.val (.ref 274)),
 (Str.ofString "_law_listing",.val (.ref 281)),
 (Str.ofString "_law_mode",.val (.ref 288)),
 (Str.ofString "_law_name",.val (.ref 295)),
 (Str.ofString "_law_parts",.val (.ref 302)),
 (Str.ofString "_law_left",.val (.ref 309)),
 (Str.ofString "_law_text",.val (.ref 316)),
 (Str.ofString "_law_steps",.val (.ref 321)),
 (Str.ofString "_law_foot",.val (.ref 328)),
 (Str.ofString "_law_shared",.val (.ref 335)),
 (Str.ofString "_QUOPRI_HEADER_MAP",.val (.ref 51)),
 (Str.ofString "_twin_re_1",.val (.ref 43)),
 (Str.ofString "len",.val (.builtin "len")),
 (Str.ofString "ord",.val (.builtin "ord")),
 (Str.ofString "chr",.val (.builtin "chr")),
 (Str.ofString "isinstance",.val (.builtin "isinstance")),
 (Str.ofString "issubclass",.val (.builtin "issubclass")),
 (Str.ofString "min",.val (.builtin "min")),
 (Str.ofString "max",.val (.builtin "max")),
 (Str.ofString "type",.val (.type "type")),
 (Str.ofString "tuple",.val (.type "tuple")),
 (Str.ofString "map",.val (.type "map")),
 (Str.ofString "str",.val (.type "str")),
 (Str.ofString "bytes",.val (.type "bytes")),
 (Str.ofString "int",.val (.type "int")),
 (Str.ofString "range",.val (.type "range")),
 (Str.ofString "enumerate",.val (.type "enumerate")),
 (Str.ofString "reversed",.val (.type "reversed")),
 (Str.ofString "S_IFDIR",.int 16384),
 (Str.ofString "S_IXOTH",.int 1),
 (Str.ofString "_filemode_table",bW)]
noncomputable def Bn (P:Params) (p:Str×D):Prop:=∃v,(nsIn (KK P) mainGlobals p.1=some (some v)\/(nsIn (KK P) mainGlobals p.1=some none/\nsIn (KK P) builtinsNs p.1=some (some v)))/\(p.2=.val v\/LO (KK P) 4 v=some p.2)
theorem iW (P:Params):Bn P ("unquote",.val (.ref 66)):=⟨.ref 66,.inl (by kernel_rfl),.inl rfl⟩
theorem iX (P:Params):Bn P ("header_encode",.val (.ref 74)):=⟨.ref 74,.inl (by kernel_rfl),.inl rfl⟩
theorem iY (P:Params):Bn P ("_unquote_match",.val (.ref 86)):=⟨.ref 86,.inl (by kernel_rfl),.inl rfl⟩
theorem iZ (P:Params):Bn P ("header_decode",.val (.ref 93)):=⟨.ref 93,.inl (by kernel_rfl),.inl rfl⟩
theorem i7 (P:Params):Bn P ("fspath",.val (.ref 166)):=⟨.ref 166,.inl (by kernel_rfl),.inl rfl⟩
theorem ja (P:Params):Bn P ("_get_sep",.val (.ref 180)):=⟨.ref 180,.inl (by kernel_rfl),.inl rfl⟩
theorem jb (P:Params):Bn P ("join",.val (.ref 187)):=⟨.ref 187,.inl (by kernel_rfl),.inl rfl⟩
theorem jc (P:Params):Bn P ("splitroot",.val (.ref 194)):=⟨.ref 194,.inl (by kernel_rfl),.inl rfl⟩
theorem jd (P:Params):Bn P ("basename",.val (.ref 201)):=⟨.ref 201,.inl (by kernel_rfl),.inl rfl⟩
theorem je (P:Params):Bn P ("normpath",.val (.ref 208)):=⟨.ref 208,.inl (by kernel_rfl),.inl rfl⟩
theorem eN (P:Params):Bn P ("commonpath",.val (.ref 213)):=⟨.ref 213,.inl (by kernel_rfl),.inl rfl⟩
theorem eO (P:Params):Bn P ("S_IMODE",.val (.ref 220)):=⟨.ref 220,.inl (by kernel_rfl),.inl rfl⟩
theorem eP (P:Params):Bn P ("S_IFMT",.val (.ref 227)):=⟨.ref 227,.inl (by kernel_rfl),.inl rfl⟩
theorem eQ (P:Params):Bn P ("S_ISDIR",.val (.ref 234)):=⟨.ref 234,.inl (by kernel_rfl),.inl rfl⟩
theorem eR (P:Params):Bn P ("filemode",.val (.ref 274)):=⟨.ref 274,.inl (by kernel_rfl),.inl rfl⟩
theorem eS (P:Params):Bn P ("_law_listing",.val (.ref 281)):=⟨.ref 281,.inl (by kernel_rfl),.inl rfl⟩
theorem eT (P:Params):Bn P ("_law_mode",.val (.ref 288)):=⟨.ref 288,.inl (by kernel_rfl),.inl rfl⟩
theorem eU (P:Params):Bn P ("_law_name",.val (.ref 295)):=⟨.ref 295,.inl (by kernel_rfl),.inl rfl⟩
theorem eV (P:Params):Bn P ("_law_parts",.val (.ref 302)):=⟨.ref 302,.inl (by kernel_rfl),.inl rfl⟩
theorem eW (P:Params):Bn P ("_law_left",.val (.ref 309)):=⟨.ref 309,.inl (by kernel_rfl),.inl rfl⟩
theorem eX (P:Params):Bn P ("_law_text",.val (.ref 316)):=⟨.ref 316,.inl (by kernel_rfl),.inl rfl⟩
theorem eY (P:Params):Bn P ("_law_steps",.val (.ref 321)):=⟨.ref 321,.inl (by kernel_rfl),.inl rfl⟩
theorem eZ (P:Params):Bn P ("_law_foot",.val (.ref 328)):=⟨.ref 328,.inl (by kernel_rfl),.inl rfl⟩
theorem e7 (P:Params):Bn P ("_law_shared",.val (.ref 335)):=⟨.ref 335,.inl (by kernel_rfl),.inl rfl⟩
theorem e8 (P:Params):Bn P ("_QUOPRI_HEADER_MAP",.val (.ref 51)):=⟨.ref 51,.inl (by kernel_rfl),.inl rfl⟩
theorem e9 (P:Params):Bn P ("_twin_re_1",.val (.ref 43)):=⟨.ref 43,.inl (by kernel_rfl),.inl rfl⟩
theorem fb (P:Params):Bn P ("len",.val (.builtin "len")):=⟨.builtin "len",.inr ⟨by kernel_rfl,by kernel_rfl⟩,.inl rfl⟩
theorem fe (P:Params):Bn P ("ord",.val (.builtin "ord")):=⟨.builtin "ord",.inr ⟨by kernel_rfl,by kernel_rfl⟩,.inl rfl⟩
theorem ff (P:Params):Bn P ("chr",.val (.builtin "chr")):=⟨.builtin "chr",.inr ⟨by kernel_rfl,by kernel_rfl⟩,.inl rfl⟩
theorem fg (P:Params):Bn P ("isinstance",.val (.builtin "isinstance")):=⟨.builtin "isinstance",.inr ⟨by kernel_rfl,by kernel_rfl⟩,.inl rfl⟩
theorem fh (P:Params):Bn P ("issubclass",.val (.builtin "issubclass")):=⟨.builtin "issubclass",.inr ⟨by kernel_rfl,by kernel_rfl⟩,.inl rfl⟩
theorem fj (P:Params):Bn P ("min",.val (.builtin "min")):=⟨.builtin "min",.inr ⟨by kernel_rfl,by kernel_rfl⟩,.inl rfl⟩
theorem fk (P:Params):Bn P ("max",.val (.builtin "max")):=⟨.builtin "max",.inr ⟨by kernel_rfl,by kernel_rfl⟩,.inl rfl⟩
theorem fm (P:Params):Bn P ("type",.val (.type "type")):=⟨.type "type",.inr ⟨by kernel_rfl,by kernel_rfl⟩,.inl rfl⟩
theorem fn (P:Params):Bn P ("tuple",.val (.type "tuple")):=⟨.type "tuple",.inr ⟨by kernel_rfl,by kernel_rfl⟩,.inl rfl⟩
theorem fo (P:Params):Bn P ("map",.val (.type "map")):=⟨.type "map",.inr ⟨by kernel_rfl,by kernel_rfl⟩,.inl rfl⟩
theorem fq (P:Params):Bn P ("str",.val (.type "str")):=⟨.type "str",.inr ⟨by kernel_rfl,by kernel_rfl⟩,.inl rfl⟩
theorem fu (P:Params):Bn P ("bytes",.val (.type "bytes")):=⟨.type "bytes",.inr ⟨by kernel_rfl,by kernel_rfl⟩,.inl rfl⟩
theorem fw (P:Params):Bn P ("int",.val (.type "int")):=⟨.type "int",.inr ⟨by kernel_rfl,by kernel_rfl⟩,.inl rfl⟩
theorem fx (P:Params):Bn P ("range",.val (.type "range")):=⟨.type "range",.inr ⟨by kernel_rfl,by kernel_rfl⟩,.inl rfl⟩
theorem fy (P:Params):Bn P ("enumerate",.val (.type "enumerate")):=⟨.type "enumerate",.inr ⟨by kernel_rfl,by kernel_rfl⟩,.inl rfl⟩
theorem fz (P:Params):Bn P ("reversed",.val (.type "reversed")):=⟨.type "reversed",.inr ⟨by kernel_rfl,by kernel_rfl⟩,.inl rfl⟩
theorem fA (P:Params):Bn P ("S_IFDIR",.int 16384):=⟨((nsIn (KK P) mainGlobals "S_IFDIR").getD none).getD .none,.inl (by kernel_rfl),.inr (by kernel_rfl)⟩
theorem fB (P:Params):Bn P ("S_IXOTH",.int 1):=⟨((nsIn (KK P) mainGlobals "S_IXOTH").getD none).getD .none,.inl (by kernel_rfl),.inr (by kernel_rfl)⟩
theorem fC (P:Params):Bn P ("_filemode_table",bW):=⟨.ref 267,.inl (by kernel_rfl),.inr (by kernel_rfl)⟩
theorem AS {P:Params} {p:Str×D} {l:List (Str×D)} (h:Bn P p) (t:∀q∈l,Bn P q):∀q∈p::l,Bn P q:=λZ m=>by
 cases m with
 |head=>exact h
 |tail _ m=>exact t _ m
theorem bX (P:Params):∀p∈Gl,Bn P p:=
 AS (iW P)<|AS (iX P)<|AS (iY P)<|AS (iZ P)<|AS (i7 P)<|AS (ja P)<|AS (jb P)<|AS (jc P)<|AS (jd P)<|AS (je P)<|AS (eN P)<|AS (eO P)<|AS (eP P)<|AS (eQ P)<|AS (eR P)<|AS (eS P)<|AS (eT P)<|AS (eU P)<|AS (eV P)<|AS (eW P)<|AS (eX P)<|AS (eY P)<|AS (eZ P)<|AS (e7 P)<|AS (e8 P)<|AS (e9 P)<|AS (fb P)<|AS (fe P)<|AS (ff P)<|AS (fg P)<|AS (fh P)<|AS (fj P)<|AS (fk P)<|AS (fm P)<|AS (fn P)<|AS (fo P)<|AS (fq P)<|AS (fu P)<|AS (fw P)<|AS (fx P)<|AS (fy P)<|AS (fz P)<|AS (fA P)<|AS (fB P)<|AS (fC P)<|λZ h=>nomatch h
theorem Oj {K:Frag} {h:Heap} {N:Addr} {m:Str->Option Value} {x:Str} {v:Value} (X:K.In h) (G:h.Ns N m) (e:nsIn K N x=some (some v)):m x=some v:=by
 revert G
 refine Mine.T4 λo es ep h1 h2 _ h4=>?_
 rw[<-h4 x]
 cases q:K.lookup N with
 |none=>simp only[nsIn,q] at e;exact Aa e
 |some o'=>
  obtain rfl:o=o':=by have:=X _ _ q;rw[h1] at this;(replace this:=Option.some.inj this;subst this);rfl
  obtain ⟨c,dd,dt,sl⟩:=o
  subst h2
  simp only[nsIn,q] at e
  cases q2:es.toList.find? (·.key.isStr x) with
  |none=>
   rw[q2] at e
   dsimp only at e
   split at e<;>first|exact Aa e|cases e
  |some en=>
   rw[q2] at e
   cases e
   unfold nsFind findBy
   rw[<-Array.find?_toList,q2]
   rfl
theorem Yz {P:Params} {N:Az} (hk:∀p∈KK P,p∈N):GQ P Gl N:=λh hh=>by
 have X:(KK P).In h:=λa o e=>hh (a,o) (hk _ (Dj e))
 have G:=Heap.Ns.of_isNs (isNs_of_in X (N:=mainGlobals) (by kernel_rfl))
 have B:=Heap.Ns.of_isNs (isNs_of_in X (N:=builtinsNs) (by kernel_rfl))
 have C:=Heap.Ns.of_isNs (isNs_of_in X (N:=cStatics) (by kernel_rfl))
 refine ⟨⟨_,_,G,B,λx d e=>?_⟩,⟨_,C,ns_none_of X C (by kernel_rfl)⟩,hk⟩
 refine Mine.S1 (List.lookup_eq_some_iff.mp e) λl1 l2 e1 _=>?_
 obtain ⟨v,h1,h2⟩:=bX P (x,d) (by rw[e1];simp)
 refine ⟨v,?_,?_⟩
 ·rcases h1 with h1|⟨h1,h3⟩
  ·exact .inl (mg_of X G h1)
  ·refine .inr ⟨mg_none_of X G h1,?_⟩
   exact Oj X B h3
 ·rcases h2 with h2|h2
  ·rw[show d=_ from h2];exact .val v
  ·exact LQ hk 4 v d h2
end Mine
set_option backward.match.sparseCases false
namespace Mine
open PySem
structure Cs (ρ:Type) where
 e:Expr->(D->Option ρ)->Option ρ
 t:Expr->(Bool->Option ρ)->Option ρ
section
variable {ρ:Type} (Gl:List (Str×D)) (app:Bt) (meth:MT) (X:XE) (names:List (Str×NameKind)) (loc cel:List (Str×D))
noncomputable def Dl (f:Expr->(D->Option ρ)->Option ρ):List Expr->(List D->Option ρ)->Option ρ
 |[],k=>k []
 |e::es,k=>f e λd=>Dl f es λds=>k (d::ds)
noncomputable def U5 (f:Expr->(Bool->Option ρ)->Option ρ) (op:BoolOp):List Expr->(Bool->Option ρ)->Option ρ
 |[],k=>k (op==.And)
 |e::es,k=>f e λb=>match op with
  | .And=>if b then U5 f op es k else k false
  | .Or=>if b then k true else U5 f op es k
noncomputable def Ok (f:Expr->(D->Option ρ)->Option ρ) (op:BoolOp):List Expr->(D->Option ρ)->Option ρ
 |[],_=>none
 |e::es,k=>match es with
  |[]=>f e k
  |_=>f e λd=>(Ay d).bind λb=>match op with
   | .And=>if b then Ok f op es k else k d
   | .Or=>if b then k d else Ok f op es k
noncomputable def RE (f:Expr->(D->Option ρ)->Option ρ):Option Expr->(Option D->Option ρ)->Option ρ
 |none,k=>k none
 |some e,k=>f e λd=>k (some d)
noncomputable def bY (c:Cs ρ) (v i:Expr) (k:D->Option ρ):Option ρ:=
 match i with
 | .Slice lo hi st _=>(match st with
  |some q=>if OP q&&lo.isNone&&hi.isNone then c.e v λo=>(Qq o).bind k else none
  |none=>c.e v λo=>RE c.e lo λa=>RE c.e hi λb=>(Db a).bind λa=>(Db b).bind λb=>(A8 o a b).bind k)
 |i=>c.e v λo=>c.e i λj=>(AW o j).bind k
noncomputable def RG (c:Cs ρ) (f:Expr) (args:List Expr) (pos:Pos) (k:D->Option ρ):Option ρ:=
 match f with
 | .Attribute o name apos=>if Aj args&&decide (args.length<20)&&B8 o&&(apos.endLine==pos.line) then c.e o λo=>Dl c.e args λas=>(meth o name as).bind k else none
 | .Name _ _=>if Aj args&&decide (args.length<20) then c.e f λf=>Dl c.e args λas=>(app f as).bind k else none
 |_=>none
noncomputable def U6 (c:Cs ρ) (l:Expr) (ops:List CmpOp) (xs:List Expr) (k:Bool->Option ρ):Option ρ:=
 match ops,xs with
 |[op],[x]=>if behindInMarks op x then none else c.e l λa=>c.e x λb=>(A0 op a b).bind k
 |_,_=>none
noncomputable def Nh (c:Cs ρ) (d:Option D) (e:Expr) (k:D->Option ρ):Option ρ:=
 if eI e then d.bind k else
  match e with
  | .BinOp l op x _=>c.e l λa=>c.e x λb=>(Aq op a b).bind k
  | .BoolOp op vs _=>Ok c.e op vs k
  | .IfExp t b o _=>c.t t λq=>if q then c.e b k else c.e o k
  | .List es _=>if Aj es&&decide (es.length<=100) then Dl c.e es λds=>k (.list ds) else none
  | .Tuple es _ _=>if Aj es&&decide (es.length<=100) then Dl c.e es λds=>k (.tuple ds) else none
  | .Subscript v i _=>bY c v i k
  | .Compare l ops xs _=>U6 c l ops xs λb=>k (.bool b)
  | .Call f args ks pos=>if ks.isEmpty then RG app meth c f args pos k else none
  |_=>d.bind k
noncomputable def RH (c:Cs ρ) (e:Expr) (k:Bool->Option ρ):Option ρ:=
 match e with
 | .UnaryOp op x _=>(match op with| .Not=>c.t x λb=>k (!b)|_=>none)
 | .BoolOp op vs _=>U5 c.t op vs k
 | .Compare l ops xs _=>U6 c l ops xs k
 | .Name .. =>c.e e λd=>(Ay d).bind k
 | .Call .. =>c.e e λd=>(Ay d).bind k
 | .Subscript .. =>c.e e λd=>(Ay d).bind k
 |_=>none
noncomputable def cN:Nat->Cs ρ
 |0=>⟨λZ Z=>none,λZ Z=>none⟩
 |m+1=>⟨λe k=>Nh app meth (cN m) ((Dd Gl app meth X (m+1)).e names loc cel e) e k,λe k=>RH (cN m) e k⟩
theorem DS {f:Expr->(D->Option ρ)->Option ρ} {g:Expr->Option D} (h:∀e k,f e k=(g e).bind k):∀ (es:List Expr) (k:List D->Option ρ),Dl f es k=(es.mapM g).bind k
 |[],k=>rfl
 |e::es,k=>by
  refine (h e _).trans ?_
  rw[List.mapM_cons]
  cases g e with
  |none=>rfl
  |some d=>
   show Dl f es _=_
   rw[DS h es]
   cases es.mapM g<;>rfl
theorem Ol {f:Expr->(Bool->Option ρ)->Option ρ} {r:CA} (h:∀e k,f e k=(r.t names loc cel e).bind k) (op:BoolOp):∀ (es:List Expr) (k:Bool->Option ρ),U5 f op es k=(Ui r names loc cel op es).bind k
 |[],k=>rfl
 |e::es,k=>by
  refine (h e _).trans ?_
  show (r.t names loc cel e).bind _=((r.t names loc cel e).bind _).bind k
  cases r.t names loc cel e with
  |none=>rfl
  |some b=>rcases op with _|_<;>rcases b with _|_<;>first|rfl|exact Ol h _ es k
theorem HN {f:Expr->(D->Option ρ)->Option ρ} {r:CA} (h:∀e k,f e k=(r.e names loc cel e).bind k) (op:BoolOp):∀ (es:List Expr) (k:D->Option ρ),Ok f op es k=(Hh r names loc cel op es).bind k
 |[],k=>rfl
 |[e],k=>h e k
 |e::e2::es,k=>by
  refine (h e _).trans ?_
  show (r.e names loc cel e).bind _=((r.e names loc cel e).bind _).bind k
  cases r.e names loc cel e with
  |none=>rfl
  |some d=>
   show (Ay d).bind _=_
   cases q:Ay d with
   |none=>simp only[Option.bind_some,q];rfl
   |some b=>
    simp only[Option.bind_some,q]
    rcases op with _|_<;>rcases b with _|_<;>first|rfl|exact HN h .And (e2::es) k|exact HN h .Or (e2::es) k
theorem U7 {f:Expr->(D->Option ρ)->Option ρ} {r:CA} (h:∀e k,f e k=(r.e names loc cel e).bind k) (e:Option Expr) (k:Option D->Option ρ):RE f e k=(IN r names loc cel e).bind k:=by
 cases e with
 |none=>rfl
 |some e=>
  show f e (λd=>k (some d))=((r.e names loc cel e).map some).bind k
  rw[h]
  cases r.e names loc cel e<;>rfl
set_option tactic.hygienic true
theorem U8 {c:Cs ρ} {r:CA} (h:∀e k,c.e e k=(r.e names loc cel e).bind k) (v i:Expr) (k:D->Option ρ):bY c v i k=(X3 r names loc cel v i).bind k:=by
 have gen:∀i,(c.e v λo=>c.e i λj=>(AW o j).bind k)=((r.e names loc cel v).bind λo=>(r.e names loc cel i).bind λj=>AW o j).bind k:=λi=>by simp only[h,Option.bind_assoc]
 rcases i with _|_<;>first|exact gen _|skip
 rename_i lo hi st p
 cases st with
 |some q=>
  show (if OP q&&lo.isNone&&hi.isNone then c.e v λo=>(Qq o).bind k else none)=(if OP q&&lo.isNone&&hi.isNone then (r.e names loc cel v).bind Qq else none).bind k
  cases OP q&&lo.isNone&&hi.isNone with
  |false=>rfl
  |true=>simp only[if_true,h,Option.bind_assoc]
 |none=>
  show (c.e v λo=>RE c.e lo λa=>RE c.e hi λb=>(Db a).bind λa=>(Db b).bind λb=>(A8 o a b).bind k)=((r.e names loc cel v).bind λo=>(IN r names loc cel lo).bind λa=>(IN r names loc cel hi).bind λb=>(Db a).bind λa=>(Db b).bind λb=>A8 o a b).bind k
  simp only[h,U7 names loc cel h,Option.bind_assoc]
set_option tactic.hygienic false
theorem U9 {c:Cs ρ} {r:CA} (h:∀e k,c.e e k=(r.e names loc cel e).bind k) (l:Expr) (ops:List CmpOp) (xs:List Expr) (k:D->Option ρ):
  U6 c l ops xs (λb=>k (.bool b))=(match ops,xs with
  |[op],[x]=>if behindInMarks op x then none else (r.e names loc cel l).bind λa=>(r.e names loc cel x).bind λb=>(A0 op a b).map D.bool
  |_,_=>none).bind k:=by
 rcases ops with _|⟨op,_|⟨op2,ops⟩⟩<;>rcases xs with _|⟨x,_|⟨x2,xs⟩⟩<;>first|rfl|skip
 show (if behindInMarks op x then none else c.e l λa=>c.e x λb=>(A0 op a b).bind λb=>k (.bool b))=(if behindInMarks op x then none else (r.e names loc cel l).bind λa=>(r.e names loc cel x).bind λb=>(A0 op a b).map D.bool).bind k
 split
 ·rfl
 ·simp only[h,Option.bind_assoc,Option.bind_map];rfl
theorem Va {c:Cs ρ} {r:CA} (h:∀e k,c.e e k=(r.e names loc cel e).bind k) (l:Expr) (ops:List CmpOp) (xs:List Expr) (k:Bool->Option ρ):
  U6 c l ops xs k=(match ops,xs with
  |[op],[x]=>if behindInMarks op x then none else (r.e names loc cel l).bind λa=>(r.e names loc cel x).bind λb=>A0 op a b
  |_,_=>none).bind k:=by
 rcases ops with _|⟨op,_|⟨op2,ops⟩⟩<;>rcases xs with _|⟨x,_|⟨x2,xs⟩⟩<;>first|rfl|skip
 show (if behindInMarks op x then none else c.e l λa=>c.e x λb=>(A0 op a b).bind k)=(if behindInMarks op x then none else (r.e names loc cel l).bind λa=>(r.e names loc cel x).bind λb=>A0 op a b).bind k
 split
 ·rfl
 ·simp only[h,Option.bind_assoc]
set_option tactic.hygienic true
theorem RI {c:Cs ρ} {r:CA} (h:∀e k,c.e e k=(r.e names loc cel e).bind k) (f:Expr) (args:List Expr) (pos:Pos) (k:D->Option ρ):RG app meth c f args pos k=(IP app meth r names loc cel f args pos).bind k:=by
 rcases f with _|_<;>first|rfl|skip
 ·rename_i o name apos
  show (if Aj args&&decide (args.length<20)&&B8 o&&(apos.endLine==pos.line) then c.e o λo=>Dl c.e args λas=>(meth o name as).bind k else none)=(if Aj args&&decide (args.length<20)&&B8 o&&(apos.endLine==pos.line) then (r.e names loc cel o).bind λo=>(args.mapM (r.e names loc cel)).bind λas=>meth o name as else none).bind k
  cases Aj args&&decide (args.length<20)&&B8 o&&(apos.endLine==pos.line) with
  |false=>rfl
  |true=>simp only[if_true,h,DS h,Option.bind_assoc]
 ·rename_i y p
  show (if Aj args&&decide (args.length<20) then c.e (.Name y p) λf=>Dl c.e args λas=>(app f as).bind k else none)=(if Aj args&&decide (args.length<20) then (r.e names loc cel (.Name y p)).bind λf=>(args.mapM (r.e names loc cel)).bind λas=>app f as else none).bind k
  cases Aj args&&decide (args.length<20) with
  |false=>rfl
  |true=>simp only[if_true,h,DS h,Option.bind_assoc]
theorem GY:∀m,(∀e k,(cN (ρ:=ρ) Gl app meth X names loc cel m).e e k=((Dd Gl app meth X m).e names loc cel e).bind k)/\(∀e k,(cN (ρ:=ρ) Gl app meth X names loc cel m).t e k=((Dd Gl app meth X m).t names loc cel e).bind k)
 |0=>⟨λZ Z=>rfl,λZ Z=>rfl⟩
 |m+1=>by
  obtain ⟨h1,h2⟩:=GY m
  have hE:∀e k,(cN (ρ:=ρ) Gl app meth X names loc cel (m+1)).e e k=((Dd Gl app meth X (m+1)).e names loc cel e).bind k:=λe k=>by
   show Nh app meth _ _ e k=_
   unfold Nh
   split
   ·rfl
   rename_i hs
   have hs':eI e=false:=by simpa using hs
   have hev:(Dd Gl app meth X (m+1)).e names loc cel e=EA Gl app meth (Dd Gl app meth X m) names loc cel e:=by
    show bG Gl app meth X _ names loc cel e=_
    unfold bG
    rw[hs']
    rfl
   rw[hev]
   rcases e with _|_<;>first|(exact rfl)|skip
   ·rename_i op vs p
    exact HN names loc cel h1 op vs k
   ·rename_i l op x p
    show (cN Gl app meth X names loc cel m).e l (λa=>(cN Gl app meth X names loc cel m).e x λb=>(Aq op a b).bind k)=(((Dd Gl app meth X m).e names loc cel l).bind λa=>((Dd Gl app meth X m).e names loc cel x).bind λb=>Aq op a b).bind k
    simp only[h1,Option.bind_assoc]
   ·rename_i t b o p
    show (cN Gl app meth X names loc cel m).t t (λq=>if q then (cN Gl app meth X names loc cel m).e b k else (cN Gl app meth X names loc cel m).e o k)=(((Dd Gl app meth X m).t names loc cel t).bind λc=>if c then (Dd Gl app meth X m).e names loc cel b else (Dd Gl app meth X m).e names loc cel o).bind k
    rw[h2,Option.bind_assoc]
    cases (Dd Gl app meth X m).t names loc cel t with
    |none=>rfl
    |some c=>rcases c with _|_<;>simp[h1]
   ·rename_i l ops xs p
    refine (U9 names loc cel h1 l ops xs k).trans ?_
    rcases ops with _|⟨op,_|⟨op2,ops⟩⟩<;>rcases xs with _|⟨x,_|⟨x2,xs⟩⟩<;>rfl
   ·rename_i f args ks pos
    show (if ks.isEmpty then RG app meth (cN Gl app meth X names loc cel m) f args pos k else none)=(if ks.isEmpty then IP app meth (Dd Gl app meth X m) names loc cel f args pos else none).bind k
    cases ks.isEmpty with
    |false=>rfl
    |true=>exact RI app meth names loc cel h1 f args pos k
   ·rename_i v i p
    exact U8 names loc cel h1 v i k
   ·rename_i es p
    show (if Aj es&&decide (es.length<=100) then Dl (cN Gl app meth X names loc cel m).e es (λds=>k (.list ds)) else none)=(if Aj es&&decide (es.length<=100) then (es.mapM ((Dd Gl app meth X m).e names loc cel)).map .list else none).bind k
    cases Aj es&&decide (es.length<=100) with
    |false=>rfl
    |true=>
     simp only[if_true]
     rw[DS h1,Option.bind_map]
     rfl
   ·rename_i es cc p
    show (if Aj es&&decide (es.length<=100) then Dl (cN Gl app meth X names loc cel m).e es (λds=>k (.tuple ds)) else none)=(if Aj es&&decide (es.length<=100) then (es.mapM ((Dd Gl app meth X m).e names loc cel)).map .tuple else none).bind k
    cases Aj es&&decide (es.length<=100) with
    |false=>rfl
    |true=>
     simp only[if_true]
     rw[DS h1,Option.bind_map]
     rfl
  refine ⟨hE,λe k=>?_⟩
  show RH _ e k=(NY (Dd Gl app meth X m) names loc cel e).bind k
  have nm:∀e,(cN Gl app meth X names loc cel m).e e (λd=>(Ay d).bind k)=(((Dd Gl app meth X m).e names loc cel e).bind Ay).bind k:=λe=>by rw[h1,Option.bind_assoc]
  rcases e with _|_<;>first|(exact rfl)|(exact nm _)|skip
  ·rename_i op vs p
   exact Ol names loc cel h2 op vs k
  ·rename_i op x p
   rcases op with _|_<;>first|(exact rfl)|skip
   show (cN Gl app meth X names loc cel m).t x (λb=>k (!b))=(((Dd Gl app meth X m).t names loc cel x).map not).bind k
   rw[h2]
   cases (Dd Gl app meth X m).t names loc cel x<;>rfl
  ·rename_i l ops xs p
   refine (Va names loc cel h1 l ops xs k).trans ?_
   rcases ops with _|⟨op,_|⟨op2,ops⟩⟩<;>rcases xs with _|⟨x,_|⟨x2,xs⟩⟩<;>rfl
set_option tactic.hygienic false
end
section
variable {ρ:Type} (Gl:List (Str×D)) (app:Bt) (meth:MT) (X:XE) (XS:Stmt->Sg->Option (Fl×Sg)) (names:List (Str×NameKind)) (owned:List Str) (m fuel:Nat)
noncomputable abbrev rr (Gl:List (Str×D)) (app:Bt) (meth:MT) (X:XE) (m:Nat):CA:=Dd Gl app meth X m
noncomputable def GC (σ:Sg) (e:Expr) (k:D->Sg->Option ρ):Option ρ:=
 if Er (σ.own.map (·.1)) 9 e then (cN Gl app meth X names σ.full σ.cel m).e e λd=>k d (if d.scalar then σ else σ.frz)
 else (cN Gl app meth X names σ.loc σ.cel m).e e λd=>k d σ
noncomputable def CG (bind:D->Sg->Option Sg) (body orelse:Sg->(Fl×Sg->Option ρ)->Option ρ):List D->Sg->(Fl×Sg->Option ρ)->Option ρ
 |[],σ,k=>orelse σ k
 |d::ds,σ,k=>(bind d σ).bind λσ1=>body σ1 λp=>match p.1 with
  | .next=>CG bind body orelse ds p.2 k
  | .cont=>CG bind body orelse ds p.2 k
  | .brk=>k (.next,p.2)
  | .ret v=>k (.ret v,p.2)
noncomputable def Om (σ:Sg) (x:Str) (v:Expr) (k:Bool×List D×D->Option ρ):Option ρ:=
 if owned.contains x then (bw v).bind λq=>if Aj q.1.1&&decide (q.1.1.length<=100) then Dl (cN Gl app meth X names σ.loc σ.cel m).e q.1.1 λds=>k (true,ds,.none) else none
 else (cN Gl app meth X names σ.loc σ.cel m).e v λd=>k (false,[],d)
noncomputable def Ko (σ:Sg):List Str->List Expr->(List (Bool×List D×D)->Option ρ)->Option ρ
 |[],vs,k=>(match vs with|[]=>k []|_::_=>none)
 |x::xs,vs,k=>(match vs with|[]=>none|v::vs=>Om Gl app meth X names owned m σ x v λa=>Ko σ xs vs λas=>k (a::as))
noncomputable def WK (σ:Sg) (x:Str) (v:Expr) (k:Fl×Sg->Option ρ):Option ρ:=
 match v with
 | .List es lp=>if owned.contains x then (if Aj es&&decide (es.length<=100) then Dl (cN Gl app meth X names σ.loc σ.cel m).e es λds=>(EC names x ds σ).bind λσ=>k (.next,σ) else none)
  else GC Gl app meth X names m σ (.List es lp) λd σ=>(put names owned x d σ).bind λσ=>k (.next,σ)
 | .ListComp .. =>(OQ Gl (rr Gl app meth X m) names owned σ x v).bind k
 |v=>if B0 v then GC Gl app meth X names m σ v λd σ=>(put names owned x d σ).bind λσ=>k (.next,σ) else none
noncomputable def On (σ:Sg) (ts:List Expr) (xs:List Str) (v:Expr) (k:Fl×Sg->Option ρ):Option ρ:=
 match K6 v with
 |some q=>if X4 names ts q.1.1 xs then Ko Gl app meth X names owned m σ xs q.1.1 λas=>(EE names owned xs.reverse as.reverse σ).bind λσ=>k (.next,σ) else none
 |none=>if B0 v then GC Gl app meth X names m σ v λd σ=>(Hi names owned xs (d,σ)).bind k else none
noncomputable def bZ (σ:Sg) (v:Expr) (k:Fl×Sg->Option ρ):Option ρ:=
 (IJ v).bind λq=>if q.1.2.2.1.isEmpty then (Qn q.1.1).bind λa=>(Ey a.1.1).bind λx=>
  if (a.1.2.2.endLine==q.1.2.2.2.line)&&!(x.1.1=="__debug__")&&names.lookup x.1.1==some .local then (match q.1.2.1 with
   |[]=>if a.1.2.1=="pop" then (σ.own.lookup x.1.1).bind λds=>ds.getLast?.bind λd=>if d.scalar then k (.next,{σ with own:=B2 x.1.1 ds.dropLast σ.own}) else none else none
   |e::es=>if es.isEmpty&&(a.1.2.1=="append"&&Aj [e]) then
     (σ.own.lookup x.1.1).bind λds=>(cN Gl app meth X names σ.loc σ.cel m).e e λd=>if ds.length<Ap then k (.next,{σ with own:=B2 x.1.1 (ds++[d]) σ.own}) else none
    else none) else none else none
noncomputable def cb (ex:List Stmt->Sg->(Fl×Sg->Option ρ)->Option ρ) (dflt:Option (Fl×Sg)) (st:Stmt) (σ:Sg) (k:Fl×Sg->Option ρ):Option ρ:=
 match st with
 | .Return v _=>(match v with|some e=>GC Gl app meth X names m σ e λd σ=>k (.ret d,σ)|none=>none)
 | .Expr v _=>bZ Gl app meth X names m σ v k
 | .Assign ts v _=>(match ts with
  |[t]=>(match t with
   | .Name x _=>WK Gl app meth X names owned m σ x v k
   | .Tuple ts _ _=>(AI ts).bind λxs=>On Gl app meth X names owned m σ ts xs v k
   |_=>none)
  |_=>none)
 | .AugAssign t op v _=>(match t with
  | .Name x _=>(Dy Gl names σ.loc σ.cel x).bind λold=>if old.scalar&&names.lookup x==some .local then GC Gl app meth X names m σ v λd σ=>(Is op old d).bind λd=>if d.scalar then (put names owned x d σ).bind λσ=>k (.next,σ) else none else none
  |_=>none)
 | .If t body orelse _=>(cN Gl app meth X names σ.full σ.cel m).t t λb=>if b then ex body σ k else ex orelse σ k
 | .For t it body orelse _=>(Bu Gl (rr Gl app meth X m) names σ.loc σ.cel t it).bind λds=>CG (AO names owned t) (ex body) (ex orelse) ds σ k
 | .Try body hs orelse fin _=>if !hs.isEmpty&&orelse.isEmpty&&fin.isEmpty then ex body σ k else none
 |_=>dflt.bind k
noncomputable def fD (ex:List Stmt->Sg->(Fl×Sg->Option ρ)->Option ρ) (dflt:Option (Fl×Sg)) (st:Stmt) (σ:Sg) (k:Fl×Sg->Option ρ):Option ρ:=
 if iu st then (XS st σ).bind k else cb Gl app meth X names owned m ex dflt st σ k
noncomputable def GD (st:Stmt->Sg->(Fl×Sg->Option ρ)->Option ρ):List Stmt->Sg->(Fl×Sg->Option ρ)->Option ρ
 |[],σ,k=>k (.next,σ)
 |s::rest,σ,k=>st s σ λp=>match p.1 with
  | .next=>GD st rest p.2 k
  |_=>k p
noncomputable def ce:Nat->List Stmt->Sg->(Fl×Sg->Option ρ)->Option ρ
 |0=>λZ Z Z=>none
 |n+1=>GD λst σ k=>fD Gl app meth X XS names owned m (ce n) (CV Gl (rr Gl app meth X m) names owned (PX Gl (rr Gl app meth X m) names owned XS fuel n) fuel st σ) st σ k
end
section
variable {ρ:Type} {Gl:List (Str×D)} {app:Bt} {meth:MT} {X:XE} {XS:Stmt->Sg->Option (Fl×Sg)} {names:List (Str×NameKind)} {owned:List Str} {m fuel:Nat}
theorem Ha (σ:Sg) (e:Expr) (k:D->Sg->Option ρ):GC Gl app meth X names m σ e k=(K1 (rr Gl app meth X m) names σ e).bind λp=>k p.1 p.2:=by
 unfold GC K1
 split
 ·rw[(GY Gl app meth X names σ.full σ.cel m).1,Option.bind_map];rfl
 ·rw[(GY Gl app meth X names σ.loc σ.cel m).1,Option.bind_map];rfl
theorem LR (loc cel:List (Str×D)) (es:List Expr) (k:List D->Option ρ):Dl (cN Gl app meth X names loc cel m).e es k=(es.mapM ((rr Gl app meth X m).e names loc cel)).bind k:=
 DS (GY Gl app meth X names loc cel m).1 es k
theorem Kp {bind:D->Sg->Option Sg} {bodyC orelseC:Sg->(Fl×Sg->Option ρ)->Option ρ} {body orelse:Sg->Option (Fl×Sg)} (h1:∀σ k,bodyC σ k=(body σ).bind k) (h2:∀σ k,orelseC σ k=(orelse σ).bind k):
  ∀ (ds:List D) (σ:Sg) (k:Fl×Sg->Option ρ),CG bind bodyC orelseC ds σ k=(Ir bind body orelse ds σ).bind k
 |[],σ,k=>h2 σ k
 |d::ds,σ,k=>by
  unfold CG Ir
  cases bind d σ with
  |none=>rfl
  |some σ1=>
   show bodyC σ1 _=((body σ1).bind _).bind k
   rw[h1,Option.bind_assoc]
   cases body σ1 with
   |none=>rfl
   |some p=>
    obtain ⟨f,σ2⟩:=p
    cases f with
    |next=>exact Kp h1 h2 ds σ2 k
    |cont=>exact Kp h1 h2 ds σ2 k
    |brk=>rfl
    |ret v=>rfl
theorem RJ (σ:Sg) (x:Str) (v:Expr) (k:Bool×List D×D->Option ρ):Om Gl app meth X names owned m σ x v k=(FU (rr Gl app meth X m) names owned σ x v).bind k:=by
 unfold Om FU
 split
 ·exact bc λq=>WG (by rw[LR,Option.bind_map];rfl)
 ·rw[(GY Gl app meth X names σ.loc σ.cel m).1,Option.bind_map];rfl
theorem Jd (σ:Sg):∀ (xs:List Str) (vs:List Expr) (k:List (Bool×List D×D)->Option ρ),Ko Gl app meth X names owned m σ xs vs k=(De (rr Gl app meth X m) names owned σ xs vs).bind k
 |[],[],k=>rfl
 |[],_::_,k=>rfl
 |_::_,[],k=>rfl
 |x::xs,v::vs,k=>by
  show Om Gl app meth X names owned m σ x v (λa=>Ko Gl app meth X names owned m σ xs vs λas=>k (a::as))=((FU (rr Gl app meth X m) names owned σ x v).bind λa=>(De (rr Gl app meth X m) names owned σ xs vs).map (a:: ·)).bind k
  rw[RJ]
  exact bc λa=>(Jd σ xs vs _).trans (Option.bind_map ..).symm
set_option tactic.hygienic true
theorem RK (σ:Sg) (x:Str) (v:Expr) (k:Fl×Sg->Option ρ):WK Gl app meth X names owned m σ x v k=(OQ Gl (rr Gl app meth X m) names owned σ x v).bind k:=by
 have gen:∀v,(GC Gl app meth X names m σ v λd σ=>(put names owned x d σ).bind λσ=>k (.next,σ))=((K1 (rr Gl app meth X m) names σ v).bind (MF names owned x)).bind k:=λv=>by
  rw[Ha,Option.bind_assoc]
  congr 1
  funext p
  show _=((put names owned x p.1 p.2).map λσ=>(Fl.next,σ)).bind k
  rw[Option.bind_map];rfl
 have gen2:∀v,(if B0 v then GC Gl app meth X names m σ v λd σ=>(put names owned x d σ).bind λσ=>k (.next,σ) else none)=(if B0 v then (K1 (rr Gl app meth X m) names σ v).bind (MF names owned x) else none).bind k:=λv=>by
  split
  ·exact gen v
  ·rfl
 have g:=gen2 v
 have g':=gen v
 clear gen gen2
 rcases v with _|_<;>first|exact g|rfl|skip
 rename_i es p
 show (if owned.contains x then (if Aj es&&decide (es.length<=100) then Dl (cN Gl app meth X names σ.loc σ.cel m).e es λds=>(EC names x ds σ).bind λσ=>k (.next,σ) else none)
  else GC Gl app meth X names m σ (.List es p) λd σ=>(put names owned x d σ).bind λσ=>k (.next,σ))=(if owned.contains x then (if Aj es&&decide (es.length<=100) then (es.mapM ((rr Gl app meth X m).e names σ.loc σ.cel)).bind λds=>(EC names x ds σ).map λσ=>(Fl.next,σ) else none)
  else (K1 (rr Gl app meth X m) names σ (.List es p)).bind (MF names owned x)).bind k
 split
 ·split
  ·rw[LR,Option.bind_assoc]
   congr 1
   funext ds
   rw[Option.bind_map];rfl
  ·rfl
 ·exact g'
set_option tactic.hygienic false
theorem RL (σ:Sg) (ts:List Expr) (xs:List Str) (v:Expr) (k:Fl×Sg->Option ρ):On Gl app meth X names owned m σ ts xs v k=(OR (rr Gl app meth X m) names owned σ ts xs v).bind k:=by
 have gen2:∀v,(if B0 v then GC Gl app meth X names m σ v λd σ=>(Hi names owned xs (d,σ)).bind k else none)=(if B0 v then (K1 (rr Gl app meth X m) names σ v).bind (Hi names owned xs) else none).bind k:=λv=>by
  split
  ·rw[Ha,Option.bind_assoc]
  ·rfl
 unfold On OR
 cases K6 v with
 |none=>exact gen2 v
 |some q=>exact WG ((Jd σ xs q.1.1 _).trans (bc λas=>(Option.bind_map ..).symm))
theorem Vb (σ:Sg) (v:Expr) (k:Fl×Sg->Option ρ):bZ Gl app meth X names m σ v k=(JV (rr Gl app meth X m) names σ v).bind k:=by
 refine bc λq=>WG (bc λa=>bc λx=>WG ?_)
 cases q.1.2.1 with
 |nil=>exact WG (bc λds=>bc λd=>WG rfl)
 |cons e es=>exact WG (bc λds=>((GY Gl app meth X names σ.loc σ.cel m).1 e _).trans (bc λd=>WG rfl))
set_option tactic.hygienic true
theorem Vc {exc:List Stmt->Sg->(Fl×Sg->Option ρ)->Option ρ} {ex:List Stmt->Sg->Option (Fl×Sg)} (h:∀sts σ k,exc sts σ k=(ex sts σ).bind k) (st:Stmt) (σ:Sg) (k:Fl×Sg->Option ρ):
  cb Gl app meth X names owned m exc (CV Gl (rr Gl app meth X m) names owned ex fuel st σ) st σ k=(CV Gl (rr Gl app meth X m) names owned ex fuel st σ).bind k:=by
 rcases st with _|_<;>first|rfl|skip
 ·rename_i v p
  cases v with
  |none=>rfl
  |some e=>
   show GC Gl app meth X names m σ e (λd σ=>k (.ret d,σ))=((K1 (rr Gl app meth X m) names σ e).map λp=>(Fl.ret p.1,p.2)).bind k
   rw[Ha,Option.bind_map];rfl
 ·rename_i ts v p
  rcases ts with _|⟨t,_|⟨t2,ts⟩⟩
  ·rfl
  ·rcases t with _|_<;>first|rfl|skip
   ·exact RK σ _ v k
   ·rename_i ts c p2
    show ((AI ts).bind λxs=>On Gl app meth X names owned m σ ts xs v k)=((AI ts).bind λxs=>OR (rr Gl app meth X m) names owned σ ts xs v).bind k
    rw[Option.bind_assoc]
    congr 1
    funext xs
    exact RL σ ts xs v k
  ·rfl
 ·rename_i t op v p
  rcases t with _|_<;>first|rfl|skip
  rename_i x p2
  show ((Dy Gl names σ.loc σ.cel x).bind λold=>if old.scalar&&names.lookup x==some .local then GC Gl app meth X names m σ v λd σ=>(Is op old d).bind λd=>if d.scalar then (put names owned x d σ).bind λσ=>k (.next,σ) else none else none)=
   ((Dy Gl names σ.loc σ.cel x).bind λold=>if old.scalar&&names.lookup x==some .local then (K1 (rr Gl app meth X m) names σ v).bind λp=>(Is op old p.1).bind λd=>if d.scalar then (put names owned x d p.2).map λσ=>(Fl.next,σ) else none else none).bind k
  rw[Option.bind_assoc]
  congr 1
  funext old
  split
  ·rw[Ha,Option.bind_assoc]
   congr 1
   funext p
   rw[Option.bind_assoc]
   congr 1
   funext d
   split
   ·rw[Option.bind_map];rfl
   ·rfl
  ·rfl
 ·rename_i t it body orelse p
  show ((Bu Gl (rr Gl app meth X m) names σ.loc σ.cel t it).bind λds=>CG (AO names owned t) (exc body) (exc orelse) ds σ k)=((Bu Gl (rr Gl app meth X m) names σ.loc σ.cel t it).bind λds=>Ir (AO names owned t) (ex body) (ex orelse) ds σ).bind k
  rw[Option.bind_assoc]
  congr 1
  funext ds
  exact Kp (h body) (h orelse) ds σ k
 ·rename_i t body orelse p
  show ((cN Gl app meth X names σ.full σ.cel m).t t λb=>if b then exc body σ k else exc orelse σ k)=(((rr Gl app meth X m).t names σ.full σ.cel t).bind λb=>if b then ex body σ else ex orelse σ).bind k
  rw[(GY Gl app meth X names σ.full σ.cel m).2,Option.bind_assoc]
  congr 1
  funext b
  rcases b with _|_
  ·exact h orelse σ k
  ·exact h body σ k
 ·rename_i body hs orelse fin p
  show (if !hs.isEmpty&&orelse.isEmpty&&fin.isEmpty then exc body σ k else none)=(if !hs.isEmpty&&orelse.isEmpty&&fin.isEmpty then ex body σ else none).bind k
  split
  ·exact h body σ k
  ·rfl
 ·exact Vb σ _ k
set_option tactic.hygienic false
theorem Kq:∀ (n:Nat) (sts:List Stmt) (σ:Sg) (k:Fl×Sg->Option ρ),ce Gl app meth X XS names owned m fuel n sts σ k=(PX Gl (rr Gl app meth X m) names owned XS fuel n sts σ).bind k
 |0,_,_,_=>rfl
 |n+1,sts,σ,k=>by
  have h:=Kq n
  have hs:∀st σ k,fD Gl app meth X XS names owned m (ce Gl app meth X XS names owned m fuel n) (CV Gl (rr Gl app meth X m) names owned (PX Gl (rr Gl app meth X m) names owned XS fuel n) fuel st σ) st σ k=(IQ Gl (rr Gl app meth X m) names owned XS (PX Gl (rr Gl app meth X m) names owned XS fuel n) fuel st σ).bind k:=λst σ k=>by
   unfold fD IQ
   split
   ·rfl
   ·exact Vc h st σ k
  show GD _ sts σ k=(ZF _ sts σ).bind k
  induction sts generalizing σ with
  |nil=>rfl
  |cons s rest ih=>
   unfold GD ZF
   rw[hs]
   cases IQ Gl (rr Gl app meth X m) names owned XS (PX Gl (rr Gl app meth X m) names owned XS fuel n) fuel s σ with
   |none=>rfl
   |some p=>
    obtain ⟨f,σ2⟩:=p
    rcases f with _|_<;>first|rfl|exact ih σ2
end
end Mine
set_option backward.match.sparseCases true
namespace Mine
open PySem PySem.Calls PyProof.Rows PySem.W
section
variable (spec:Addr->List D->Option D) (lvl:Addr->Nat)
noncomputable def AY (k:Nat):Bt:=λf as=>match F2 f with
 |some e=>if lvl e.fa<=k then spec e.fa as else none
 |none=>Oi f as
noncomputable def Cb:Nat->Bt
 |0=>λZ Z=>none
 |k+1=>AY spec lvl k
theorem Oo {w:World} {Gl:List (Str×D)} (h0:∀e∈PY,1<=lvl e.fa)
  (hs:∀k e as d,e∈PY->lvl e.fa=k+1->spec e.fa as=some d->EI Gl Ak (AC Gl) (CF Gl) (AY spec lvl k) (Cb spec lvl k) e as=some d):
  ∀k,Fi pw w w.params Gl k (AY spec lvl k)/\IW w Gl k (Cb spec lvl k)
 |0=>by
  refine ⟨λf as d h A E s N v vs R T rv rs=>?_,λZ Z Z h=>nomatch h⟩
  unfold AY at h
  cases q:F2 f with
  |none=>rw[q] at h;exact HM 0 f as d h A E s N v vs R T rv rs
  |some e=>
   rw[q] at h
   have:=h0 e (Hw q).2
   dsimp only at h
   rw[if_neg (by lia)] at h
   exact Aa h
 |k+1=>by
  obtain ⟨h1,h2⟩:=Oo h0 hs k
  refine ⟨λf as d h A E s N v vs R T rv rs=>?_,λZ Z Z Z=>⟨k,rfl,h1⟩⟩
  cases q:F2 f with
  |none=>unfold AY at h;rw[q] at h;exact HM (k+1) f as d h A E s N v vs R T rv rs
  |some e=>
   by_cases hk:lvl e.fa<=k
   ·refine h1 f as d ?_ A E s N v vs (R.le (Nat.le_succ k)) T rv rs
    unfold AY at h ⊢
    rw[q] at h ⊢
    dsimp only at h ⊢
    rw[if_pos (by lia)] at h
    rw[if_pos hk];exact h
   obtain ⟨rfl,he⟩:=Hw q
   unfold AY at h
   rw[q] at h
   dsimp only at h
   revert h
   refine BO λhk2 h=>?_
   have h:=hs k e as d he (by lia) h
   obtain rfl:=rv.valOf
   refine Mine.ie ((QS w.params e he).ex) λo fd co fs t m1 e1 Df m2 e2 e3 e4 B=>?_
   have hN:=T.kk _ m1
   have hC:=T.has _ (T.kk _ m2)
   refine ⟨.inr (.inr ⟨_,_,_,rfl,T.has _ hN,e1⟩),?_⟩
   unfold EI at h
   revert h
   refine Mine.Br λds q2 h=>?_
   obtain ⟨σ',h⟩:=Lr h
   obtain ⟨hr,ht⟩:=MN (LI h2) h1 (LN h2) 40
   refine Yh Df (MS hr ht (Jb _ _ _ hr) 40) e1 hN ⟨_,_,_,_,e2,hC,e3,e4⟩ (λQ E hq=>?_) T R h
   exact B _ _ _ N _ _ _ T.has (WH T.has T.kk) q2 rs Q E hq
end
noncomputable def Ew (app lower:Bt) (e:DT) (ds:List D):Option D:=
 ce Gl app (Ak lower) (AC Gl lower) (CF Gl (BV Gl Ak (AC Gl) app lower) e.names e.owned) e.names e.owned 40 100 40 e.body ⟨e.xs.zip ds,[],[]⟩ λp=>match p.1 with
  | .ret d=>some d
  |_=>none
set_option tactic.hygienic true
theorem Vd (app lower:Bt) (e:DT) {as ds:List D} (h:e.args as=some ds):EI Gl Ak (AC Gl) (CF Gl) app lower e as=Ew app lower e ds:=by
 unfold EI Ew
 rw[h,Kq]
 show N5 (Yj Gl (CF Gl) (BV Gl Ak (AC Gl) app lower) e e.body ⟨e.xs.zip ds,[],[]⟩)=_
 unfold Yj N5
 show _=(PX Gl (BV Gl Ak (AC Gl) app lower) e.names e.owned (CF Gl (BV Gl Ak (AC Gl) app lower) e.names e.owned) 100 40 e.body ⟨e.xs.zip ds,[],[]⟩).bind _
 cases PX Gl (BV Gl Ak (AC Gl) app lower) e.names e.owned (CF Gl (BV Gl Ak (AC Gl) app lower) e.names e.owned) 100 40 e.body ⟨e.xs.zip ds,[],[]⟩<;>rfl
set_option tactic.hygienic false
end Mine
set_option backward.match.sparseCases false
namespace Mine
open PySem
noncomputable def HO (o:D) (y z:Str):Option D:=match o with
 | .str x=>if y.cps.size=1/\(y==z)=false/\x.length+(x.length+1)*z.cps.size<=Ap then some (.str (AE (y.cps.toList.headD 0) z.cps.toList x)) else none
 |_=>none
noncomputable abbrev Af (app lower:Bt) (e:DT) (n:Nat) (sts:List Stmt) (σ:Sg) (K:Fl×Sg->Option D):Option D:=
 ce Gl app (Ak lower) (AC Gl lower) (CF Gl (BV Gl Ak (AC Gl) app lower) e.names e.owned) e.names e.owned 40 100 n sts σ K
set_option backward.match.sparseCases true in
noncomputable def Cw:Fl×Sg->Option D:=λp=>match p.1 with
 | .ret d=>some d
 |_=>none
noncomputable def Dm (rest:Sg->(Fl×Sg->Option D)->Option D) (K:Fl×Sg->Option D):Fl×Sg->Option D:=λp=>match p.1 with
 | .next=>rest p.2 K
 |_=>K p
set_option tactic.hygienic true
theorem BX (app lower:Bt) (e:DT) (ds:List D):Ew app lower e ds=Af app lower e 40 e.body ⟨e.xs.zip ds,[],[]⟩ Cw:=rfl
set_option tactic.hygienic false
theorem RM (app lower:Bt) (e:DT) (n:Nat) (s1 s2:List Stmt) (σ:Sg) (K:Fl×Sg->Option D):Af app lower e (n+1) (s1++s2) σ K=Af app lower e (n+1) s1 σ (Dm (Af app lower e (n+1) s2) K):=by
 show GD _ (s1++s2) σ K=GD _ s1 σ _
 induction s1 generalizing σ with
 |nil=>rfl
 |cons s rest ih=>
  show GD _ (s::(rest++s2)) σ K=_
  unfold GD
  congr 1
  funext p
  obtain ⟨f,σ'⟩:=p
  rcases f with _|_<;>first|exact ih σ'|rfl
theorem Ae (app lower:Bt) (e:DT) (n i:Nat) (sts:List Stmt) (σ:Sg) (K:Fl×Sg->Option D):Af app lower e (n+1) sts σ K=Af app lower e (n+1) (sts.take i) σ (Dm (Af app lower e (n+1) (sts.drop i)) K):=by
 rw[<-RM,List.take_append_drop]
noncomputable def An (e:DT) (i:Nat):Stmt:=e.body.getD i (.Pass default)
noncomputable def WL:Stmt->Nat×Bool×Expr×Expr×List Stmt×List Stmt
 | .For t i b o _=>(1,false,t,i,b,o)
 | .While t b o _=>(2,false,t,t,b,o)
 | .If t b _ _=>(3,false,t,t,b,[])
 | .Try b hs o f _=>(4,!hs.isEmpty&&o.isEmpty&&f.isEmpty,.Constant .none 0 default,.Constant .none 0 default,b,[])
 |_=>(0,false,.Constant .none 0 default,.Constant .none 0 default,[],[])
noncomputable def Ah (s:Stmt):List Stmt:=(WL s).2.2.2.2.1
noncomputable def AQ (s:Stmt):List Stmt:=(WL s).2.2.2.2.2
noncomputable def AK (s:Stmt):Expr:=(WL s).2.2.1
noncomputable def HP (s:Stmt):Expr:=(WL s).2.2.2.1
noncomputable def cf (s:Stmt):Bool:=(WL s).1==1
theorem HQ {ρ:Type} (st:Stmt->Sg->(Fl×Sg->Option ρ)->Option ρ) (s:Stmt) (σ:Sg) (k:Fl×Sg->Option ρ):GD st [s] σ k=st s σ k:=by
 unfold GD
 congr 1
 funext p
 obtain ⟨f,σ'⟩:=p
 rcases f with _|_<;>rfl
set_option tactic.hygienic true
theorem Cc (app lower:Bt) (e:DT) (n:Nat) (s:Stmt) (hs:cf s=true) (σ:Sg) (K:Fl×Sg->Option D):Af app lower e (n+1) [s] σ K=
  (Bu Gl (BV Gl Ak (AC Gl) app lower) e.names σ.loc σ.cel (AK s) (HP s)).bind λds=>CG (AO e.names e.owned (AK s)) (Af app lower e n (Ah s)) (Af app lower e n (AQ s)) ds σ K:=by
 rcases s with _|_<;>first|(exact B7 hs;done)|skip
 rename_i t it b o p
 show GD _ [.For t it b o p] σ K=_
 rw[HQ]
 rfl
set_option tactic.hygienic false
theorem Cd {bind:D->Sg->Option Sg} {body orelse:Sg->(Fl×Sg->Option D)->Option D} (σ:Sg) (K:Fl×Sg->Option D):CG bind body orelse [] σ K=orelse σ K:=rfl
noncomputable def Fn (bind:D->Sg->Option Sg) (body orelse:Sg->(Fl×Sg->Option D)->Option D) (ds:List D) (K:Fl×Sg->Option D):Fl×Sg->Option D:=λp=>match p.1 with
 | .next=>CG bind body orelse ds p.2 K
 | .cont=>CG bind body orelse ds p.2 K
 | .brk=>K (.next,p.2)
 | .ret v=>K (.ret v,p.2)
theorem Be {bind:D->Sg->Option Sg} {body orelse:Sg->(Fl×Sg->Option D)->Option D} {d:D} {ds:List D} {σ σ1:Sg} {K:Fl×Sg->Option D} (h:bind d σ=some σ1):CG bind body orelse (d::ds) σ K=body σ1 (Fn bind body orelse ds K):=by
 unfold CG
 rw[h]
 rfl
theorem LS (app lower:Bt) (x:List Nat):Ew app lower ⟨66,14,65,[],false⟩ [.str x]=
(A8 (.str x) (some 1) (some 3)).bind λv1=>
(app (.val (.type "int")) [v1,.int 16]).bind λv2=>
(app (.val (.builtin "chr")) [v2]).bind λv3=>
some v3:=by kernel_rfl
theorem F7 (app lower:Bt) (d:D):Ew app lower ⟨86,19,85,[],false⟩ [d]=
(Ak lower d "group" [.int 0]).bind λv1=>
(app (.val (.ref 66)) [v1]).bind λv2=>
some v2:=by kernel_rfl
theorem Ni (app lower:Bt) (x:List Nat):Ew app lower ⟨166,29,165,[],false⟩ [.str x]=
(app (.val (.type "type")) [.str x]).bind λv1=>
(app (.val (.builtin "issubclass")) [v1,.tuple [.val (.type "str"),.val (.type "bytes")]]).bind λv2=>
(Ay v2).bind λb3=>
if b3 then
some (.str x)
else
none:=by kernel_rfl
theorem LT (app lower:Bt) (x:List Nat):Ew app lower ⟨180,33,179,[],false⟩ [.str x]=
(app (.val (.builtin "isinstance")) [.str x,.val (.type "bytes")]).bind λv1=>
(Ay v1).bind λb2=>
if b2 then
none
else
some (.str [47]):=by kernel_rfl
theorem IB (app lower:Bt) (d:D):Ew app lower ⟨194,35,193,[],false⟩ [d]=
(app (.val (.ref 166)) [d]).bind λv1=>
(app (.val (.builtin "isinstance")) [v1,.val (.type "bytes")]).bind λv2=>
(Ay v2).bind λb3=>
if b3 then
none
else
(A8 v1 none (some 1)).bind λv4=>
(A0 .NotEq v4 (.str [47])).bind λb5=>
if b5 then
some (.tuple [.str [],.str [],v1])
else
(A8 v1 (some 1) (some 2)).bind λv6=>
(A0 .NotEq v6 (.str [47])).bind λb7=>
if b7 then
(A8 v1 (some 1) none).bind λv8=>
some (.tuple [.str [],.str [47],v8])
else
(A8 v1 (some 2) (some 3)).bind λv9=>
(A0 .Eq v9 (.str [47])).bind λb10=>
if b10 then
(A8 v1 (some 1) none).bind λv11=>
some (.tuple [.str [],.str [47],v11])
else
(A8 v1 none (some 2)).bind λv12=>
(A8 v1 (some 2) none).bind λv13=>
some (.tuple [.str [],v12,v13]):=by kernel_rfl
theorem Kr (app lower:Bt) (d:D):Ew app lower ⟨201,36,200,[],false⟩ [d]=
(app (.val (.ref 166)) [d]).bind λv1=>
(app (.val (.ref 180)) [v1]).bind λv2=>
(Ak lower v1 "rfind" [v2]).bind λv3=>
(Aq .Add v3 (.int 1)).bind λv4=>
(Db (some v4)).bind λi5=>
(A8 v1 i5 none).bind λv6=>
some v6:=by kernel_rfl
theorem LU (app lower:Bt) (d:D):Ew app lower ⟨220,40,219,[],false⟩ [d]=
(Aq .BitAnd d (.int 4095)).bind λv1=>
some v1:=by kernel_rfl
theorem Nj (app lower:Bt) (d:D):Ew app lower ⟨227,41,226,[],false⟩ [d]=
(Aq .BitAnd d (.int 61440)).bind λv1=>
some v1:=by kernel_rfl
theorem LV (app lower:Bt) (d:D):Ew app lower ⟨234,49,233,[],false⟩ [d]=
(app (.val (.ref 227)) [d]).bind λv1=>
(A0 .Eq v1 (.int 16384)).bind λb2=>
some (.bool b2):=by kernel_rfl
theorem Ks (app lower:Bt) (d:D):Ew app lower ⟨288,66,287,[],false⟩ [d]=
(Aq .Mod d (.int 8)).bind λv1=>
(AW (.list [.int 4,.int 4,.int 4,.int 4,.int 4,.int 8,.int 10,.int 0]) v1).bind λv2=>
(Aq .Mult v2 (.int 4096)).bind λv3=>
(Aq .FloorDiv d (.int 8)).bind λv4=>
(Aq .Add v4 (.int 493)).bind λv5=>
(Aq .Mod v5 (.int 4096)).bind λv6=>
(Aq .Add v3 v6).bind λv7=>
some v7:=by kernel_rfl
theorem Kt (app lower:Bt) (d:D):Ew app lower ⟨295,67,294,[],false⟩ [d]=
(app (.val (.ref 281)) [d]).bind λv1=>
(Aq .FloorDiv d (.int 4096)).bind λv2=>
(A0 .Eq v2 (.int 4)).bind λb3=>
(Ay (.bool b3)).bind λb4=>
if b4 then (Aq .Mod d (.int 2)).bind λv5=>
(A0 .Eq v5 (.int 1)).bind λb6=>
some (.tuple [v1,.bool b6]) else some (.tuple [v1,.bool b3]):=by kernel_rfl
set_option tactic.hygienic true
theorem F8 (app lower:Bt) (d:D):Ew app lower ⟨93,20,92,[],false⟩ [d]=
(HO d "_" " ").bind λv1=>
(Ak lower (.val (.ref 43)) "sub" [.val (.ref 86),v1]).bind λv2=>
some v2:=by kernel_rfl
set_option tactic.hygienic false
theorem Ku (app lower:Bt) (r d:D):Ew app lower ⟨316,70,315,[],false⟩ [r,d]=
(Ak lower (.str [47]) "join" [d]).bind λv1=>
(Aq .Add r v1).bind λv2=>
(Ay v2).bind λb3=>
if b3 then some v2 else some (.str [46]):=by kernel_rfl
theorem RN (app lower:Bt) (x:List Nat) (b:D):Ew app lower ⟨187,34,186,[],true⟩ [.str x,.tuple [b]]=
(app (.val (.ref 166)) [.str x]).bind λv1=>
(app (.val (.ref 180)) [v1]).bind λv2=>
(app (.val (.ref 166)) [b]).bind λv3=>
(Ak lower v3 "startswith" [v2]).bind λv4=>
(Ay v4).bind λb5=>
if b5 then
some v3
else
(Ay v1).bind λb6=>
if !b6 then
some v3
else
(Ak lower v1 "endswith" [v2]).bind λv7=>
(Ay v7).bind λb8=>
if b8 then
if v1.scalar&&true then
(Is .Add v1 v3).bind λv9=>
if v9.scalar then
some v9
else none
else none
else
if v1.scalar&&true then
(Aq .Add v2 v3).bind λv10=>
(Is .Add v1 v10).bind λv11=>
if v11.scalar then
some v11
else none
else none:=by kernel_rfl
theorem Ve (app lower:Bt) (K:Fl×Sg->Option D) (b c:D):Af app lower ⟨74,15,73,[],false⟩ 40 (DT.body ⟨74,15,73,[],false⟩|>.take 2) ⟨[("header_bytes",b),("charset",c)],[],[]⟩ K=
(Ay b).bind λb1=>
if !b1 then
K (.ret (.str []),⟨[("header_bytes",b),("charset",c)],[],[]⟩)
else
(Ak lower b "decode" [.str [108,97,116,105,110,49]]).bind λv2=>
(Ak lower v2 "translate" [.val (.ref 51)]).bind λv3=>
K (.next,⟨[("header_bytes",b),("charset",c),("encoded",v3)],[],[]⟩):=by kernel_rfl
theorem Vf (app lower:Bt) (K:Fl×Sg->Option D) (m:Int):Af app lower ⟨281,65,280,[],false⟩ 40 ((⟨281,65,280,[],false⟩:DT).body.take 1) ⟨[("mode",.int m)],[],[]⟩ K=
(Aq .FloorDiv (.int m) (.int 4096)).bind λv1=>
(Aq .Mod v1 (.int 16)).bind λv2=>
(AW (.str [63,112,99,63,100,63,98,63,45,63,108,63,115,63,63,63]) v2).bind λv3=>
K (.next,⟨[("mode",.int m),("signs",v3)],[],[]⟩):=by kernel_rfl
theorem Vg (app lower:Bt) (K:Fl×Sg->Option D) (m:Int) (d i f g l:D):Af app lower ⟨281,65,280,[],false⟩ 40 ((⟨281,65,280,[],false⟩:DT).body.drop 2) ⟨[("mode",.int m),("signs",d),("i",i),("special",g),("figure",f),("last",l)],[],[]⟩ K=
K (.ret d,⟨[("mode",.int m),("signs",d),("i",i),("special",g),("figure",f),("last",l)],[],[]⟩):=by kernel_rfl
theorem RO (app lower:Bt) (K:Fl×Sg->Option D) (m:Int) (s:List Nat):Af app lower ⟨281,65,280,[],false⟩ 39 ((Ah (An (⟨281,65,280,[],false⟩:DT) 1)).take 1) ⟨[("mode",.int m),("signs",.str s),("i",.int 0)],[],[]⟩ K=
(AW (.list [.int 64,.int 8,.int 1]) (.int 0)).bind λv1=>
(Aq .FloorDiv (.int m) v1).bind λv2=>
(Aq .Mod v2 (.int 8)).bind λv3=>
(AW (.list [.int 2048,.int 1024,.int 512]) (.int 0)).bind λv4=>
(Aq .FloorDiv (.int m) v4).bind λv5=>
(Aq .Mod v5 (.int 2)).bind λv6=>
K (.next,⟨[("mode",.int m),("signs",.str s),("i",.int 0),("special",v6),("figure",v3)],[],[]⟩):=by kernel_rfl
theorem RP (app lower:Bt) (K:Fl×Sg->Option D) (m f g:Int) (s:List Nat):Af app lower ⟨281,65,280,[],false⟩ 39 (((Ah (An (⟨281,65,280,[],false⟩:DT) 1)).drop 1).take 1) ⟨[("mode",.int m),("signs",.str s),("i",.int 0),("special",.int g),("figure",.int f)],[],[]⟩ K=
(Aq .Mult (.int 3) (.int g)).bind λv1=>
(Aq .Add v1 (.int 0)).bind λv2=>
(AW (.list [.str [45,120],.str [45,120],.str [45,120],.str [83,115],.str [83,115],.str [84,116]]) v2).bind λv3=>
K (.next,⟨[("mode",.int m),("signs",.str s),("i",.int 0),("special",.int g),("figure",.int f),("last",v3)],[],[]⟩):=by kernel_rfl
theorem RQ (app lower:Bt) (K:Fl×Sg->Option D) (m:Int) (s:List Nat) (f g l:D):Af app lower ⟨281,65,280,[],false⟩ 39 ((Ah (An (⟨281,65,280,[],false⟩:DT) 1)).take 1) ⟨[("mode",.int m),("signs",.str s),("i",.int 1),("special",g),("figure",f),("last",l)],[],[]⟩ K=
(AW (.list [.int 64,.int 8,.int 1]) (.int 1)).bind λv1=>
(Aq .FloorDiv (.int m) v1).bind λv2=>
(Aq .Mod v2 (.int 8)).bind λv3=>
(AW (.list [.int 2048,.int 1024,.int 512]) (.int 1)).bind λv4=>
(Aq .FloorDiv (.int m) v4).bind λv5=>
(Aq .Mod v5 (.int 2)).bind λv6=>
K (.next,⟨[("mode",.int m),("signs",.str s),("i",.int 1),("special",v6),("figure",v3),("last",l)],[],[]⟩):=by kernel_rfl
theorem RR (app lower:Bt) (K:Fl×Sg->Option D) (m f g:Int) (s:List Nat) (l:D):Af app lower ⟨281,65,280,[],false⟩ 39 (((Ah (An (⟨281,65,280,[],false⟩:DT) 1)).drop 1).take 1) ⟨[("mode",.int m),("signs",.str s),("i",.int 1),("special",.int g),("figure",.int f),("last",l)],[],[]⟩ K=
(Aq .Mult (.int 3) (.int g)).bind λv1=>
(Aq .Add v1 (.int 1)).bind λv2=>
(AW (.list [.str [45,120],.str [45,120],.str [45,120],.str [83,115],.str [83,115],.str [84,116]]) v2).bind λv3=>
K (.next,⟨[("mode",.int m),("signs",.str s),("i",.int 1),("special",.int g),("figure",.int f),("last",v3)],[],[]⟩):=by kernel_rfl
theorem RS (app lower:Bt) (K:Fl×Sg->Option D) (m:Int) (s:List Nat) (f g l:D):Af app lower ⟨281,65,280,[],false⟩ 39 ((Ah (An (⟨281,65,280,[],false⟩:DT) 1)).take 1) ⟨[("mode",.int m),("signs",.str s),("i",.int 2),("special",g),("figure",f),("last",l)],[],[]⟩ K=
(AW (.list [.int 64,.int 8,.int 1]) (.int 2)).bind λv1=>
(Aq .FloorDiv (.int m) v1).bind λv2=>
(Aq .Mod v2 (.int 8)).bind λv3=>
(AW (.list [.int 2048,.int 1024,.int 512]) (.int 2)).bind λv4=>
(Aq .FloorDiv (.int m) v4).bind λv5=>
(Aq .Mod v5 (.int 2)).bind λv6=>
K (.next,⟨[("mode",.int m),("signs",.str s),("i",.int 2),("special",v6),("figure",v3),("last",l)],[],[]⟩):=by kernel_rfl
theorem RT (app lower:Bt) (K:Fl×Sg->Option D) (m f g:Int) (s:List Nat) (l:D):Af app lower ⟨281,65,280,[],false⟩ 39 (((Ah (An (⟨281,65,280,[],false⟩:DT) 1)).drop 1).take 1) ⟨[("mode",.int m),("signs",.str s),("i",.int 2),("special",.int g),("figure",.int f),("last",l)],[],[]⟩ K=
(Aq .Mult (.int 3) (.int g)).bind λv1=>
(Aq .Add v1 (.int 2)).bind λv2=>
(AW (.list [.str [45,120],.str [45,120],.str [45,120],.str [83,115],.str [83,115],.str [84,116]]) v2).bind λv3=>
K (.next,⟨[("mode",.int m),("signs",.str s),("i",.int 2),("special",.int g),("figure",.int f),("last",v3)],[],[]⟩):=by kernel_rfl
theorem Vh (app lower:Bt) (K:Fl×Sg->Option D) (m f g i:Int) (s l:List Nat):Af app lower ⟨281,65,280,[],false⟩ 39 ((Ah (An (⟨281,65,280,[],false⟩:DT) 1)).drop 2) ⟨[("mode",.int m),("signs",.str s),("i",.int i),("special",.int g),("figure",.int f),("last",.str l)],[],[]⟩ K=
(Aq .FloorDiv (.int f) (.int 4)).bind λv1=>
(AW (.str [45,114]) v1).bind λv2=>
(Aq .FloorDiv (.int f) (.int 2)).bind λv3=>
(Aq .Mod v3 (.int 2)).bind λv4=>
(AW (.str [45,119]) v4).bind λv5=>
(Aq .Add v2 v5).bind λv6=>
(Aq .Mod (.int f) (.int 2)).bind λv7=>
(AW (.str l) v7).bind λv8=>
(Aq .Add v6 v8).bind λv9=>
(Is .Add (.str s) v9).bind λv10=>
if v10.scalar then
K (.next,⟨[("mode",.int m),("signs",v10),("i",.int i),("special",.int g),("figure",.int f),("last",.str l)],[],[]⟩)
else none:=by kernel_rfl
noncomputable def TB (c y:List Nat):List Nat:=[61,63]++(c++([63,113,63]++(y++([63,61]++[]))))
theorem Vi (app lower:Bt) (b:D) (c y:List Nat):Af app lower ⟨74,15,73,[],false⟩ 40 (DT.body ⟨74,15,73,[],false⟩|>.drop 2) ⟨[("header_bytes",b),("charset",.str c),("encoded",.str y)],[],[]⟩ Cw=(if (TB c y).length<=Ap then some (.str (TB c y)) else none).bind λv=>some v:=by kernel_rfl
structure CW (app:Bt):Prop where
 b:∀id as,app (.val (.builtin id)) as=GX id as
 t:∀ty as,app (.val (.type ty)) as=Jc ty as
noncomputable def Bg (app lower:Bt) (e:DT) (sp:List D->Option D):Prop:=∀as d,sp as=some d->EI Gl Ak (AC Gl) (CF Gl) app lower e as=some d
theorem Bg.of {app lower:Bt} {e:DT} {sp:List D->Option D} (h:∀as d,sp as=some d->∃ds,e.args as=some ds/\Ew app lower e ds=some d):Bg app lower e sp:=λas d q=>by
 refine Mine.S0 (h as d q) λds h1 h2=>?_
 rw[Vd app lower e h1];exact h2
noncomputable def ER (as:List D):Option D:=Et as λd=>match d with| .str x=>some (.str x)|_=>none
noncomputable def HR (as:List D):Option D:=Et as λd=>match d with| .str _=>some (.str [47])|_=>none
noncomputable def Je (as:List D):Option D:=Et as λd=>match d with| .int m=>some (.int (Builtin.bitAnd m 4095))|_=>none
noncomputable def F9 (as:List D):Option D:=Et as λd=>match d with| .int m=>some (.int (Builtin.bitAnd m 61440))|_=>none
noncomputable def Jf (as:List D):Option D:=Et as λd=>match d with| .int m=>some (.bool (Builtin.bitAnd m 61440==16384))|_=>none
noncomputable def Bf (x:List Nat):List Nat×List Nat:=
 if !(x.take 1==[47]) then ([],x) else if !((x.drop 1).take 1==[47]) then ([47],x.drop 1) else if (x.drop 2).take 1==[47] then ([47],x.drop 1) else (x.take 2,x.drop 2)
noncomputable def Jg (as:List D):Option D:=Et as λd=>match d with| .str x=>some (.tuple [.str [],.str (Bf x).1,.str (Bf x).2])|_=>none
noncomputable def Bw (x:List Nat):List Nat:=x.drop (A4 47 x+1).toNat
noncomputable def Jh (as:List D):Option D:=Et as λd=>match d with| .str x=>if x.length<=100000 then some (.str (Bw x)) else none|_=>none
theorem Ch {as:List D} {f:List Nat->Option D} {d:D} (h:(Et as λd=>match d with| .str x=>f x|_=>none)=some d):∃x,as=[.str x]/\f x=some d:=by
 refine Mine.S0 (EJ h) λa eq1 h=>?_
 subst eq1
 rcases a with _|_<;>first|(exact Aa h;done)|skip
 exact ⟨_,rfl,h⟩
theorem Ci {as:List D} {f:Int->Option D} {d:D} (h:(Et as λd=>match d with| .int x=>f x|_=>none)=some d):∃x,as=[.int x]/\f x=some d:=by
 refine Mine.S0 (EJ h) λa eq1 h=>?_
 subst eq1
 rcases a with _|_<;>first|(exact Aa h;done)|skip
 exact ⟨_,rfl,h⟩
theorem bs {α β:Type} (a:α) (f:α->Option β):(some a).bind f=f a:=rfl
theorem Nk (x:List Nat) (lo hi:Option Int):A8 (.str x) lo hi=some (.str (AN x lo hi)):=rfl
theorem ne_str (x y:List Nat):A0 .NotEq (.str x) (.str y)=some (!(x==y)):=rfl
theorem eq_str (x y:List Nat):A0 .Eq (.str x) (.str y)=some (x==y):=rfl
theorem Kv (x:List Nat):GX "isinstance" [.str x,.val (.type "bytes")]=some (.bool false):=rfl
theorem D9 (b:Bool):Ay (.bool b)=some b:=rfl
theorem FD (x:List Nat):Ay (.str x)=some (!x.isEmpty):=rfl
theorem GE {α:Type} (a b:α):(if false=true then a else b)=b:=rfl
theorem Pn {α:Type} (a b:α):(if true=true then a else b)=a:=rfl
theorem Po (x:List Nat):ER [.str x]=some (.str x):=rfl
theorem cg (x:List Nat):HR [.str x]=some (.str [47]):=rfl
theorem HS (n:Nat) (k:Nat):clipAt n (k:Int)=min k n:=by
 unfold clipAt
 rw[if_neg (Int.not_lt.mpr (Int.natCast_nonneg k))]
 rcases Nat.le_total k n with h|h
 ·rw[Int.min_eq_left (Int.ofNat_le.mpr h),Nat.min_eq_left h,Int.max_eq_right (Int.natCast_nonneg _),Int.toNat_natCast]
 ·rw[Int.min_eq_right (Int.ofNat_le.mpr h),Nat.min_eq_right h,Int.max_eq_right (Int.natCast_nonneg _),Int.toNat_natCast]
theorem Ji (c:Nat):∀x:List Nat, -1<=A4 c x/\A4 c x<x.length
 |[]=>by simp[A4]
 |a::x=>by
  have ih:=Ji c x
  unfold A4
  split
  ·simp only[List.length_cons];lia
  ·split<;>(simp only[List.length_cons];lia)
theorem Vj (lower:Bt) (x:List Nat) (c:Nat):Ak lower (.str x) "rfind" [.str [c]]=some (.int (A4 c x)):=by kernel_rfl
theorem LW (a b:Int):Aq .Add (.int a) (.int b)=some (.int (a+b)):=rfl
theorem Ea {i:Int} (h:small i=true):Db (some (.int i))=some (some i):=by show (if small i=true then some (some i) else none)=_;rw[h];rfl
theorem ES {i:Int} (h1: -9223372036854775808<=i) (h2:i<9223372036854775808):small i=true:=by
 unfold small
 simp only[Bool.and_eq_true,decide_eq_true_eq]
 exact ⟨by lia,by lia⟩
theorem C8 {α:Type} (x:List α) (j:Nat):AN x none (some (j:Int))=x.take j:=by
 unfold AN
 simp only[Option.elim,List.drop_zero,HS,Nat.sub_zero]
 rcases Nat.le_total j x.length with h|h
 ·rw[Nat.min_eq_left h]
 ·rw[Nat.min_eq_right h,List.take_length,List.take_of_length_le h]
theorem CR {α:Type} (x:List α) (i:Nat):AN x (some (i:Int)) none=x.drop i:=by
 unfold AN
 simp only[Option.elim,HS]
 rcases Nat.le_total i x.length with h|h
 ·rw[Nat.min_eq_left h,List.take_of_length_le (by simp)]
 ·rw[Nat.min_eq_right h];simp[List.drop_eq_nil_of_le h]
theorem GF {α:Type} (x:List α) (i j:Nat):AN x (some (i:Int)) (some (j:Int))=(x.drop i).take (j-i):=by
 unfold AN
 simp only[Option.elim,HS]
 rcases Nat.le_total i x.length with h|h
 ·rw[Nat.min_eq_left h]
  rcases Nat.le_total j x.length with h2|h2
  ·rw[Nat.min_eq_left h2]
  ·rw[Nat.min_eq_right h2,List.take_of_length_le (by simp),List.take_of_length_le (by simp;lia)]
 ·rw[Nat.min_eq_right h];simp[List.drop_eq_nil_of_le h]
section
variable {app lower:Bt}
theorem Vk (B:CW app):Bg app lower ⟨166,29,165,[],false⟩ ER:=.of λas d h=>by
 refine Mine.S0 (Ch h) λx eq1 h=>?_
 subst eq1
 (replace h:=Option.some.inj h;subst h)
 refine ⟨[.str x],by kernel_rfl,?_⟩
 rw[Ni]
 simp only[B.b,B.t]
 rfl
theorem Vl (B:CW app):Bg app lower ⟨180,33,179,[],false⟩ HR:=.of λas d h=>by
 refine Mine.S0 (Ch h) λx eq1 h=>?_
 subst eq1
 (replace h:=Option.some.inj h;subst h)
 refine ⟨[.str x],by kernel_rfl,?_⟩
 rw[LT]
 simp only[B.b]
 rfl
theorem Vm:Bg app lower ⟨220,40,219,[],false⟩ Je:=.of λas d h=>by
 refine Mine.S0 (Ci h) λx eq1 h=>?_
 subst eq1
 (replace h:=Option.some.inj h;subst h)
 exact ⟨[.int x],by kernel_rfl,LU app lower _⟩
theorem Vn:Bg app lower ⟨227,41,226,[],false⟩ F9:=.of λas d h=>by
 refine Mine.S0 (Ci h) λx eq1 h=>?_
 subst eq1
 (replace h:=Option.some.inj h;subst h)
 exact ⟨[.int x],by kernel_rfl,Nj app lower _⟩
theorem Vo (h227:∀as,app (.val (.ref 227)) as=F9 as):Bg app lower ⟨234,49,233,[],false⟩ Jf:=.of λas d h=>by
 refine Mine.S0 (Ci h) λx eq1 h=>?_
 subst eq1
 (replace h:=Option.some.inj h;subst h)
 refine ⟨[.int x],by kernel_rfl,?_⟩
 rw[LV]
 simp only[h227]
 rfl
theorem Vp (B:CW app) (h166:∀as,app (.val (.ref 166)) as=ER as):Bg app lower ⟨194,35,193,[],false⟩ Jg:=.of λas d h=>by
 refine Mine.S0 (Ch h) λx eq1 h=>?_
 subst eq1
 (replace h:=Option.some.inj h;subst h)
 refine ⟨[.str x],by kernel_rfl,?_⟩
 rw[IB]
 simp only[h166,B.b,Po,bs,Kv,D9,Nk,ne_str,eq_str,GE]
 have e1:AN x none (some 1)=x.take 1:=C8 x 1
 have e2:AN x (some 1) (some 2)=(x.drop 1).take 1:=GF x 1 2
 have e3:AN x (some 2) (some 3)=(x.drop 2).take 1:=GF x 2 3
 have e4:AN x (some 1) none=x.drop 1:=CR x 1
 have e5:AN x none (some 2)=x.take 2:=C8 x 2
 have e6:AN x (some 2) none=x.drop 2:=CR x 2
 rw[e1,e2,e3,e4,e5,e6]
 unfold Bf
 cases x.take 1==[47]<;>cases (x.drop 1).take 1==[47]<;>cases (x.drop 2).take 1==[47]<;>rfl
theorem Vq (h166:∀as,app (.val (.ref 166)) as=ER as) (h180:∀as,app (.val (.ref 180)) as=HR as):Bg app lower ⟨201,36,200,[],false⟩ Jh:=.of λas d h=>by
 replace h:=Ch h
 revert h
 refine Mine.T0 λx eq1 h=>?_
 subst eq1
 revert h
 refine BO λhl h=>?_
 (replace h:=Option.some.inj h;subst h)
 refine ⟨[.str x],by kernel_rfl,?_⟩
 rw[Kr]
 have hb:=Ji 47 x
 have hs:small (A4 47 x+1)=true:=ES (by lia) (by lia)
 simp only[h166,h180,Po,cg,bs,Vj,LW,Ea hs,Nk]
 have e:A4 47 x+1=(((A4 47 x+1).toNat:Nat):Int):=by lia
 rw[e,CR]
 rfl
end
theorem B5 {x y:List Nat} (h:x.length+y.length<=Ap):Aq .Add (.str x) (.str y)=some (.str (x++y)):=by
 show (if x.length+y.length<=Ap then some (D.str (x++y)) else none)=_
 rw[if_pos h]
theorem Nl {x y:List Nat} (h:x.length+y.length<=Ap):Is .Add (.str x) (.str y)=some (.str (x++y)):=by
 show (if x.length+y.length<=Ap then some (D.str (x++y)) else none)=_
 rw[if_pos h]
theorem RU (lower:Bt) (x y:List Nat):Ak lower (.str x) "startswith" [.str y]=some (.bool (y.isPrefixOf x)):=by kernel_rfl
theorem YA (lower:Bt) (x:List Nat) (c:Nat):Ak lower (.str x) "endswith" [.str [c]]=some (.bool (x.getLast?==some c)):=by kernel_rfl
theorem Nm (x:List Nat):(D.str x).scalar=true:=rfl
theorem Nn {as:List D} {f:List Nat->List Nat->Option D} {d:D} (h:(two as λa b=>(Bm a).bind λx=>(Bm b).bind λy=>f x y)=some d):∃x y,as=[.str x,.str y]/\f x y=some d:=by
 refine Mine.S1 (Fw h) λa b eq1 h=>?_
 subst eq1
 rcases a with _|_<;>first|(exact Aa h;done)|skip
 rcases b with _|_<;>first|(exact Aa h;done)|skip
 exact ⟨_,_,rfl,h⟩
noncomputable def Bo (x y:List Nat):List Nat:=if [47].isPrefixOf y then y else if x.isEmpty then y else if x.getLast?==some 47 then x++y else x++([47]++y)
noncomputable def Jj (as:List D):Option D:=two as λa b=>(Bm a).bind λx=>(Bm b).bind λy=>if x.length<=100000/\y.length<=100000 then some (.str (Bo x y)) else none
section
variable {app lower:Bt}
theorem Vr (h166:∀as,app (.val (.ref 166)) as=ER as) (h180:∀as,app (.val (.ref 180)) as=HR as):Bg app lower ⟨187,34,186,[],true⟩ Jj:=.of λas d h=>by
 replace h:=Nn h
 revert h
 refine Mine.T1 λx y eq1 h=>?_
 subst eq1
 revert h
 refine BO λhl h=>?_
 (replace h:=Option.some.inj h;subst h)
 refine ⟨[.str x,.tuple [.str y]],by kernel_rfl,?_⟩
 rw[RN]
 have h1:([47]:List Nat).length+y.length<=Ap:=by simp[Ap];lia
 have h2:x.length+y.length<=Ap:=by unfold Ap;lia
 have h3:x.length+([47]++y).length<=Ap:=by simp[Ap];lia
 simp only[h166,h180,Po,cg,bs,RU,YA,D9,FD,Nm,B5 h1,Nl h2,Nl h3,Bool.and_self,if_true]
 unfold Bo
 cases ([47]:List Nat).isPrefixOf y<;>cases x.isEmpty<;>cases x.getLast?==some 47<;>rfl
theorem CT (x:Int) {y:Int} (h:y≠0):Aq .Mod (.int x) (.int y)=some (.int (x.fmod y)):=by
 show (if y=0 then none else some (D.int (x.fmod y)))=_
 rw[if_neg h]
theorem DD (x:Int) {y:Int} (h:y≠0) (hs:small y=true):Aq .FloorDiv (.int x) (.int y)=some (.int (x.fdiv y)):=by
 show (if (decide (y=0)||!small y)=true then none else some (D.int (x.fdiv y)))=_
 rw[hs];simp[h]
theorem ci (x:Int) {y:Int} (hs:small y=true):Aq .Mult (.int x) (.int y)=some (.int (x*y)):=by
 show (if small y then some (D.int (x*y)) else (if small x then some (D.int (x*y)) else none))=_
 rw[hs];rfl
theorem ET {n:Nat} {k:Int} (h1:0<=k) (h2:k<n):DH n k=some k.toNat:=by
 unfold DH
 rw[if_pos h1,if_pos h2]
theorem Bp (x:Int) {y:Int} (h:0<y):0<=x.fmod y/\x.fmod y<y:=⟨Int.fmod_nonneg_of_pos x h,Int.fmod_lt_of_pos x h⟩
theorem cj {P:Int->Prop} (h0:P 0) (h1:P 1) (h2:P 2) (h3:P 3) (h4:P 4) (h5:P 5) (h6:P 6) (h7:P 7):∀a:Int,0<=a->a<8->P a
 | .negSucc n,h,_=>absurd h (Int.not_le.mpr (Int.negSucc_lt_zero n))
 | .ofNat n,_,h=>by
  replace h:n<8:=Int.ofNat_lt.mp h
  rcases n with _|_|_|_|_|_|_|_|n
  ·exact h0
  ·exact h1
  ·exact h2
  ·exact h3
  ·exact h4
  ·exact h5
  ·exact h6
  ·exact h7
  ·exact absurd h (Nat.not_lt.mpr (Nat.le_add_left 8 n))
theorem iA {P:Int->Prop} (h0:P 0) (h1:P 1) (h2:P 2) (h3:P 3) (h4:P 4) (h5:P 5) (a:Int) (h:0<=a) (k:a<6):P a:=
 cj (P:=λa=>a<6->P a) (λZ=>h0) (λZ=>h1) (λZ=>h2) (λZ=>h3) (λZ=>h4) (λZ=>h5) (λh=>absurd h (by decide)) (λh=>absurd h (by decide)) a h (Int.lt_trans k (by decide)) k
theorem ck {P:Int->Prop} (h0:P 0) (h1:P 1) (h2:P 2) (h3:P 3) (a:Int) (h:0<=a) (k:a<4):P a:=
 iA (P:=λa=>a<4->P a) (λZ=>h0) (λZ=>h1) (λZ=>h2) (λZ=>h3) (λh=>absurd h (by decide)) (λh=>absurd h (by decide)) a h (Int.lt_trans k (by decide)) k
theorem iB {P:Int->Prop} (h0:P 0) (h1:P 1) (a:Int) (h:0<=a) (k:a<2):P a:=
 ck (P:=λa=>a<2->P a) (λZ=>h0) (λZ=>h1) (λh=>absurd h (by decide)) (λh=>absurd h (by decide)) a h (Int.lt_trans k (by decide)) k
noncomputable def LX (q:Int):Int:=([4,4,4,4,4,8,10,0]:List Int).getD (q.fmod 8).toNat 0
noncomputable def Ad (q:Int):Int:=LX q*4096+(q.fdiv 8+493).fmod 4096
noncomputable def Jk (as:List D):Option D:=Et as λd=>match d with| .int q=>some (.int (Ad q))|_=>none
theorem fE (q:Int):AW (.list [.int 4,.int 4,.int 4,.int 4,.int 4,.int 8,.int 10,.int 0]) (.int (q.fmod 8))=some (.int (LX q)):=by
 obtain ⟨h1,h2⟩:=Bp q (y:=8) (by decide)
 show (DH 8 (q.fmod 8)).bind _=_
 rw[ET h1 h2]
 unfold LX
 revert h1 h2
 generalize q.fmod 8=a
 revert a
 exact cj rfl rfl rfl rfl rfl rfl rfl rfl
theorem Vs:Bg app lower ⟨288,66,287,[],false⟩ Jk:=.of λas d h=>by
 refine Mine.S0 (Ci h) λx eq1 h=>?_
 subst eq1
 (replace h:=Option.some.inj h;subst h)
 refine ⟨[.int x],by kernel_rfl,?_⟩
 rw[Ks]
 simp only[CT x (y:=8) (by decide),bs,fE,ci _ (y:=4096) (by decide),DD x (y:=8) (by decide) (by decide),LW,CT _ (y:=4096) (by decide)]
 rfl
noncomputable def As (r:List Nat) (xs:List (List Nat)):List Nat:=if (r++Ao [47] xs).isEmpty then [46] else r++Ao [47] xs
noncomputable def Ga (as:List D):Option D:=two as λa b=>(Bm a).bind λr=>(D8 b).bind λxs=>if r.length<=1000/\(xs.map List.length).sum+xs.length<=100000 then some (.str (As r xs)) else none
theorem CH (z:Nat):∀xs:List (List Nat),(Ao [z] xs).length<=(xs.map List.length).sum+xs.length
 |[]=>by simp[Ao]
 |[x]=>by rw[AH];simp
 |x::y::r=>by
  have ih:=CH z (y::r)
  rw[AJ]
  simp only[List.length_append,List.map_cons,List.sum_cons,List.length_cons] at ih ⊢
  simp only[List.length_nil]
  lia
theorem Kw (lower:Bt) {ds:List D} {xs:List (List Nat)} (h:A7 ds=some xs) (hl:(xs.map List.length).sum+xs.length<=100000):Ak lower (.str [47]) "join" [.list ds]=some (.str (Ao [47] xs)):=by
 show ((A7 ds).bind λxs=>if (xs.map List.length).sum+xs.length*([47]:List Nat).length<=Ap/\(Ao [47] xs).length<=Ap then some (D.str (Ao [47] xs)) else none)=_
 rw[h]
 have:=CH 47 xs
 show (if (xs.map List.length).sum+xs.length*1<=Ap/\(Ao [47] xs).length<=Ap then some (D.str (Ao [47] xs)) else none)=_
 rw[if_pos ⟨by unfold Ap;lia,by unfold Ap;lia⟩]
set_option tactic.hygienic true
theorem Vt:Bg app lower ⟨316,70,315,[],false⟩ Ga:=.of λas d h=>by
 replace h:=Fw h
 revert h
 refine Mine.T1 λa b eq1 h=>?_
 subst eq1
 rcases a with _|_<;>first|(exact Aa h;done)|skip
 rename_i r
 cases q:D8 b with
 |none=>replace h:((D8 b).bind _)=some d:=h;rw[q] at h;exact Aa h
 |some xs=>
 replace h:((D8 b).bind λxs=>if r.length<=1000/\(xs.map List.length).sum+xs.length<=100000 then some (.str (As r xs)) else none)=some d:=h
 rw[q,bs] at h
 rcases b with _|_<;>first|(exact Aa q;done)|skip
 rename_i ds
 revert h
 refine BO λhl h=>?_
 (replace h:=Option.some.inj h;subst h)
 refine ⟨[.str r,.list ds],by kernel_rfl,?_⟩
 rw[Ku]
 have h1:=CH 47 xs
 have h2:r.length+(Ao [47] xs).length<=Ap:=by unfold Ap;lia
 simp only[Kw lower (show A7 ds=some xs from q) hl.2,bs,B5 h2,FD]
 unfold As
 cases (r++Ao [47] xs).isEmpty<;>rfl
set_option tactic.hygienic false
end
noncomputable def PZ (s:List Nat) (k:Int):Nat:=s.getD k.toNat 0
theorem Hb {s:List Nat} {k:Int} (h1:0<=k) (h2:k<s.length):AW (.str s) (.int k)=some (.str [PZ s k]):=by
 show ((DH s.length k).bind λj=>s[j]?.map λc=>D.str [c])=_
 rw[ET h1 h2,bs]
 have h3:k.toNat<s.length:=by lia
 unfold PZ
 rw[List.getD_eq_getElem?_getD,List.getElem?_eq_getElem h3]
 rfl
theorem YB (a b:Nat):Aq .Add (.str [a]) (.str [b])=some (.str ([a]++[b])):=B5 (x:=[a]) (y:=[b]) (by simp[Ap])
theorem YC (a b c:Nat):Aq .Add (.str ([a]++[b])) (.str [c])=some (.str (([a]++[b])++[c])):=B5 (x:=[a]++[b]) (y:=[c]) (by simp[Ap])
theorem No {x:Int} (hs:small x=true) (y:Int):Aq .Mult (.int x) (.int y)=some (.int (x*y)):=by
 show (if small y then some (D.int (x*y)) else (if small x then some (D.int (x*y)) else none))=_
 rw[hs];cases small y<;>rfl
theorem Ab (rest:Sg->(Fl×Sg->Option D)->Option D) (K:Fl×Sg->Option D) (σ:Sg):Dm rest K (.next,σ)=rest σ K:=rfl
theorem BL (app lower:Bt) (e:DT) (n:Nat) (σ:Sg) (K:Fl×Sg->Option D):Af app lower e (n+1) [] σ K=K (.next,σ):=rfl
theorem Bv {bind:D->Sg->Option Sg} {body orelse:Sg->(Fl×Sg->Option D)->Option D} {ds:List D} {K:Fl×Sg->Option D} {σ:Sg}:Fn bind body orelse ds K (.next,σ)=CG bind body orelse ds σ K:=rfl
theorem Np {bind:D->Sg->Option Sg} {body orelse:Sg->(Fl×Sg->Option D)->Option D} {ds:List D} {K:Fl×Sg->Option D} {σ:Sg}:Fn bind body orelse ds K (.cont,σ)=CG bind body orelse ds σ K:=rfl
noncomputable def Dn (k:Int):List Nat:=([[45,120],[45,120],[45,120],[83,115],[83,115],[84,116]]:List (List Nat)).getD k.toNat []
set_option tactic.hygienic true
theorem DU (k:Int) (h1:0<=k) (h2:k<6):AW (.list [.str [45,120],.str [45,120],.str [45,120],.str [83,115],.str [83,115],.str [84,116]]) (.int k)=some (.str (Dn k))/\(Dn k).length=2:=by
 revert h1 h2
 revert k
 exact iA ⟨rfl,rfl⟩ ⟨rfl,rfl⟩ ⟨rfl,rfl⟩ ⟨rfl,rfl⟩ ⟨rfl,rfl⟩ ⟨rfl,rfl⟩
set_option tactic.hygienic false
noncomputable def Bk (f g i:Int):List Nat:=([PZ [45,114] (f.fdiv 4)]++[PZ [45,119] ((f.fdiv 2).fmod 2)])++[PZ (Dn (3*g+i)) (f.fmod 2)]
noncomputable def Ag (m:Int):List Nat:=
 (([PZ [63,112,99,63,100,63,98,63,45,63,108,63,115,63,63,63] ((m.fdiv 4096).fmod 16)]++Bk ((m.fdiv 64).fmod 8) ((m.fdiv 2048).fmod 2) 0)++Bk ((m.fdiv 8).fmod 8) ((m.fdiv 1024).fmod 2) 1)++Bk ((m.fdiv 1).fmod 8) ((m.fdiv 512).fmod 2) 2
noncomputable def Gc (as:List D):Option D:=Et as λd=>match d with| .int m=>some (.str (Ag m))|_=>none
noncomputable abbrev BH:DT:=⟨281,65,280,[],false⟩
section
variable {app lower:Bt}
theorem YD (x:Int) {y n:Int} (hy:0<y) (h1:0<=x) (h2:x<y*n):0<=x.fdiv y/\x.fdiv y<n:=
 ⟨Int.fdiv_nonneg h1 (Int.le_of_lt hy),by
  rw[Int.fdiv_eq_ediv_of_nonneg x (Int.le_of_lt hy)]
  exact Int.ediv_lt_of_lt_mul hy (Int.mul_comm y n▸h2)⟩
theorem Nq (K:Fl×Sg->Option D) {m f g i j:Int} {s l:List Nat} (hf1:0<=f) (hf2:f<8) (hl:l=Dn (3*g+j)) (hl2:l.length=2) (hs:s.length<=100):Af app lower BH 39 ((Ah (An BH 1)).drop 2) ⟨[("mode",.int m),("signs",.str s),("i",.int i),("special",.int g),("figure",.int f),("last",.str l)],[],[]⟩ K=
  K (.next,⟨[("mode",.int m),("signs",.str (s++Bk f g j)),("i",.int i),("special",.int g),("figure",.int f),("last",.str l)],[],[]⟩):=by
 rw[Vh]
 obtain ⟨a1,a2⟩:=YD f (y:=4) (n:=2) (by decide) hf1 (by lia)
 obtain ⟨b1,b2⟩:=Bp (f.fdiv 2) (y:=2) (by decide)
 obtain ⟨c1,c2⟩:=Bp f (y:=2) (by decide)
 have h3:s.length+(([PZ [45,114] (f.fdiv 4)]++[PZ [45,119] ((f.fdiv 2).fmod 2)])++[PZ l (f.fmod 2)]).length<=Ap:=by simp[Ap];exact Nat.le_trans (by assumption) (by decide)
 have c3:f.fmod 2<(l.length:Int):=by rw[hl2];exact c2
 simp only[DD f (y:=4) (by decide) (by decide),DD f (y:=2) (by decide) (by decide),bs,CT _ (y:=2) (by decide),Hb (s:=[45,114]) a1 a2,Hb (s:=[45,119]) b1 b2,Hb c1 c3,YB,YC,Nl h3,Nm,if_true]
 rw[hl];rfl
theorem fF (K:Fl×Sg->Option D) {m:Int} {s:List Nat}:Af app lower BH 39 ((Ah (An BH 1)).take 1) ⟨[("mode",.int m),("signs",.str s),("i",.int 0)],[],[]⟩ K=K (.next,⟨[("mode",.int m),("signs",.str s),("i",.int 0),("special",.int ((m.fdiv 2048).fmod 2)),("figure",.int ((m.fdiv 64).fmod 8))],[],[]⟩):=by
 rw[RO]
 have e1:AW (.list [.int 64,.int 8,.int 1]) (.int 0)=some (.int 64):=rfl
 have e2:AW (.list [.int 2048,.int 1024,.int 512]) (.int 0)=some (.int 2048):=rfl
 simp only[e1,e2,bs,DD m (y:=64) (by decide) (by decide),DD m (y:=2048) (by decide) (by decide),CT _ (y:=8) (by decide),CT _ (y:=2) (by decide)]
theorem fG (K:Fl×Sg->Option D) {m:Int} {s:List Nat}:Af app lower BH 39 (((Ah (An BH 1)).drop 1).take 1) ⟨[("mode",.int m),("signs",.str s),("i",.int 0),("special",.int ((m.fdiv 2048).fmod 2)),("figure",.int ((m.fdiv 64).fmod 8))],[],[]⟩ K=K (.next,⟨[("mode",.int m),("signs",.str s),("i",.int 0),("special",.int ((m.fdiv 2048).fmod 2)),("figure",.int ((m.fdiv 64).fmod 8)),("last",.str (Dn (3*((m.fdiv 2048).fmod 2)+0)))],[],[]⟩):=by
 rw[RP]
 obtain ⟨g1,g2⟩:=Bp (m.fdiv 2048) (y:=2) (by decide)
 obtain ⟨k1,k2⟩:=DU (k:=3*((m.fdiv 2048).fmod 2)+0) (by lia) (by lia)
 simp only[No (x:=3) (by decide),bs,LW,k1]
theorem RV (K:Fl×Sg->Option D) {m:Int} {s:List Nat} (hs:s.length<=100):Af app lower BH 39 (Ah (An BH 1)) ⟨[("mode",.int m),("signs",.str s),("i",.int 0)],[],[]⟩ K=K (.next,⟨[("mode",.int m),("signs",.str (s++Bk ((m.fdiv 64).fmod 8) ((m.fdiv 2048).fmod 2) 0)),("i",.int 0),("special",.int ((m.fdiv 2048).fmod 2)),("figure",.int ((m.fdiv 64).fmod 8)),("last",.str (Dn (3*((m.fdiv 2048).fmod 2)+0)))],[],[]⟩):=by
 obtain ⟨f1,f2⟩:=Bp (m.fdiv 64) (y:=8) (by decide)
 obtain ⟨g1,g2⟩:=Bp (m.fdiv 2048) (y:=2) (by decide)
 obtain ⟨k1,k2⟩:=DU (k:=3*((m.fdiv 2048).fmod 2)+0) (by lia) (by lia)
 rw[Ae app lower BH 38 1,fF,Ab,Ae app lower BH 38 1,fG,Ab,List.drop_drop]
 exact Nq K f1 f2 rfl k2 hs
theorem fH (K:Fl×Sg->Option D) {m:Int} {s:List Nat} {f0 g0 l0:D}:Af app lower BH 39 ((Ah (An BH 1)).take 1) ⟨[("mode",.int m),("signs",.str s),("i",.int 1),("special",g0),("figure",f0),("last",l0)],[],[]⟩ K=K (.next,⟨[("mode",.int m),("signs",.str s),("i",.int 1),("special",.int ((m.fdiv 1024).fmod 2)),("figure",.int ((m.fdiv 8).fmod 8)),("last",l0)],[],[]⟩):=by
 rw[RQ]
 have e1:AW (.list [.int 64,.int 8,.int 1]) (.int 1)=some (.int 8):=rfl
 have e2:AW (.list [.int 2048,.int 1024,.int 512]) (.int 1)=some (.int 1024):=rfl
 simp only[e1,e2,bs,DD m (y:=8) (by decide) (by decide),DD m (y:=1024) (by decide) (by decide),CT _ (y:=8) (by decide),CT _ (y:=2) (by decide)]
theorem fI (K:Fl×Sg->Option D) {m:Int} {s:List Nat} {l0:D}:Af app lower BH 39 (((Ah (An BH 1)).drop 1).take 1) ⟨[("mode",.int m),("signs",.str s),("i",.int 1),("special",.int ((m.fdiv 1024).fmod 2)),("figure",.int ((m.fdiv 8).fmod 8)),("last",l0)],[],[]⟩ K=K (.next,⟨[("mode",.int m),("signs",.str s),("i",.int 1),("special",.int ((m.fdiv 1024).fmod 2)),("figure",.int ((m.fdiv 8).fmod 8)),("last",.str (Dn (3*((m.fdiv 1024).fmod 2)+1)))],[],[]⟩):=by
 rw[RR]
 obtain ⟨g1,g2⟩:=Bp (m.fdiv 1024) (y:=2) (by decide)
 obtain ⟨k1,k2⟩:=DU (k:=3*((m.fdiv 1024).fmod 2)+1) (by lia) (by lia)
 simp only[No (x:=3) (by decide),bs,LW,k1]
theorem RW (K:Fl×Sg->Option D) {m:Int} {s:List Nat} {f0 g0 l0:D} (hs:s.length<=100):Af app lower BH 39 (Ah (An BH 1)) ⟨[("mode",.int m),("signs",.str s),("i",.int 1),("special",g0),("figure",f0),("last",l0)],[],[]⟩ K=K (.next,⟨[("mode",.int m),("signs",.str (s++Bk ((m.fdiv 8).fmod 8) ((m.fdiv 1024).fmod 2) 1)),("i",.int 1),("special",.int ((m.fdiv 1024).fmod 2)),("figure",.int ((m.fdiv 8).fmod 8)),("last",.str (Dn (3*((m.fdiv 1024).fmod 2)+1)))],[],[]⟩):=by
 obtain ⟨f1,f2⟩:=Bp (m.fdiv 8) (y:=8) (by decide)
 obtain ⟨g1,g2⟩:=Bp (m.fdiv 1024) (y:=2) (by decide)
 obtain ⟨k1,k2⟩:=DU (k:=3*((m.fdiv 1024).fmod 2)+1) (by lia) (by lia)
 rw[Ae app lower BH 38 1,fH,Ab,Ae app lower BH 38 1,fI,Ab,List.drop_drop]
 exact Nq K f1 f2 rfl k2 hs
theorem fJ (K:Fl×Sg->Option D) {m:Int} {s:List Nat} {f0 g0 l0:D}:Af app lower BH 39 ((Ah (An BH 1)).take 1) ⟨[("mode",.int m),("signs",.str s),("i",.int 2),("special",g0),("figure",f0),("last",l0)],[],[]⟩ K=K (.next,⟨[("mode",.int m),("signs",.str s),("i",.int 2),("special",.int ((m.fdiv 512).fmod 2)),("figure",.int ((m.fdiv 1).fmod 8)),("last",l0)],[],[]⟩):=by
 rw[RS]
 have e1:AW (.list [.int 64,.int 8,.int 1]) (.int 2)=some (.int 1):=rfl
 have e2:AW (.list [.int 2048,.int 1024,.int 512]) (.int 2)=some (.int 512):=rfl
 simp only[e1,e2,bs,DD m (y:=1) (by decide) (by decide),DD m (y:=512) (by decide) (by decide),CT _ (y:=8) (by decide),CT _ (y:=2) (by decide)]
theorem fK (K:Fl×Sg->Option D) {m:Int} {s:List Nat} {l0:D}:Af app lower BH 39 (((Ah (An BH 1)).drop 1).take 1) ⟨[("mode",.int m),("signs",.str s),("i",.int 2),("special",.int ((m.fdiv 512).fmod 2)),("figure",.int ((m.fdiv 1).fmod 8)),("last",l0)],[],[]⟩ K=K (.next,⟨[("mode",.int m),("signs",.str s),("i",.int 2),("special",.int ((m.fdiv 512).fmod 2)),("figure",.int ((m.fdiv 1).fmod 8)),("last",.str (Dn (3*((m.fdiv 512).fmod 2)+2)))],[],[]⟩):=by
 rw[RT]
 obtain ⟨g1,g2⟩:=Bp (m.fdiv 512) (y:=2) (by decide)
 obtain ⟨k1,k2⟩:=DU (k:=3*((m.fdiv 512).fmod 2)+2) (by lia) (by lia)
 simp only[No (x:=3) (by decide),bs,LW,k1]
theorem RX (K:Fl×Sg->Option D) {m:Int} {s:List Nat} {f0 g0 l0:D} (hs:s.length<=100):Af app lower BH 39 (Ah (An BH 1)) ⟨[("mode",.int m),("signs",.str s),("i",.int 2),("special",g0),("figure",f0),("last",l0)],[],[]⟩ K=K (.next,⟨[("mode",.int m),("signs",.str (s++Bk ((m.fdiv 1).fmod 8) ((m.fdiv 512).fmod 2) 2)),("i",.int 2),("special",.int ((m.fdiv 512).fmod 2)),("figure",.int ((m.fdiv 1).fmod 8)),("last",.str (Dn (3*((m.fdiv 512).fmod 2)+2)))],[],[]⟩):=by
 obtain ⟨f1,f2⟩:=Bp (m.fdiv 1) (y:=8) (by decide)
 obtain ⟨g1,g2⟩:=Bp (m.fdiv 512) (y:=2) (by decide)
 obtain ⟨k1,k2⟩:=DU (k:=3*((m.fdiv 512).fmod 2)+2) (by lia) (by lia)
 rw[Ae app lower BH 38 1,fJ,Ab,Ae app lower BH 38 1,fK,Ab,List.drop_drop]
 exact Nq K f1 f2 rfl k2 hs
noncomputable def fL (m:Int):Nat:=PZ [63,112,99,63,100,63,98,63,45,63,108,63,115,63,63,63] ((m.fdiv 4096).fmod 16)
theorem jf (K:Fl×Sg->Option D) {m:Int}:Af app lower BH 40 (BH.body.take 1) ⟨[("mode",.int m)],[],[]⟩ K=K (.next,⟨[("mode",.int m),("signs",.str [fL m])],[],[]⟩):=by
 rw[Vf]
 obtain ⟨a1,a2⟩:=Bp (m.fdiv 4096) (y:=16) (by decide)
 simp only[DD m (y:=4096) (by decide) (by decide),bs,CT _ (y:=16) (by decide),Hb (s:=[63,112,99,63,100,63,98,63,45,63,108,63,115,63,63,63]) a1 a2]
 rfl
theorem Vu:Bg app lower BH Gc:=.of λas d h=>by
 replace h:=Ci h
 revert h
 refine Mine.T0 λm eq1 h=>?_
 subst eq1
 (replace h:=Option.some.inj h;subst h)
 refine ⟨[.int m],by kernel_rfl,?_⟩
 have hσ:(⟨BH.xs.zip [.int m],[],[]⟩:Sg)=⟨[("mode",.int m)],[],[]⟩:=by kernel_rfl
 rw[BX,hσ,Ae app lower BH 39 1]
 rw[jf,Ab]
 have hb:(BH.body.drop 1).take 1=[An BH 1]:=by kernel_rfl
 rw[Ae app lower BH 39 1,hb,Cc app lower BH 39 (An BH 1) (by kernel_rfl)]
 have hL:Ag m=(([fL m]++Bk ((m.fdiv 64).fmod 8) ((m.fdiv 2048).fmod 2) 0)++Bk ((m.fdiv 8).fmod 8) ((m.fdiv 1024).fmod 2) 1)++Bk ((m.fdiv 1).fmod 8) ((m.fdiv 512).fmod 2) 2:=rfl
 rw[hL]
 generalize fL m=c
 have hi:Bu Gl (BV Gl Ak (AC Gl) app lower) BH.names [("mode",.int m),("signs",.str [c])] [] (AK (An BH 1)) (HP (An BH 1))=some [.int 0,.int 1,.int 2]:=by kernel_rfl
 rw[hi,bs]
 rw[Be (σ1:=⟨[("mode",.int m),("signs",.str [c]),("i",.int 0)],[],[]⟩) (by kernel_rfl),RV _ (by simp)]
 rw[Bv]
 rw[Be (σ1:=⟨[("mode",.int m),("signs",.str ([c]++Bk ((m.fdiv 64).fmod 8) ((m.fdiv 2048).fmod 2) 0)),("i",.int 1),("special",.int ((m.fdiv 2048).fmod 2)),("figure",.int ((m.fdiv 64).fmod 8)),("last",.str (Dn (3*(m.fdiv 2048).fmod 2+0)))],[],[]⟩) (by kernel_rfl),RW _ (by simp[Bk]),Bv]
 rw[Be (σ1:=⟨[("mode",.int m),("signs",.str (([c]++Bk ((m.fdiv 64).fmod 8) ((m.fdiv 2048).fmod 2) 0)++Bk ((m.fdiv 8).fmod 8) ((m.fdiv 1024).fmod 2) 1)),("i",.int 2),("special",.int ((m.fdiv 1024).fmod 2)),("figure",.int ((m.fdiv 8).fmod 8)),("last",.str (Dn (3*(m.fdiv 1024).fmod 2+1)))],[],[]⟩) (by kernel_rfl),RX _ (by simp[Bk]),Bv,Cd]
 have he:AQ (An BH 1)=[]:=by kernel_rfl
 rw[he,BL,Ab,List.drop_drop,Vg]
 generalize (([c]++Bk ((m.fdiv 64).fmod 8) ((m.fdiv 2048).fmod 2) 0)++Bk ((m.fdiv 8).fmod 8) ((m.fdiv 1024).fmod 2) 1)++Bk ((m.fdiv 1).fmod 8) ((m.fdiv 512).fmod 2) 2=z
 rfl
end
noncomputable def LY (as:List D):Option D:=Et as λd=>match d with| .str x=>(DR ((x.drop 1).take 2)).bind λv=>some (.str [v.toNat])|_=>none
theorem Vv {x:List Nat} {v:Int} (h:DR x=some v):0<=v/\v<1000:=by
 unfold DR at h
 split at h
 ·(replace h:=Option.some.inj h;subst h);decide
 split at h
 ·(replace h:=Option.some.inj h;subst h);decide
 split at h
 ·(replace h:=Option.some.inj h;subst h);decide
 split at h
 ·(replace h:=Option.some.inj h;subst h);decide
 revert h
 refine BO λ_ h=>?_
 (replace h:=Option.some.inj h;subst h);decide
section
variable {app lower:Bt}
theorem YE (B:CW app):Bg app lower ⟨66,14,65,[],false⟩ LY:=.of λas d h=>by
 replace h:=Ch h
 revert h
 refine Mine.T0 λx eq1 h=>?_
 subst eq1
 revert h
 refine Mine.Br λv q h=>?_
 (replace h:=Option.some.inj h;subst h)
 refine ⟨[.str x],by kernel_rfl,?_⟩
 rw[LS]
 have e1:AN x (some 1) (some 3)=(x.drop 1).take 2:=GF x 1 3
 have e2:Jc "int" [.str ((x.drop 1).take 2),.int 16]=some (.int v):=by
  show ((DR ((x.drop 1).take 2)).map D.int)=_
  rw[q];rfl
 have e3:GX "chr" [.int v]=some (.str [v.toNat]):=by
  show (if 0<=v/\v<1000 then some (D.str [v.toNat]) else none)=_
  rw[if_pos (Vv q)]
 simp only[Nk,e1,bs,B.b,B.t,e2,e3]
theorem Vx (lower:Bt) (x:List Nat) (b e:Nat):Ak lower (.mat x b e) "group" [.int 0]=some (.str ((x.drop b).take (e-b))):=by kernel_rfl
noncomputable def LZ (as:List D):Option D:=Et as λd=>match d with| .mat x b e=>LY [.str ((x.drop b).take (e-b))]|_=>none
set_option tactic.hygienic true
theorem YF (h66:∀as,app (.val (.ref 66)) as=LY as):Bg app lower ⟨86,19,85,[],false⟩ LZ:=.of λas d h=>by
 replace h:=EJ h
 revert h
 refine Mine.T0 λa eq1 h=>?_
 subst eq1
 rcases a with _|_<;>first|(exact Aa h;done)|skip
 rename_i x b e
 replace h:LY [.str ((x.drop b).take (e-b))]=some d:=h
 refine ⟨[.mat x b e],by kernel_rfl,?_⟩
 rw[F7]
 simp only[Vx,bs,h66,h]
set_option tactic.hygienic false
noncomputable def Jl (as:List D):Option D:=Et as λd=>match d with| .int m=>some (.tuple [.str (Ag m),.bool (m.fdiv 4096==4&&m.fmod 2==1)])|_=>none
theorem Op (a b:Int):A0 .Eq (.int a) (.int b)=some (a==b):=rfl
theorem cm (m:Int):Gc [.int m]=some (.str (Ag m)):=rfl
theorem Vy (h281:∀as,app (.val (.ref 281)) as=Gc as):Bg app lower ⟨295,67,294,[],false⟩ Jl:=.of λas d h=>by
 replace h:=Ci h
 revert h
 refine Mine.T0 λm eq1 h=>?_
 subst eq1
 (replace h:=Option.some.inj h;subst h)
 refine ⟨[.int m],by kernel_rfl,?_⟩
 rw[Kt]
 simp only[h281,cm,bs,DD m (y:=4096) (by decide) (by decide),CT m (y:=2) (by decide),Op,D9]
 generalize Ag m=l
 cases m.fdiv 4096==4<;>rfl
end
noncomputable abbrev cn:DT:=⟨74,15,73,[],false⟩
noncomputable def Pp (as:List D):Option D:=two as λa c=>match a with
 | .bytes b=>(Bm c).bind λc=>if b.size=10/\((b.toList.map (·.toNat)).all λx=>decide (x<128))=true/\((b.toList.map (·.toNat)).flatMap Bx).length<=1000/\c.length<=1000 then some (.str (TB c ((b.toList.map (·.toNat)).flatMap Bx))) else none
 |_=>none
section
variable {app lower:Bt}
theorem RY (lower:Bt) {b:Array UInt8} (h:b.size=10):Ak lower (.bytes b) (Str.ofString "decode") [.str [108,97,116,105,110,49]]=some (.str (b.toList.map (·.toNat))):=by
 show (if [108,97,116,105,110,49]=(Str.ofString "latin1").cps.toList/\b.size=10 then some (D.str (b.toList.map (·.toNat))) else none)=_
 rw[if_pos ⟨by decide+kernel,h⟩]
theorem Vz (lower:Bt) {x:List Nat} (h1:(x.all λc=>decide (c<128))=true) (h2:x≠[]) (h3:(x.flatMap Bx).length<=1000):Ak lower (.str x) "translate" [.val (.ref 51)]=some (.str (x.flatMap Bx)):=by
 show (if (51:Nat)=51/\(x.all λc=>decide (c<128))=true/\x≠[]/\(x.flatMap Bx).length<=1000 then some (D.str (x.flatMap Bx)) else none)=_
 rw[if_pos ⟨rfl,h1,h2,h3⟩]
theorem jg (K:Fl×Sg->Option D) {b:Array UInt8} {c:List Nat} (h:b.size=10) (h1:((b.toList.map (·.toNat)).all λx=>decide (x<128))=true) (h3:((b.toList.map (·.toNat)).flatMap Bx).length<=1000):
  Af app lower cn 40 (cn.body.take 2) ⟨[("header_bytes",.bytes b),("charset",.str c)],[],[]⟩ K=K (.next,⟨[("header_bytes",.bytes b),("charset",.str c),("encoded",.str ((b.toList.map (·.toNat)).flatMap Bx))],[],[]⟩):=by
 rw[Ve]
 have e0:Ay (.bytes b)=some true:=by
  show some (b.size !=0)=_
  rw[h];rfl
 have h2:b.toList.map (·.toNat)≠[]:=by
  intro hc
  have:=congrArg List.length hc
  simp[h] at this
 simp only[e0,bs,RY lower h,Vz lower h1 h2 h3,Bool.not_true,GE]
set_option tactic.hygienic true
theorem YG:Bg app lower cn Pp:=.of λas d h=>by
 replace h:=Fw h
 revert h
 refine Mine.T1 λa c eq1 h=>?_
 subst eq1
 rcases a with _|_<;>first|(exact Aa h;done)|skip
 rename_i b
 rcases c with _|_<;>first|(exact Aa h;done)|skip
 rename_i c
 replace h:(if b.size=10/\((b.toList.map (·.toNat)).all λx=>decide (x<128))=true/\((b.toList.map (·.toNat)).flatMap Bx).length<=1000/\c.length<=1000 then some (D.str (TB c ((b.toList.map (·.toNat)).flatMap Bx))) else none)=some d:=h
 revert h
 refine BO λhc h=>?_
 revert hc
 refine Mine.bm λh0 h1 h3 h4=>?_
 (replace h:=Option.some.inj h;subst h)
 refine ⟨[.bytes b,.str c],by kernel_rfl,?_⟩
 have hσ:(⟨cn.xs.zip [.bytes b,.str c],[],[]⟩:Sg)=⟨[("header_bytes",.bytes b),("charset",.str c)],[],[]⟩:=by kernel_rfl
 rw[BX,hσ,Ae app lower cn 39 2,jg _ h0 h1 h3,Ab,Vi]
 generalize (b.toList.map (·.toNat)).flatMap Bx=y at h3 ⊢
 have hl:(TB c y).length<=Ap:=by unfold TB;simp[Ap];lia
 rw[if_pos hl,bs]
set_option tactic.hygienic false
end
open Classical in
noncomputable def HT {α:Type} (enc:α->List D) (f:α->Option D):List D->Option D:=λas=>if h:∃a,enc a=as then f h.choose else none
theorem Eb {α:Type} {enc:α->List D} {f:α->Option D} (hi:∀a b,enc a=enc b->a=b) (a:α):HT enc f (enc a)=f a:=by
 unfold HT
 have h:∃b,enc b=enc a:=⟨a,rfl⟩
 rw[dif_pos h,hi _ _ h.choose_spec]
theorem Do {α:Type} {enc:α->List D} {f:α->Option D} {as:List D} {d:D} (h:HT enc f as=some d):∃a,as=enc a/\f a=some d:=by
 unfold HT at h
 split at h
 ·rename_i q;exact ⟨_,q.choose_spec.symm,h⟩
 ·exact Aa h
theorem Cx {α β:Type} {f:α->β} (hf:∀a b,f a=f b->a=b):∀x y:List α,x.map f=y.map f->x=y
 |[],[],_=>rfl
 |[],_::_,h=>by cases h
 |_::_,[],h=>by cases h
 |a::x,b::y,h=>by
  injection h with h1 h2
  rw[hf _ _ h1,Cx hf x y h2]
noncomputable abbrev Pr:=List Nat×D
noncomputable def B6 (p:Pr):D:=.tuple [.str p.1,p.2]
theorem RZ:∀a b:Pr,B6 a=B6 b->a=b:=by
 rintro ⟨a1,a2⟩ ⟨b1,b2⟩ h
 unfold B6 at h
 injection h with h
 injection h with h1 h2
 injection h1 with h1
 injection h2 with h2
 subst h1;subst h2;rfl
noncomputable abbrev BJ:DT:=⟨309,69,308,["left"],false⟩
noncomputable def MB (p r:D) (u:Nat) (q:Option Pr) (ds:List D):Sg:=
 match q with
 |none=>⟨[("pairs",p),("root",r),("ups",.int u)],[("left",ds)],[]⟩
 |some q=>⟨[("pairs",p),("root",r),("ups",.int u),("pair",B6 q)],[("left",ds)],[]⟩
noncomputable def DV (s:Nat×List Pr) (p:Pr):Nat×List Pr:=
 if p.1=[46,46] then (s.1+1,s.2) else if p.1=[]\/p.1=[46] then s else if 0<s.1 then (s.1-1,s.2) else (s.1,s.2++[p])
noncomputable def Fo (ps:List Pr) (u:Nat) (l:List Pr):Nat×List Pr:=ps.foldl DV (u,l)
noncomputable def R2:Pr:=([46,46],.list [.tuple [.str [46,46],.bool true]])
noncomputable def DJ (ps:List Pr) (root:List Nat):List Pr:=
 (if root=[] then List.replicate (Fo ps.reverse 0 []).1 R2 else [])++(Fo ps.reverse 0 []).2.reverse
noncomputable def Jm:List D->Option D:=HT (λa:List Pr×List Nat=>[.list (a.1.map B6),.str a.2]) λa=>if a.1.length<=1000 then some (.list ((DJ a.1 a.2).map B6)) else none
theorem cp (ps:List Pr) (root:List Nat) (h:ps.length<=1000):Jm [.list (ps.map B6),.str root]=some (.list ((DJ ps root).map B6)):=by
 refine (Eb (enc:=λa:List Pr×List Nat=>[.list (a.1.map B6),.str a.2]) (λa b h=>?_) (ps,root)).trans (if_pos h)
 obtain ⟨a1,a2⟩:=a
 obtain ⟨b1,b2⟩:=b
 injection h with h1 h2
 injection h1 with h1
 injection h2 with h2
 injection h2 with h2
 have e1:a1=b1:=Cx RZ _ _ h1
 have e2:a2=b2:=h2
 rw[e1,e2]
section
variable {app lower:Bt}
theorem VA (K:Fl×Sg->Option D) (p r:D):Af app lower BJ 40 (BJ.body.take 1) ⟨[("pairs",p),("root",r)],[],[]⟩ K=K (.next,MB p r 0 none []):=by kernel_rfl
theorem YH (K:Fl×Sg->Option D) (p r:D) (u:Nat) (q:Pr) (ds:List D):Af app lower BJ 39 (Ah (An BJ 1)) (MB p r u (some q) ds) K=
 if q.1==[46,46] then K (.next,⟨[("pairs",p),("root",r),("ups",.int (u+1)),("pair",B6 q)],[("left",ds)],[]⟩)
 else if !(q.1==[]) then if !(q.1==[46]) then if decide ((u:Int)>0) then K (.next,⟨[("pairs",p),("root",r),("ups",.int ((u:Int)-1)),("pair",B6 q)],[("left",ds)],[]⟩)
  else if ds.length<Ap then K (.next,MB p r u (some q) (ds++[B6 q])) else none
  else K (.next,MB p r u (some q) ds)
  else K (.next,MB p r u (some q) ds):=by kernel_rfl
theorem VB (p r:D) (u:Nat) (q:Option Pr) (q':Pr) (ds:List D):AO BJ.names BJ.owned (AK (An BJ 1)) (B6 q') (MB p r u q ds)=some (MB p r u (some q') ds):=by
 rcases q with _|_<;>kernel_rfl
theorem WM {p r:D} {u:Int} {w:Nat} {q:Pr} {ds:List D} (h:u=(w:Int)):(⟨[("pairs",p),("root",r),("ups",.int u),("pair",B6 q)],[("left",ds)],[]⟩:Sg)=MB p r w (some q) ds:=by
 rw[h];rfl
theorem VC (K:Fl×Sg->Option D) (p r:D) (u:Nat) (q:Pr) (l:List Pr) (hl:l.length<=1000):Af app lower BJ 39 (Ah (An BJ 1)) (MB p r u (some q) (l.map B6)) K=K (.next,MB p r (DV (u,l) q).1 (some q) ((DV (u,l) q).2.map B6)):=by
 rw[YH]
 unfold DV
 by_cases h1:q.1=[46,46]
 ·rw[if_pos (beq_iff_eq.mpr h1),if_pos h1,WM (w:=u+1) (by lia)]
 rw[if_neg (by rw[beq_iff_eq];exact h1),if_neg h1]
 by_cases h2:q.1=[]
 ·rw[if_neg (by rw[h2];decide),if_pos (c:=_\/_) (.inl h2)]
 rw[if_pos (by simpa using h2)]
 by_cases h3:q.1=[46]
 ·rw[if_neg (by rw[h3];decide),if_pos (c:=_\/_) (.inr h3)]
 rw[if_pos (by simpa using h3),if_neg (c:=_\/_) (by rintro (h|h);exact h2 h;exact h3 h)]
 by_cases h4:0<u
 ·rw[if_pos (decide_eq_true (by lia)),if_pos (show 0<(u,l).1 from h4),WM (w:=u-1) (by lia)]
 ·rw[if_neg (by rw[decide_eq_true_eq];lia),if_neg (show ¬ 0<(u,l).1 from h4),if_pos (by simp[Ap];exact Nat.lt_of_le_of_lt (by assumption) (by decide))]
  simp
theorem HU (q:Pr) (qs:List Pr) (u:Nat) (l:List Pr):Fo (q::qs) u l=Fo qs (DV (u,l) q).1 (DV (u,l) q).2:=rfl
theorem Jn (q:Pr) (u:Nat) (l:List Pr):(DV (u,l) q).2.length<=l.length+1/\(DV (u,l) q).1<=u+1:=by
 unfold DV
 split
 ·simp
 split
 ·simp
 split
 ·simp;lia
 ·simp
theorem Oq (K:Fl×Sg->Option D) (p r:D):∀ (qs:List Pr) (u:Nat) (o:Option Pr) (l:List Pr),l.length+qs.length<=1000->∃o',
  CG (AO BJ.names BJ.owned (AK (An BJ 1))) (Af app lower BJ 39 (Ah (An BJ 1))) (Af app lower BJ 39 (AQ (An BJ 1))) (qs.map B6) (MB p r u o (l.map B6)) K=K (.next,MB p r (Fo qs u l).1 o' ((Fo qs u l).2.map B6))
 |[],u,o,l,_=>by
  have he:AQ (An BJ 1)=[]:=by kernel_rfl
  refine ⟨o,?_⟩
  rw[List.map_nil,Cd,he,BL]
  rfl
 |q::qs,u,o,l,hl=>by
  have hl':l.length+(qs.length+1)<=1000:=hl
  have h2:=(Jn q u l).1
  obtain ⟨o',h⟩:=Oq K p r qs (DV (u,l) q).1 (some q) (DV (u,l) q).2 (by lia)
  refine ⟨o',?_⟩
  rw[List.map_cons,Be (VB p r u o q _),VC _ p r u q l (by lia),Bv,h,<-HU]
noncomputable def YI (p r:D) (u:Nat) (o:Option Pr) (ds:List D) (x:D):Sg:=⟨(MB p r u o ds).loc++[(Str.ofString "extra",x)],[(Str.ofString "left",ds)],[]⟩
theorem Pq (K:Fl×Sg->Option D) (p u r:D) (ds:List D):Af app lower BJ 40 ((BJ.body.drop 2).take 1) ⟨[("pairs",p),("root",r),("ups",u)],[("left",ds)],[]⟩ K=
 (A0 .Eq r (.str [])).bind λb=>if b then (Aq .Mult (.list [.tuple [.str [46,46],.list [.tuple [.str [46,46],.bool true]]]]) u).bind λx=>K (.next,⟨[("pairs",p),("root",r),("ups",u),("extra",x)],[("left",ds)],[]⟩)
 else K (.next,⟨[("pairs",p),("root",r),("ups",u),("extra",.list [])],[("left",ds)],[]⟩):=by kernel_rfl
theorem Ps (K:Fl×Sg->Option D) (p u r q:D) (ds:List D):Af app lower BJ 40 ((BJ.body.drop 2).take 1) ⟨[("pairs",p),("root",r),("ups",u),("pair",q)],[("left",ds)],[]⟩ K=
 (A0 .Eq r (.str [])).bind λb=>if b then (Aq .Mult (.list [.tuple [.str [46,46],.list [.tuple [.str [46,46],.bool true]]]]) u).bind λx=>K (.next,⟨[("pairs",p),("root",r),("ups",u),("pair",q),("extra",x)],[("left",ds)],[]⟩)
 else K (.next,⟨[("pairs",p),("root",r),("ups",u),("pair",q),("extra",.list [])],[("left",ds)],[]⟩):=by kernel_rfl
theorem R3 (K:Fl×Sg->Option D) (p r:D) (u:Nat) (o:Option Pr) (ds:List D):Af app lower BJ 40 ((BJ.body.drop 2).take 1) (MB p r u o ds) K=
  (A0 .Eq r (.str [])).bind λb=>if b then (Aq .Mult (.list [.tuple [.str [46,46],.list [.tuple [.str [46,46],.bool true]]]]) (.int u)).bind λx=>K (.next,YI p r u o ds x)
  else K (.next,YI p r u o ds (.list [])):=by
 rcases o with _|_
 ·exact Pq ..
 ·exact Ps ..
theorem R4 (p r:D) (u:Nat) (o:Option Pr) (ds:List D) (x:D):Af app lower BJ 40 (BJ.body.drop 3) (YI p r u o ds x) Cw=(Aq .Add x (.list ds.reverse)).bind λv=>some v:=by rcases o with _|_<;>kernel_rfl
theorem Kx:∀ (qs:List Pr) (u:Nat) (l:List Pr),(Fo qs u l).1<=u+qs.length/\(Fo qs u l).2.length<=l.length+qs.length
 |[],u,l=>⟨Nat.le_refl _,Nat.le_refl _⟩
 |q::qs,u,l=>by
  rw[HU]
  obtain ⟨h1,h2⟩:=Kx qs (DV (u,l) q).1 (DV (u,l) q).2
  obtain ⟨h3,h4⟩:=Jn q u l
  simp only[List.length_cons]
  lia
theorem VD (x:List D) (k:Int) (h:small k=true) (h2:x.length*k.toNat<=Ap):Aq .Mult (.list x) (.int k)=some (.list (List.replicate k.toNat x).flatten):=by
 show (if small k&&decide (x.length*k.toNat<=Ap) then some (D.list (List.replicate k.toNat x).flatten) else none)=_
 rw[h,decide_eq_true h2];rfl
theorem VE:Bg app lower BJ Jm:=.of λas d h=>by
 obtain ⟨⟨ps,root⟩,e,h'⟩:=Do h
 clear h
 have h:=h'
 clear h'
 subst e
 replace h:(if ps.length<=1000 then some (D.list ((DJ ps root).map B6)) else none)=some d:=h
 revert h
 refine BO λhl h=>?_
 (replace h:=Option.some.inj h;subst h)
 refine ⟨[.list (ps.map B6),.str root],by kernel_rfl,?_⟩
 have hσ:(⟨BJ.xs.zip [.list (ps.map B6),.str root],[],[]⟩:Sg)=⟨[("pairs",.list (ps.map B6)),("root",.str root)],[],[]⟩:=by kernel_rfl
 rw[BX,hσ,Ae app lower BJ 39 1,VA,Ab]
 have hb:(BJ.body.drop 1).take 1=[An BJ 1]:=by kernel_rfl
 have hi:Bu Gl (BV Gl Ak (AC Gl) app lower) BJ.names (MB (.list (ps.map B6)) (.str root) 0 none []).loc (MB (.list (ps.map B6)) (.str root) 0 none []).cel (AK (An BJ 1)) (HP (An BJ 1))=some (ps.map B6).reverse:=by kernel_rfl
 rw[Ae app lower BJ 39 1,hb,Cc app lower BJ 39 (An BJ 1) (by kernel_rfl),hi,bs,<-List.map_reverse]
 obtain ⟨o',hlp⟩:=Oq (app:=app) (lower:=lower) (Dm (Af app lower BJ 40 ((BJ.body.drop 1).drop 1)) Cw) (.list (ps.map B6)) (.str root) ps.reverse 0 none [] (by simpa using hl)
 rw[List.map_nil] at hlp
 rw[hlp,Ab,List.drop_drop,Ae app lower BJ 39 1,R3,List.drop_drop,eq_str,bs]
 obtain ⟨b1,b2⟩:=Kx ps.reverse 0 []
 rw[List.length_reverse] at b1 b2
 rw[List.length_nil] at b2
 unfold DJ
 generalize (Fo ps.reverse 0 []).1=u at b1 ⊢
 generalize (Fo ps.reverse 0 []).2=l at b2 ⊢
 have hm:Aq .Mult (.list [.tuple [.str [46,46],.list [.tuple [.str [46,46],.bool true]]]]) (.int u)=some (.list (List.replicate u (B6 R2))):=by
  refine (VD _ _ (ES (by lia) (by lia)) (Nat.le_trans (Nat.le_of_eq (Nat.one_mul _)) (by simp[Ap];lia))).trans ?_
  simp only[Int.toNat_natCast]
  congr 2
  clear b1
  induction u with
  |zero=>rfl
  |succ u ih=>rw[List.replicate_succ,List.replicate_succ,List.flatten_cons,ih];rfl
 have ha:∀x y:List D,x.length+y.length<=5000->Aq .Add (.list x) (.list y)=some (.list (x++y)):=λx y h=>by
  show (if x.length+y.length<=Ap then some (D.list (x++y)) else none)=_
  rw[if_pos (by simp[Ap];exact Nat.le_trans (by assumption) (by decide))]
 by_cases h0:root=[]
 ·rw[if_pos (beq_iff_eq.mpr h0),if_pos h0,hm,bs,Ab,R4,ha _ _ (by simp;lia),bs]
  simp
 ·rw[if_neg (by rw[beq_iff_eq];exact h0),if_neg h0,Ab,R4,ha _ _ (by simp;lia),bs]
  simp
end
noncomputable def EU (test:Sg->(Bool->Option D)->Option D) (body orelse:Sg->(Fl×Sg->Option D)->Option D):Nat->Sg->(Fl×Sg->Option D)->Option D
 |0,_,_=>none
 |n+1,σ,K=>test σ λb=>if b then body σ (λp=>match p.1 with
  | .next=>EU test body orelse n p.2 K
  | .cont=>EU test body orelse n p.2 K
  | .brk=>K (.next,p.2)
  | .ret v=>K (.ret v,p.2)) else orelse σ K
noncomputable def VF (s:Stmt):Bool:=(WL s).1==2
noncomputable def Nr (s:Stmt):Expr:=(WL s).2.2.1
noncomputable abbrev tC (app lower:Bt) (e:DT) (σ:Sg) (t:Expr) (k:Bool->Option D):Option D:=(cN Gl app (Ak lower) (AC Gl lower) e.names σ.full σ.cel 40).t t k
theorem L0 {test:Sg->Option Bool} {body orelse:Sg->Option (Fl×Sg)} {testC:Sg->(Bool->Option D)->Option D} {bodyC orelseC:Sg->(Fl×Sg->Option D)->Option D}
  (h1:∀σ k,testC σ k=(test σ).bind k) (h2:∀σ k,bodyC σ k=(body σ).bind k) (h3:∀σ k,orelseC σ k=(orelse σ).bind k):∀ (n:Nat) (σ:Sg) (K:Fl×Sg->Option D),(ED test body orelse n σ).bind K=EU testC bodyC orelseC n σ K
 |0,_,_=>rfl
 |n+1,σ,K=>by
  unfold ED EU
  rw[h1]
  cases test σ with
  |none=>rfl
  |some b=>
   cases b with
   |false=>exact (h3 σ K).symm
   |true=>
    show (Option.bind (body σ) _).bind K=bodyC σ _
    rw[h2]
    cases body σ with
    |none=>rfl
    |some p=>
     obtain ⟨f,σ'⟩:=p
     rcases f with _|_<;>first|rfl|exact L0 h1 h2 h3 n σ' K
set_option tactic.hygienic true
theorem Nt (app lower:Bt) (e:DT) (n:Nat) (s:Stmt) (hs:VF s=true) (σ:Sg) (K:Fl×Sg->Option D):Af app lower e (n+1) [s] σ K=
  EU (λσ=>tC app lower e σ (Nr s)) (Af app lower e n (Ah s)) (Af app lower e n (AQ s)) 100 σ K:=by
 rcases s with _|_<;>first|(exact B7 hs;done)|skip
 rename_i t b o p
 show GD _ [.While t b o p] σ K=_
 rw[HQ]
 refine (?_:_=(ED (λσ=>(Dd Gl app (Ak lower) (AC Gl lower) 40).t e.names σ.full σ.cel t) (PX Gl (Dd Gl app (Ak lower) (AC Gl lower) 40) e.names e.owned (CF Gl (BV Gl Ak (AC Gl) app lower) e.names e.owned) 100 n b) (PX Gl (Dd Gl app (Ak lower) (AC Gl lower) 40) e.names e.owned (CF Gl (BV Gl Ak (AC Gl) app lower) e.names e.owned) 100 n o) 100 σ).bind K).trans ?_
 ·rfl
 ·exact L0 (λσ k=>(GY Gl app (Ak lower) (AC Gl lower) e.names σ.full σ.cel 40).2 t k) (λσ k=>Kq n b σ k) (λσ k=>Kq n o σ k) 100 σ K
set_option tactic.hygienic false
noncomputable abbrev CX:DT:=⟨335,73,334,[],false⟩
noncomputable def VG (a b:List D) (c:Nat):Sg:=⟨[("one",.list a),("two",.list b),("count",.int c)],[],[]⟩
noncomputable def Cp:List (List Nat)->List (List Nat)->Nat
 |a::x,b::y=>if a=b then Cp x y+1 else 0
 |_,_=>0
noncomputable def Jo:List D->Option D:=HT (λa:List (List Nat)×List (List Nat)=>[.list (a.1.map .str),.list (a.2.map .str)]) λa=>if a.1.length<90 then some (.list ((a.1.take (Cp a.1 a.2)).map .str)) else none
theorem Ky:∀a b:List Nat,D.str a=D.str b->a=b:=λa b h=>by injection h
theorem fM (a b:List (List Nat)) (h:a.length<90):Jo [.list (a.map .str),.list (b.map .str)]=some (.list ((a.take (Cp a b)).map .str)):=by
 refine (Eb (enc:=λa:List (List Nat)×List (List Nat)=>[.list (a.1.map .str),.list (a.2.map .str)]) (λa b h=>?_) (a,b)).trans (if_pos h)
 obtain ⟨a1,a2⟩:=a
 obtain ⟨b1,b2⟩:=b
 injection h with h1 h2
 injection h1 with h1
 injection h2 with h2
 injection h2 with h2
 have e1:a1=b1:=Cx Ky _ _ h1
 have e2:a2=b2:=Cx Ky _ _ h2
 rw[e1,e2]
section
variable {app lower:Bt}
theorem VH (K:Fl×Sg->Option D) (a b:List D):Af app lower CX 40 (CX.body.take 1) ⟨[("one",.list a),("two",.list b)],[],[]⟩ K=K (.next,VG a b 0):=by kernel_rfl
theorem VI (K:Fl×Sg->Option D) (a b:List D) (c:Nat):Af app lower CX 39 (Ah (An CX 1)) (VG a b c) K=K (.next,VG a b (c+1)):=by kernel_rfl
theorem VJ (k:Bool->Option D) (a b:List D) (c:Nat):tC app lower CX (VG a b c) (Nr (An CX 1)) k=
 (app (.val (.builtin "len")) [.list a]).bind λv1=>(A0 .Lt (.int c) v1).bind λb2=>if b2 then (app (.val (.builtin "len")) [.list b]).bind λv3=>(A0 .Lt (.int c) v3).bind λb4=>if b4 then
  (AW (.list a) (.int c)).bind λv5=>(AW (.list b) (.int c)).bind λv6=>(A0 .Eq v5 v6).bind λb7=>if b7 then k true else k false else k false else k false:=by kernel_rfl
theorem VK (K:Fl×Sg->Option D) (a:List D) (b c:D):Af app lower CX 40 (CX.body.drop 2) ⟨[("one",.list a),("two",b),("count",c)],[],[]⟩ K=(Db (some c)).bind λi=>(A8 (.list a) none i).bind λv=>K (.ret v,⟨[("one",.list a),("two",b),("count",c)],[],[]⟩):=by kernel_rfl
theorem YJ (K:Fl×Sg->Option D) (a b:List D) (c:Nat):Af app lower CX 40 (CX.body.drop 2) (VG a b c) K=(Db (some (.int c))).bind λi=>(A8 (.list a) none i).bind λv=>K (.ret v,VG a b c):=VK ..
theorem R5 (B:CW app) (a:List D):app (.val (.builtin "len")) [.list a]=some (.int a.length):=B.b _ _
theorem Ec {a:List D} {c:Nat} {d:D} (h:a[c]?=some d):AW (.list a) (.int c)=some d:=by
 obtain ⟨h1,h2⟩:=List.getElem?_eq_some_iff.mp h
 show (DH a.length (c:Int)).bind (λj=>a[j]?)=_
 rw[ET (by lia) (by lia)]
 exact h
theorem Os (B:CW app) (K:Fl×Sg->Option D) (x y:List (List Nat)):∀ (n c:Nat),c<=x.length->x.length<n+c->
  EU (λσ=>tC app lower CX σ (Nr (An CX 1))) (Af app lower CX 39 (Ah (An CX 1))) (Af app lower CX 39 (AQ (An CX 1))) n (VG (x.map .str) (y.map .str) c) K=K (.next,VG (x.map .str) (y.map .str) (c+Cp (x.drop c) (y.drop c)))
 |0,c,h1,h2=>by lia
 |n+1,c,h1,h2=>by
  have he:AQ (An CX 1)=[]:=by kernel_rfl
  unfold EU
  rw[VJ,R5 B,bs]
  have e1:A0 .Lt (.int c) (.int (x.map D.str).length)=some (decide (c<x.length)):=by
   show some (decide ((c:Int)<((x.map D.str).length:Int)))=_
   simp
  have e2:A0 .Lt (.int c) (.int (y.map D.str).length)=some (decide (c<y.length)):=by
   show some (decide ((c:Int)<((y.map D.str).length:Int)))=_
   simp
  rw[e1,bs]
  by_cases q1:c<x.length
  rotate_left
  ·rw[decide_eq_false q1,GE,GE,he,BL,show x.drop c=[] from List.drop_eq_nil_of_le (by lia)];rfl
  rw[decide_eq_true q1,Pn,R5 B,bs,e2,bs]
  by_cases q2:c<y.length
  rotate_left
  ·rw[decide_eq_false q2,GE,GE,he,BL,show y.drop c=[] from List.drop_eq_nil_of_le (by lia)]
   cases x.drop c<;>rfl
  rw[decide_eq_true q2,Pn]
  have g1:(x.map D.str)[c]?=some (.str x[c]):=by simp[q1]
  have g2:(y.map D.str)[c]?=some (.str y[c]):=by simp[q2]
  rw[Ec g1,bs,Ec g2,bs,eq_str,bs]
  rw[List.drop_eq_getElem_cons q1,List.drop_eq_getElem_cons q2]
  unfold Cp
  by_cases q3:x[c]=y[c]
  ·rw[if_pos q3,if_pos (beq_iff_eq.mpr q3),if_pos rfl,VI]
   have:=Os B K x y n (c+1) (by lia) (by lia)
   show EU _ _ _ n (VG (x.map .str) (y.map .str) (c+1)) K=_
   rw[this]
   congr 3
   lia
  ·rw[if_neg q3,if_neg (by rw[beq_iff_eq];exact q3),GE,he,BL];rfl
theorem VL (B:CW app):Bg app lower CX Jo:=.of λas d h=>by
 obtain ⟨⟨x,y⟩,e,h'⟩:=Do h
 clear h
 have h:=h'
 clear h'
 subst e
 replace h:(if x.length<90 then some (D.list ((x.take (Cp x y)).map .str)) else none)=some d:=h
 revert h
 refine BO λhl h=>?_
 (replace h:=Option.some.inj h;subst h)
 refine ⟨[.list (x.map .str),.list (y.map .str)],by kernel_rfl,?_⟩
 have hσ:(⟨CX.xs.zip [.list (x.map .str),.list (y.map .str)],[],[]⟩:Sg)=⟨[("one",.list (x.map .str)),("two",.list (y.map .str))],[],[]⟩:=by kernel_rfl
 rw[BX,hσ,Ae app lower CX 39 1,VH,Ab]
 have hb:(CX.body.drop 1).take 1=[An CX 1]:=by kernel_rfl
 rw[Ae app lower CX 39 1,hb,Nt app lower CX 39 (An CX 1) (by kernel_rfl),Os B _ x y 100 0 (by lia) (by lia),Ab,List.drop_drop,YJ]
 have e0:0+Cp (x.drop 0) (y.drop 0)=Cp x y:=by simp
 rw[e0]
 have hb:Cp x y<90:=by
  have:∀x y,Cp x y<=x.length:=λx=>by
   induction x with
   |nil=>intro y;simp[Cp]
   |cons a x ih=>
    intro y
    cases y with
    |nil=>simp[Cp]
    |cons b y=>
     unfold Cp
     split
     ·simp;exact ih y
     ·simp
  have:=this x y
  lia
 generalize Cp x y=c at hb ⊢
 rw[Ea (ES (by lia) (by lia)),bs]
 show (some (D.list (AN (x.map D.str) none (some (c:Int))))).bind _=_
 rw[C8,<-List.map_take]
 rfl
end
noncomputable abbrev AA:DT:=⟨274,63,273,["perm"],false⟩
noncomputable def L3:List (List (Int×Nat)):=[[(40960,108),(49152,115),(32768,45),(24576,98),(16384,100),(8192,99),(4096,112)],[(256,114)],[(128,119)],[(2112,115),(2048,83),(64,120)],[(32,114)],[(16,119)],[(1032,115),(1024,83),(8,120)],[(4,114)],[(2,119)],[(513,116),(512,84),(1,120)]]
noncomputable def IC (p:Int×Nat):D:=.tuple [.int p.1,.str [p.2]]
noncomputable def L4 (p:List (Int×Nat)×Nat):D:=.tuple [.int p.2,.tuple (p.1.map IC)]
noncomputable def BQ (i:Nat) (m:Int):List (Int×Nat)->Nat
 |[]=>if i=0 then 63 else 45
 |p::r=>if i=0 then (if Builtin.bitAnd m 61440=p.1 then p.2 else BQ i m r) else (if Builtin.bitAnd m p.1=p.1 then p.2 else BQ i m r)
noncomputable def Bz (m:Int):List Nat:=L3.zipIdx.map λp=>BQ p.2 m p.1
noncomputable def L5 (as:List D):Option D:=Et as λd=>match d with| .int m=>some (.str (Bz m))|_=>none
noncomputable def EV (m:Int) (it:Option (List (Int×Nat)×Nat)) (bc:Option (Int×Nat)) (ds:List D):Sg:=
 match it with
 |none=>⟨[("mode",.int m)],[("perm",ds)],[]⟩
 |some p=>match bc with
  |none=>⟨[("mode",.int m),("index",.int p.2),("table",.tuple (p.1.map IC))],[("perm",ds)],[]⟩
  |some q=>⟨[("mode",.int m),("index",.int p.2),("table",.tuple (p.1.map IC)),("bit",.int q.1),("char",.str [q.2])],[("perm",ds)],[]⟩
section
variable {app lower:Bt}
theorem VM (K:Fl×Sg->Option D) (m:Int):Af app lower AA 40 (AA.body.take 1) ⟨[("mode",.int m)],[],[]⟩ K=K (.next,EV m none none []):=by kernel_rfl
noncomputable def Kz:Stmt:=(Ah (An AA 1)).headD (.Pass default)
theorem VN (K:Fl×Sg->Option D) (m:Int) (p:List (Int×Nat)×Nat) (q:Int×Nat) (ds:List D):Af app lower AA 38 (Ah Kz) (EV m (some p) (some q) ds) K=
 (A0 .Eq (.int p.2) (.int 0)).bind λb1=>if b1 then (app (.val (.ref 227)) [.int m]).bind λv2=>(A0 .Eq v2 (.int q.1)).bind λb3=>if b3 then if ds.length<Ap then K (.brk,EV m (some p) (some q) (ds++[.str [q.2]])) else none else K (.next,EV m (some p) (some q) ds)
  else (Aq .BitAnd (.int m) (.int q.1)).bind λv4=>(A0 .Eq v4 (.int q.1)).bind λb5=>if b5 then if ds.length<Ap then K (.brk,EV m (some p) (some q) (ds++[.str [q.2]])) else none else K (.next,EV m (some p) (some q) ds):=by kernel_rfl
theorem R6 (K:Fl×Sg->Option D) (m:Int) (p:List (Int×Nat)×Nat) (q:Int×Nat) (ds:List D):Af app lower AA 38 (AQ Kz) (EV m (some p) (some q) ds) K=
 (A0 .Eq (.int p.2) (.int 0)).bind λb1=>if b1 then if ds.length<Ap then K (.next,EV m (some p) (some q) (ds++[.str [63]])) else none else if ds.length<Ap then K (.next,EV m (some p) (some q) (ds++[.str [45]])) else none:=by kernel_rfl
theorem Pt (m:Int) (p:List (Int×Nat)×Nat) (q:Int×Nat) (ds:List D):AO AA.names AA.owned (AK Kz) (IC q) (EV m (some p) none ds)=some (EV m (some p) (some q) ds):=by kernel_rfl
theorem Pu (m:Int) (p:List (Int×Nat)×Nat) (q0 q:Int×Nat) (ds:List D):AO AA.names AA.owned (AK Kz) (IC q) (EV m (some p) (some q0) ds)=some (EV m (some p) (some q) ds):=by kernel_rfl
theorem Pv (m:Int) (p:List (Int×Nat)×Nat) (ds:List D):AO AA.names AA.owned (AK (An AA 1)) (L4 p) (EV m none none ds)=some (EV m (some p) none ds):=by kernel_rfl
theorem Pw (m:Int) (p0 p:List (Int×Nat)×Nat) (bc:Option (Int×Nat)) (ds:List D):AO AA.names AA.owned (AK (An AA 1)) (L4 p) (EV m (some p0) bc ds)=some (EV m (some p) bc ds):=by
 rcases bc with _|_<;>kernel_rfl
theorem R7 (m:Int) (p:List (Int×Nat)×Nat) (bc:Option (Int×Nat)) (ds:List D):Bu Gl (BV Gl Ak (AC Gl) app lower) AA.names (EV m (some p) bc ds).loc (EV m (some p) bc ds).cel (AK Kz) (HP Kz)=some (p.1.map IC):=by
 rcases bc with _|_<;>kernel_rfl
theorem R8 (m:Int):Bu Gl (BV Gl Ak (AC Gl) app lower) AA.names (EV m none none []).loc (EV m none none []).cel (AK (An AA 1)) (HP (An AA 1))=some (L3.zipIdx.map L4):=by kernel_rfl
theorem R9:Ah (An AA 1)=[Kz]:=by kernel_rfl
theorem YK (m:Int) (p:List (Int×Nat)×Nat) (q:Int×Nat) (ds:List D):Af app lower AA 40 (AA.body.drop 2) (EV m (some p) (some q) ds) Cw=(Ak lower (.str []) "join" [.list ds]).bind λv=>some v:=by kernel_rfl
theorem cq (i:Nat):A0 .Eq (.int i) (.int 0)=some (decide (i=0)):=by
 show some (((i:Int)==0))=_
 congr 1
 by_cases h:i=0
 ·subst h;rfl
 ·rw[decide_eq_false h];simp;exact h
theorem L6 (h227:∀as,app (.val (.ref 227)) as=F9 as) (m:Int) (p:List (Int×Nat)×Nat) (ds:List D) (hl:ds.length<=100) (K:Fl×Sg->Option D):∀ (es:List (Int×Nat)) (o:Option (Int×Nat)),(o=none->es≠[])->∃o',o'≠none/\
  CG (AO AA.names AA.owned (AK Kz)) (Af app lower AA 38 (Ah Kz)) (Af app lower AA 38 (AQ Kz)) (es.map IC) (EV m (some p) o ds) K=K (.next,EV m (some p) o' (ds++[.str [BQ p.2 m es]]))
 |[],none,h=>(h rfl rfl).elim
 |[],some q,_=>by
  refine ⟨some q,nofun,?_⟩
  have hL:ds.length<Ap:=by unfold Ap;exact Nat.lt_of_le_of_lt (by assumption) (by decide)
  rw[List.map_nil,Cd,R6,cq,bs]
  unfold BQ
  by_cases h:p.2=0
  ·rw[decide_eq_true h,Pn,if_pos h,if_pos hL]
  ·rw[decide_eq_false h,GE,if_neg h,if_pos hL]
 |q::es,o,_=>by
  have hb:AO AA.names AA.owned (AK Kz) (IC q) (EV m (some p) o ds)=some (EV m (some p) (some q) ds):=by
   cases o with
   |none=>exact Pt m p q ds
   |some q0=>exact Pu m p q0 q ds
  have hL:ds.length<Ap:=by unfold Ap;exact Nat.lt_of_le_of_lt (by assumption) (by decide)
  have hB:Af app lower AA 38 (Ah Kz) (EV m (some p) (some q) ds) (Fn (AO AA.names AA.owned (AK Kz)) (Af app lower AA 38 (Ah Kz)) (Af app lower AA 38 (AQ Kz)) (es.map IC) K)=
    if (if p.2=0 then Builtin.bitAnd m 61440=q.1 else Builtin.bitAnd m q.1=q.1) then K (.next,EV m (some p) (some q) (ds++[.str [q.2]])) else CG (AO AA.names AA.owned (AK Kz)) (Af app lower AA 38 (Ah Kz)) (Af app lower AA 38 (AQ Kz)) (es.map IC) (EV m (some p) (some q) ds) K:=by
   rw[VN,cq,bs,h227]
   have e1:F9 [.int m]=some (.int (Builtin.bitAnd m 61440)):=rfl
   have e2:Aq .BitAnd (.int m) (.int q.1)=some (.int (Builtin.bitAnd m q.1)):=rfl
   rw[e1,bs,Op,bs,e2,bs,Op,bs]
   by_cases h:p.2=0
   ·rw[decide_eq_true h,Pn]
    simp only[if_pos h]
    by_cases h2:Builtin.bitAnd m 61440=q.1
    ·rw[if_pos (beq_iff_eq.mpr h2),if_pos h2,if_pos hL];rfl
    ·rw[if_neg (by rw[beq_iff_eq];exact h2),if_neg h2];rfl
   ·rw[decide_eq_false h,GE]
    simp only[if_neg h]
    by_cases h2:Builtin.bitAnd m q.1=q.1
    ·rw[if_pos (beq_iff_eq.mpr h2),if_pos h2,if_pos hL];rfl
    ·rw[if_neg (by rw[beq_iff_eq];exact h2),if_neg h2];rfl
  refine Mine.S0 (L6 h227 m p ds hl K es (some q) nofun) λo' ho hI=>?_
  by_cases hc:(if p.2=0 then Builtin.bitAnd m 61440=q.1 else Builtin.bitAnd m q.1=q.1)
  ·refine ⟨some q,nofun,?_⟩
   rw[List.map_cons,Be hb,hB,if_pos hc]
   unfold BQ
   by_cases h:p.2=0
   ·rw[if_pos h] at hc ⊢;rw[if_pos hc]
   ·rw[if_neg h] at hc ⊢;rw[if_pos hc]
  ·refine ⟨o',ho,?_⟩
   rw[List.map_cons,Be hb,hB,if_neg hc,hI]
   conv=>rhs;unfold BQ
   by_cases h:p.2=0
   ·rw[if_pos h] at hc ⊢;rw[if_neg hc]
   ·rw[if_neg h] at hc ⊢;rw[if_neg hc]
theorem L7 (h227:∀as,app (.val (.ref 227)) as=F9 as) (m:Int) (K:Fl×Sg->Option D):∀ (ts:List (List (Int×Nat)×Nat)) (it:Option (List (Int×Nat)×Nat)) (o:Option (Int×Nat)) (ds:List D),(∀p∈ts,p.1≠[])->ds.length+ts.length<=100->(it=none->o=none)->ts≠[]->∃p q,
  CG (AO AA.names AA.owned (AK (An AA 1))) (Af app lower AA 39 (Ah (An AA 1))) (Af app lower AA 39 (AQ (An AA 1))) (ts.map L4) (EV m it o ds) K=K (.next,EV m (some p) (some q) (ds++ts.map λp=>.str [BQ p.2 m p.1]))
 |[],_,_,_,_,_,_,h=>(h rfl).elim
 |p::ts,it,o,ds,h1,h2,h3,_=>by
  have h2':ds.length+(ts.length+1)<=100:=h2
  have hb:AO AA.names AA.owned (AK (An AA 1)) (L4 p) (EV m it o ds)=some (EV m (some p) o ds):=by
   cases it with
   |none=>rw[h3 rfl];exact Pv m p ds
   |some p0=>exact Pw m p0 p o ds
  refine Mine.S0 (L6 (lower:=lower) h227 m p ds (by lia) (Fn (AO AA.names AA.owned (AK (An AA 1))) (Af app lower AA 39 (Ah (An AA 1))) (Af app lower AA 39 (AQ (An AA 1))) (ts.map L4) K) p.1 o (λ_=>h1 p (by exact List.mem_cons_self))) λo' ho hI=>?_
  have hB:Af app lower AA 39 (Ah (An AA 1)) (EV m (some p) o ds) (Fn (AO AA.names AA.owned (AK (An AA 1))) (Af app lower AA 39 (Ah (An AA 1))) (Af app lower AA 39 (AQ (An AA 1))) (ts.map L4) K)=
    CG (AO AA.names AA.owned (AK (An AA 1))) (Af app lower AA 39 (Ah (An AA 1))) (Af app lower AA 39 (AQ (An AA 1))) (ts.map L4) (EV m (some p) o' (ds++[.str [BQ p.2 m p.1]])) K:=by
   conv=>lhs;rw[R9]
   rw[Cc app lower AA 38 Kz (by kernel_rfl),R7,bs]
   exact hI
  have he:AQ (An AA 1)=[]:=by kernel_rfl
  obtain ⟨q',rfl⟩:∃q',o'=some q':=by
   cases o' with
   |none=>exact (ho rfl).elim
   |some q=>exact ⟨q,rfl⟩
  cases ts with
  |nil=>
   refine ⟨p,q',?_⟩
   rw[List.map_cons,Be hb,hB,List.map_nil,Cd,he,BL]
   rfl
  |cons p2 ts=>
   obtain ⟨p',q2,hR⟩:=L7 h227 m K (p2::ts) (some p) (some q') (ds++[.str [BQ p.2 m p.1]]) (λp h=>h1 p (by simp[h])) (by simp;simp at h2';lia) nofun nofun
   refine ⟨p',q2,?_⟩
   rw[List.map_cons,Be hb,hB,hR]
   simp
theorem VO (lower:Bt) {ds:List D} {xs:List (List Nat)} (h:A7 ds=some xs) (h1:(xs.map List.length).sum<=100000):Ak lower (.str []) "join" [.list ds]=some (.str xs.flatten):=by
 show ((A7 ds).bind λxs=>if (xs.map List.length).sum+xs.length*([]:List Nat).length<=Ap/\(Ao [] xs).length<=Ap then some (D.str (Ao [] xs)) else none)=_
 rw[h]
 show (if (xs.map List.length).sum+xs.length*0<=Ap/\(Ao [] xs).length<=Ap then some (D.str (Ao [] xs)) else none)=_
 rw[GA,List.length_flatten,if_pos ⟨by unfold Ap;lia,by unfold Ap;exact Nat.le_trans (by assumption) (by decide)⟩]
theorem VP (h227:∀as,app (.val (.ref 227)) as=F9 as):Bg app lower AA L5:=.of λas d h=>by
 replace h:=Ci h
 revert h
 refine Mine.T0 λm eq1 h=>?_
 subst eq1
 (replace h:=Option.some.inj h;subst h)
 refine ⟨[.int m],by kernel_rfl,?_⟩
 have hσ:(⟨AA.xs.zip [.int m],[],[]⟩:Sg)=⟨[("mode",.int m)],[],[]⟩:=by kernel_rfl
 rw[BX,hσ,Ae app lower AA 39 1,VM,Ab]
 have hb:(AA.body.drop 1).take 1=[An AA 1]:=by kernel_rfl
 rw[Ae app lower AA 39 1,hb,Cc app lower AA 39 (An AA 1) (by kernel_rfl),R8,bs]
 refine Mine.S2 (L7 (lower:=lower) h227 m (Dm (Af app lower AA 40 ((AA.body.drop 1).drop 1)) Cw) L3.zipIdx none none [] (by decide+kernel) (by decide+kernel) (λ_=>rfl) (by decide+kernel)) λp q hO=>?_
 rw[hO,Ab,List.drop_drop,YK,List.nil_append]
 have e1:(L3.zipIdx.map λp=>D.str [BQ p.2 m p.1])=(L3.zipIdx.map λp=>[BQ p.2 m p.1]).map .str:=by rw[List.map_map];rfl
 rw[e1]
 have e2:(L3.zipIdx.map λp=>[BQ p.2 m p.1]).flatten=Bz m:=by
  unfold Bz
  generalize L3.zipIdx=l
  induction l with
  |nil=>rfl
  |cons a l ih=>simp only[List.map_cons,List.flatten_cons,ih];rfl
 have e3:(Bz m).length=10:=by
  unfold Bz
  rw[List.length_map];decide+kernel
 have e4:Ak lower (.str []) "join" [.list ((L3.zipIdx.map λp=>[BQ p.2 m p.1]).map .str)]=some (.str (Bz m)):=by
  rw[VO lower (Bj _),e2]
  rw[<-List.length_flatten,e2,e3]
  decide
 rw[e4,bs]
end
noncomputable abbrev AF:DT:=⟨208,37,207,["new_comps"],false⟩
noncomputable def Bc (r:List Nat) (l:List (List Nat)) (c:List Nat):List (List Nat):=
 if c=[]\/c=[46] then l else if c≠[46,46]\/(r=[]/\l=[])\/l.getLast?=some [46,46] then l++[c] else l.dropLast
noncomputable def AR (r:List Nat) (cs:List (List Nat)):List (List Nat):=cs.foldl (Bc r) []
noncomputable def Jp (x:List Nat):List Nat:=if x.isEmpty then [46] else x
noncomputable def Bh (x:List Nat):List Nat:=if x.isEmpty then [46] else Jp ((Bf x).1++Ao [47] (AR (Bf x).1 (Ai 47 (Bf x).2)))
noncomputable def HV (as:List D):Option D:=Et as λd=>match d with| .str x=>if x.length<=40000 then some (.str (Bh x)) else none|_=>none
noncomputable def Hc (p e cs:D) (r:List Nat) (c:Option (List Nat)) (ds:List D):Sg:=
 match c with
 |none=>⟨[("path",p),("sep",.str [47]),("dot",.str [46]),("dotdot",.str [46,46]),("_",e),("initial_slashes",.str r),("comps",cs)],[("new_comps",ds)],[]⟩
 |some c=>⟨[("path",p),("sep",.str [47]),("dot",.str [46]),("dotdot",.str [46,46]),("_",e),("initial_slashes",.str r),("comps",cs),("comp",.str c)],[("new_comps",ds)],[]⟩
section
variable {app lower:Bt}
theorem fN (K:Fl×Sg->Option D) (x:List Nat):Af app lower AF 40 (AF.body.take 2) ⟨[("path",.str x)],[],[]⟩ K=
 (app (.val (.ref 166)) [.str x]).bind λv1=>(app (.val (.builtin "isinstance")) [v1,.val (.type "bytes")]).bind λv2=>(Ay v2).bind λb3=>if b3 then none else
  K (.next,⟨[("path",v1),("sep",.str [47]),("dot",.str [46]),("dotdot",.str [46,46])],[],[]⟩):=by kernel_rfl
theorem fO (K:Fl×Sg->Option D) (p:D):Af app lower AF 40 ((AF.body.drop 2).take 1) ⟨[("path",p),("sep",.str [47]),("dot",.str [46]),("dotdot",.str [46,46])],[],[]⟩ K=
 (Ay p).bind λb=>if !b then K (.ret (.str [46]),⟨[("path",p),("sep",.str [47]),("dot",.str [46]),("dotdot",.str [46,46])],[],[]⟩) else
  K (.next,⟨[("path",p),("sep",.str [47]),("dot",.str [46]),("dotdot",.str [46,46])],[],[]⟩):=by kernel_rfl
set_option tactic.hygienic true
theorem fP (K:Fl×Sg->Option D) (p:D):Af app lower AF 40 ((AF.body.drop 3).take 1) ⟨[("path",p),("sep",.str [47]),("dot",.str [46]),("dotdot",.str [46,46])],[],[]⟩ K=
 (app (.val (.ref 194)) [p]).bind λv=>(Hi AF.names AF.owned ["_","initial_slashes","path"] (v,⟨[("path",p),("sep",.str [47]),("dot",.str [46]),("dotdot",.str [46,46])],[],[]⟩)).bind (Dm (λσ K=>K (.next,σ)) K):=by kernel_rfl
set_option tactic.hygienic false
theorem YL (p a b c:D):Hi AF.names AF.owned ["_","initial_slashes","path"] (.tuple [a,b,c],⟨[("path",p),("sep",.str [47]),("dot",.str [46]),("dotdot",.str [46,46])],[],[]⟩)=
 some (.next,⟨[("path",c),("sep",.str [47]),("dot",.str [46]),("dotdot",.str [46,46]),("_",a),("initial_slashes",b)],[],[]⟩):=by kernel_rfl
theorem fQ (K:Fl×Sg->Option D) (p e:D) (r:List Nat):Af app lower AF 40 ((AF.body.drop 4).take 2) ⟨[("path",p),("sep",.str [47]),("dot",.str [46]),("dotdot",.str [46,46]),("_",e),("initial_slashes",.str r)],[],[]⟩ K=
 (Ak lower p "split" [.str [47]]).bind λv=>K (.next,Hc p e v r none []):=by kernel_rfl
theorem VQ (p e cs:D) (r:List Nat) (o:Option (List Nat)) (c:List Nat) (ds:List D):AO AF.names AF.owned (AK (An AF 6)) (.str c) (Hc p e cs r o ds)=some (Hc p e cs r (some c) ds):=by rcases o with _|_<;>kernel_rfl
theorem VR (p e:D) (r:List Nat) (cs ds:List D):Bu Gl (BV Gl Ak (AC Gl) app lower) AF.names (Hc p e (.list cs) r none ds).loc (Hc p e (.list cs) r none ds).cel (AK (An AF 6)) (HP (An AF 6))=some cs:=by kernel_rfl
noncomputable def HW (K:Fl×Sg->Option D) (S:List D->Sg) (ds:List D) (c:List Nat):Option D:=if ds.length<Ap then K (.next,S (ds++[.str c])) else none
noncomputable def Ot (K:Fl×Sg->Option D) (S:List D->Sg) (ds:List D):Option D:=(Ay (.list ds)).bind λb9=>if b9 then (ds.getLast?).bind λz=>if z.scalar then K (.next,S ds.dropLast) else none else K (.next,S ds)
noncomputable def GG (K:Fl×Sg->Option D) (S:List D->Sg) (ds:List D) (c:List Nat):Option D:=(Ay (.list ds)).bind λb=>if b then (AW (.list ds) (.int (-1))).bind λv=>(A0 .Eq v (.str [46,46])).bind λb=>if b then HW K S ds c else Ot K S ds else Ot K S ds
theorem VS (K:Fl×Sg->Option D) (p e cs:D) (r c:List Nat) (ds:List D):Af app lower AF 39 (Ah (An AF 6)) (Hc p e cs r (some c) ds) K=
 (Ay (.str c)).bind λb1=>if !b1 then K (.cont,Hc p e cs r (some c) ds) else (A0 .Eq (.str c) (.str [46])).bind λb2=>if b2 then K (.cont,Hc p e cs r (some c) ds) else (A0 .NotEq (.str c) (.str [46,46])).bind λb3=>if b3 then HW K (Hc p e cs r (some c)) ds c else
  (Ay (.str r)).bind λb4=>if !b4 then (Ay (.list ds)).bind λb5=>if !b5 then HW K (Hc p e cs r (some c)) ds c else GG K (Hc p e cs r (some c)) ds c else GG K (Hc p e cs r (some c)) ds c:=by kernel_rfl
theorem VT (p e cs r:D) (ds:List D):Af app lower AF 40 (AF.body.drop 7) ⟨[("path",p),("sep",.str [47]),("dot",.str [46]),("dotdot",.str [46,46]),("_",e),("initial_slashes",r),("comps",cs)],[("new_comps",ds)],[]⟩ Cw=
 (Ak lower (.str [47]) "join" [.list ds]).bind λv1=>(Aq .Add r v1).bind λv2=>(Ay v2).bind λb3=>if b3 then some v2 else some (.str [46]):=by kernel_rfl
theorem VU (p e cs r c:D) (ds:List D):Af app lower AF 40 (AF.body.drop 7) ⟨[("path",p),("sep",.str [47]),("dot",.str [46]),("dotdot",.str [46,46]),("_",e),("initial_slashes",r),("comps",cs),("comp",c)],[("new_comps",ds)],[]⟩ Cw=
 (Ak lower (.str [47]) "join" [.list ds]).bind λv1=>(Aq .Add r v1).bind λv2=>(Ay v2).bind λb3=>if b3 then some v2 else some (.str [46]):=by kernel_rfl
theorem fR (x:List Nat):Jg [.str x]=some (.tuple [.str [],.str (Bf x).1,.str (Bf x).2]):=rfl
theorem KA (lower:Bt) {x:List Nat} (h:x.length<=100000):Ak lower (.str x) "split" [.str [47]]=some (.list ((Ai 47 x).map .str)):=by
 show (if ([47]:List Nat).length=1/\x.length+2<=Ap then some (D.list ((Ai 47 x).map .str)) else none)=_
 rw[if_pos ⟨rfl,by unfold Ap;lia⟩]
theorem Hd (ds:List D):Ay (.list ds)=some (!ds.isEmpty):=rfl
theorem Sa (l:List (List Nat)) (x:List Nat):((l++[x]).map D.str).getLast?=some (.str x):=by simp
theorem Px (l:List (List Nat)) (x:List Nat):AW (.list ((l++[x]).map .str)) (.int (-1))=some (.str x):=by
 show (DH ((l++[x]).map D.str).length (-1)).bind _=_
 have e:DH ((l++[x]).map D.str).length (-1)=some l.length:=by
  unfold DH
  rw[if_neg (by lia),if_pos (by simp;lia)]
  simp
  lia
 rw[e,bs]
 simp
theorem Sb (K:Fl×Sg->Option D) (S:List D->Sg) (l:List (List Nat)):Ot K S (l.map .str)=K (.next,S (l.dropLast.map .str)):=by
 unfold Ot
 rcases List.eq_nil_or_concat l with rfl|⟨l',x,rfl⟩
 ·rfl
 ·rw[List.concat_eq_append,Hd,bs,Sa,bs,Nm,if_pos (by simp),if_pos rfl]
  simp
theorem KC (K:Fl×Sg->Option D) (S:List D->Sg) (l:List (List Nat)) (c:List Nat) (hl:l.length<=200000):HW K S (l.map .str) c=K (.next,S ((l++[c]).map .str)):=by
 unfold HW
 rw[if_pos (by rw[List.length_map];unfold Ap;exact Nat.lt_of_le_of_lt (by assumption) (by decide))]
 simp
theorem VV (K:Fl×Sg->Option D) (S:List D->Sg) (l:List (List Nat)) (c:List Nat) (hl:l.length<=200000):GG K S (l.map .str) c=if l.getLast?=some [46,46] then K (.next,S ((l++[c]).map .str)) else K (.next,S (l.dropLast.map .str)):=by
 unfold GG
 rcases List.eq_nil_or_concat l with rfl|⟨l',x,rfl⟩
 ·exact Sb K S []
 ·rw[List.concat_eq_append] at hl ⊢
  rw[Hd,bs,if_pos (by simp),Px,bs,eq_str,bs,Sb,KC _ _ _ _ hl]
  simp
theorem VW (K:Fl×Sg->Option D) (p e cs:D) (r c:List Nat) (l:List (List Nat)) (hl:l.length<=200000) (ds:List D):Af app lower AF 39 (Ah (An AF 6)) (Hc p e cs r (some c) (l.map .str)) (Fn (AO AF.names AF.owned (AK (An AF 6))) (Af app lower AF 39 (Ah (An AF 6))) (Af app lower AF 39 (AQ (An AF 6))) ds K)=
  CG (AO AF.names AF.owned (AK (An AF 6))) (Af app lower AF 39 (Ah (An AF 6))) (Af app lower AF 39 (AQ (An AF 6))) ds (Hc p e cs r (some c) ((Bc r l c).map .str)) K:=by
 rw[VS,FD,bs]
 generalize hK:Fn (AO AF.names AF.owned (AK (An AF 6))) (Af app lower AF 39 (Ah (An AF 6))) (Af app lower AF 39 (AQ (An AF 6))) ds K=K'
 generalize hF:CG (AO AF.names AF.owned (AK (An AF 6))) (Af app lower AF 39 (Ah (An AF 6))) (Af app lower AF 39 (AQ (An AF 6))) ds (Hc p e cs r (some c) ((Bc r l c).map .str)) K=R
 have g1:∀l',l'=Bc r l c->K' (.next,Hc p e cs r (some c) (l'.map .str))=R:=λl' h=>by rw[h,<-hK,Bv,hF]
 have g2:∀l',l'=Bc r l c->K' (.cont,Hc p e cs r (some c) (l'.map .str))=R:=λl' h=>by rw[h,<-hK,Np,hF]
 clear hK hF
 by_cases h1:c=[]
 ·rw[if_pos (by rw[h1];decide),g2 _ (by unfold Bc;rw[if_pos (.inl h1)])]
 rw[if_neg (by simpa using h1),eq_str,bs]
 by_cases h2:c=[46]
 ·rw[if_pos (by rw[h2];decide),g2 _ (by unfold Bc;rw[if_pos (.inr h2)])]
 rw[if_neg (by simpa using h2),ne_str,bs]
 have hn:Bc r l c=if c≠[46,46]\/(r=[]/\l=[])\/l.getLast?=some [46,46] then l++[c] else l.dropLast:=by
  unfold Bc
  rw[if_neg (by rintro (h|h);exact h1 h;exact h2 h)]
 by_cases h3:c=[46,46]
 rotate_left
 ·rw[if_pos (by simpa using h3),KC _ _ _ _ hl,g1 _ (by rw[hn,if_pos (.inl h3)])]
 have hT:GG K' (Hc p e cs r (some c)) (l.map .str) c=if l.getLast?=some [46,46] then K' (.next,Hc p e cs r (some c) ((l++[c]).map .str)) else K' (.next,Hc p e cs r (some c) (l.dropLast.map .str)):=VV _ _ _ _ hl
 have hT2:¬ (r=[]/\l=[])->GG K' (Hc p e cs r (some c)) (l.map .str) c=R:=λh=>by
  rw[hT]
  split
  ·rename_i h4
   rw[g1 _ (by rw[hn,if_pos (.inr (.inr h4))])]
  ·rename_i h4
   rw[g1 _ (by rw[hn,if_neg];rintro (h5|h5|h5);exact h5 h3;exact h h5;exact h4 h5)]
 rw[if_neg (by rw[h3];decide),FD,bs,Hd,bs]
 by_cases h4:r=[]
 rotate_left
 ·rw[if_neg (by simpa using h4),hT2 (λh=>h4 h.1)]
 rw[if_pos (by rw[h4];decide)]
 by_cases h5:l=[]
 ·rw[if_pos (by rw[h5];decide),KC _ _ _ _ hl,g1 _ (by rw[hn,if_pos (.inr (.inl ⟨h4,h5⟩))])]
 ·rw[if_neg (by simpa using h5),hT2 (λh=>h5 h.2)]
theorem Jq (r:List Nat) (l:List (List Nat)) (c:List Nat):(Bc r l c).length<=l.length+1:=by
 unfold Bc
 split
 ·lia
 split
 ·simp
 ·simp;lia
theorem Ou (K:Fl×Sg->Option D) (p e cs0:D) (r:List Nat):∀ (cs:List (List Nat)) (o:Option (List Nat)) (l:List (List Nat)),l.length+cs.length<=200000->∃o',
  CG (AO AF.names AF.owned (AK (An AF 6))) (Af app lower AF 39 (Ah (An AF 6))) (Af app lower AF 39 (AQ (An AF 6))) (cs.map .str) (Hc p e cs0 r o (l.map .str)) K=K (.next,Hc p e cs0 r o' ((cs.foldl (Bc r) l).map .str))
 |[],o,l,_=>by
  have he:AQ (An AF 6)=[]:=by kernel_rfl
  refine ⟨o,?_⟩
  rw[List.map_nil,Cd,he,BL]
  rfl
 |c::cs,o,l,hl=>by
  have hl':l.length+(cs.length+1)<=200000:=hl
  have h2:=Jq r l c
  obtain ⟨o',h⟩:=Ou K p e cs0 r cs (some c) (Bc r l c) (by lia)
  refine ⟨o',?_⟩
  rw[List.map_cons,Be (VQ p e cs0 r o c _),VW _ p e cs0 r c l (by lia),h]
  rfl
theorem Ed (c:Nat):∀x:List Nat,(Ai c x).length<=x.length+1/\((Ai c x).map List.length).sum<=x.length
 |[]=>by simp[Ai]
 |a::x=>by
  have ih:=Ed c x
  unfold Ai
  split
  ·simp;lia
  ·refine Mine.S2 (List.exists_cons_of_ne_nil (E9 c x)) λq qs hq=>?_
   rw[hq] at ih ⊢
   simp at ih ⊢
   lia
theorem Py (r:List Nat) (l:List (List Nat)) (c:List Nat):((Bc r l c).map List.length).sum<=(l.map List.length).sum+c.length:=by
 unfold Bc
 split
 ·lia
 split
 ·simp
 ·rcases List.eq_nil_or_concat l with rfl|⟨l',x,rfl⟩
  ·simp
  ·simp;lia
theorem HX (r:List Nat):∀ (cs l:List (List Nat)),((cs.foldl (Bc r) l).map List.length).sum<=(l.map List.length).sum+(cs.map List.length).sum/\(cs.foldl (Bc r) l).length<=l.length+cs.length
 |[],l=>by simp
 |c::cs,l=>by
  have ih:=HX r cs (Bc r l c)
  have h1:=Py r l c
  have h2:=Jq r l c
  simp only[List.foldl_cons,List.map_cons,List.sum_cons,List.length_cons]
  lia
theorem HY (x:List Nat):(Bf x).1.length+(Bf x).2.length<=x.length:=by
 unfold Bf
 split
 ·simp
 rename_i h1
 have h0:x≠[]:=by rintro rfl;exact h1 rfl
 refine Mine.S2 (List.exists_cons_of_ne_nil h0) λa y eq1=>?_
 subst eq1
 split
 ·simp;first|exact XY|lia
 split
 ·simp;first|exact XY|lia
 ·simp;first|exact XY|lia
theorem VX (B:CW app) (h166:∀as,app (.val (.ref 166)) as=ER as) (h194:∀as,app (.val (.ref 194)) as=Jg as):Bg app lower AF HV:=.of λas d h=>by
 replace h:=Ch h
 revert h
 refine Mine.T0 λx eq1 h=>?_
 subst eq1
 revert h
 refine BO λhl h=>?_
 (replace h:=Option.some.inj h;subst h)
 refine ⟨[.str x],by kernel_rfl,?_⟩
 have hσ:(⟨AF.xs.zip [.str x],[],[]⟩:Sg)=⟨[("path",.str x)],[],[]⟩:=by kernel_rfl
 rw[BX,hσ,Ae app lower AF 39 2,fN,h166,Po,bs,B.b,Kv,bs,D9,bs,GE,Ab]
 rw[Ae app lower AF 39 1,fO,FD,bs]
 unfold Bh
 by_cases h0:x=[]
 ·rw[h0];rfl
 rw[if_neg (by simpa using h0),Ab,List.drop_drop,Ae app lower AF 39 1,fP,h194,fR,bs,YL,bs,Ab,Ab,List.drop_drop]
 have hr:=HY x
 rw[if_neg (by simpa using h0)]
 generalize (Bf x).1=r at hr ⊢
 generalize (Bf x).2=t at hr ⊢
 rw[Ae app lower AF 39 2,fQ,KA lower (by lia),bs,Ab,List.drop_drop]
 have hb:(AF.body.drop 6).take 1=[An AF 6]:=by kernel_rfl
 rw[Ae app lower AF 39 1,hb,Cc app lower AF 39 (An AF 6) (by kernel_rfl),VR,bs,List.drop_drop]
 obtain ⟨hs1,hs2⟩:=Ed 47 t
 obtain ⟨o',hL⟩:=Ou (app:=app) (lower:=lower) (Dm (Af app lower AF 40 (AF.body.drop (6+1))) Cw) (.str t) (.str []) (.list ((Ai 47 t).map .str)) r (Ai 47 t) none [] (by rw[List.length_nil];lia)
 rw[List.map_nil] at hL
 obtain ⟨hf1,hf2⟩:=HX r (Ai 47 t) []
 rw[List.map_nil,List.sum_nil] at hf1
 rw[List.length_nil] at hf2
 have hJ:=CH 47 (AR r (Ai 47 t))
 unfold AR at hJ ⊢
 rw[hL,Ab]
 generalize (Ai 47 t).foldl (Bc r) []=l at hf1 hf2 hJ ⊢
 have hR:Af app lower AF 40 (AF.body.drop (6+1)) (Hc (.str t) (.str []) (.list ((Ai 47 t).map .str)) r o' (l.map .str)) Cw=(Ak lower (.str [47]) "join" [.list (l.map .str)]).bind λv1=>(Aq .Add (.str r) v1).bind λv2=>(Ay v2).bind λb3=>if b3 then some v2 else some (.str [46]):=by
  rcases o' with _|_
  ·exact VT ..
  ·exact VU ..
 rw[hR,Kw lower (Bj l) (by lia),bs,B5 (by unfold Ap;lia),bs,FD,bs]
 unfold Jp
 cases (r++Ao [47] l).isEmpty<;>rfl
end
noncomputable abbrev nx (K:Fl×Sg->Option D):Fl×Sg->Option D:=Dm (λσ K=>K (.next,σ)) K
theorem BK (K:Fl×Sg->Option D) (σ:Sg):nx K (.next,σ)=K (.next,σ):=rfl
noncomputable def Jr (f:D->Option D) (items:List D):Option (List D):=((items.mapM λd=>(f d).map λd=>[d]).map List.flatten).bind λds=>if ds.length<=Ap then some ds else none
theorem EW {α:Type} {enc:α->D} {f:D->Option (List D)} {g:α->List D}:∀l:List α,(∀a∈l,f (enc a)=some (g a))->(l.map enc).mapM f=some (l.map g)
 |[],_=>rfl
 |a::l,h=>by
  rw[List.map_cons,List.mapM_cons,h a (by exact List.mem_cons_self),EW l λb hb=>h b (by simp[hb])]
  rfl
theorem DE {α:Type} {enc:α->D} {f:D->Option D} {g:α->D} (l:List α) (h:∀a∈l,f (enc a)=some (g a)) (hl:l.length<=200000):Jr f (l.map enc)=some (l.map g):=by
 unfold Jr
 rw[EW (g:=λa=>[g a]) l (λa ha=>by rw[h a ha];rfl)]
 have e:((l.map λa=>[g a]).flatten)=l.map g:=by
  clear h hl
  induction l with
  |nil=>rfl
  |cons a l ih=>simp only[List.map_cons,List.flatten_cons,ih];rfl
 simp only[Option.map_some,bs,e]
 rw[if_pos (by rw[List.length_map];unfold Ap;exact Nat.le_trans (by assumption) (by decide))]
noncomputable abbrev A6:=List Nat×Bool
noncomputable def AB (q:A6):D:=.tuple [.str q.1,.bool q.2]
theorem Sc:∀a b:A6,AB a=AB b->a=b:=by
 rintro ⟨a1,a2⟩ ⟨b1,b2⟩ h
 unfold AB at h
 injection h with h
 injection h with h1 h2
 injection h1 with h1
 injection h2 with h2
 injection h2 with h2
 subst h1;subst h2;rfl
noncomputable abbrev BB:DT:=⟨321,71,320,["places"],false⟩
noncomputable def FE (i r:D) (st:List D) (q:Option A6) (ds:List D):Sg:=
 match q with
 |none=>⟨[("items",i),("root",r),("stood",.list st)],[("places",ds)],[]⟩
 |some q=>⟨[("items",i),("root",r),("stood",.list st),("item",AB q)],[("places",ds)],[]⟩
section
variable {app lower:Bt}
theorem VY (K:Fl×Sg->Option D) (i r:D):Af app lower BB 40 (BB.body.take 1) ⟨[("items",i),("root",r)],[],[]⟩ K=K (.next,FE i r [] none []):=by kernel_rfl
theorem fS (K:Fl×Sg->Option D) (i r:D) (st:List D) (q:A6) (ds:List D):Af app lower BB 39 ((Ah (An BB 1)).take 1) (FE i r st (some q) ds) K=
 (A0 .NotEq (.list st) (.list [])).bind λb1=>if b1 then (AW (.list st) (.int (-1))).bind λv=>(AW v (.int 1)).bind λw=>(Ay w).bind λb2=>if !b2 then K (.brk,FE i r st (some q) ds) else K (.next,FE i r st (some q) ds) else K (.next,FE i r st (some q) ds):=by kernel_rfl
theorem fT (K:Fl×Sg->Option D) (i r:D) (st:List D) (q:A6) (ds:List D):Af app lower BB 39 (((Ah (An BB 1)).drop 1).take 1) (FE i r st (some q) ds) K=
 (A0 .Eq (.str q.1) (.str [46,46])).bind λb1=>if b1 then (A0 .NotEq (.list st) (.list [])).bind λb2=>if b2 then (AW (.list st) (.int (-1))).bind λv=>(AW v (.int 0)).bind λw=>(A0 .NotEq w (.str [46,46])).bind λb3=>if b3 then
  (A8 (.list st) none (some (-1))).bind λs=>K (.next,⟨[("items",i),("root",r),("stood",s),("item",AB q)],[("places",ds)],[]⟩)
  else (A0 .Eq r (.str [])).bind λb4=>if b4 then (Aq .Add (.list st) (.list [AB q])).bind λs=>K (.next,⟨[("items",i),("root",r),("stood",s),("item",AB q)],[("places",ds)],[]⟩) else K (.next,FE i r st (some q) ds)
  else (A0 .Eq r (.str [])).bind λb4=>if b4 then (Aq .Add (.list st) (.list [AB q])).bind λs=>K (.next,⟨[("items",i),("root",r),("stood",s),("item",AB q)],[("places",ds)],[]⟩) else K (.next,FE i r st (some q) ds)
 else (A0 .NotEq (.str q.1) (.str [])).bind λb5=>if b5 then (A0 .NotEq (.str q.1) (.str [46])).bind λb6=>if b6 then (Aq .Add (.list st) (.list [AB q])).bind λs=>K (.next,⟨[("items",i),("root",r),("stood",s),("item",AB q)],[("places",ds)],[]⟩) else K (.next,FE i r st (some q) ds) else K (.next,FE i r st (some q) ds):=by kernel_rfl
theorem fU (K:Fl×Sg->Option D) (i r:D) (st:List D) (q:A6) (ds:List D):Af app lower BB 39 ((Ah (An BB 1)).drop 2) (FE i r st (some q) ds) K=
 ((Jr (λd=>AW d (.int 0)) st).map D.list).bind λv=>(app (.val (.ref 316)) [r,v]).bind λt=>if ds.length<Ap then K (.next,FE i r st (some q) (ds++[t])) else none:=by kernel_rfl
theorem VZ (i r:D) (st:List D) (o:Option A6) (q:A6) (ds:List D):AO BB.names BB.owned (AK (An BB 1)) (AB q) (FE i r st o ds)=some (FE i r st (some q) ds):=by rcases o with _|_<;>kernel_rfl
theorem V0 (i:List D) (r:D):Bu Gl (BV Gl Ak (AC Gl) app lower) BB.names (FE (.list i) r [] none []).loc (FE (.list i) r [] none []).cel (AK (An BB 1)) (HP (An BB 1))=some i:=by kernel_rfl
theorem YM (i r:D) (st:List D) (o:Option A6) (ds:List D):Af app lower BB 40 (BB.body.drop 2) (FE i r st o ds) Cw=some (.list ds):=by rcases o with _|_<;>kernel_rfl
end
noncomputable abbrev BR:DT:=⟨328,72,327,["places"],false⟩
noncomputable def MC (h m k a:D) (o:Option (D×Option D)) (ds:List D):Sg:=
 match o with
 |none=>⟨[("head",h),("meant",m),("known",k),("at",a)],[("places",ds)],[]⟩
 |some (p,none)=>⟨[("head",h),("meant",m),("known",k),("at",a),("part",p)],[("places",ds)],[]⟩
 |some (p,some n)=>⟨[("head",h),("meant",m),("known",k),("at",a),("part",p),("mode",n)],[("places",ds)],[]⟩
section
variable {app lower:Bt}
theorem V1 (K:Fl×Sg->Option D) (h m k:D):Af app lower BR 40 (BR.body.take 1) ⟨[("head",h),("meant",m),("known",k)],[],[]⟩ K=(app (.val (.ref 208)) [h]).bind λa=>K (.next,MC h m k a none []):=by kernel_rfl
theorem fV (K:Fl×Sg->Option D) (h m k a p:D) (o:Option D) (ds:List D):Af app lower BR 39 ((Ah (An BR 1)).take 1) (MC h m k a (some (p,o)) ds) K=
 (app (.val (.ref 201)) [a]).bind λv=>(Ak lower k "get" [v,.int 16877]).bind λn=>K (.next,MC h m k a (some (p,some n)) ds):=by rcases o with _|_<;>kernel_rfl
theorem fW (K:Fl×Sg->Option D) (h m k a p n:D) (ds:List D):Af app lower BR 39 (((Ah (An BR 1)).drop 1).take 1) (MC h m k a (some (p,some n)) ds) K=
 (app (.val (.ref 234)) [n]).bind λv=>(Ay v).bind λb=>if !b then K (.brk,MC h m k a (some (p,some n)) ds) else (app (.val (.ref 220)) [n]).bind λv=>(Aq .BitAnd v (.int 1)).bind λw=>(A0 .Eq w (.int 0)).bind λb=>if b then K (.brk,MC h m k a (some (p,some n)) ds) else K (.next,MC h m k a (some (p,some n)) ds):=by kernel_rfl
theorem fX (K:Fl×Sg->Option D) (h m k a p n:D) (ds:List D):Af app lower BR 39 ((Ah (An BR 1)).drop 2) (MC h m k a (some (p,some n)) ds) K=
 (app (.val (.ref 187)) [a,p]).bind λv=>(app (.val (.ref 208)) [v]).bind λa'=>if ds.length<Ap then K (.next,MC h m k a' (some (p,some n)) (ds++[a'])) else none:=by kernel_rfl
theorem V2 (h m k a p:D) (o:Option (D×Option D)) (ds:List D):AO BR.names BR.owned (AK (An BR 1)) p (MC h m k a o ds)=some (MC h m k a (some (p,o.bind (·.2))) ds):=by
 rcases o with _|⟨p0,_|n⟩<;>kernel_rfl
theorem V3 (h k a:D) (m:List D):Bu Gl (BV Gl Ak (AC Gl) app lower) BR.names (MC h (.list m) k a none []).loc (MC h (.list m) k a none []).cel (AK (An BR 1)) (HP (An BR 1))=some m:=by kernel_rfl
theorem YN (h m k a:D) (o:Option (D×Option D)) (ds:List D):Af app lower BR 40 (BR.body.drop 2) (MC h m k a o ds) Cw=some (.list ds):=by
 rcases o with _|⟨p0,_|n⟩<;>kernel_rfl
end
noncomputable def wt (l:List (List Nat)):Nat:=(l.map λx=>x.length+1).sum
theorem HZ (a b:List (List Nat)):wt (a++b)=wt a+wt b:=by unfold wt;simp
theorem Cf (a:List Nat) (b:List (List Nat)):wt (a::b)=a.length+1+wt b:=by unfold wt;simp
theorem EX (l:List (List Nat)):wt l=(l.map List.length).sum+l.length:=by
 induction l with
 |nil=>rfl
 |cons a l ih=>rw[Cf,ih];simp;lia
theorem GZ (l:List (List Nat)):wt l.dropLast<=wt l:=by
 rcases List.eq_nil_or_concat l with rfl|⟨l',x,rfl⟩
 ·exact Nat.le_refl _
 ·rw[List.concat_eq_append,HZ];simp
noncomputable def Ov (root:List Nat) (st:List A6) (q:A6):List A6:=
 if q.1=[46,46] then (if (∃x,st.getLast?=some x/\x.1≠[46,46]) then st.dropLast else if root=[] then st++[q] else st)
 else if q.1≠[]/\q.1≠[46] then st++[q] else st
noncomputable def CM (root:List Nat):List A6->List A6->List (List Nat)
 |[],_=>[]
 |q::qs,st=>if ∃x,st.getLast?=some x/\x.2=false then [] else As root ((Ov root st q).map (·.1))::CM root qs (Ov root st q)
noncomputable def Js:List D->Option D:=HT (λa:List A6×List Nat=>[.list (a.1.map AB),.str a.2]) λa=>if wt (a.1.map (·.1))<=50000/\a.2.length<=1000 then some (.list ((CM a.2 a.1 []).map .str)) else none
theorem fY (is:List A6) (root:List Nat) (h:wt (is.map (·.1))<=50000) (h2:root.length<=1000):Js [.list (is.map AB),.str root]=some (.list ((CM root is []).map .str)):=by
 refine (Eb (enc:=λa:List A6×List Nat=>[.list (a.1.map AB),.str a.2]) (λa b h=>?_) (is,root)).trans (if_pos ⟨h,h2⟩)
 obtain ⟨a1,a2⟩:=a
 obtain ⟨b1,b2⟩:=b
 injection h with h1 h2
 injection h1 with h1
 injection h2 with h2
 injection h2 with h2
 have e1:a1=b1:=Cx Sc _ _ h1
 have e2:a2=b2:=h2
 rw[e1,e2]
theorem Sd {r:List Nat} {xs:List (List Nat)} (h1:r.length<=1000) (h2:wt xs<=100000):Ga [.str r,.list (xs.map .str)]=some (.str (As r xs)):=by
 show ((A7 (xs.map D.str)).bind λxs=>if r.length<=1000/\(xs.map List.length).sum+xs.length<=100000 then some (D.str (As r xs)) else none)=_
 rw[Bj,bs,if_pos ⟨h1,by rw[<-EX];exact h2⟩]
theorem WN (ds:List D):A0 .NotEq (.list ds) (.list [])=some (!ds.isEmpty):=by
 rcases ds with _|_<;>rfl
theorem H0 {x y:List D} (h:x.length+y.length<=200000):Aq .Add (.list x) (.list y)=some (.list (x++y)):=by
 show (if x.length+y.length<=Ap then some (D.list (x++y)) else none)=_
 rw[if_pos (by unfold Ap;exact Nat.le_trans (by assumption) (by decide))]
theorem Jt (l:List A6) (x:A6):AW (.list ((l++[x]).map AB)) (.int (-1))=some (AB x):=by
 show (DH ((l++[x]).map AB).length (-1)).bind _=_
 have e:DH ((l++[x]).map AB).length (-1)=some l.length:=by
  unfold DH
  rw[if_neg (by lia),if_pos (by simp;lia)]
  simp
  lia
 rw[e,bs]
 simp
theorem Se (x:A6):AW (AB x) (.int 0)=some (.str x.1):=rfl
theorem cr (x:A6):AW (AB x) (.int 1)=some (.bool x.2):=rfl
theorem Pz (n:Nat) (h:0<n):clipAt n (-1)=n-1:=by
 cases n with
 |zero=>exact absurd h (Nat.lt_irrefl 0)
 |succ m=>
  unfold clipAt
  rw[if_pos (by decide),show (-1:Int)+((m+1:Nat):Int)=(m:Int) from (Int.add_comm _ _).trans (Int.add_neg_cancel_right (m:Int) 1),Int.min_eq_left (Int.ofNat_le.mpr (Nat.le_succ m)),Int.max_eq_right (Int.natCast_nonneg _),Int.toNat_natCast]
  rfl
theorem V4 {α:Type} (l:List α) (x:α):AN (l++[x]) none (some (-1))=l:=by
 unfold AN
 simp only[Option.elim,List.drop_zero,Nat.sub_zero]
 rw[Pz _ (by simp)]
 simp
theorem YO (root:List Nat) (st:List A6) (q:A6):wt ((Ov root st q).map (·.1))<=wt (st.map (·.1))+(q.1.length+1):=by
 have h2:wt ((st++[q]).map (·.1))=wt (st.map (·.1))+(q.1.length+1):=by
  rw[List.map_append,HZ,List.map_cons,Cf];rfl
 unfold Ov
 split
 ·split
  ·have:=GZ (st.map (·.1))
   rw[<-List.map_dropLast] at this
   lia
  split
  ·lia
  ·lia
 split
 ·lia
 ·lia
section
variable {app lower:Bt}
theorem ct (K:Fl×Sg->Option D) (i r:D) (st:List A6) (q:A6) (ds:List D):Af app lower BB 39 ((Ah (An BB 1)).take 1) (FE i r (st.map AB) (some q) ds) K=
  if ∃x,st.getLast?=some x/\x.2=false then K (.brk,FE i r (st.map AB) (some q) ds) else K (.next,FE i r (st.map AB) (some q) ds):=by
 rw[fS,WN,bs]
 rcases List.eq_nil_or_concat st with rfl|⟨l,x,rfl⟩
 ·rw[if_neg (by simp)];rfl
 rw[List.concat_eq_append,if_pos (by simp),Jt,bs,cr,bs,D9,bs]
 by_cases h:x.2=false
 ·rw[if_pos (by rw[h];rfl),if_pos ⟨x,by simp,h⟩]
 ·rw[if_neg (by simpa using h),if_neg (by simpa using h)]
set_option tactic.hygienic true
theorem cu (K:Fl×Sg->Option D) (i:D) (r:List Nat) (st:List A6) (q:A6) (ds:List D) (hl:st.length<=100000):Af app lower BB 39 (((Ah (An BB 1)).drop 1).take 1) (FE i (.str r) (st.map AB) (some q) ds) K=
  K (.next,FE i (.str r) ((Ov r st q).map AB) (some q) ds):=by
 rw[fT]
 have hadd:((Aq .Add (.list (st.map AB)) (.list [AB q])).bind λs=>K (.next,⟨[("items",i),("root",.str r),("stood",s),("item",AB q)],[("places",ds)],[]⟩))=K (.next,FE i (.str r) ((st++[q]).map AB) (some q) ds):=by
  rw[H0 (by simp;exact Nat.le_trans (by assumption) (by decide)),bs,List.map_append];rfl
 simp only[hadd,eq_str,ne_str,bs,WN]
 unfold Ov
 by_cases h1:q.1=[46,46]
 ·rw[if_pos (beq_iff_eq.mpr h1),if_pos h1]
  have hroot:(if (r==[])=true then K (Fl.next,FE i (D.str r) ((st++[q]).map AB) (some q) ds) else K (Fl.next,FE i (D.str r) (st.map AB) (some q) ds))=K (.next,FE i (.str r) ((if r=[] then st++[q] else st).map AB) (some q) ds):=by
   by_cases h:r=[]
   ·rw[if_pos (beq_iff_eq.mpr h),if_pos h]
   ·rw[if_neg (by rw[beq_iff_eq];exact h),if_neg h]
  rcases List.eq_nil_or_concat st with rfl|⟨l,x,rfl⟩
  ·rw[if_neg (c:=∃_,_) (by simp),<-hroot];rfl
  rw[List.concat_eq_append] at*
  rw[if_pos (by simp),Jt,bs,Se,bs,ne_str,bs]
  by_cases h2:x.1=[46,46]
  ·rw[if_neg (by rw[h2];decide),if_neg (c:=∃_,_) (by simpa using h2),<-hroot]
  ·rw[if_pos (by simpa using h2),if_pos (c:=∃_,_) ⟨x,by simp,h2⟩]
   rw[show A8 (.list ((l++[x]).map AB)) none (some (-1))=some (.list (l.map AB)) from by
    show some (D.list (AN ((l++[x]).map AB) none (some (-1))))=_
    rw[List.map_append,List.map_cons,List.map_nil,V4],bs]
   simp[FE]
 ·rw[if_neg (by rw[beq_iff_eq];exact h1),if_neg h1]
  by_cases h2:q.1=[]
  ·rw[if_neg (by rw[h2];decide),if_neg (by rw[h2];simp)]
  rw[if_pos (by simpa using h2)]
  by_cases h3:q.1=[46]
  ·rw[if_neg (by rw[h3];decide),if_neg (by rw[h3];simp)]
  rw[if_pos (by simpa using h3),if_pos ⟨h2,h3⟩]
set_option tactic.hygienic false
theorem cv (h316:∀as,app (.val (.ref 316)) as=Ga as) (K:Fl×Sg->Option D) (i:D) (r:List Nat) (st:List A6) (q:A6) (l:List (List Nat)) (hr:r.length<=1000) (hw:wt (st.map (·.1))<=100000) (hl:l.length<=100000):Af app lower BB 39 ((Ah (An BB 1)).drop 2) (FE i (.str r) (st.map AB) (some q) (l.map .str)) K=
  K (.next,FE i (.str r) (st.map AB) (some q) ((l++[As r (st.map (·.1))]).map .str)):=by
 have hlen:st.length<=100000:=by
  have:=EX (st.map (·.1))
  rw[List.length_map] at this
  lia
 rw[fU,DE (enc:=AB) (f:=λd=>AW d (.int 0)) (g:=λx=>.str x.1) st (λa Z=>Se a) (by exact Nat.le_trans (by assumption) (by decide))]
 have e:st.map (λx=>D.str x.1)=(st.map (·.1)).map .str:=by rw[List.map_map];rfl
 rw[Option.map_some,bs,h316,e,Sd hr hw,bs,if_pos (by rw[List.length_map];unfold Ap;exact Nat.lt_of_le_of_lt (by assumption) (by decide))]
 simp
theorem Ow (h316:∀as,app (.val (.ref 316)) as=Ga as) (K:Fl×Sg->Option D) (i:D) (r:List Nat) (hr:r.length<=1000):∀ (qs:List A6) (o:Option A6) (st:List A6) (l:List (List Nat)),wt (st.map (·.1))+wt (qs.map (·.1))<=100000->l.length+qs.length<=100000->∃o' st',
  CG (AO BB.names BB.owned (AK (An BB 1))) (Af app lower BB 39 (Ah (An BB 1))) (Af app lower BB 39 (AQ (An BB 1))) (qs.map AB) (FE i (.str r) (st.map AB) o (l.map .str)) K=K (.next,FE i (.str r) st' o' ((l++CM r qs st).map .str))
 |[],o,st,l,_,_=>by
  have he:AQ (An BB 1)=[]:=by kernel_rfl
  refine ⟨o,st.map AB,?_⟩
  rw[List.map_nil,Cd,he,BL]
  unfold CM
  rw[List.append_nil]
 |q::qs,o,st,l,hw,hl=>by
  have hl':l.length+(qs.length+1)<=100000:=hl
  rw[List.map_cons,Cf] at hw
  have h2:=YO r st q
  have hlen:st.length<=100000:=by
   have:=EX (st.map (·.1))
   rw[List.length_map] at this
   lia
  obtain ⟨o',st',h⟩:=Ow h316 K i r hr qs (some q) (Ov r st q) (l++[As r ((Ov r st q).map (·.1))]) (by lia) (by simp;lia)
  unfold CM
  rw[List.map_cons,Be (VZ i (.str r) (st.map AB) o q _),Ae app lower BB 38 1,ct]
  by_cases hc:∃x,st.getLast?=some x/\x.2=false
  ·refine ⟨some q,st.map AB,?_⟩
   rw[if_pos hc,if_pos hc,List.append_nil]
   rfl
  ·refine ⟨o',st',?_⟩
   rw[if_neg hc,if_neg hc,Ab,Ae app lower BB 38 1,cu _ _ _ _ _ _ hlen,Ab,List.drop_drop,cv h316 _ _ _ _ _ _ hr (by lia) (by lia),Bv,h]
   simp
theorem V5 (h316:∀as,app (.val (.ref 316)) as=Ga as):Bg app lower BB Js:=.of λas d h=>by
 obtain ⟨⟨is,root⟩,e,h'⟩:=Do h
 clear h
 have h:=h'
 clear h'
 subst e
 replace h:(if wt (is.map (·.1))<=50000/\root.length<=1000 then some (D.list ((CM root is []).map .str)) else none)=some d:=h
 revert h
 refine BO λhl h=>?_
 (replace h:=Option.some.inj h;subst h)
 refine ⟨[.list (is.map AB),.str root],by kernel_rfl,?_⟩
 have hσ:(⟨BB.xs.zip [.list (is.map AB),.str root],[],[]⟩:Sg)=⟨[("items",.list (is.map AB)),("root",.str root)],[],[]⟩:=by kernel_rfl
 rw[BX,hσ,Ae app lower BB 39 1,VY,Ab]
 have hb:(BB.body.drop 1).take 1=[An BB 1]:=by kernel_rfl
 have hlen:is.length<=100000:=by
  have:=EX (is.map (·.1))
  rw[List.length_map] at this
  lia
 rw[Ae app lower BB 39 1,hb,Cc app lower BB 39 (An BB 1) (by kernel_rfl),V0,bs,List.drop_drop]
 obtain ⟨o',st',hL⟩:=Ow (lower:=lower) h316 (Dm (Af app lower BB 40 (BB.body.drop (1+1))) Cw) (.list (is.map AB)) root hl.2 is none [] [] (by simp[wt] at hl ⊢;lia) (by rw[List.length_nil];lia)
 rw[List.map_nil,List.map_nil] at hL
 rw[hL,Ab,YM]
 rfl
end
noncomputable def C5 (k:List Nat) (dflt:Int):List (List Nat)->List Int->Int
 |k'::ks,d::ds=>if k'=k then d else C5 k dflt ks ds
 |_,_=>dflt
theorem L8 (k:List Nat) (dflt:Int):∀ (ks:List (List Nat)) (ms:List Int),Kh k (.int dflt) ks (ms.map .int)=.int (C5 k dflt ks ms)
 |[],[]=>rfl
 |[],_::_=>rfl
 |_::_,[]=>rfl
 |k'::ks,m::ms=>by
  show (if k'=k then D.int m else Kh k (.int dflt) ks (ms.map .int))=.int (if k'=k then m else C5 k dflt ks ms)
  split
  ·rfl
  ·exact L8 k dflt ks ms
noncomputable def DK (ks:List (List Nat)) (ms:List Int):List (List Nat)->List Nat->List (List Nat)
 |[],_=>[]
 |p::ps,a=>if ¬ Builtin.bitAnd (C5 (Bw a) 16877 ks ms) 61440=16384\/Builtin.bitAnd (Builtin.bitAnd (C5 (Bw a) 16877 ks ms) 4095) 1=0 then [] else Bh (Bo a p)::DK ks ms ps (Bh (Bo a p))
noncomputable abbrev Ox:=List Nat×List (List Nat)×List (List Nat)×List Int
noncomputable def V6 (a:Ox):List D:=[.str a.1,.list (a.2.1.map .str),.dict a.2.2.1 (a.2.2.2.map .int)]
theorem V7:∀a b:Int,D.int a=D.int b->a=b:=λa b h=>by injection h
theorem Sf:∀a b:Ox,V6 a=V6 b->a=b:=by
 rintro ⟨a1,a2,a3,a4⟩ ⟨b1,b2,b3,b4⟩ h
 unfold V6 at h
 injection h with h1 h
 injection h with h2 h
 injection h with h3 h
 injection h1 with h1
 injection h2 with h2
 injection h3 with h3 h4
 have e1:a1=b1:=h1
 have e2:a2=b2:=Cx Ky _ _ h2
 have e3:a3=b3:=h3
 have e4:a4=b4:=Cx V7 _ _ h4
 rw[e1,e2,e3,e4]
noncomputable def Ju:List D->Option D:=HT V6 λa=>if a.1.length+wt a.2.1<=9000/\a.2.2.1.length=a.2.2.2.length then some (.list ((DK a.2.2.1 a.2.2.2 a.2.1 (Bh a.1)).map .str)) else none
theorem fZ (h:List Nat) (ps ks:List (List Nat)) (ms:List Int) (h1:h.length+wt ps<=9000) (h2:ks.length=ms.length):Ju [.str h,.list (ps.map .str),.dict ks (ms.map .int)]=some (.list ((DK ks ms ps (Bh h)).map .str)):=
 (Eb Sf (h,ps,ks,ms)).trans (if_pos ⟨h1,h2⟩)
theorem Fb (c:Nat):∀x:List Nat,wt (Ai c x)=x.length+1
 |[]=>rfl
 |a::x=>by
  have ih:=Fb c x
  unfold Ai
  split
  ·rw[Cf,ih];simp;lia
  ·refine Mine.S2 (List.exists_cons_of_ne_nil (E9 c x)) λq qs hq=>?_
   rw[hq] at ih ⊢
   rw[Cf] at ih
   simp only[List.headD_cons,List.tail_cons]
   rw[Cf]
   simp
   lia
theorem Sh (r:List Nat) (l:List (List Nat)) (c:List Nat):wt (Bc r l c)<=wt l+(c.length+1):=by
 unfold Bc
 split
 ·lia
 split
 ·rw[HZ,Cf];simp[wt]
 ·have:=GZ l;lia
theorem KD (r:List Nat):∀ (cs l:List (List Nat)),wt (cs.foldl (Bc r) l)<=wt l+wt cs
 |[],l=>by simp[wt]
 |c::cs,l=>by
  have ih:=KD r cs (Bc r l c)
  have h1:=Sh r l c
  rw[List.foldl_cons,Cf]
  lia
theorem H1 (x:List Nat):(Bh x).length<=x.length+2:=by
 unfold Bh
 split
 ·simp
 have h1:=HY x
 have h2:=CH 47 (AR (Bf x).1 (Ai 47 (Bf x).2))
 have h3:=KD (Bf x).1 (Ai 47 (Bf x).2) []
 rw[Fb] at h3
 rw[<-EX] at h2
 unfold AR at*
 unfold Jp
 split
 ·simp
 ·simp only[List.length_append]
  have:wt []=0:=rfl
  lia
theorem Nu (x y:List Nat):(Bo x y).length<=x.length+y.length+1:=by
 unfold Bo
 split
 ·lia
 split
 ·lia
 split
 ·simp
 ·simp;lia
theorem Nv {x:List Nat} (h:x.length<=40000):HV [.str x]=some (.str (Bh x)):=if_pos h
theorem f4 {x:List Nat} (h:x.length<=100000):Jh [.str x]=some (.str (Bw x)):=if_pos h
theorem f5 {x y:List Nat} (h1:x.length<=100000) (h2:y.length<=100000):Jj [.str x,.str y]=some (.str (Bo x y)):=if_pos ⟨h1,h2⟩
theorem cx (lower:Bt) {ks:List (List Nat)} {ms:List Int} (h:ks.length=ms.length) (x:List Nat):Ak lower (.dict ks (ms.map .int)) "get" [.str x,.int 16877]=some (.int (C5 x 16877 ks ms)):=by
 have e:Ak lower (.dict ks (ms.map .int)) "get" [.str x,.int 16877]=if ks.length=(ms.map D.int).length then some (Kh x (.int 16877) ks (ms.map .int)) else none:=by kernel_rfl
 rw[e,if_pos (by rw[List.length_map];exact h),L8]
structure Si (app:Bt):Prop where
 h187:∀as,app (.val (.ref 187)) as=Jj as
 h201:∀as,app (.val (.ref 201)) as=Jh as
 h208:∀as,app (.val (.ref 208)) as=HV as
 h220:∀as,app (.val (.ref 220)) as=Je as
 h234:∀as,app (.val (.ref 234)) as=Jf as
section
variable {app lower:Bt}
theorem Oy (F:Si app) (K:Fl×Sg->Option D) (h m:D) (ks:List (List Nat)) (ms:List Int) (hk:ks.length=ms.length):∀ (ps:List (List Nat)) (o:Option (D×Option D)) (a:List Nat) (l:List (List Nat)),a.length+wt ps+3*ps.length<=40000->l.length+ps.length<=100000->∃o' a',
  CG (AO BR.names BR.owned (AK (An BR 1))) (Af app lower BR 39 (Ah (An BR 1))) (Af app lower BR 39 (AQ (An BR 1))) (ps.map .str) (MC h m (.dict ks (ms.map .int)) (.str a) o (l.map .str)) K=K (.next,MC h m (.dict ks (ms.map .int)) a' o' ((l++DK ks ms ps a).map .str))
 |[],o,a,l,_,_=>by
  have he:AQ (An BR 1)=[]:=by kernel_rfl
  refine ⟨o,.str a,?_⟩
  rw[List.map_nil,Cd,he,BL]
  unfold DK
  rw[List.append_nil]
 |p::ps,o,a,l,hw,hl=>by
  have hl':l.length+(ps.length+1)<=100000:=hl
  rw[Cf,List.length_cons] at hw
  have hj:=Nu a p
  have hn:=H1 (Bo a p)
  obtain ⟨o',a',hI⟩:=Oy F K h m ks ms hk ps (some (.str p,some (.int (C5 (Bw a) 16877 ks ms)))) (Bh (Bo a p)) (l++[Bh (Bo a p)]) (by lia) (by simp;lia)
  unfold DK
  rw[List.map_cons,Be (V2 h m _ _ _ _ _),Ae app lower BR 38 1,fV,F.h201,f4 (by lia),bs,cx lower hk,bs,Ab,Ae app lower BR 38 1,fW,F.h234]
  have e1:Jf [.int (C5 (Bw a) 16877 ks ms)]=some (.bool (Builtin.bitAnd (C5 (Bw a) 16877 ks ms) 61440==16384)):=rfl
  have e2:Je [.int (C5 (Bw a) 16877 ks ms)]=some (.int (Builtin.bitAnd (C5 (Bw a) 16877 ks ms) 4095)):=rfl
  have e3:∀x,Aq .BitAnd (.int x) (.int 1)=some (.int (Builtin.bitAnd x 1)):=λZ=>rfl
  rw[e1,bs,D9,bs,F.h220,e2,bs,e3,bs,Op,bs]
  by_cases h1:Builtin.bitAnd (C5 (Bw a) 16877 ks ms) 61440=16384
  rotate_left
  ·refine ⟨some (.str p,some (.int (C5 (Bw a) 16877 ks ms))),.str a,?_⟩
   rw[if_pos (by simpa using h1),if_pos (c:=_\/_) (.inl h1),List.append_nil]
   rfl
  rw[if_neg (by rw[h1];decide)]
  by_cases h2:Builtin.bitAnd (Builtin.bitAnd (C5 (Bw a) 16877 ks ms) 4095) 1=0
  ·refine ⟨some (.str p,some (.int (C5 (Bw a) 16877 ks ms))),.str a,?_⟩
   rw[if_pos (by rw[h2];decide),if_pos (c:=_\/_) (.inr h2),List.append_nil]
   rfl
  rw[if_neg (by simpa using h2),if_neg (c:=_\/_) (by rintro (h|h);exact h h1;exact h2 h)]
  refine ⟨o',a',?_⟩
  rw[Ab,List.drop_drop,fX,F.h187,f5 (by lia) (by lia),bs,F.h208,Nv (by lia),bs,if_pos (by rw[List.length_map];unfold Ap;lia)]
  have e4:l.map D.str++[.str (Bh (Bo a p))]=(l++[Bh (Bo a p)]).map .str:=by simp
  rw[e4,Bv,hI]
  simp
theorem V8 (F:Si app):Bg app lower BR Ju:=.of λas d h=>by
 obtain ⟨⟨hd,ps,ks,ms⟩,e,h'⟩:=Do h
 clear h
 have h:=h'
 clear h'
 subst e
 replace h:(if hd.length+wt ps<=9000/\ks.length=ms.length then some (D.list ((DK ks ms ps (Bh hd)).map .str)) else none)=some d:=h
 revert h
 refine BO λhl h=>?_
 (replace h:=Option.some.inj h;subst h)
 refine ⟨[.str hd,.list (ps.map .str),.dict ks (ms.map .int)],by kernel_rfl,?_⟩
 have hσ:(⟨BR.xs.zip [.str hd,.list (ps.map .str),.dict ks (ms.map .int)],[],[]⟩:Sg)=⟨[("head",.str hd),("meant",.list (ps.map .str)),("known",.dict ks (ms.map .int))],[],[]⟩:=by kernel_rfl
 have hn:=H1 hd
 have hw:=EX ps
 rw[BX,hσ,Ae app lower BR 39 1,V1,F.h208,Nv (by lia),bs,Ab]
 have hb:(BR.body.drop 1).take 1=[An BR 1]:=by kernel_rfl
 rw[Ae app lower BR 39 1,hb,Cc app lower BR 39 (An BR 1) (by kernel_rfl),V3,bs,List.drop_drop]
 obtain ⟨o',a',hL⟩:=Oy (lower:=lower) F (Dm (Af app lower BR 40 (BR.body.drop (1+1))) Cw) (.str hd) (.list (ps.map .str)) ks ms hl.2 ps none (Bh hd) [] (by lia) (by rw[List.length_nil];lia)
 rw[List.map_nil] at hL
 rw[hL,Ab,YN]
 rfl
end
noncomputable abbrev AP:DT:=⟨302,68,301,["modes","parts"],false⟩
noncomputable def jh:List Str:=["numbers","first","n","q","act","up","other","mode","items","raw"]
noncomputable def CI (vs:List D) (ms ps:List D):Sg:=⟨jh.zip vs,[("modes",ms),("parts",ps)],[]⟩
noncomputable abbrev Fp:D:=.tuple [.str [46,46],.bool true]
noncomputable abbrev Sj (app:Bt) (m:D):Option D:=(app (.val (.ref 281)) [m]).bind λl=>HO l "?" "=3F"
noncomputable abbrev AU:Stmt:=An AP 2
section
variable {app lower:Bt}
theorem f7 (K:Fl×Sg->Option D) (nu:D):Af app lower AP 40 (AP.body.take 1) ⟨[("numbers",nu)],[],[]⟩ K=
 (AW nu (.int 0)).bind λv=>(Aq .FloorDiv v (.int 4)).bind λw=>(app (.val (.ref 288)) [w]).bind λf=>K (.next,⟨[("numbers",nu),("first",f)],[],[]⟩):=by kernel_rfl
set_option tactic.hygienic true
theorem f8 (K:Fl×Sg->Option D) (nu f:D):Af app lower AP 40 ((AP.body.drop 1).take 1) ⟨[("numbers",nu),("first",f)],[],[]⟩ K=
 (Sj app f).bind λr=>(app (.val (.ref 295)) [f]).bind λnm=>K (.next,CI [nu,f] [f] [.tuple [r,.list [nm]]]):=by kernel_rfl
set_option tactic.hygienic false
theorem V9 (nu f:D) (ms ps:List D):Bu Gl (BV Gl Ak (AC Gl) app lower) AP.names (CI [nu,f] ms ps).loc (CI [nu,f] ms ps).cel (AK AU) (HP AU)=((A8 nu (some 1) none).bind λa=>Aq .Add a (.list [.int 3,.int 2])).bind Cq:=by kernel_rfl
theorem Sk (nu f n:D) (ms ps:List D):AO AP.names AP.owned (AK AU) n (CI [nu,f] ms ps)=some (CI [nu,f,n] ms ps):=by kernel_rfl
theorem Sl (nu f n0 q a u o m i r n:D) (ms ps:List D):AO AP.names AP.owned (AK AU) n (CI [nu,f,n0,q,a,u,o,m,i,r] ms ps)=some (CI [nu,f,n,q,a,u,o,m,i,r] ms ps):=by kernel_rfl
theorem cy (K:Fl×Sg->Option D) (nu f n:D) (ms ps:List D):Af app lower AP 39 ((Ah AU).take 1) (CI [nu,f,n] ms ps) K=
 (Aq .Mod n (.int 8)).bind λa=>(Aq .FloorDiv n (.int 8)).bind λq=>K (.next,CI [nu,f,n,q,a] ms ps):=by kernel_rfl
theorem cz (K:Fl×Sg->Option D) (nu f n q0 a0 u o m i r:D) (ms ps:List D):Af app lower AP 39 ((Ah AU).take 1) (CI [nu,f,n,q0,a0,u,o,m,i,r] ms ps) K=
 (Aq .Mod n (.int 8)).bind λa=>(Aq .FloorDiv n (.int 8)).bind λq=>K (.next,CI [nu,f,n,q,a,u,o,m,i,r] ms ps):=by kernel_rfl
theorem cA (K:Fl×Sg->Option D) (nu f n q a:D) (ms ps:List D):Af app lower AP 39 (((Ah AU).drop 1).take 1) (CI [nu,f,n,q,a] ms ps) K=
 (app (.val (.ref 288)) [q]).bind λm=>(Aq .FloorDiv q (.int 64)).bind λw=>(app (.val (.ref 288)) [w]).bind λo=>K (.next,CI [nu,f,n,q,a,Fp,o,m] ms ps):=by kernel_rfl
theorem cB (K:Fl×Sg->Option D) (nu f n q a u0 o0 m0 i r:D) (ms ps:List D):Af app lower AP 39 (((Ah AU).drop 1).take 1) (CI [nu,f,n,q,a,u0,o0,m0,i,r] ms ps) K=
 (app (.val (.ref 288)) [q]).bind λm=>(Aq .FloorDiv q (.int 64)).bind λw=>(app (.val (.ref 288)) [w]).bind λo=>K (.next,CI [nu,f,n,q,a,Fp,o,m,i,r] ms ps):=by kernel_rfl
set_option tactic.hygienic true
theorem cC (K:Fl×Sg->Option D) (nu f n q a u o m:D) (ms ps:List D):Af app lower AP 39 (((Ah AU).drop 2).take 1) (CI [nu,f,n,q,a,u,o,m] ms ps) K=
 (Sj app m).bind λr=>(app (.val (.ref 295)) [m]).bind λnm=>K (.next,CI [nu,f,n,q,a,u,o,m,.list [nm],r] ms ps):=by kernel_rfl
theorem cD (K:Fl×Sg->Option D) (nu f n q a u o m i0 r0:D) (ms ps:List D):Af app lower AP 39 (((Ah AU).drop 2).take 1) (CI [nu,f,n,q,a,u,o,m,i0,r0] ms ps) K=
 (Sj app m).bind λr=>(app (.val (.ref 295)) [m]).bind λnm=>K (.next,CI [nu,f,n,q,a,u,o,m,.list [nm],r] ms ps):=by kernel_rfl
set_option tactic.hygienic false
noncomputable abbrev Sm:List Stmt:=((Ah AU).drop 3).take 1
theorem YQ (K:Fl×Sg->Option D) (nu f n q o m i r:D) (ms ps:List D):Af app lower AP 39 Sm (CI [nu,f,n,q,.int 2,Fp,o,m,i,r] ms ps) K=
 K (.next,CI [nu,f,n,q,.int 2,Fp,o,m,.list [Fp],.str [46,46]] ms ps):=by kernel_rfl
theorem YR (K:Fl×Sg->Option D) (nu f n q o m i r:D) (ms ps:List D):Af app lower AP 39 Sm (CI [nu,f,n,q,.int 3,Fp,o,m,i,r] ms ps) K=
 (Aq .Mod q (.int 4)).bind λw=>(AW (.list [.str [61,50,69,61,50,69],.str [46,61,50,69],.str [61,50,101,46],.str [61,50,69,61,50,101]]) w).bind λr=>K (.next,CI [nu,f,n,q,.int 3,Fp,o,m,.list [Fp],r] ms ps):=by kernel_rfl
set_option tactic.hygienic true
theorem YS (K:Fl×Sg->Option D) (nu f n q o m i r:D) (ms ps:List D):Af app lower AP 39 Sm (CI [nu,f,n,q,.int 4,Fp,o,m,i,r] ms ps) K=
 (Aq .Mod q (.int 4)).bind λw=>(AW (.list [.tuple [.str [],.list [.tuple [.str [],.bool true]]],.tuple [.str [46],.list [.tuple [.str [46],.bool true]]],.tuple [.str [61,50,69],.list [.tuple [.str [46],.bool true]]],.tuple [.str [61,50,101],.list [.tuple [.str [46],.bool true]]]]) w).bind λv=>(Hi AP.names AP.owned ["raw","items"] (v,CI [nu,f,n,q,.int 4,Fp,o,m,i,r] ms ps)).bind (nx (nx (nx (nx K)))):=by kernel_rfl
set_option tactic.hygienic false
theorem YT (nu f n q a o m i r r' i':D) (ms ps:List D):Hi AP.names AP.owned ["raw","items"] (.tuple [r',i'],CI [nu,f,n,q,a,Fp,o,m,i,r] ms ps)=some (.next,CI [nu,f,n,q,a,Fp,o,m,i',r'] ms ps):=by kernel_rfl
set_option tactic.hygienic true
theorem YU (K:Fl×Sg->Option D) (nu f n q o m i r:D) (ms ps:List D):Af app lower AP 39 Sm (CI [nu,f,n,q,.int 5,Fp,o,m,i,r] ms ps) K=
 (Aq .Add r (.str [61,50,70])).bind λx=>(Sj app o).bind λy=>(Aq .Add x y).bind λr'=>(app (.val (.ref 295)) [o]).bind λnm=>(Aq .Add i (.list [nm])).bind λi'=>if ms.length<Ap then K (.next,CI [nu,f,n,q,.int 5,Fp,o,m,i',r'] (ms++[o]) ps) else none:=by kernel_rfl
set_option tactic.hygienic false
theorem YV (K:Fl×Sg->Option D) (nu f n q o m i r:D) (ms ps:List D):Af app lower AP 39 Sm (CI [nu,f,n,q,.int 6,Fp,o,m,i,r] ms ps) K=
 (Aq .Mod q (.int 2)).bind λw=>(AW (.list [.str [61,50,70,46,46],.str [61,50,102,61,50,69,46]]) w).bind λx=>(Aq .Add r x).bind λr'=>(Aq .Add i (.list [Fp])).bind λi'=>K (.next,CI [nu,f,n,q,.int 6,Fp,o,m,i',r'] ms ps):=by kernel_rfl
theorem YW (K:Fl×Sg->Option D) (nu f n q o m i r:D) (ms ps:List D):Af app lower AP 39 Sm (CI [nu,f,n,q,.int 7,Fp,o,m,i,r] ms ps) K=
 (Aq .Add (.str [46,46,61,50,70]) r).bind λr'=>(Aq .Add (.list [Fp]) i).bind λi'=>K (.next,CI [nu,f,n,q,.int 7,Fp,o,m,i',r'] ms ps):=by kernel_rfl
theorem YX (K:Fl×Sg->Option D) (nu f n q o m i r:D) (ms ps:List D):Af app lower AP 39 Sm (CI [nu,f,n,q,.int 0,Fp,o,m,i,r] ms ps) K=K (.next,CI [nu,f,n,q,.int 0,Fp,o,m,i,r] ms ps):=by kernel_rfl
theorem YY (K:Fl×Sg->Option D) (nu f n q o m i r:D) (ms ps:List D):Af app lower AP 39 Sm (CI [nu,f,n,q,.int 1,Fp,o,m,i,r] ms ps) K=K (.next,CI [nu,f,n,q,.int 1,Fp,o,m,i,r] ms ps):=by kernel_rfl
theorem f9 (K:Fl×Sg->Option D) (nu f n q a u o m i r:D) (ms ps:List D):Af app lower AP 39 (((Ah AU).drop 4).take 1) (CI [nu,f,n,q,a,u,o,m,i,r] ms ps) K=
 (A0 .Lt a (.int 2)).bind λb1=>if b1 then if ms.length<Ap then K (.next,CI [nu,f,n,q,a,u,o,m,i,r] (ms++[m]) ps) else none else (A0 .Gt a (.int 4)).bind λb2=>if b2 then if ms.length<Ap then K (.next,CI [nu,f,n,q,a,u,o,m,i,r] (ms++[m]) ps) else none else K (.next,CI [nu,f,n,q,a,u,o,m,i,r] ms ps):=by kernel_rfl
theorem YZ (K:Fl×Sg->Option D) (nu f n q a u o m i r:D) (ms ps:List D):Af app lower AP 39 ((Ah AU).drop 5) (CI [nu,f,n,q,a,u,o,m,i,r] ms ps) K=
 if ps.length<Ap then K (.next,CI [nu,f,n,q,a,u,o,m,i,r] ms (ps++[.tuple [r,i]])) else none:=by kernel_rfl
theorem Wa (nu f n q a u o m i r:D) (ms ps:List D):Af app lower AP 40 (AP.body.drop 3) (CI [nu,f,n,q,a,u,o,m,i,r] ms ps) Cw=some (.tuple [.list ms,.list ps]):=by kernel_rfl
end
noncomputable abbrev Bd:=List Nat×List A6
noncomputable def BI (p:Bd):D:=.tuple [.str p.1,.list (p.2.map AB)]
noncomputable def BD (m:Int):List Nat:=AE 63 [61,51,70] (Ag m)
noncomputable def AT (m:Int):A6:=(Ag m,m.fdiv 4096==4&&m.fmod 2==1)
noncomputable abbrev GH:A6:=([46,46],true)
noncomputable def PA (k:Int):List Nat:=([[61,50,69,61,50,69],[46,61,50,69],[61,50,101,46],[61,50,69,61,50,101]]:List (List Nat)).getD k.toNat []
noncomputable def H3 (k:Int):Bd:=([([],[([],true)]),([46],[([46],true)]),([61,50,69],[([46],true)]),([61,50,101],[([46],true)])]:List Bd).getD k.toNat ([],[])
noncomputable def ID (k:Int):List Nat:=([[61,50,70,46,46],[61,50,102,61,50,69,46]]:List (List Nat)).getD k.toNat []
noncomputable def GI (a q:Int):Bd:=
 if a=2 then ([46,46],[GH]) else if a=3 then (PA (q.fmod 4),[GH]) else if a=4 then H3 (q.fmod 4)
 else if a=5 then (BD (Ad q)++[61,50,70]++BD (Ad (q.fdiv 64)),[AT (Ad q),AT (Ad (q.fdiv 64))])
 else if a=6 then (BD (Ad q)++ID (q.fmod 2),[AT (Ad q),GH])
 else if a=7 then ([46,46,61,50,70]++BD (Ad q),[GH,AT (Ad q)])
 else (BD (Ad q),[AT (Ad q)])
noncomputable def BC (a q:Int):List Int:=
 if a=2\/a=3\/a=4 then [] else if a=5 then [Ad (q.fdiv 64),Ad q] else [Ad q]
noncomputable def Jv (n:Int):Bd:=GI (n.fmod 8) (n.fdiv 8)
noncomputable def DL (n:Int):List Int:=BC (n.fmod 8) (n.fdiv 8)
noncomputable def Jw:List D->Option D:=HT (λa:List Int=>[.list (a.map .int)]) λa=>match a with
 |[]=>none
 |n0::ns=>if ns.length<=10 then some (.tuple [.list ((Ad (n0.fdiv 4)::(ns++[3,2]).flatMap DL).map .int),.list (((BD (Ad (n0.fdiv 4)),[AT (Ad (n0.fdiv 4))])::(ns++[3,2]).map Jv).map BI)]) else none
theorem L9:∀a b:Int,D.int a=D.int b->a=b:=λa b h=>by injection h
theorem ga (n0:Int) (ns:List Int) (h:ns.length<=10):Jw [.list ((n0::ns).map .int)]=some (.tuple [.list ((Ad (n0.fdiv 4)::(ns++[3,2]).flatMap DL).map .int),.list (((BD (Ad (n0.fdiv 4)),[AT (Ad (n0.fdiv 4))])::(ns++[3,2]).map Jv).map BI)]):=by
 refine (Eb (enc:=λa:List Int=>[.list (a.map .int)]) (λa b h=>?_) (n0::ns)).trans (if_pos h)
 injection h with h1 h2
 injection h1 with h1
 exact Cx L9 _ _ h1
theorem Nw (f g i:Int):(Bk f g i).length=3:=rfl
theorem Cl (m:Int):(Ag m).length=10:=by
 unfold Ag
 simp only[List.length_append,Nw,List.length_cons,List.length_nil]
theorem Jx (c:Nat):∀x:List Nat,(AE c [61,51,70] x).length<=3*x.length
 |[]=>Nat.le_refl _
 |a::x=>by
  have ih:=Jx c x
  have e:AE c [61,51,70] (a::x)=(if a=c then [61,51,70] else [a])++AE c [61,51,70] x:=rfl
  rw[e,List.length_append,List.length_cons]
  split
  ·simp only[List.length_cons,List.length_nil];lia
  ·simp only[List.length_cons,List.length_nil];lia
theorem DW (m:Int):(BD m).length<=30:=by
 have:=Jx 63 (Ag m)
 rw[Cl] at this
 exact this
section
variable {app lower:Bt}
theorem Oz (h281:∀as,app (.val (.ref 281)) as=Gc as) (m:Int):Sj app (.int m)=some (.str (BD m)):=by
 show (app (.val (.ref 281)) [.int m]).bind _=_
 rw[h281,cm,bs]
 have e:∀x,HO (.str x) (Str.ofString "?") (Str.ofString "=3F")=if (Str.ofString "?").cps.size=1/\((Str.ofString "?")==(Str.ofString "=3F"))=false/\x.length+(x.length+1)*(Str.ofString "=3F").cps.size<=Ap then some (.str (AE ((Str.ofString "?").cps.toList.headD 0) (Str.ofString "=3F").cps.toList x)) else none:=λZ=>rfl
 rw[e,if_pos]
 ·unfold BD
  have e1:(Str.ofString "?").cps.toList.headD 0=63:=by decide+kernel
  have e2:(Str.ofString "=3F").cps.toList=[61,51,70]:=by decide+kernel
  rw[e1,e2]
 ·refine ⟨by decide+kernel,by decide+kernel,?_⟩
  rw[Cl]
  decide+kernel
theorem H4 {xs:List (List Nat)} {k:Int} (h1:0<=k) (h2:k<xs.length):AW (.list (xs.map .str)) (.int k)=some (.str (xs.getD k.toNat [])):=by
 show (DH (xs.map D.str).length k).bind (λj=>(xs.map D.str)[j]?)=_
 rw[ET h1 (by rw[List.length_map];exact h2),bs]
 have h3:k.toNat<xs.length:=by lia
 rw[List.getD_eq_getElem?_getD,List.getElem?_map,List.getElem?_eq_getElem h3]
 rfl
theorem PB {xs:List Bd} {k:Int} (h1:0<=k) (h2:k<xs.length):AW (.list (xs.map BI)) (.int k)=some (BI (xs.getD k.toNat ([],[]))):=by
 show (DH (xs.map BI).length k).bind (λj=>(xs.map BI)[j]?)=_
 rw[ET h1 (by rw[List.length_map];exact h2),bs]
 have h3:k.toNat<xs.length:=by lia
 rw[List.getD_eq_getElem?_getD,List.getElem?_map,List.getElem?_eq_getElem h3]
 rfl
theorem Sn (q:Int):Jk [.int q]=some (.int (Ad q)):=rfl
theorem Wb (m:Int):Jl [.int m]=some (AB (AT m)):=rfl
structure KE (app:Bt):Prop where
 h281:∀as,app (.val (.ref 281)) as=Gc as
 h288:∀as,app (.val (.ref 288)) as=Jk as
 h295:∀as,app (.val (.ref 295)) as=Jl as
noncomputable def gb (nu f:D) (o:Option (D×D×D×D×D×D×D×D)) (ms ps:List D):Sg:=
 match o with
 |none=>CI [nu,f] ms ps
 |some (n,q,a,u,ot,m,i,r)=>CI [nu,f,n,q,a,u,ot,m,i,r] ms ps
theorem Y0 (F:KE app) (K:Fl×Sg->Option D) (nu f:D) (n:Int) (o:Option (D×D×D×D×D×D×D×D)) (ms ps:List D):∃σ1,AO AP.names AP.owned (AK AU) (.int n) (gb nu f o ms ps)=some σ1/\
  Af app lower AP 39 (Ah AU) σ1 K=Af app lower AP 39 ((Ah AU).drop 3) (CI [nu,f,.int n,.int (n.fdiv 8),.int (n.fmod 8),Fp,.int (Ad ((n.fdiv 8).fdiv 64)),.int (Ad (n.fdiv 8)),.list [AB (AT (Ad (n.fdiv 8)))],.str (BD (Ad (n.fdiv 8)))] ms ps) K:=by
 have e1:=CT n (y:=8) (by decide)
 have e2:=DD n (y:=8) (by decide) (by decide)
 have e3:=DD (n.fdiv 8) (y:=64) (by decide) (by decide)
 rcases o with _|⟨n0,q0,a0,u0,ot0,m0,i0,r0⟩
 ·refine ⟨_,Sk nu f (.int n) ms ps,?_⟩
  rw[Ae app lower AP 38 1,cy,e1,bs,e2,bs,Ab,Ae app lower AP 38 1,cA,F.h288,Sn,bs,e3,bs,F.h288,Sn,bs,Ab,List.drop_drop,Ae app lower AP 38 1,cC,Oz F.h281,bs,F.h295,Wb,bs,Ab,List.drop_drop]
 ·refine ⟨_,Sl nu f n0 q0 a0 u0 ot0 m0 i0 r0 (.int n) ms ps,?_⟩
  rw[Ae app lower AP 38 1,cz,e1,bs,e2,bs,Ab,Ae app lower AP 38 1,cB,F.h288,Sn,bs,e3,bs,F.h288,Sn,bs,Ab,List.drop_drop,Ae app lower AP 38 1,cD,Oz F.h281,bs,F.h295,Wb,bs,Ab,List.drop_drop]
theorem cF (K:Fl×Sg->Option D) (nu f n q u o i r:D) (a m:Int) (ms:List Int) (ps:List Bd) (h1:ms.length<=1000) (h2:ps.length<=1000):Af app lower AP 39 ((Ah AU).drop 4) (CI [nu,f,n,q,.int a,u,o,.int m,i,r] (ms.map .int) (ps.map BI)) K=
  K (.next,CI [nu,f,n,q,.int a,u,o,.int m,i,r] ((ms++(if a<2\/a>4 then [m] else [])).map .int) (ps.map BI++[.tuple [r,i]])):=by
 have e1:A0 .Lt (.int a) (.int 2)=some (decide (a<2)):=rfl
 have e2:A0 .Gt (.int a) (.int 4)=some (decide (a>4)):=rfl
 have h3:(ms.map D.int).length<Ap:=by rw[List.length_map];unfold Ap;exact Nat.lt_of_le_of_lt (by assumption) (by decide)
 have h4:(ps.map BI).length<Ap:=by rw[List.length_map];unfold Ap;exact Nat.lt_of_le_of_lt (by assumption) (by decide)
 rw[Ae app lower AP 38 1,f9,e1,bs,e2,List.drop_drop]
 by_cases c1:a<2
 ·rw[decide_eq_true c1,Pn,if_pos h3,Ab,YZ,if_pos h4,if_pos (.inl c1),List.map_append];rfl
 rw[decide_eq_false c1,GE,bs]
 by_cases c2:a>4
 ·rw[decide_eq_true c2,Pn,if_pos h3,Ab,YZ,if_pos h4,if_pos (.inr c2),List.map_append];rfl
 rw[decide_eq_false c2,GE,Ab,YZ,if_pos h4,if_neg (c:=_\/_) (by rintro (h|h);exact c1 h;exact c2 h),List.append_nil]
theorem gc (F:KE app) (K:Fl×Sg->Option D) (nu f:D) (n q a:Int) (ha:0<=a/\a<8) (ms:List Int) (ps:List Bd) (h1:ms.length<=900) (h2:ps.length<=900):∃i' r',
  Af app lower AP 39 ((Ah AU).drop 3) (CI [nu,f,.int n,.int q,.int a,Fp,.int (Ad (q.fdiv 64)),.int (Ad q),.list [AB (AT (Ad q))],.str (BD (Ad q))] (ms.map .int) (ps.map BI)) K=
  K (.next,CI [nu,f,.int n,.int q,.int a,Fp,.int (Ad (q.fdiv 64)),.int (Ad q),i',r'] ((ms++BC a q).map .int) ((ps++[GI a q]).map BI)):=by
 have fin:∀ (r:List Nat) (i:List A6) (ms':List Int) (a:Int),ms'.length<=1000->(r,i)=GI a q->ms'++(if a<2\/a>4 then [Ad q] else [])=ms++BC a q->
   Af app lower AP 39 ((Ah AU).drop 4) (CI [nu,f,.int n,.int q,.int a,Fp,.int (Ad (q.fdiv 64)),.int (Ad q),.list (i.map AB),.str r] (ms'.map .int) (ps.map BI)) K=
   K (.next,CI [nu,f,.int n,.int q,.int a,Fp,.int (Ad (q.fdiv 64)),.int (Ad q),.list (i.map AB),.str r] ((ms++BC a q).map .int) ((ps++[GI a q]).map BI)):=λr i ms' a hm hp hq=>by
  rw[cF _ _ _ _ _ _ _ _ _ _ _ _ _ hm (by exact Nat.le_trans (by assumption) (by decide)),hq,<-hp,List.map_append (l₁:=ps)];rfl
 obtain ⟨a0,a8⟩:=ha
 have hR:=DW (Ad q)
 have hR2:=DW (Ad (q.fdiv 64))
 obtain ⟨b1,b2⟩:=Bp q (y:=4) (by decide)
 obtain ⟨c1,c2⟩:=Bp q (y:=2) (by decide)
 have i3:AW (.list [.str [61,50,69,61,50,69],.str [46,61,50,69],.str [61,50,101,46],.str [61,50,69,61,50,101]]) (.int (q.fmod 4))=some (.str (PA (q.fmod 4))):=H4 (xs:=[[61,50,69,61,50,69],[46,61,50,69],[61,50,101,46],[61,50,69,61,50,101]]) b1 b2
 have i4:AW (.list [.tuple [.str [],.list [.tuple [.str [],.bool true]]],.tuple [.str [46],.list [.tuple [.str [46],.bool true]]],.tuple [.str [61,50,69],.list [.tuple [.str [46],.bool true]]],.tuple [.str [61,50,101],.list [.tuple [.str [46],.bool true]]]]) (.int (q.fmod 4))=some (BI (H3 (q.fmod 4))):=PB (xs:=[([],[([],true)]),([46],[([46],true)]),([61,50,69],[([46],true)]),([61,50,101],[([46],true)])]) b1 b2
 have i6:AW (.list [.str [61,50,70,46,46],.str [61,50,102,61,50,69,46]]) (.int (q.fmod 2))=some (.str (ID (q.fmod 2))):=H4 (xs:=[[61,50,70,46,46],[61,50,102,61,50,69,46]]) c1 c2
 have hs:∀a':Int,Af app lower AP 39 ((Ah AU).drop 3) (CI [nu,f,.int n,.int q,.int a',Fp,.int (Ad (q.fdiv 64)),.int (Ad q),.list [AB (AT (Ad q))],.str (BD (Ad q))] (ms.map .int) (ps.map BI)) K=
   Af app lower AP 39 Sm (CI [nu,f,.int n,.int q,.int a',Fp,.int (Ad (q.fdiv 64)),.int (Ad q),.list [AB (AT (Ad q))],.str (BD (Ad q))] (ms.map .int) (ps.map BI)) (Dm (Af app lower AP 39 ((Ah AU).drop 4)) K):=λa'=>by
  rw[Ae app lower AP 38 1,List.drop_drop]
 revert a0 a8
 revert a
 refine cj ?_ ?_ ?_ ?_ ?_ ?_ ?_ ?_
 ·exact ⟨_,_,(hs 0).trans (by rw[YX,Ab];exact fin (BD (Ad q)) [AT (Ad q)] ms 0 (by exact Nat.le_trans (by assumption) (by decide)) rfl rfl)⟩
 ·exact ⟨_,_,(hs 1).trans (by rw[YY,Ab];exact fin (BD (Ad q)) [AT (Ad q)] ms 1 (by exact Nat.le_trans (by assumption) (by decide)) rfl rfl)⟩
 ·exact ⟨_,_,(hs 2).trans (by rw[YQ,Ab];exact fin [46,46] [GH] ms 2 (by exact Nat.le_trans (by assumption) (by decide)) rfl rfl)⟩
 ·refine ⟨.list (List.map AB ([GH])),.str (PA (q.fmod 4)),(hs 3).trans ?_⟩
  rw[YR,CT q (y:=4) (by decide),bs,i3,bs,Ab]
  exact fin (PA (q.fmod 4)) [GH] ms 3 (by exact Nat.le_trans (by assumption) (by decide)) rfl rfl
 ·refine ⟨.list (List.map AB ((H3 (q.fmod 4)).2)),.str ((H3 (q.fmod 4)).1),(hs 4).trans ?_⟩
  rw[YS,CT q (y:=4) (by decide),bs,i4,bs]
  rw[show BI (H3 (q.fmod 4))=.tuple [.str (H3 (q.fmod 4)).1,.list ((H3 (q.fmod 4)).2.map AB)] from rfl,YT,bs,BK,BK,BK,BK,Ab]
  exact fin (H3 (q.fmod 4)).1 (H3 (q.fmod 4)).2 ms 4 (by exact Nat.le_trans (by assumption) (by decide)) rfl rfl
 ·refine ⟨.list (List.map AB ([AT (Ad q),AT (Ad (q.fdiv 64))])),.str (BD (Ad q)++[61,50,70]++BD (Ad (q.fdiv 64))),(hs 5).trans ?_⟩
  rw[YU,B5 (by simp[Ap];exact Nat.le_trans (by assumption) (by decide)),bs,Oz F.h281,bs,B5 (by simp[Ap];first|exact XZ (by assumption) (by assumption)|lia),bs,F.h295,Wb,bs,H0 (by simp),bs,if_pos (by rw[List.length_map];unfold Ap;exact Nat.lt_of_le_of_lt (by assumption) (by decide)),Ab]
  have e:ms.map D.int++[.int (Ad (q.fdiv 64))]=(ms++[Ad (q.fdiv 64)]).map .int:=by simp
  rw[e]
  exact fin (BD (Ad q)++[61,50,70]++BD (Ad (q.fdiv 64))) [AT (Ad q),AT (Ad (q.fdiv 64))] (ms++[Ad (q.fdiv 64)]) 5 (by simp;exact Nat.le_trans (by assumption) (by decide)) rfl (by simp[BC])
 ·refine ⟨.list (List.map AB ([AT (Ad q),GH])),.str (BD (Ad q)++ID (q.fmod 2)),(hs 6).trans ?_⟩
  have hE:(ID (q.fmod 2)).length<=10:=by
   clear i6
   revert c1 c2
   generalize q.fmod 2=a
   revert a
   exact iB (by decide) (by decide)
  rw[YV,CT q (y:=2) (by decide),bs,i6,bs,B5 (by unfold Ap;first|exact XZ (by assumption) (by assumption)|lia),bs,H0 (by simp),bs,Ab]
  exact fin (BD (Ad q)++ID (q.fmod 2)) [AT (Ad q),GH] ms 6 (by exact Nat.le_trans (by assumption) (by decide)) rfl rfl
 ·refine ⟨.list (List.map AB ([GH,AT (Ad q)])),.str ([46,46,61,50,70]++BD (Ad q)),(hs 7).trans ?_⟩
  rw[YW,B5 (by simp[Ap];first|exact XZ (by assumption) (by assumption)|lia),bs,H0 (by simp),bs,Ab]
  exact fin ([46,46,61,50,70]++BD (Ad q)) [GH,AT (Ad q)] ms 7 (by exact Nat.le_trans (by assumption) (by decide)) rfl rfl
theorem G0 (a q:Int):(BC a q).length<=2:=by
 unfold BC
 split
 ·simp
 split<;>simp
theorem OA (F:KE app) (K:Fl×Sg->Option D) (nu f:D):∀ (ns:List Int) (o:Option (D×D×D×D×D×D×D×D)) (ms:List Int) (ps:List Bd),ms.length+2*ns.length<=900->ps.length+ns.length<=900->(ns=[]->o≠none)->∃o',
  CG (AO AP.names AP.owned (AK AU)) (Af app lower AP 39 (Ah AU)) (Af app lower AP 39 (AQ AU)) (ns.map .int) (gb nu f o (ms.map .int) (ps.map BI)) K=K (.next,gb nu f (some o') ((ms++ns.flatMap DL).map .int) ((ps++ns.map Jv).map BI))
 |[],o,ms,ps,_,_,h=>by
  have he:AQ AU=[]:=by kernel_rfl
  cases o with
  |none=>exact (h rfl rfl).elim
  |some o=>
   refine ⟨o,?_⟩
   rw[List.map_nil,Cd,he,BL,List.flatMap_nil,List.map_nil,List.append_nil,List.append_nil]
 |n::ns,o,ms,ps,h1,h2,_=>by
  rw[List.length_cons] at h1 h2
  have hm:=G0 (n.fmod 8) (n.fdiv 8)
  refine Mine.S0 (Y0 (lower:=lower) F (Fn (AO AP.names AP.owned (AK AU)) (Af app lower AP 39 (Ah AU)) (Af app lower AP 39 (AQ AU)) (ns.map .int) K) nu f n o (ms.map .int) (ps.map BI)) λσ1 hb hB=>?_
  refine Mine.S2 (gc (lower:=lower) F (Fn (AO AP.names AP.owned (AK AU)) (Af app lower AP 39 (Ah AU)) (Af app lower AP 39 (AQ AU)) (ns.map .int) K) nu f n (n.fdiv 8) (n.fmod 8) (Bp n (y:=8) (by decide)) ms ps (by lia) (by lia)) λi' r' hT=>?_
  obtain ⟨o',hL⟩:=OA F K nu f ns (some (.int n,.int (n.fdiv 8),.int (n.fmod 8),Fp,.int (Ad ((n.fdiv 8).fdiv 64)),.int (Ad (n.fdiv 8)),i',r')) (ms++DL n) (ps++[Jv n]) (by rw[List.length_append];unfold DL;lia) (by simp;lia) nofun
  refine ⟨o',?_⟩
  rw[List.map_cons,Be hb,hB,hT,Bv]
  refine Eq.trans hL ?_
  rw[List.flatMap_cons,List.map_cons,List.append_assoc,List.append_assoc]
  rfl
theorem Wc (F:KE app):Bg app lower AP Jw:=.of λas d h=>by
 refine Mine.S0 (Do h) λns e h'=>?_
 clear h
 have h:=h'
 clear h'
 subst e
 cases ns with
 |nil=>exact Aa h
 |cons n0 ns=>
 replace h:(if ns.length<=10 then some (D.tuple [.list ((Ad (n0.fdiv 4)::(ns++[3,2]).flatMap DL).map .int),.list (((BD (Ad (n0.fdiv 4)),[AT (Ad (n0.fdiv 4))])::(ns++[3,2]).map Jv).map BI)]) else none)=some d:=h
 revert h
 refine BO λhl h=>?_
 (replace h:=Option.some.inj h;subst h)
 refine ⟨[.list ((n0::ns).map .int)],by kernel_rfl,?_⟩
 have hσ:(⟨AP.xs.zip [.list ((n0::ns).map .int)],[],[]⟩:Sg)=⟨[("numbers",.list ((n0::ns).map .int))],[],[]⟩:=by kernel_rfl
 have e0:AW (.list ((n0::ns).map .int)) (.int 0)=some (.int n0):=Ec (c:=0) rfl
 rw[BX,hσ,Ae app lower AP 39 1,f7,e0,bs,DD n0 (y:=4) (by decide) (by decide),bs,F.h288,Sn,bs,Ab]
 rw[Ae app lower AP 39 1,f8,Oz F.h281,bs,F.h295,Wb,bs,Ab,List.drop_drop]
 have hb:(AP.body.drop (1+1)).take 1=[AU]:=by kernel_rfl
 have hs:A8 (.list ((n0::ns).map .int)) (some 1) none=some (.list (ns.map .int)):=by
  show some (D.list (AN ((n0::ns).map D.int) (some ((1:Nat):Int)) none))=_
  rw[CR];rfl
 have ha:Aq .Add (.list (ns.map .int)) (.list [.int 3,.int 2])=some (.list ((ns++[3,2]).map .int)):=by
  rw[H0 (by simp;exact Nat.le_trans (by assumption) (by decide)),List.map_append];rfl
 have D5:Cq (D.list ((ns++[3,2]).map D.int))=some ((ns++[3,2]).map D.int):=rfl
 rw[Ae app lower AP 39 1,hb,Cc app lower AP 39 AU (by kernel_rfl),V9,hs,bs,ha,bs,D5,bs,List.drop_drop]
 obtain ⟨⟨n',q',a',u',ot',m',i',r'⟩,hL⟩:=OA (lower:=lower) F (Dm (Af app lower AP 40 (AP.body.drop (1+1+1))) Cw) (.list ((n0::ns).map .int)) (.int (Ad (n0.fdiv 4))) (ns++[3,2]) none [Ad (n0.fdiv 4)] [(BD (Ad (n0.fdiv 4)),[AT (Ad (n0.fdiv 4))])] (by simp;lia) (by simp;lia) (by simp)
 refine Eq.trans hL ?_
 rw[Ab]
 exact Wa ..
end
noncomputable abbrev BE:DT:=⟨213,38,212,[],false⟩
noncomputable def cG (s:Stmt):Bool:=(WL s).2.1
set_option tactic.hygienic true
theorem So (app lower:Bt) (e:DT) (n:Nat) (s:Stmt) (hs:cG s=true) (σ:Sg) (K:Fl×Sg->Option D):Af app lower e (n+1) [s] σ K=Af app lower e n (Ah s) σ K:=by
 rcases s with _|_<;>first|(exact B7 hs;done)|skip
 rename_i b h o f p
 show GD _ [.Try b h o f p] σ K=_
 rw[HQ]
 exact if_pos hs
set_option tactic.hygienic false
noncomputable abbrev ge:List (Str×D):=[("sep",.str [47]),("curdir",.str [46])]
noncomputable abbrev Cy:Stmt:=An BE 3
noncomputable abbrev FF (i:Nat):List Stmt:=((Ah Cy).drop i).take 1
noncomputable def GJ (c:D):Option (List D):=
 (((Ay c).bind λb=>match b with|false=>some false|true=>(A0 .NotEq c (.str [46])).bind λb2=>match b2 with|false=>some false|true=>some true).bind λb=>if b then some true else some false).bind λb=>if b then some [c] else some []
noncomputable def ji:List Str:=["paths","split_paths","isabs","s1","s2","common","i","c"]
noncomputable def GK (vs:List D):Sg:=⟨ji.zip vs,[],ge⟩
section
variable {app lower:Bt}
theorem gf (K:Fl×Sg->Option D) (p q:D):Af app lower BE 40 (BE.body.take 1) ⟨[("paths",.list [p,q])],[],[]⟩ K=
 ((G5 lower (.val (.ref 166)) [p,q]).map λys=>D.tuple (ys.map .str)).bind λv=>K (.next,⟨[("paths",v)],[],[]⟩):=by kernel_rfl
theorem gg (K:Fl×Sg->Option D) (p q:D):Af app lower BE 40 ((BE.body.drop 1).take 2) ⟨[("paths",.tuple [p,q])],[],[]⟩ K=
 (app (.val (.builtin "isinstance")) [p,.val (.type "bytes")]).bind λv=>(Ay v).bind λb=>if b then none else K (.next,GK [.tuple [p,q]]):=by kernel_rfl
set_option tactic.hygienic true
theorem gh (K:Fl×Sg->Option D) (p q:D):Af app lower BE 39 (FF 0) (GK [.tuple [p,q]]) K=((Jr (λd=>Ak lower d "split" [.str [47]]) [p,q]).bind λds=>some (.next,GK [.tuple [p,q],.list ds])).bind (nx K):=by kernel_rfl
theorem gi (K:Fl×Sg->Option D) (a b:List Nat) (v:D):Af app lower BE 39 (FF 1) (GK [.tuple [.str a,.str b],v]) K=
 (((if ([[47].isPrefixOf a,[47].isPrefixOf b].all (· ==[47].isPrefixOf a))=true then some ([47].isPrefixOf a) else none).bind λz=>some (GK [.tuple [.str a,.str b],v,.bool z])).map λσ=>(Fl.next,σ)).bind (nx (nx K)):=by kernel_rfl
theorem gj (K:Fl×Sg->Option D) (p z:D) (x y:List D):Af app lower BE 39 (FF 2) (GK [p,.list [.list x,.list y],z]) K=
 ((Jr (λd=>(((Cq d).bind λl=>(l.mapM GJ).map List.flatten).bind λds=>if ds.length<=Ap then some ds else none).map .list) [.list x,.list y]).bind λds=>some (.next,GK [p,.list ds,z])).bind (nx K):=by kernel_rfl
set_option tactic.hygienic false
theorem gk (K:Fl×Sg->Option D) (p v z:D):Af app lower BE 39 (FF 3) (GK [p,v,z]) K=(app (.val (.builtin "min")) [v]).bind λs=>K (.next,GK [p,v,z,s]):=by kernel_rfl
theorem gl (K:Fl×Sg->Option D) (p v z s:D):Af app lower BE 39 (FF 4) (GK [p,v,z,s]) K=(app (.val (.builtin "max")) [v]).bind λt=>K (.next,GK [p,v,z,s,t]):=by kernel_rfl
theorem gm (K:Fl×Sg->Option D) (p v z s t:D):Af app lower BE 39 (FF 5) (GK [p,v,z,s,t]) K=K (.next,GK [p,v,z,s,t,s]):=by kernel_rfl
noncomputable abbrev CY:Stmt:=(FF 6).headD (.Pass default)
theorem gn:FF 6=[CY]:=by kernel_rfl
theorem Wd (p v z t u:D) (s:List D):Bu Gl (BV Gl Ak (AC Gl) app lower) BE.names (GK [p,v,z,.list s,t,u]).loc (GK [p,v,z,.list s,t,u]).cel (AK CY) (HP CY)=some (Cg s):=by kernel_rfl
theorem Sp (p v z s t u i c:D):AO BE.names BE.owned (AK CY) (.tuple [i,c]) (GK [p,v,z,s,t,u])=some (GK [p,v,z,s,t,u,i,c]):=by kernel_rfl
theorem Sq (p v z s t u i0 c0 i c:D):AO BE.names BE.owned (AK CY) (.tuple [i,c]) (GK [p,v,z,s,t,u,i0,c0])=some (GK [p,v,z,s,t,u,i,c]):=by kernel_rfl
theorem We (K:Fl×Sg->Option D) (p v z s t u i c:D):Af app lower BE 38 (Ah CY) (GK [p,v,z,s,t,u,i,c]) K=
 (AW t i).bind λw=>(A0 .NotEq c w).bind λb=>if b then (Db (some i)).bind λj=>(A8 s none j).bind λx=>K (.brk,GK [p,v,z,s,t,x,i,c]) else K (.next,GK [p,v,z,s,t,u,i,c]):=by kernel_rfl
theorem Wf (p v s t u:D) (z:Bool):Af app lower BE 39 ((Ah Cy).drop 7) (GK [p,v,.bool z,s,t,u]) Cw=
 if z then (Ak lower (.str [47]) "join" [u]).bind λw=>(Aq .Add (.str [47]) w).bind λx=>some x else (Ak lower (.str [47]) "join" [u]).bind λw=>(Aq .Add (.str []) w).bind λx=>some x:=by kernel_rfl
theorem Wg (p v s t u i c:D) (z:Bool):Af app lower BE 39 ((Ah Cy).drop 7) (GK [p,v,.bool z,s,t,u,i,c]) Cw=
 if z then (Ak lower (.str [47]) "join" [u]).bind λw=>(Aq .Add (.str [47]) w).bind λx=>some x else (Ak lower (.str [47]) "join" [u]).bind λw=>(Aq .Add (.str []) w).bind λx=>some x:=by kernel_rfl
end
noncomputable def A2 (l:List (List Nat)):List (List Nat):=l.filter λc=>!(c==[])&&!(c==[46])
noncomputable def EY (x y:List (List Nat)):List (List Nat):=if Co true y x then y else x
noncomputable def G6 (x y:List (List Nat)):List (List Nat):=if Co false y x then y else x
noncomputable def H5 (a b:List Nat):List Nat:=
 (if [47].isPrefixOf a then [47] else [])++Ao [47] ((EY (A2 (Ai 47 a)) (A2 (Ai 47 b))).take (Cp (EY (A2 (Ai 47 a)) (A2 (Ai 47 b))) (G6 (A2 (Ai 47 a)) (A2 (Ai 47 b)))))
noncomputable def Jy (a b:List Nat):Prop:=a.length<=20000/\b.length<=20000/\[47].isPrefixOf b=[47].isPrefixOf a/\
 (Cp (EY (A2 (Ai 47 a)) (A2 (Ai 47 b))) (G6 (A2 (Ai 47 a)) (A2 (Ai 47 b)))<(EY (A2 (Ai 47 a)) (A2 (Ai 47 b))).length->Cp (EY (A2 (Ai 47 a)) (A2 (Ai 47 b))) (G6 (A2 (Ai 47 a)) (A2 (Ai 47 b)))<(G6 (A2 (Ai 47 a)) (A2 (Ai 47 b))).length)
open Classical in
noncomputable def Jz:List D->Option D:=HT (λa:List Nat×List Nat=>[.list [.str a.1,.str a.2]]) λa=>if Jy a.1 a.2 then some (.str (H5 a.1 a.2)) else none
theorem gp (a b:List Nat) (h:Jy a b):Jz [.list [.str a,.str b]]=some (.str (H5 a b)):=by
 refine (Eb (enc:=λa:List Nat×List Nat=>[.list [.str a.1,.str a.2]]) (λa b h=>?_) (a,b)).trans (if_pos h)
 obtain ⟨a1,a2⟩:=a
 obtain ⟨b1,b2⟩:=b
 injection h with h1 h2
 injection h1 with h1
 injection h1 with h1 h2
 injection h2 with h2
 injection h1 with h1
 injection h2 with h2
 have e1:a1=b1:=h1
 have e2:a2=b2:=h2
 rw[e1,e2]
theorem Nx (c:List Nat):GJ (.str c)=some (if !(c==[])&&!(c==[46]) then [.str c] else []):=by
 unfold GJ
 rw[FD,bs,ne_str]
 cases c with
 |nil=>rfl
 |cons x c=>
  have e:(!((x::c)==([]:List Nat)))=true:=by simp
  rw[e]
  show (((some (!((x::c)==[46]))).bind _).bind _).bind _=_
  cases ((x::c)==[46])<;>rfl
theorem JA:∀l:List (List Nat),(l.map λc=>if !(c==[])&&!(c==[46]) then [D.str c] else []).flatten=(A2 l).map .str
 |[]=>rfl
 |c::l=>by
  unfold A2
  rw[List.map_cons,List.flatten_cons,JA l,List.filter_cons]
  unfold A2
  split<;>simp
theorem GL (l:List (List Nat)):(A2 l).length<=l.length:=List.length_filter_le _ _
theorem H6:∀l:List (List Nat),wt (A2 l)<=wt l
 |[]=>Nat.le_refl _
 |c::l=>by
  have ih:=H6 l
  unfold A2 at ih ⊢
  rw[List.filter_cons,Cf]
  split
  ·rw[Cf];lia
  ·lia
noncomputable def Ny (d:D):Option D:=(((Cq d).bind λl=>(l.mapM GJ).map List.flatten).bind λds=>if ds.length<=Ap then some ds else none).map .list
theorem Ma (l:List (List Nat)) (h:l.length<=100000):Ny (.list (l.map .str))=some (.list ((A2 l).map .str)):=by
 have hk:=GL l
 have e:(l.map D.str).mapM GJ=some (l.map λc=>if !(c==[])&&!(c==[46]) then [D.str c] else []):=EW l λa Z=>Nx a
 have h2:(A2 l).length<=Ap:=by unfold Ap;lia
 show ((Option.map List.flatten ((l.map D.str).mapM GJ)).bind λds=>if ds.length<=Ap then some ds else none).map D.list=_
 rw[e,Option.map_some,bs,JA,List.length_map,if_pos h2]
 rfl
theorem Nz:∀x y:List (List Nat),Cp x y<=x.length/\Cp x y<=y.length
 |[],y=>by simp[Cp]
 |_::_,[]=>by simp[Cp]
 |a::x,b::y=>by
  have ih:=Nz x y
  unfold Cp
  split
  ·simp;lia
  ·simp
theorem CU (a:List Nat) (x:List (List Nat)) (b:List Nat) (y:List (List Nat)):Cp (a::x) (b::y)=if a=b then Cp x y+1 else 0:=rfl
theorem Mc:∀ (x y:List (List Nat)) (i:Nat),i<=Cp x y->Cp x y=i+Cp (x.drop i) (y.drop i)
 |x,y,0,_=>by simp
 |[],y,i+1,h=>by simp[Cp] at h
 |_::_,[],i+1,h=>by simp[Cp] at h
 |a::x,b::y,i+1,h=>by
  rw[CU] at h ⊢
  rw[List.drop_succ_cons,List.drop_succ_cons]
  split
  ·rename_i e
   rw[if_pos e] at h
   have:=Mc x y i (by lia)
   lia
  ·rename_i e
   rw[if_neg e] at h
   lia
noncomputable def Wh (p:List Nat×Nat):D:=.tuple [.int p.2,.str p.1]
theorem Sr (x:List (List Nat)):Cg (x.map .str)=x.zipIdx.map Wh:=by
 unfold Cg Wh
 rw[List.zipIdx_map,List.map_map]
 rfl
noncomputable def dI (p v z s t u:D) (o:Option (D×D)):Sg:=match o with
 |none=>GK [p,v,z,s,t,u]
 |some (i,c)=>GK [p,v,z,s,t,u,i,c]
section
variable {app lower:Bt}
theorem OB (K:Fl×Sg->Option D) (p v z:D) (x y:List (List Nat)) (hx:x.length<=100000) (hc:Cp x y<x.length->Cp x y<y.length):∀ (n i:Nat) (o:Option (D×D)),n+i=x.length->i<=Cp x y->∃o',
  CG (AO BE.names BE.owned (AK CY)) (Af app lower BE 38 (Ah CY)) (Af app lower BE 38 (AQ CY)) (((x.drop i).zipIdx i).map Wh) (dI p v z (.list (x.map .str)) (.list (y.map .str)) (.list (x.map .str)) o) K=
  K (.next,dI p v z (.list (x.map .str)) (.list (y.map .str)) (.list ((x.take (Cp x y)).map .str)) o')
 |0,i,o,h,hi=>by
  have he:AQ CY=[]:=by kernel_rfl
  have hl:=(Nz x y).1
  refine ⟨o,?_⟩
  rw[List.drop_eq_nil_of_le (by lia),List.zipIdx_nil,List.map_nil,Cd,he,BL,List.take_of_length_le (by lia)]
 |n+1,i,o,h,hi=>by
  have hl:=Nz x y
  have q1:i<x.length:=by lia
  have q2:i<y.length:=by
   by_cases e:Cp x y<x.length
   ·have:=hc e;lia
   ·exact eC h hl e
  have hd:=Mc x y i hi
  rw[List.drop_eq_getElem_cons q1,List.drop_eq_getElem_cons q2] at hd
  have hb:AO BE.names BE.owned (AK CY) (Wh (x[i],i)) (dI p v z (.list (x.map .str)) (.list (y.map .str)) (.list (x.map .str)) o)=some (GK [p,v,z,.list (x.map .str),.list (y.map .str),.list (x.map .str),.int i,.str x[i]]):=by
   rcases o with _|⟨i0,c0⟩
   ·exact Sp ..
   ·exact Sq ..
  have g2:(y.map D.str)[i]?=some (.str y[i]):=by simp[q2]
  rw[List.drop_eq_getElem_cons q1,List.zipIdx_cons,List.map_cons,Be hb,We,Ec g2,bs,ne_str,bs]
  by_cases e:x[i]=y[i]
  ·obtain ⟨o',hL⟩:=OB K p v z x y hx hc n (i+1) (some (.int i,.str x[i])) (by lia) (by rw[CU,if_pos e] at hd;lia)
   refine ⟨o',?_⟩
   rw[if_neg (by rw[e];simp),Bv]
   exact hL
  ·refine ⟨some (.int i,.str x[i]),?_⟩
   have hi2:Cp x y=i:=by rw[CU,if_neg e] at hd;lia
   rw[if_pos (by simpa using e),Ea (ES (by lia) (by lia)),bs]
   show (some (D.list (AN (x.map D.str) none (some (i:Int))))).bind _=_
   rw[C8,bs,<-List.map_take,hi2]
   rfl
theorem Wi (B:CW app) (hlow:∀as,lower (.val (.ref 166)) as=ER as):Bg app lower BE Jz:=.of λas d h=>by
 obtain ⟨⟨a,b⟩,e,h'⟩:=Do h
 clear h
 have h:=h'
 clear h'
 subst e
 classical
 replace h:(if Jy a b then some (D.str (H5 a b)) else none)=some d:=by
  refine Eq.trans ?_ h
  congr
 revert h
 refine BO λhc h=>?_
 (replace h:=Option.some.inj h;subst h)
 revert hc
 refine Mine.bm λha hb hp hcp=>?_
 refine ⟨[.list [.str a,.str b]],by kernel_rfl,?_⟩
 have hσ:(⟨BE.xs.zip [.list [.str a,.str b]],[],[]⟩:Sg)=⟨[("paths",.list [.str a,.str b])],[],[]⟩:=by kernel_rfl
 have hm:G5 lower (.val (.ref 166)) [.str a,.str b]=some [a,b]:=by
  unfold G5 G5 G5
  rw[hlow,Po,bs,hlow,Po,bs]
  rfl
 rw[BX,hσ,Ae app lower BE 39 1,gf,hm,Option.map_some,bs,Ab]
 rw[Ae app lower BE 39 2,List.map_cons,List.map_cons,List.map_nil,gg,B.b,Kv,bs,D9,bs,GE,Ab,List.drop_drop]
 have hb3:BE.body.drop (1+2)=[Cy]:=by kernel_rfl
 rw[hb3,So app lower BE 39 Cy (by kernel_rfl)]
 have hsp:Jr (λd=>Ak lower d "split" [.str [47]]) [.str a,.str b]=some [.list ((Ai 47 a).map .str),.list ((Ai 47 b).map .str)]:=
  DE (enc:=D.str) (g:=λz=>.list ((Ai 47 z).map .str)) [a,b] (λz hz=>by
   have:z=a\/z=b:=by simpa using hz
   exact KA lower (by rcases this with rfl|rfl<;>exact Nat.le_trans (by assumption) (by decide))) (by simp)
 have hsa:=Ed 47 a
 have hsb:=Ed 47 b
 rw[Ae app lower BE 38 1,show (Ah Cy).take 1=FF 0 from rfl,gh,hsp,bs,bs,BK,Ab]
 rw[Ae app lower BE 38 1,show ((Ah Cy).drop 1).take 1=FF 1 from rfl,gi,if_pos (by rw[hp];simp),bs,Option.map_some,bs,BK,BK,Ab,List.drop_drop]
 have hin:Jr Ny [.list ((Ai 47 a).map .str),.list ((Ai 47 b).map .str)]=some [.list ((A2 (Ai 47 a)).map .str),.list ((A2 (Ai 47 b)).map .str)]:=
  DE (enc:=λz:List (List Nat)=>D.list (z.map .str)) (g:=λz=>.list ((A2 z).map .str)) [Ai 47 a,Ai 47 b] (λz hz=>by
   have:z=Ai 47 a\/z=Ai 47 b:=by simpa using hz
   exact Ma z (by rcases this with rfl|rfl<;>lia)) (by simp)
 rw[Ae app lower BE 38 1,show ((Ah Cy).drop (1+1)).take 1=FF 2 from rfl,gj]
 have hin':=hin
 unfold Ny at hin'
 rw[hin',bs,bs,BK,Ab,List.drop_drop]
 unfold H5
 have hka:=GL (Ai 47 a)
 have hkb:=GL (Ai 47 b)
 have hwa:=H6 (Ai 47 a)
 have hwb:=H6 (Ai 47 b)
 rw[Fb] at hwa hwb
 generalize A2 (Ai 47 a)=x at hcp hka hwa ⊢
 generalize A2 (Ai 47 b)=y at hcp hkb hwb ⊢
 have e1:GX "min" [.list [.list (x.map .str),.list (y.map .str)]]=some (.list ((EY x y).map .str)):=by
  show ((A7 (x.map D.str)).bind λxs=>(A7 (y.map D.str)).bind λys=>some (if Co true ys xs then D.list (y.map .str) else D.list (x.map .str)))=_
  rw[Bj,Bj,bs,bs]
  unfold EY
  split<;>rfl
 have e2:GX "max" [.list [.list (x.map .str),.list (y.map .str)]]=some (.list ((G6 x y).map .str)):=by
  show ((A7 (x.map D.str)).bind λxs=>(A7 (y.map D.str)).bind λys=>some (if Co false ys xs then D.list (y.map .str) else D.list (x.map .str)))=_
  rw[Bj,Bj,bs,bs]
  unfold G6
  split<;>rfl
 have hml:(EY x y).length<=100000/\wt (EY x y)<=50000:=by
  unfold EY
  split<;>lia
 rw[Ae app lower BE 38 1,show ((Ah Cy).drop (1+1+1)).take 1=FF 3 from rfl,gk,B.b,e1,bs,Ab,List.drop_drop]
 rw[Ae app lower BE 38 1,show ((Ah Cy).drop (1+1+1+1)).take 1=FF 4 from rfl,gl,B.b,e2,bs,Ab,List.drop_drop]
 rw[Ae app lower BE 38 1,show ((Ah Cy).drop (1+1+1+1+1)).take 1=FF 5 from rfl,gm,Ab,List.drop_drop]
 generalize EY x y=s at hcp hml ⊢
 generalize G6 x y=t at hcp ⊢
 rw[Ae app lower BE 38 1,show ((Ah Cy).drop (1+1+1+1+1+1)).take 1=FF 6 from rfl,gn,Cc app lower BE 38 CY (by kernel_rfl),Wd,bs,Sr]
 obtain ⟨o',hL⟩:=OB (app:=app) (lower:=lower) (Dm (Af app lower BE (38+1) (((Ah Cy).drop (1+1+1+1+1+1)).drop 1)) Cw) (.tuple [.str a,.str b]) (.list [.list (x.map .str),.list (y.map .str)]) (.bool ([47].isPrefixOf a)) s t hml.1 hcp s.length 0 none (by lia) (by lia)
 refine Eq.trans hL ?_
 rw[Ab,List.drop_drop]
 have hw:wt (s.take (Cp s t))<=wt s:=by
  have:=List.take_append_drop (Cp s t) s
  have h2:wt s=wt (s.take (Cp s t))+wt (s.drop (Cp s t)):=by rw[<-HZ,this]
  lia
 generalize s.take (Cp s t)=c at hw ⊢
 have hj:=CH 47 c
 rw[<-EX] at hj
 have hJ:Ak lower (.str [47]) "join" [.list (c.map .str)]=some (.str (Ao [47] c)):=Kw lower (Bj c) (by rw[<-EX];lia)
 have hret:Af app lower BE (38+1) ((Ah Cy).drop (1+1+1+1+1+1+1)) (dI (.tuple [.str a,.str b]) (.list [.list (x.map .str),.list (y.map .str)]) (.bool ([47].isPrefixOf a)) (.list (s.map .str)) (.list (t.map .str)) (.list (c.map .str)) o') Cw=
   if [47].isPrefixOf a then (Ak lower (.str [47]) "join" [.list (c.map .str)]).bind λw=>(Aq .Add (.str [47]) w).bind λx=>some x else (Ak lower (.str [47]) "join" [.list (c.map .str)]).bind λw=>(Aq .Add (.str []) w).bind λx=>some x:=by
  rcases o' with _|⟨i,cc⟩
  ·exact Wf ..
  ·exact Wg ..
 rw[hret,hJ]
 have g1:([47]:List Nat).length+(Ao [47] c).length<=Ap:=by simp[Ap];lia
 have g2:([]:List Nat).length+(Ao [47] c).length<=Ap:=by simp[Ap];lia
 split
 ·rw[bs,B5 g1];rfl
 ·rw[bs,B5 g2];rfl
end
noncomputable def Ee:List Nat->Option (List Nat)
 |[]=>some []
 |c::r=>match r with
  |a::b::r'=>if c=61/\BA a=true/\BA b=true then (DR [a,b]).bind λv=>(Ee r').map (v.toNat:: ·) else (Ee (a::b::r')).map (c:: ·)
  |r=>(Ee r).map (c:: ·)
theorem DF:Ee []=some []:=by unfold Ee;rfl
theorem Fc (c:Nat):Ee [c]=some [c]:=by unfold Ee;simp only[DF];rfl
theorem KF (c a:Nat):Ee [c,a]=some [c,a]:=by unfold Ee;simp only[Fc];rfl
theorem KG {c a b:Nat} {r:List Nat} (h:c=61/\BA a=true/\BA b=true):Ee (c::a::b::r)=(DR [a,b]).bind λv=>(Ee r).map (v.toNat:: ·):=by
 rw[Ee];simp only[if_pos h]
theorem H7 {c a b:Nat} {r:List Nat} (h:¬ (c=61/\BA a=true/\BA b=true)):Ee (c::a::b::r)=(Ee (a::b::r)).map (c:: ·):=by
 rw[Ee];simp only[if_neg h]
theorem Y1 {x:List Nat} {p:Nat} (h:D5 x.toArray p=true):∃a b,BA a=true/\BA b=true/\x.drop p=61::a::b::x.drop (p+3):=by
 refine Mine.ig (Cv.mp h) λh1 h2 h3 h4=>?_
 have h1':p+2<x.length:=by simpa using h1
 have g:∀i,i<x.length->x.toArray.getD i 0=x.getD i 0:=λi hi=>by simp[Array.getD,List.getD,hi]
 rw[g _ (by lia)] at h2 h3 h4
 have e:∀i (hi:i<x.length),x.getD i 0=x[i]:=λi hi=>by simp[List.getD,hi]
 rw[e _ (by lia)] at h2 h3 h4
 refine ⟨x[p+1],x[p+2],h3,h4,?_⟩
 rw[List.drop_eq_getElem_cons (by lia:p<x.length),List.drop_eq_getElem_cons (by lia:p+1<x.length),List.drop_eq_getElem_cons (by lia:p+1+1<x.length),h2]
theorem KH {x:List Nat} {p:Nat} (h:D5 x.toArray p=true):Ee (x.drop p)=(DR (((x.drop p).take 3).drop 1)).bind λv=>(Ee (x.drop (p+3))).map (v.toNat:: ·):=by
 refine Mine.S3 (Y1 h) λa b ha hb e=>?_
 rw[e,KG ⟨rfl,ha,hb⟩]
 rfl
theorem IE {x:List Nat} {p:Nat} (hp:p<x.length) (h:D5 x.toArray p=false):Ee (x.drop p)=(Ee (x.drop (p+1))).map (x[p]:: ·):=by
 rw[List.drop_eq_getElem_cons hp]
 rcases hd:x.drop (p+1) with _|⟨a,_|⟨b,r⟩⟩
 ·rw[Fc,DF];rfl
 ·rw[KF,Fc];rfl
 ·apply H7
  rintro ⟨c1,c2,c3⟩
  have hl:(x.drop (p+1)).length=x.length-(p+1):=List.length_drop
  rw[hd] at hl
  simp only[List.length_cons] at hl
  have k1:x[p+1]'(by lia)=a:=by
   have:(x.drop (p+1))[0]'(by rw[hd];simp)=a:=by simp[hd]
   simpa using this
  have k2:x[p+2]'(bt hl)=b:=by
   have:(x.drop (p+1))[1]'(by rw[hd];simp)=b:=by simp[hd]
   simpa using this
  have g:∀i (hi:i<x.length),x.toArray.getD i 0=x[i]:=λi hi=>by simp[Array.getD,hi]
  have:D5 x.toArray p=true:=Cv.mpr ⟨by simpa using bt hl,by rw[g _ hp];exact c1,by rw[g _ (by lia),k1];exact c2,by rw[g _ (by lia),k2];exact c3⟩
  rw[this] at h
  cases h
theorem KI {x:List Nat}:∀ (n p:Nat),p+n<=x.length->(∀r,p<=r->r<p+n->D5 x.toArray r=false)->Ee (x.drop p)=(Ee (x.drop (p+n))).map ((x.drop p).take n++ ·)
 |0,p,_,_=>by simp
 |n+1,p,h,hh=>by
  have ih:=KI (x:=x) n (p+1) (by lia) (λr a b=>hh r (by lia) (by lia))
  rw[IE (by lia) (hh p (by lia) (by lia)),ih,List.drop_eq_getElem_cons (by lia:p<x.length),List.take_succ_cons]
  have e:p+1+n=p+(n+1):=by lia
  rw[e]
  cases Ee (x.drop (p+(n+1)))<;>rfl
theorem Ss {x:List Nat} {p:Nat} (hp:p<=x.length) (hh:∀r,p<=r->D5 x.toArray r=false):Ee (x.drop p)=some (x.drop p):=by
 rw[KI (x.length-p) p (by lia) (λr a Z=>hh r a)]
 have e:p+(x.length-p)=x.length:=by lia
 rw[e,List.drop_length,DF,Option.map_some,List.take_of_length_le (by simp),List.append_nil]
theorem KJ:∀ (n:Nat) (x o:List Nat),x.length<=n->Ee x=some o->o.length<=x.length
 |0,x,o,hx,h=>by
  have:x=[]:=List.length_eq_zero_iff.mp (by lia)
  rw[this,DF] at h;(replace h:=Option.some.inj h;subst h);simp
 |n+1,x,o,hx,h=>by
  rcases x with _|⟨c,_|⟨a,_|⟨b,r⟩⟩⟩
  ·rw[DF] at h;(replace h:=Option.some.inj h;subst h);simp
  ·rw[Fc] at h;(replace h:=Option.some.inj h;subst h);simp
  ·rw[KF] at h;(replace h:=Option.some.inj h;subst h);simp
  ·simp only[List.length_cons] at hx ⊢
   by_cases hc:c=61/\BA a=true/\BA b=true
   ·rw[KG hc] at h
    refine Mine.ob h λv q h=>Mine.om h λo' q2 h=>?_
    subst h
    have:=KJ n r o' (by lia) q2
    simp;lia
   ·rw[H7 hc] at h
    revert h
    refine Mine.FQ λo' q2 h=>?_
    subst h
    have:=KJ n (a::b::r) o' (by simp;lia) q2
    simp at this ⊢
    lia
noncomputable def PC (as:List D):Option D:=Et as λd=>match d with| .str x=>if x.length<=40000 then (Ee (AE 95 [32] x)).map .str else none|_=>none
theorem dJ {x o:List Nat} (h:x.length<=40000) (h2:Ee (AE 95 [32] x)=some o):PC [.str x]=some (.str o):=by
 show (if x.length<=40000 then (Ee (AE 95 [32] x)).map D.str else none)=_
 rw[if_pos h,h2];rfl
theorem H8 (c z:Nat):∀x:List Nat,(AE c [z] x).length=x.length
 |[]=>rfl
 |a::x=>by
  have ih:=H8 c z x
  have e:AE c [z] (a::x)=(if a=c then [z] else [a])++AE c [z] x:=rfl
  rw[e,List.length_append,List.length_cons,ih]
  split<;>simp<;>lia
section
variable {app lower:Bt}
theorem Wj (x:List Nat) (q:Nat):LZ [.mat x q (q+3)]=(DR (((x.drop q).take 3).drop 1)).bind λv=>some (.str [v.toNat]):=by
 show LY [.str ((x.drop q).take (q+3-q))]=_
 have e:q+3-q=3:=by lia
 rw[e]
 show (DR ((((x.drop q).take 3).drop 1).take 2)).bind _=_
 have e2:(((x.drop q).take 3).drop 1).take 2=((x.drop q).take 3).drop 1:=List.take_of_length_le (by simp;lia)
 rw[e2]
theorem OC (h86:∀as,lower (.val (.ref 86)) as=LZ as) (x:List Nat):∀ (n p:Nat) (o:List Nat),p<=x.length->x.length<n+p->Ee (x.drop p)=some o->∃ps,Kf lower (.val (.ref 86)) x n p=some ps/\ps.flatten=o/\ps.length<=2*(x.length-p)+1
 |0,p,o,h1,h2,_=>by lia
 |n+1,p,o,h1,h2,h=>by
  unfold Kf
  rcases D7 x (x.length-p) p (by lia) with ⟨q,e,hq,hh,hno⟩|⟨e,hno⟩
  ·rw[e]
   have hq3:q+2<x.length:=by simpa using (Cv.mp hh).1
   have hg:=KI (x:=x) (q-p) p (by lia) (λr a b=>hno r a (by lia))
   have e1:p+(q-p)=q:=by lia
   rw[e1,KH hh] at hg
   rw[hg] at h
   dsimp only
   rw[h86,Wj]
   refine Mine.om h λoo hoo h=>Mine.ob hoo λv q1 hoo=>Mine.om hoo λo' q2 hoo=>?_
   subst hoo
   refine Mine.S8 (OC h86 x n (q+3) o' (by lia) (by lia) q2) λps g1 g2 g3=>?_
   subst h
   rw[q1,bs,bs,show Bm (.str [v.toNat])=some [v.toNat] from rfl,bs,g1]
   refine ⟨_,rfl,?_,?_⟩
   ·by_cases hpq:p<q
    ·rw[if_pos hpq]
     simp[g2]
    ·rw[if_neg hpq]
     have:q-p=0:=by lia
     simp[g2,this]
   ·split<;>simp
    ·exact bp hq (Cv.mp hh).1 g3
    ·exact Nat.le_of_succ_le (bp hq (Cv.mp hh).1 g3)
  ·rw[e]
   rw[Ss h1 hno] at h
   (replace h:=Option.some.inj h;subst h)
   refine ⟨_,rfl,?_,?_⟩
   ·by_cases hp:p<x.length
    ·rw[if_pos hp];simp
    ·rw[if_neg hp,List.drop_eq_nil_of_le (by lia)];rfl
   ·split<;>simp
theorem Y2 (h86:∀as,lower (.val (.ref 86)) as=LZ as):Bg app lower ⟨93,20,92,[],false⟩ PC:=.of λas d h=>by
 replace h:=Ch h
 revert h
 refine Mine.T0 λx eq1 h=>?_
 subst eq1
 revert h
 refine BO λhl h=>?_
 revert h
 refine Mine.FQ λo hd h=>?_
 subst h
 refine ⟨[.str x],by kernel_rfl,?_⟩
 have hL:=H8 95 32 x
 have e:∀x,HO (.str x) (Str.ofString "_") (Str.ofString " ")=if (Str.ofString "_").cps.size=1/\((Str.ofString "_")==(Str.ofString " "))=false/\x.length+(x.length+1)*(Str.ofString " ").cps.size<=Ap then some (.str (AE ((Str.ofString "_").cps.toList.headD 0) (Str.ofString " ").cps.toList x)) else none:=λZ=>rfl
 have e1:(Str.ofString "_").cps.toList.headD 0=95:=by decide+kernel
 have e2:(Str.ofString " ").cps.toList=[32]:=by decide+kernel
 have e3:(Str.ofString " ").cps.size=1:=by decide+kernel
 rw[F8,e,if_pos ⟨by decide+kernel,by decide+kernel,by rw[e3];unfold Ap;lia⟩,e1,e2,bs]
 generalize AE 95 [32] x=y at hd hL ⊢
 refine Mine.S8 (OC (lower:=lower) h86 y (y.length+1) 0 o (by lia) (by lia) hd) λps g1 g2 g3=>?_
 have ho:=KJ y.length y o (Nat.le_refl _) hd
 have e4:Ak lower (.val (.ref 43)) (Str.ofString "sub") [.val (.ref 86),.str y]=if (86:Nat)=86/\(lower (.val (.ref 86)) [.mat [61,50,69] 0 3]).isSome=true then Pe lower (.val (.ref 86)) y else none:=by kernel_rfl
 rw[e4,if_pos ⟨rfl,by rw[h86];decide+kernel⟩]
 unfold Pe
 rw[if_pos (by unfold Ap;lia),g1,bs,g2,if_pos ⟨by unfold Ap;lia,by unfold Ap;lia⟩]
 rfl
end
noncomputable abbrev Au:DT:=⟨340,74,339,[],false⟩
noncomputable def jj:List Str:=["script","numbers","head","root","parts","known","listing","request","row","read","late","kept","early","held","again"]
noncomputable def Bl (vs:List D) (cs:List D):Sg:=⟨jj.zip vs,[],[Str.ofString "modes",Str.ofString "listings"].zip cs⟩
noncomputable abbrev wb (i:Nat):List Stmt:=(Au.body.drop i).take 1
noncomputable abbrev LC:=Expr×Comprehension×List Comprehension×Scope
noncomputable def NA:Nat->Expr->Option LC
 |0,_=>none
 |n+1,e=>match e with
  | .ListComp e gs s _=>(match gs with|g::gs=>some (e,g,gs,s)|[]=>none)
  | .BinOp a _ b _=>(NA n a).orElse λZ=>NA n b
  | .Call _ as _ _=>as.findSome? (NA n)
  | .Compare l _ xs _=>(NA n l).orElse λZ=>xs.findSome? (NA n)
  |_=>none
noncomputable def WO (st:Stmt):LC:=((match st with
 | .Assign _ v _=>NA 9 v
 | .If t _ _ _=>NA 9 t
 |_=>none).getD (.Constant .none 0 default,default,[],default))
noncomputable abbrev DM (app lower:Bt) (m:Nat) (σ:Sg) (q:LC):Option (List D):=FT Gl (Dd Gl app (Ak lower) (AC Gl lower) m) Au.names σ.loc σ.cel q.1 q.2.1 q.2.2.1 q.2.2.2
noncomputable abbrev C6 (K:Fl×Sg->Option D) (σ:Sg) (b:Bool):Option D:=if b then K (.ret (.bool false),σ) else K (.next,σ)
noncomputable abbrev Me (d:D):Option D:=AW d (.int 0)
section
variable {app lower:Bt}
theorem jk (K:Fl×Sg->Option D) (s:D):Af app lower Au 40 (wb 0) (Bl [s] []) K=(Ay s).bind λb=>if b then (A8 s none (some 6)).bind λv=>K (.next,Bl [s,v] []) else K (.next,Bl [s,.list [.int 6,.int 69,.int 23,.int 2,.int 1478]] []):=by kernel_rfl
theorem jl (K:Fl×Sg->Option D) (s n:D):Af app lower Au 40 (wb 1) (Bl [s,n] []) K=(AW n (.int 0)).bind λv=>(Aq .Mod v (.int 4)).bind λk=>(AW (.list [.str [47],.str [47,47],.str [47,47,47],.str [46,47]]) k).bind λh=>K (.next,Bl [s,n,h] []):=by kernel_rfl
theorem jm (K:Fl×Sg->Option D) (s n h:D):Af app lower Au 40 (wb 2) (Bl [s,n,h] []) K=(AW n (.int 0)).bind λv=>(Aq .Mod v (.int 4)).bind λk=>(AW (.list [.str [47],.str [47,47],.str [47],.str []]) k).bind λr=>K (.next,Bl [s,n,h,r] []):=by kernel_rfl
set_option tactic.hygienic true
theorem jn (K:Fl×Sg->Option D) (s n h r:D):Af app lower Au 40 (wb 3) (Bl [s,n,h,r] []) K=(app (.val (.ref 302)) [n]).bind λv=>(Hi Au.names Au.owned ["modes","parts"] (v,Bl [s,n,h,r] [])).bind (nx K):=by kernel_rfl
set_option tactic.hygienic false
theorem gq (s n h r ms ps:D):Hi Au.names Au.owned [Str.ofString "modes",Str.ofString "parts"] (.tuple [ms,ps],Bl [s,n,h,r] [])=some (.next,Bl [s,n,h,r,ps] [ms]):=by kernel_rfl
set_option tactic.hygienic true
theorem jo (K:Fl×Sg->Option D) (s n h r ps:D) (ms:List D):Af app lower Au 40 (wb 4) (Bl [s,n,h,r,ps] [.list ms]) K=((Jr (λd=>app (.val (.ref 274)) [d]) ms).bind λds=>some (.next,Bl [s,n,h,r,ps] [.list ms,.list ds])).bind (nx K):=by kernel_rfl
set_option tactic.hygienic false
theorem jp (K:Fl×Sg->Option D) (s n h r ps ls:D) (ms:List D):Af app lower Au 40 (wb 5) (Bl [s,n,h,r,ps] [.list ms,ls]) K=((Jr (λd=>app (.val (.ref 281)) [d]) ms).map D.list).bind λv=>(A0 .NotEq ls v).bind (C6 K (Bl [s,n,h,r,ps] [.list ms,ls])):=by kernel_rfl
noncomputable def EZ:Str×Expr×Expr×Expr×Expr×Scope:=((match wb 6 with
 |[.Assign [t] v _]=>U2 t v
 |_=>none).getD (default,.Constant .none 0 default,.Constant .none 0 default,.Constant .none 0 default,.Constant .none 0 default,default))
set_option tactic.hygienic true
theorem jq (K:Fl×Sg->Option D) (s n h r ps ms ls:D):Af app lower Au 40 (wb 6) (Bl [s,n,h,r,ps] [ms,ls]) K=
 (((GU Gl (BV Gl Ak (AC Gl) app lower) Au.names (Bl [s,n,h,r,ps] [ms,ls]).loc (Bl [s,n,h,r,ps] [ms,ls]).cel EZ.2.1 EZ.2.2.1 EZ.2.2.2.1 EZ.2.2.2.2.1 EZ.2.2.2.2.2).bind λout=>some (Bl [s,n,h,r,ps,.dict (out.map (·.1)) (out.map (·.2))] [ms,ls])).map λσ=>(Fl.next,σ)).bind (nx K):=by kernel_rfl
set_option tactic.hygienic false
noncomputable abbrev CZ:Stmt:=(wb 7).headD (.Pass default)
theorem jr:wb 7=[CZ]:=by kernel_rfl
theorem gr (s n h r ps ms ls:D) (ks:List (List Nat)) (ds:List D):Bu Gl (BV Gl Ak (AC Gl) app lower) Au.names (Bl [s,n,h,r,ps,.dict ks ds] [ms,ls]).loc (Bl [s,n,h,r,ps,.dict ks ds] [ms,ls]).cel (AK CZ) (HP CZ)=some (ks.map .str):=by kernel_rfl
theorem cH (s n h r ps ms ls k x:D):AO Au.names Au.owned (AK CZ) x (Bl [s,n,h,r,ps,k] [ms,ls])=some (Bl [s,n,h,r,ps,k,x] [ms,ls]):=by kernel_rfl
theorem cI (s n h r ps ms ls k x0 x:D):AO Au.names Au.owned (AK CZ) x (Bl [s,n,h,r,ps,k,x0] [ms,ls])=some (Bl [s,n,h,r,ps,k,x] [ms,ls]):=by kernel_rfl
theorem gu (K:Fl×Sg->Option D) (s n h r ps ms ls k:D) (x:List Nat):Af app lower Au 39 (Ah CZ) (Bl [s,n,h,r,ps,k,.str x] [ms,ls]) K=
 ((Jr (λd=>app (.val (.builtin "ord")) [d]) (x.map λc=>.str [c])).map D.list).bind λv=>(app (.val (.type "bytes")) [v]).bind λw=>(app (.val (.ref 74)) [w,.str [113]]).bind λy=>
  (HO (.str x) "?" "=3F").bind λz=>(Aq .Add (.str [61,63,113,63,113,63]) z).bind λu=>(Aq .Add u (.str [63,61])).bind λt=>(A0 .NotEq y t).bind (C6 K (Bl [s,n,h,r,ps,k,.str x] [ms,ls])):=by kernel_rfl
theorem js (K:Fl×Sg->Option D) (s n h r ps ms ls k x:D):Af app lower Au 40 (wb 8) (Bl [s,n,h,r,ps,k,x] [ms,ls]) K=
 ((DM app lower 37 (Bl [s,n,h,r,ps,k,x] [ms,ls]) (WO (An Au 8))).map D.list).bind λv=>(Ak lower (.str [47]) "join" [v]).bind λw=>(Aq .Add h w).bind λq=>K (.next,Bl [s,n,h,r,ps,k,x,q] [ms,ls]):=by kernel_rfl
set_option tactic.hygienic true
theorem jt (K:Fl×Sg->Option D) (s n h r ps ms ls k x q:D):Af app lower Au 40 (wb 9) (Bl [s,n,h,r,ps,k,x,q] [ms,ls]) K=
 ((DM app lower 40 (Bl [s,n,h,r,ps,k,x,q] [ms,ls]) (WO (An Au 9))).bind λds=>some (.next,Bl [s,n,h,r,ps,k,x,q,.list ds] [ms,ls])).bind (nx K):=by kernel_rfl
set_option tactic.hygienic false
theorem gv (K:Fl×Sg->Option D) (s n h r ps ms ls k x q row:D):Af app lower Au 40 (wb 10) (Bl [s,n,h,r,ps,k,x,q,row] [ms,ls]) K=(app (.val (.ref 93)) [q]).bind λv=>K (.next,Bl [s,n,h,r,ps,k,x,q,row,v] [ms,ls]):=by kernel_rfl
theorem gw (K:Fl×Sg->Option D) (s n h r ps ms ls k x q rd:D) (row:List D):Af app lower Au 40 (wb 11) (Bl [s,n,h,r,ps,k,x,q,.list row,rd] [ms,ls]) K=
 ((Jr Me row).map D.list).bind λv=>(Ak lower (.str [47]) "join" [v]).bind λw=>(Aq .Add h w).bind λy=>(A0 .NotEq rd y).bind (C6 K (Bl [s,n,h,r,ps,k,x,q,.list row,rd] [ms,ls])):=by kernel_rfl
set_option tactic.hygienic true
theorem gx (K:Fl×Sg->Option D) (s n h r ps ms ls k x q row rd:D):Af app lower Au 40 (wb 12) (Bl [s,n,h,r,ps,k,x,q,row,rd] [ms,ls]) K=
 ((((app (.val (.ref 309)) [row,r]).bind Cq).bind λl=>Jr Me l).bind λds=>some (.next,Bl [s,n,h,r,ps,k,x,q,row,rd,.list ds] [ms,ls])).bind (nx K):=by kernel_rfl
set_option tactic.hygienic false
theorem gy (K:Fl×Sg->Option D) (s n h r ps ms ls k x q row rd la:D):Af app lower Au 40 (wb 13) (Bl [s,n,h,r,ps,k,x,q,row,rd,la] [ms,ls]) K=
 (app (.val (.ref 208)) [rd]).bind λv=>(app (.val (.ref 316)) [r,la]).bind λw=>(A0 .NotEq v w).bind (C6 K (Bl [s,n,h,r,ps,k,x,q,row,rd,la] [ms,ls])):=by kernel_rfl
theorem gz (K:Fl×Sg->Option D) (s n h r ps ms ls k x q row rd la:D):Af app lower Au 40 (wb 14) (Bl [s,n,h,r,ps,k,x,q,row,rd,la] [ms,ls]) K=
 (app (.val (.ref 309)) [ps,r]).bind λv=>K (.next,Bl [s,n,h,r,ps,k,x,q,row,rd,la,v] [ms,ls]):=by kernel_rfl
theorem gA (K:Fl×Sg->Option D) (s n h r ps ms ls k x q row rd la kp:D):Af app lower Au 40 (wb 15) (Bl [s,n,h,r,ps,k,x,q,row,rd,la,kp] [ms,ls]) K=
 (app (.val (.ref 208)) [q]).bind λv=>K (.next,Bl [s,n,h,r,ps,k,x,q,row,rd,la,kp,v] [ms,ls]):=by kernel_rfl
theorem gB (K:Fl×Sg->Option D) (s n h r ps ms ls k x q row rd la kp ea:D):Af app lower Au 40 (wb 16) (Bl [s,n,h,r,ps,k,x,q,row,rd,la,kp,ea] [ms,ls]) K=
 ((DM app lower 37 (Bl [s,n,h,r,ps,k,x,q,row,rd,la,kp,ea] [ms,ls]) (WO (An Au 16))).map D.list).bind λv=>(app (.val (.ref 316)) [r,v]).bind λw=>(A0 .NotEq ea w).bind (C6 K (Bl [s,n,h,r,ps,k,x,q,row,rd,la,kp,ea] [ms,ls])):=by kernel_rfl
set_option tactic.hygienic true
theorem gC (K:Fl×Sg->Option D) (s n h r ps ms ls k x q row rd la kp ea:D):Af app lower Au 40 (wb 17) (Bl [s,n,h,r,ps,k,x,q,row,rd,la,kp,ea] [ms,ls]) K=
 ((DM app lower 40 (Bl [s,n,h,r,ps,k,x,q,row,rd,la,kp,ea] [ms,ls]) (WO (An Au 17))).bind λds=>some (.next,Bl [s,n,h,r,ps,k,x,q,row,rd,la,kp,ea,.list ds] [ms,ls])).bind (nx K):=by kernel_rfl
set_option tactic.hygienic false
theorem gD (K:Fl×Sg->Option D) (s n h r ps ms ls k x q row rd la kp ea:D) (he:List D):Af app lower Au 40 (wb 18) (Bl [s,n,h,r,ps,k,x,q,row,rd,la,kp,ea,.list he] [ms,ls]) K=
 (app (.val (.ref 93)) [ea]).bind λv=>((Jr Me he).map D.list).bind λu=>(app (.val (.ref 316)) [r,u]).bind λw=>(A0 .NotEq v w).bind (C6 K (Bl [s,n,h,r,ps,k,x,q,row,rd,la,kp,ea,.list he] [ms,ls])):=by kernel_rfl
set_option tactic.hygienic true
theorem gE (K:Fl×Sg->Option D) (s n h r ps ms ls k x q row rd la kp ea he:D):Af app lower Au 40 (wb 19) (Bl [s,n,h,r,ps,k,x,q,row,rd,la,kp,ea,he] [ms,ls]) K=
 ((((app (.val (.ref 309)) [he,r]).bind Cq).bind λl=>Jr Me l).bind λds=>some (.next,Bl [s,n,h,r,ps,k,x,q,row,rd,la,kp,ea,he,.list ds] [ms,ls])).bind (nx K):=by kernel_rfl
set_option tactic.hygienic false
theorem gF (K:Fl×Sg->Option D) (s n h r ps ms ls k x q row rd la kp ea he ag:D):Af app lower Au 40 (wb 20) (Bl [s,n,h,r,ps,k,x,q,row,rd,la,kp,ea,he,ag] [ms,ls]) K=
 (app (.val (.ref 93)) [ea]).bind λu=>(app (.val (.ref 208)) [u]).bind λv=>(app (.val (.ref 316)) [r,ag]).bind λw=>(A0 .NotEq v w).bind (C6 K (Bl [s,n,h,r,ps,k,x,q,row,rd,la,kp,ea,he,ag] [ms,ls])):=by kernel_rfl
theorem gG (K:Fl×Sg->Option D) (s n h r ps ms ls k x q row rd la kp ea he ag:D):Af app lower Au 40 (wb 21) (Bl [s,n,h,r,ps,k,x,q,row,rd,la,kp,ea,he,ag] [ms,ls]) K=
 (app (.val (.ref 208)) [rd]).bind λa=>(app (.val (.ref 93)) [ea]).bind λu=>(app (.val (.ref 208)) [u]).bind λb=>(app (.val (.ref 213)) [.list [a,b]]).bind λv=>(A8 r none (some 1)).bind λr1=>(app (.val (.ref 335)) [la,ag]).bind λc=>(Ak lower (.str [47]) "join" [c]).bind λw=>(Aq .Add r1 w).bind λy=>(A0 .NotEq v y).bind (C6 K (Bl [s,n,h,r,ps,k,x,q,row,rd,la,kp,ea,he,ag] [ms,ls])):=by kernel_rfl
theorem gH (s n h r ps ms ls k x q row rd la kp ea he ag:D):Af app lower Au 40 (Au.body.drop 22) (Bl [s,n,h,r,ps,k,x,q,row,rd,la,kp,ea,he,ag] [ms,ls]) Cw=
 (app (.val (.builtin "len")) [h]).bind λc=>(Db (some c)).bind λi=>(A8 rd i none).bind λt=>(Ak lower t "split" [.str [47]]).bind λpp=>(app (.val (.ref 328)) [h,pp,k]).bind λa=>(app (.val (.ref 321)) [row,r]).bind λb=>(A0 .Eq a b).bind λz=>some (.bool z):=by kernel_rfl
end
section
variable {α β:Type}
noncomputable def gS (key:α->List Nat) (s:Nat×List α) (p:α):Nat×List α:=
 if key p=[46,46] then (s.1+1,s.2) else if key p=[]\/key p=[46] then s else if 0<s.1 then (s.1-1,s.2) else (s.1,s.2++[p])
noncomputable def Gd (key:α->List Nat) (up:α) (ps:List α) (root:List Nat):List α:=
 (if root=[] then List.replicate (ps.reverse.foldl (gS key) (0,[])).1 up else [])++(ps.reverse.foldl (gS key) (0,[])).2.reverse
theorem Su {kα:α->List Nat} {kβ:β->List Nat} (h:α->β) (hk:∀a,kβ (h a)=kα a):∀ (ps:List α) (u:Nat) (l:List α),(ps.map h).foldl (gS kβ) (u,l.map h)=((ps.foldl (gS kα) (u,l)).1,(ps.foldl (gS kα) (u,l)).2.map h)
 |[],u,l=>rfl
 |p::ps,u,l=>by
  rw[List.map_cons,List.foldl_cons,List.foldl_cons]
  have e:gS kβ (u,l.map h) (h p)=((gS kα (u,l) p).1,(gS kα (u,l) p).2.map h):=by
   unfold gS
   rw[hk]
   split
   ·rfl
   split
   ·rfl
   split
   ·rfl
   ·simp
  rw[e]
  exact Su h hk ps _ _
theorem GN {kα:α->List Nat} {kβ:β->List Nat} {uα:α} {uβ:β} (h:α->β) (hk:∀a,kβ (h a)=kα a) (hu:h uα=uβ) (ps:List α) (root:List Nat):(Gd kα uα ps root).map h=Gd kβ uβ (ps.map h) root:=by
 unfold Gd
 have e:=Su h hk ps.reverse 0 []
 rw[List.map_nil] at e
 rw[<-List.map_reverse,e,List.map_append,List.map_reverse]
 split
 ·rw[List.map_replicate,hu]
 ·rfl
end
theorem Mf (ps:List Pr) (root:List Nat):DJ ps root=Gd (·.1) R2 ps root:=rfl
noncomputable def ZG:Bd:=([46,46],[GH])
noncomputable def dK (p:Bd):Pr:=(p.1,.list (p.2.map AB))
noncomputable def cJ (q:A6):Pr:=(q.1,.bool q.2)
theorem Sv (ps:List Bd):ps.map BI=(ps.map dK).map B6:=by rw[List.map_map];rfl
theorem Y3 (ps:List A6):ps.map AB=(ps.map cJ).map B6:=by rw[List.map_map];rfl
noncomputable def CB (xs:List (List Nat)) (root:List Nat):List (List Nat):=Gd id [46,46] xs root
noncomputable def Sw (ps:List Bd) (root:List Nat):List Bd:=Gd (·.1) ZG ps root
theorem KL (q:List A6) (root:List Nat):(DJ (q.map cJ) root).map (·.1)=CB (q.map (·.1)) root:=by
 rw[Mf,GN (kα:=λp:Pr=>p.1) (kβ:=id) (uα:=R2) (uβ:=[46,46]) (λp:Pr=>p.1) (λZ=>rfl) rfl,List.map_map];rfl
theorem KM (ps:List Bd) (root:List Nat):DJ (ps.map dK) root=(Sw ps root).map dK:=by
 rw[Mf];exact (GN (kα:=λp:Bd=>p.1) (kβ:=λp:Pr=>p.1) (uα:=ZG) (uβ:=R2) dK (λZ=>rfl) rfl ps root).symm
noncomputable def headT (n0:Int):List Nat:=([[47],[47,47],[47,47,47],[46,47]]:List (List Nat)).getD (n0.fmod 4).toNat []
noncomputable def AL (n0:Int):List Nat:=([[47],[47,47],[47],[]]:List (List Nat)).getD (n0.fmod 4).toNat []
noncomputable def DN (n0:Int):Int:=Ad (n0.fdiv 4)
noncomputable def AD (n0:Int) (ns:List Int):List Int:=DN n0::(ns++[3,2]).flatMap DL
noncomputable def A9 (n0:Int) (ns:List Int):List Bd:=(BD (DN n0),[AT (DN n0)])::(ns++[3,2]).map Jv
noncomputable def C0 (n0:Int) (ns:List Int):List A6:=(A9 n0 ns).flatMap (·.2)
noncomputable def KN (n0:Int) (ns:List Int):List Nat:=headT n0++Ao [47] ((A9 n0 ns).map (·.1))
noncomputable def C3 (n0:Int) (ns:List Int):List Nat:=headT n0++Ao [47] ((C0 n0 ns).map (·.1))
noncomputable def BM (n0:Int) (ns:List Int):List (List Nat):=CB ((C0 n0 ns).map (·.1)) (AL n0)
noncomputable def CD (n0:Int) (ns:List Int):List Bd:=Sw (A9 n0 ns) (AL n0)
noncomputable def Cz (n0:Int) (ns:List Int):List A6:=(CD n0 ns).flatMap (·.2)
noncomputable def C1 (n0:Int) (ns:List Int):List (List Nat):=CB ((Cz n0 ns).map (·.1)) (AL n0)
noncomputable def Ef (n0:Int) (ns:List Int):List Nat:=As (AL n0) ((CD n0 ns).map (·.1))
noncomputable def PD (n0:Int) (ns:List Int):List Nat:=As (AL n0) ((Cz n0 ns).map (·.1))
noncomputable def Ge (m:Int) (l:List (List Nat×Int)):List (List Nat×Int):=
 if l.any (λp=>p.1=Ag m) then l.map (λp=>if p.1=Ag m then (p.1,m) else p) else l++[(Ag m,m)]
noncomputable def A5 (ms:List Int):List (List Nat×Int):=ms.foldl (λl m=>Ge m l) []
structure Gf (n0:Int) (ns:List Int):Prop where
 hmode:∀m∈AD n0 ns,Bz m=Ag m
 hhdr:∀p∈A5 (AD n0 ns),p.1.length=10/\(∀c∈p.1,c<128)/\p.1.flatMap Bx=AE 63 [61,51,70] p.1/\(AE 63 [61,51,70] p.1).length<=30
 hreq:(KN n0 ns).length<=30000
 hread:Ee (AE 95 [32] (KN n0 ns))=some (C3 n0 ns)
 hreadn:(C3 n0 ns).length<=8000
 hraw:wt ((A9 n0 ns).map (·.1))<=30000
 hrow:wt ((C0 n0 ns).map (·.1))<=8000
 hparts:(A9 n0 ns).length<=900
 hrowl:(C0 n0 ns).length<=900
 hkeptl:(CD n0 ns).length<=900
 hheldl:(Cz n0 ns).length<=900
 hlate:Bh (C3 n0 ns)=As (AL n0) (BM n0 ns)
 hlaten:wt (BM n0 ns)<=8000
 hlatel:(BM n0 ns).length<90
 hkept:Bh (KN n0 ns)=Ef n0 ns
 hkeptn:wt ((CD n0 ns).map (·.1))<=30000
 hheld:Ee (AE 95 [32] (Ef n0 ns))=some (PD n0 ns)
 hheldn:wt ((Cz n0 ns).map (·.1))<=8000
 hagain:Bh (PD n0 ns)=As (AL n0) (C1 n0 ns)
 hagainn:wt (C1 n0 ns)<=8000
 hcom:Jy (As (AL n0) (BM n0 ns)) (As (AL n0) (C1 n0 ns))
 hcom2:H5 (As (AL n0) (BM n0 ns)) (As (AL n0) (C1 n0 ns))=(AL n0).take 1++Ao [47] ((BM n0 ns).take (Cp (BM n0 ns) (C1 n0 ns)))
 hfoot:DK ((A5 (AD n0 ns)).map (·.1)) ((A5 (AD n0 ns)).map (·.2)) (Ai 47 ((C3 n0 ns).drop (headT n0).length)) (Bh (headT n0))=CM (AL n0) (C0 n0 ns) []
noncomputable def E0 (ns:List Int):List Int:=(if ns=[] then [6,69,23,2,1478] else ns).take 6
open Classical in
noncomputable def PE (a:List Int):Option D:=match E0 a with
 |[]=>none
 |n0::ns=>if Gf n0 ns then some (.bool true) else none
set_option tactic.hygienic true
theorem Sx {a:List Int} {d:D} (h:PE a=some d):∃n0 ns,E0 a=n0::ns/\Gf n0 ns/\d=.bool true:=by
 unfold PE at h
 split at h
 ·exact Aa h
 ·rename_i n0 ns e
  split at h
  ·rename_i L
   (replace h:=Option.some.inj h;subst h)
   exact ⟨n0,ns,e,L,rfl⟩
  ·exact Aa h
set_option tactic.hygienic false
theorem Wl {a:List Int} {n0:Int} {ns:List Int} (h:E0 a=n0::ns) (L:Gf n0 ns):PE a=some (.bool true):=by
 unfold PE
 rw[h]
 exact if_pos L
noncomputable def H9:List D->Option D:=HT (λa:List Int=>[.list (a.map .int)]) PE
theorem gI (a:List Int):H9 [.list (a.map .int)]=PE a:=by
 refine Eb (enc:=λa:List Int=>[.list (a.map .int)]) (λa b h=>?_) a
 injection h with h1 h2
 injection h1 with h1
 exact Cx L9 _ _ h1
theorem Sy {F:D->Option (List D)} {d:D} {f:List D} (h:([d].mapM F).map List.flatten=some f):F d=some f:=by
 rw[List.mapM_cons,List.mapM_nil] at h
 cases q:F d with
 |none=>rw[q] at h;exact Aa h
 |some y=>
  rw[q] at h
  have h:some ([y].flatten)=some f:=h
  injection h with h
  rw[<-h];simp
theorem PF {α:Type} {enc:α->D} {F:D->Option (List D)} {f:α->List D} (l:List α) (h:∀a∈l,([enc a].mapM F).map List.flatten=some (f a)):((l.map enc).mapM F).map List.flatten=some (l.map f).flatten:=by
 rw[EW (g:=f) l λa ha=>Sy (h a ha)];rfl
noncomputable abbrev GO (r:CA) (σ:Sg) (q:LC) (d:D):Option (List D):=
 Ep Gl r (Cj Au.names q.2.2.2.names) σ.cel (λloc'=>(r.e (Cj Au.names q.2.2.2.names) loc' σ.cel q.1).map λd=>[d]) (q.2.1::q.2.2.1) [] [d]
theorem Eg {app lower:Bt} {m:Nat} {σ:Sg} {q:LC} {α:Type} {enc:α->D} {l:List α} {f:α->List D}
  (h1:(Ft Au.names q.2.2.2.names&&decide (q.2.2.2.kind=.function))=true) (h2:Bu Gl (Dd Gl app (Ak lower) (AC Gl lower) m) Au.names σ.loc σ.cel q.2.1.target q.2.1.iter=some (l.map enc)) (h3:q.2.1.is_async=0)
  (h4:∀a∈l,GO (Dd Gl app (Ak lower) (AC Gl lower) m) σ q (enc a)=some (f a)) (h5:(l.map f).flatten.length<=100000):DM app lower m σ q=some (l.map f).flatten:=by
 unfold DM FT
 rw[if_pos h1,h2,bs]
 have h4':∀a∈l,_:=h4
 unfold GO Ep at h4'
 simp only[if_pos h3] at h4'
 unfold Ep
 simp only[if_pos h3]
 rw[PF l h4',bs,if_pos (by unfold Ap;exact Nat.le_trans (by assumption) (by decide))]
section
variable {app lower:Bt}
noncomputable abbrev q8:LC:=WO (An Au 8)
noncomputable abbrev q9:LC:=WO (An Au 9)
noncomputable abbrev dL:LC:=WO (An Au 16)
noncomputable abbrev dM:LC:=WO (An Au 17)
theorem i8 (s n h r ms ls k x:D) (ps:List D):Bu Gl (Dd Gl app (Ak lower) (AC Gl lower) 37) Au.names (Bl [s,n,h,r,.list ps,k,x] [ms,ls]).loc (Bl [s,n,h,r,.list ps,k,x] [ms,ls]).cel q8.2.1.target q8.2.1.iter=some ps:=by kernel_rfl
theorem i9 (s n h r ms ls k x q:D) (ps:List D):Bu Gl (Dd Gl app (Ak lower) (AC Gl lower) 40) Au.names (Bl [s,n,h,r,.list ps,k,x,q] [ms,ls]).loc (Bl [s,n,h,r,.list ps,k,x,q] [ms,ls]).cel q9.2.1.target q9.2.1.iter=some ps:=by kernel_rfl
theorem ju (s n h r ps ms ls k x q row rd la ea:D) (kp:List D):Bu Gl (Dd Gl app (Ak lower) (AC Gl lower) 37) Au.names (Bl [s,n,h,r,ps,k,x,q,row,rd,la,.list kp,ea] [ms,ls]).loc (Bl [s,n,h,r,ps,k,x,q,row,rd,la,.list kp,ea] [ms,ls]).cel dL.2.1.target dL.2.1.iter=some kp:=by kernel_rfl
theorem jv (s n h r ps ms ls k x q row rd la ea:D) (kp:List D):Bu Gl (Dd Gl app (Ak lower) (AC Gl lower) 40) Au.names (Bl [s,n,h,r,ps,k,x,q,row,rd,la,.list kp,ea] [ms,ls]).loc (Bl [s,n,h,r,ps,k,x,q,row,rd,la,.list kp,ea] [ms,ls]).cel dM.2.1.target dM.2.1.iter=some kp:=by kernel_rfl
theorem jw (vs:List D) (ms ls:D) (p:Bd):GO (Dd Gl app (Ak lower) (AC Gl lower) 37) (Bl vs [ms,ls]) q8 (BI p)=some [.str p.1]:=by kernel_rfl
theorem gJ (vs:List D) (ms ls:D) (p:Bd):GO (Dd Gl app (Ak lower) (AC Gl lower) 37) (Bl vs [ms,ls]) dL (BI p)=some [.str p.1]:=by kernel_rfl
theorem jx (vs:List D) (ms ls:D) (p:Bd):GO (Dd Gl app (Ak lower) (AC Gl lower) 40) (Bl vs [ms,ls]) q9 (BI p)=((((p.2.map AB).mapM λd=>some [d]).map List.flatten).bind λb=>some [b]).map List.flatten:=by kernel_rfl
theorem gK (vs:List D) (ms ls:D) (p:Bd):GO (Dd Gl app (Ak lower) (AC Gl lower) 40) (Bl vs [ms,ls]) dM (BI p)=((((p.2.map AB).mapM λd=>some [d]).map List.flatten).bind λb=>some [b]).map List.flatten:=by kernel_rfl
theorem JB (is:List A6):((((is.map AB).mapM λd=>some [d]).map List.flatten).bind λb=>some [b]).map List.flatten=some (is.map AB):=by
 rw[EW (g:=λa=>[AB a]) is (λZ Z=>rfl),Option.map_some,bs,Option.map_some]
 congr 1
 simp only[List.flatten_cons,List.flatten_nil,List.append_nil]
 induction is with
 |nil=>rfl
 |cons a is ih=>simp only[List.map_cons,List.flatten_cons,ih];rfl
theorem c8 (s n h r ms ls k x:D) (ps:List Bd) (hl:ps.length<=1000):DM app lower 37 (Bl [s,n,h,r,.list (ps.map BI),k,x] [ms,ls]) q8=some ((ps.map (·.1)).map .str):=by
 have e:(ps.map λp=>[D.str p.1]).flatten=(ps.map (·.1)).map .str:=by
  clear hl
  induction ps with
  |nil=>rfl
  |cons a ps ih=>simp only[List.map_cons,List.flatten_cons,ih];rfl
 rw[<-e]
 exact Eg (by kernel_rfl) (i8 ..) (by kernel_rfl) (λp Z=>jw _ _ _ p) (by rw[e,List.length_map,List.length_map];exact Nat.le_trans (by assumption) (by decide))
theorem jy (s n h r ps ms ls k x q row rd la ea:D) (kp:List Bd) (hl:kp.length<=1000):DM app lower 37 (Bl [s,n,h,r,ps,k,x,q,row,rd,la,.list (kp.map BI),ea] [ms,ls]) dL=some ((kp.map (·.1)).map .str):=by
 have e:(kp.map λp=>[D.str p.1]).flatten=(kp.map (·.1)).map .str:=by
  clear hl
  induction kp with
  |nil=>rfl
  |cons a ps ih=>simp only[List.map_cons,List.flatten_cons,ih];rfl
 rw[<-e]
 exact Eg (by kernel_rfl) (ju ..) (by kernel_rfl) (λp Z=>gJ _ _ _ p) (by rw[e,List.length_map,List.length_map];exact Nat.le_trans (by assumption) (by decide))
theorem Eh (ps:List Bd):(ps.map λp=>p.2.map AB).flatten=(ps.flatMap (·.2)).map AB:=by
 induction ps with
 |nil=>rfl
 |cons a ps ih=>simp only[List.map_cons,List.flatten_cons,ih,List.flatMap_cons,List.map_append]
theorem c9 (s n h r ms ls k x q:D) (ps:List Bd) (hl:(ps.flatMap (·.2)).length<=100000):DM app lower 40 (Bl [s,n,h,r,.list (ps.map BI),k,x,q] [ms,ls]) q9=some ((ps.flatMap (·.2)).map AB):=by
 rw[<-Eh]
 exact Eg (by kernel_rfl) (i9 ..) (by kernel_rfl) (λp Z=>(jx _ _ _ p).trans (JB p.2)) (by rw[Eh,List.length_map];exact hl)
theorem jz (s n h r ps ms ls k x q row rd la ea:D) (kp:List Bd) (hl:(kp.flatMap (·.2)).length<=100000):DM app lower 40 (Bl [s,n,h,r,ps,k,x,q,row,rd,la,.list (kp.map BI),ea] [ms,ls]) dM=some ((kp.flatMap (·.2)).map AB):=by
 rw[<-Eh]
 exact Eg (by kernel_rfl) (jv ..) (by kernel_rfl) (λp Z=>(gK _ _ _ p).trans (JB p.2)) (by rw[Eh,List.length_map];exact hl)
noncomputable def IF (l:List (List Nat×Int)):I8:=l.map λp=>(p.1,.int p.2)
theorem Sz (m:Int) (l:List (List Nat×Int)):G4 (Ag m) (.int m) (IF l)=IF (Ge m l):=by
 unfold G4 Ge IF
 have e:((l.map λp=>(p.1,D.int p.2)).any λp=>decide (p.1=Ag m))=l.any λp=>decide (p.1=Ag m):=by
  rw[List.any_map];rfl
 rw[e]
 split
 ·rw[List.map_map,List.map_map]
  apply List.map_congr_left
  intro p _
  simp only[Function.comp]
  split<;>rfl
 ·rw[List.map_append];rfl
theorem SA (vs:List D) (ms ls d:D) (ds:List D) (acc:I8):Rh (Dd Gl app (Ak lower) (AC Gl lower) 40) (Cj Au.names EZ.2.2.2.2.2.names) (Bl vs [ms,ls]).cel EZ.2.2.2.1 EZ.2.1 EZ.2.2.1 (d::ds) acc=
 (AW ls d).bind λk=>(Bm k).bind λk=>(AW ms d).bind λv=>Rh (Dd Gl app (Ak lower) (AC Gl lower) 40) (Cj Au.names EZ.2.2.2.2.2.names) (Bl vs [ms,ls]).cel EZ.2.2.2.1 EZ.2.1 EZ.2.2.1 ds (G4 k v acc):=by kernel_rfl
theorem Wm (vs:List D) (ms ls:D) (acc:I8):Rh (Dd Gl app (Ak lower) (AC Gl lower) 40) (Cj Au.names EZ.2.2.2.2.2.names) (Bl vs [ms,ls]).cel EZ.2.2.2.1 EZ.2.1 EZ.2.2.1 [] acc=some acc:=by kernel_rfl
theorem OD (vs:List D) (ms:List Int):∀ (n i:Nat) (l:List (List Nat×Int)),n+i=ms.length->
  Rh (Dd Gl app (Ak lower) (AC Gl lower) 40) (Cj Au.names EZ.2.2.2.2.2.names) (Bl vs [.list (ms.map .int),.list ((ms.map Ag).map .str)]).cel EZ.2.2.2.1 EZ.2.1 EZ.2.2.1 ((List.range' i n).map λ(k:Nat)=>D.int (k:Int)) (IF l)=some (IF ((ms.drop i).foldl (λl m=>Ge m l) l))
 |0,i,l,h=>by
  rw[List.drop_eq_nil_of_le (by lia)]
  exact Wm ..
 |n+1,i,l,h=>by
  have hi:i<ms.length:=by lia
  rw[List.range'_succ,List.map_cons,SA]
  have g1:((ms.map Ag).map D.str)[i]?=some (.str (Ag ms[i])):=by simp[hi]
  have g2:(ms.map D.int)[i]?=some (.int ms[i]):=by simp[hi]
  rw[Ec g1,bs,show Bm (.str (Ag ms[i]))=some (Ag ms[i]) from rfl,bs,Ec g2,bs,Sz,OD vs ms n (i+1) _ (by lia),List.drop_eq_getElem_cons hi]
  rfl
noncomputable def a6:Expr:=((JT EZ.2.2.2.2.1).getD (default,.Constant .none 0 default)).2
theorem jA (s n h r ps ls:D) (ms:List D):Bu Gl (Dd Gl app (Ak lower) (AC Gl lower) 40) Au.names (Bl [s,n,h,r,ps] [.list ms,ls]).loc (Bl [s,n,h,r,ps] [.list ms,ls]).cel EZ.2.2.2.1 EZ.2.2.2.2.1=(app (.val (.builtin "len")) [.list ms]).bind (IM EZ.2.2.2.1 1):=by
 have h1:Qp EZ.2.2.2.2.1=true:=by kernel_rfl
 have h2:JT EZ.2.2.2.2.1=some (Str.ofString "range",a6):=by kernel_rfl
 have h3:K8 (Dy Gl Au.names (Bl [s,n,h,r,ps] [.list ms,ls]).loc (Bl [s,n,h,r,ps] [.list ms,ls]).cel (Str.ofString "range"))=1:=by kernel_rfl
 have h4:(Aj [a6]&&!(Str.ofString "range"==Str.ofString "__debug__"))=true:=by kernel_rfl
 have h5:(Dd Gl app (Ak lower) (AC Gl lower) 40).e Au.names (Bl [s,n,h,r,ps] [.list ms,ls]).loc (Bl [s,n,h,r,ps] [.list ms,ls]).cel a6=app (.val (.builtin "len")) [.list ms]:=by kernel_rfl
 unfold Bu
 rw[if_pos h1,h2]
 dsimp only
 rw[if_neg (by rw[h3];decide),if_pos h4,h5,h3]
theorem Y4 (t:Expr) (n:Int):IM t 1 (.int n)=if (decide (0<=n)&&decide (n<1000000))=true then some (Dz n) else none:=rfl
theorem SD (B:CW app) (s n h r ps:D) (ms:List Int) (hl:ms.length<=1000):GU Gl (BV Gl Ak (AC Gl) app lower) Au.names (Bl [s,n,h,r,ps] [.list (ms.map .int),.list ((ms.map Ag).map .str)]).loc (Bl [s,n,h,r,ps] [.list (ms.map .int),.list ((ms.map Ag).map .str)]).cel EZ.2.1 EZ.2.2.1 EZ.2.2.2.1 EZ.2.2.2.2.1 EZ.2.2.2.2.2=some (IF (A5 ms)):=by
 unfold GU
 have hh:IM EZ.2.2.2.1 1 (.int ((ms.map D.int).length:Nat))=some ((List.range' 0 ms.length).map λ(k:Nat)=>D.int (k:Int)):=by
  rw[Y4,List.length_map,if_pos (by simp;lia)]
  unfold Dz
  rw[Int.toNat_natCast,List.range_eq_range']
 rw[if_pos (by kernel_rfl)]
 show ((Bu Gl (Dd Gl app (Ak lower) (AC Gl lower) 40) Au.names _ _ EZ.2.2.2.1 EZ.2.2.2.2.1).bind _)=_
 rw[jA,R5 B,bs,hh,bs,if_pos (by simp[Ap];exact Nat.le_trans (by assumption) (by decide))]
 exact OD (lower:=lower) _ ms ms.length 0 [] (by lia)
end
structure OE (app:Bt):Prop where
 b:CW app
 h74:∀as,app (.val (.ref 74)) as=Pp as
 h93:∀as,app (.val (.ref 93)) as=PC as
 h208:∀as,app (.val (.ref 208)) as=HV as
 h213:∀as,app (.val (.ref 213)) as=Jz as
 h274:∀as,app (.val (.ref 274)) as=L5 as
 h281:∀as,app (.val (.ref 281)) as=Gc as
 h302:∀as,app (.val (.ref 302)) as=Jw as
 h309:∀as,app (.val (.ref 309)) as=Jm as
 h316:∀as,app (.val (.ref 316)) as=Ga as
 h321:∀as,app (.val (.ref 321)) as=Js as
 h328:∀as,app (.val (.ref 328)) as=Ju as
 h335:∀as,app (.val (.ref 335)) as=Jo as
theorem Ia:∀x:List Nat,Fx (x.map λc=>D.int (c:Nat))=some (x.map λc=>((c:Nat):Int))
 |[]=>rfl
 |c::x=>by
  rw[List.map_cons,List.map_cons]
  show (Fx (x.map λc=>D.int (c:Nat))).map _=_
  rw[Ia x];rfl
theorem PG:∀x:List Nat,(∀c∈x,c<128)->((PySem.byteArr (x.map λc=>((c:Nat):Int))).toList.map (·.toNat))=x
 |x,h=>by
  unfold PySem.byteArr
  rw[List.toList_toArray,List.map_map,List.map_map]
  conv=>rhs;rw[<-List.map_id x]
  apply List.map_congr_left
  intro c hc
  have:=h c hc
  show ((((c:Nat):Int).toNat.toUInt8).toNat)=c
  rw[Int.toNat_natCast]
  show (UInt8.ofNat c).toNat=c
  rw[UInt8.toNat_ofNat']
  exact Nat.mod_eq_of_lt (by exact Nat.le_trans (by assumption) (by decide))
theorem Y5 {x:List Nat} (h:x.length<=100000):HO (.str x) (Str.ofString "?") (Str.ofString "=3F")=some (.str (AE 63 [61,51,70] x)):=by
 have e:∀x,HO (.str x) (Str.ofString "?") (Str.ofString "=3F")=if (Str.ofString "?").cps.size=1/\((Str.ofString "?")==(Str.ofString "=3F"))=false/\x.length+(x.length+1)*(Str.ofString "=3F").cps.size<=Ap then some (.str (AE ((Str.ofString "?").cps.toList.headD 0) (Str.ofString "=3F").cps.toList x)) else none:=λZ=>rfl
 have e1:(Str.ofString "?").cps.toList.headD 0=63:=by decide+kernel
 have e2:(Str.ofString "=3F").cps.toList=[61,51,70]:=by decide+kernel
 have e3:(Str.ofString "=3F").cps.size=3:=by decide+kernel
 rw[e,if_pos ⟨by decide+kernel,by decide+kernel,by rw[e3];unfold Ap;lia⟩,e1,e2]
noncomputable def OF (x:List Nat):Prop:=x.length=10/\(∀c∈x,c<128)/\x.flatMap Bx=AE 63 [61,51,70] x/\(AE 63 [61,51,70] x).length<=30
theorem Ei (x:List Nat):A0 .NotEq (.str x) (.str x)=some false:=by
 rw[ne_str];simp
theorem Mg (x:List (List Nat)):A0 .Eq (.list (x.map .str)) (.list (x.map .str))=some true:=by
 show Fs (x.map D.str) (x.map D.str)=_
 unfold Fs
 rw[if_pos rfl,Bj]
 simp
theorem SF (x:List (List Nat)):A0 .NotEq (.list (x.map .str)) (.list (x.map .str))=some false:=by
 show (Fs (x.map D.str) (x.map D.str)).map not=_
 rw[show Fs (x.map D.str) (x.map D.str)=some true from Mg x];rfl
section
variable {app lower:Bt}
theorem WP (A:OE app) (K:Fl×Sg->Option D) (s n h r ps ms ls k:D) (x:List Nat) (hx:OF x):Af app lower Au 39 (Ah CZ) (Bl [s,n,h,r,ps,k,.str x] [ms,ls]) K=K (.next,Bl [s,n,h,r,ps,k,.str x] [ms,ls]):=by
 revert hx
 refine Mine.bm λh1 h2 h3 h4=>?_
 have e1:Jr (λd=>app (.val (.builtin "ord")) [d]) (x.map λc=>.str [c])=some (x.map λc=>.int (c:Nat)):=
  DE (enc:=λc=>.str [c]) (g:=λc=>.int (c:Nat)) x (λa Z=>A.b.b _ _) (by lia)
 have hb:=PG x h2
 have hsz:(PySem.byteArr (x.map λc=>((c:Nat):Int))).size=10:=by
  have:=congrArg List.length hb
  rw[List.length_map] at this
  rw[<-h1,<-this];simp
 have e2:Jc "bytes" [.list (x.map λc=>.int (c:Nat))]=some (.bytes (PySem.byteArr (x.map λc=>((c:Nat):Int)))):=by
  show ((Fx (x.map λc=>D.int (c:Nat))).bind λns=>if ns.all (λn=>decide (0<=n)&&decide (n<256)) then some (D.bytes (PySem.byteArr ns)) else none)=_
  rw[Ia,bs,if_pos]
  rw[List.all_eq_true]
  intro i hi
  refine Mine.S0 (List.mem_map.mp hi) λc hc eq1=>?_
  subst eq1
  have:=h2 c hc
  simp only[Bool.and_eq_true,decide_eq_true_eq]
  lia
 have e3:Pp [.bytes (PySem.byteArr (x.map λc=>((c:Nat):Int))),.str [113]]=some (.str (TB [113] (x.flatMap Bx))):=by
  generalize hB:PySem.byteArr (x.map λc=>((c:Nat):Int))=b at hb hsz
  show (if b.size=10/\((b.toList.map (·.toNat)).all λx=>decide (x<128))=true/\((b.toList.map (·.toNat)).flatMap Bx).length<=1000/\([113]:List Nat).length<=1000 then some (D.str (TB [113] ((b.toList.map (·.toNat)).flatMap Bx))) else none)=_
  rw[hb,if_pos]
  refine ⟨hsz,?_,?_,by decide⟩
  ·rw[List.all_eq_true]
   intro c hc
   exact decide_eq_true (h2 c hc)
  ·rw[h3];exact Nat.le_trans (by assumption) (by decide)
 rw[gu,e1,Option.map_some,bs,A.b.t,e2,bs,A.h74,e3,bs,Y5 (by lia),bs,h3]
 generalize AE 63 [61,51,70] x=y at h4 ⊢
 rw[B5 (by simp[Ap];lia),bs,B5 (by simp[Ap];exact Nat.le_trans (by assumption) (by decide)),bs]
 have e4:TB [113] y=[61,63,113,63,113,63]++y++[63,61]:=by unfold TB;simp
 rw[e4,Ei,bs]
 rfl
theorem cK (A:OE app) (K:Fl×Sg->Option D) (s n h r ps ms ls k:D):∀ (ks:List (List Nat)) (x0:List Nat),(∀x∈ks,OF x)->∃x',
  CG (AO Au.names Au.owned (AK CZ)) (Af app lower Au 39 (Ah CZ)) (Af app lower Au 39 (AQ CZ)) (ks.map .str) (Bl [s,n,h,r,ps,k,.str x0] [ms,ls]) K=K (.next,Bl [s,n,h,r,ps,k,.str x'] [ms,ls])
 |[],x0,_=>by
  have he:AQ CZ=[]:=by kernel_rfl
  refine ⟨x0,?_⟩
  rw[List.map_nil,Cd,he,BL]
 |x::ks,x0,hk=>by
  obtain ⟨x',hL⟩:=cK A K s n h r ps ms ls k ks x (λy hy=>hk y (by simp[hy]))
  refine ⟨x',?_⟩
  rw[List.map_cons,Be (cI s n h r ps ms ls k _ _),WP A _ _ _ _ _ _ _ _ _ x (hk x (by exact List.mem_cons_self)),Bv,hL]
theorem Y6 (A:OE app) (K:Fl×Sg->Option D) (s n h r ps ms ls:D) (ks:List (List Nat)) (ds:List D) (hne:ks≠[]) (hk:∀x∈ks,OF x):∃x',Af app lower Au 40 (wb 7) (Bl [s,n,h,r,ps,.dict ks ds] [ms,ls]) K=K (.next,Bl [s,n,h,r,ps,.dict ks ds,.str x'] [ms,ls]):=by
 refine Mine.S2 (List.exists_cons_of_ne_nil hne) λx ks' eq1=>?_
 subst eq1
 obtain ⟨x',hL⟩:=cK (lower:=lower) A K s n h r ps ms ls (.dict (x::ks') ds) ks' x (λy hy=>hk y (by simp[hy]))
 refine ⟨x',?_⟩
 rw[jr,Cc app lower Au 39 CZ (by kernel_rfl),gr,bs,List.map_cons,Be (cH s n h r ps ms ls _ _),WP A _ _ _ _ _ _ _ _ _ x (hk x (by exact List.mem_cons_self)),Bv,hL]
theorem B1 (i j:Nat) (h:i+1=j) (σ:Sg) (K:Fl×Sg->Option D):Af app lower Au 40 (Au.body.drop i) σ K=Af app lower Au 40 (wb i) σ (Dm (Af app lower Au 40 (Au.body.drop j)) K):=by
 rw[Ae app lower Au 39 1,List.drop_drop,h]
theorem CJ (K:Fl×Sg->Option D) (σ:Sg):C6 K σ false=K (.next,σ):=rfl
theorem cL {xs:List (List Nat)} (hx:xs.length=4) (n:Int):(AW (.list (xs.map .str)) (.int (n.fmod 4)))=some (.str (xs.getD (n.fmod 4).toNat [])):=by
 obtain ⟨b1,b2⟩:=Bp n (y:=4) (by decide)
 exact H4 b1 (by lia)
theorem JC:∀ (ms:List Int) (l:List (List Nat×Int)),l≠[]->ms.foldl (λl m=>Ge m l) l≠[]
 |[],l,h=>h
 |m::ms,l,h=>by
  rw[List.foldl_cons]
  apply JC ms
  unfold Ge
  split
  ·simpa using h
  ·simp
theorem JD (is:List A6) (h:is.length<=100000):Jr Me (is.map AB)=some ((is.map (·.1)).map .str):=by
 rw[DE (enc:=AB) (f:=Me) (g:=λq=>.str q.1) is (λq Z=>Se q) (by exact Nat.le_trans (by assumption) (by decide)),List.map_map];rfl
theorem Wn (is:List Pr) (h:is.length<=100000):Jr Me (is.map B6)=some ((is.map (·.1)).map .str):=by
 rw[DE (enc:=B6) (g:=λq=>.str q.1) is (λq Z=>rfl) (by exact Nat.le_trans (by assumption) (by decide)),List.map_map];rfl
theorem Y7 (l:List (List Nat)):l.length<=wt l:=by rw[EX];lia
theorem DG (l:List (List Nat)):(Ao [47] l).length<=wt l:=by rw[EX];exact CH 47 l
theorem KO (lower:Bt) (l:List (List Nat)) (h:wt l<=100000):Ak lower (.str [47]) "join" [.list (l.map .str)]=some (.str (Ao [47] l)):=Kw lower (Bj l) (by rw[<-EX];exact h)
theorem Wo (A:OE app):Bg app lower Au H9:=.of λas d h=>by
 refine Mine.S0 (Do h) λsc e h'=>?_
 clear h
 subst e
 refine Mine.S3 (Sx h') λn0 ns hnum L eq1=>?_
 subst eq1
 have hnl:ns.length<=10:=by
  have:=congrArg List.length hnum
  unfold E0 at this
  simp at this
  lia
 refine ⟨[.list (sc.map .int)],by kernel_rfl,?_⟩
 have hσ:(⟨Au.xs.zip [.list (sc.map .int)],[],[]⟩:Sg)=Bl [.list (sc.map .int)] []:=by kernel_rfl
 rw[BX,hσ,show Au.body=Au.body.drop 0 from rfl]
 have h0:Af app lower Au 40 (Au.body.drop 0) (Bl [.list (sc.map .int)] []) Cw=Af app lower Au 40 (Au.body.drop 1) (Bl [.list (sc.map .int),.list ((n0::ns).map .int)] []) Cw:=by
  rw[B1 0 1 rfl,jk,Hd,bs]
  by_cases hs:sc=[]
  ·subst hs
   rw[if_neg (by simp),Ab]
   have:n0::ns=[6,69,23,2,1478]:=by rw[<-hnum];rfl
   rw[this];rfl
  ·have hne:(sc.map D.int).isEmpty=false:=by simpa using hs
   have hsl:A8 (.list (sc.map .int)) none (some 6)=some (.list ((n0::ns).map .int)):=by
    show some (D.list (AN (sc.map D.int) none (some ((6:Nat):Int))))=_
    rw[C8,<-List.map_take,<-hnum]
    unfold E0
    rw[if_neg hs]
   rw[hne,Bool.not_false,if_pos rfl,hsl,bs,Ab]
 rw[h0]
 have e0:AW (.list ((n0::ns).map .int)) (.int 0)=some (.int n0):=Ec (c:=0) rfl
 have eh:AW (.list [.str [47],.str [47,47],.str [47,47,47],.str [46,47]]) (.int (n0.fmod 4))=some (.str (headT n0)):=cL (xs:=[[47],[47,47],[47,47,47],[46,47]]) rfl n0
 have er:AW (.list [.str [47],.str [47,47],.str [47],.str []]) (.int (n0.fmod 4))=some (.str (AL n0)):=cL (xs:=[[47],[47,47],[47],[]]) rfl n0
 rw[B1 1 2 rfl,jl,e0,bs,CT n0 (y:=4) (by decide),bs,eh,bs,Ab]
 rw[B1 2 3 rfl,jm,e0,bs,CT n0 (y:=4) (by decide),bs,er,bs,Ab]
 rw[B1 3 4 rfl,jn,A.h302,ga n0 ns hnl,bs,gq,bs,BK,Ab]
 have hML:(AD n0 ns).length<=900:=by
  unfold AD
  have:∀l:List Int,(l.flatMap DL).length<=2*l.length:=λl=>by
   induction l with
   |nil=>simp
   |cons a l ih=>
    have:=G0 (a.fmod 8) (a.fdiv 8)
    rw[List.flatMap_cons,List.length_append,List.length_cons]
    unfold DL at*
    exact eE ih this
  have h2:=this (ns++[3,2])
  simp only[List.length_cons,List.length_append,List.length_nil] at h2 ⊢
  lia
 change Af app lower Au 40 (Au.body.drop 4) (Bl [_,_,_,_,.list ((A9 n0 ns).map BI)] [.list ((AD n0 ns).map .int)]) Cw=_
 generalize hscript:D.list (sc.map .int)=script
 generalize hnumbers:D.list ((n0::ns).map .int)=numbers
 have hls:Jr (λd=>app (.val (.ref 274)) [d]) ((AD n0 ns).map .int)=some (((AD n0 ns).map Ag).map .str):=by
  rw[DE (enc:=D.int) (g:=λm=>.str (Ag m)) (AD n0 ns) (λm hm=>by rw[A.h274,<-L.hmode m hm];rfl) (by exact Nat.le_trans (by assumption) (by decide)),List.map_map];rfl
 have hls2:Jr (λd=>app (.val (.ref 281)) [d]) ((AD n0 ns).map .int)=some (((AD n0 ns).map Ag).map .str):=by
  rw[DE (enc:=D.int) (g:=λm=>.str (Ag m)) (AD n0 ns) (λm hm=>by rw[A.h281];rfl) (by exact Nat.le_trans (by assumption) (by decide)),List.map_map];rfl
 rw[B1 4 5 rfl,jo,hls,bs,bs,BK,Ab]
 rw[B1 5 6 rfl,jp,hls2,Option.map_some,bs,SF,bs,CJ,Ab]
 rw[B1 6 7 rfl,jq,SD A.b _ _ _ _ _ _ (by exact Nat.le_trans (by assumption) (by decide)),bs,Option.map_some,bs,BK,Ab]
 have hk1:(IF (A5 (AD n0 ns))).map (·.1)=(A5 (AD n0 ns)).map (·.1):=by unfold IF;rw[List.map_map];rfl
 have hk2:(IF (A5 (AD n0 ns))).map (·.2)=((A5 (AD n0 ns)).map (·.2)).map .int:=by unfold IF;rw[List.map_map,List.map_map];rfl
 rw[hk1,hk2]
 have hkne:(A5 (AD n0 ns)).map (·.1)≠[]:=by
  have:A5 (AD n0 ns)≠[]:=by
   unfold A5 AD
   rw[List.foldl_cons]
   exact JC _ _ (by simp[Ge])
  simpa using this
 obtain ⟨x',h7⟩:=Y6 (lower:=lower) A (Dm (Af app lower Au 40 (Au.body.drop 8)) Cw) script numbers (.str (headT n0)) (.str (AL n0)) (.list ((A9 n0 ns).map BI)) (.list ((AD n0 ns).map .int)) (.list (((AD n0 ns).map Ag).map .str)) ((A5 (AD n0 ns)).map (·.1)) (((A5 (AD n0 ns)).map (·.2)).map .int) hkne (λx hx=>by
  refine Mine.S0 (List.mem_map.mp hx) λp hp eq1=>?_
  subst eq1
  exact L.hhdr p hp)
 rw[B1 7 8 rfl,h7,Ab]
 generalize D.str x'=lst
 generalize D.list (((AD n0 ns).map Ag).map .str)=lss
 generalize D.list ((AD n0 ns).map .int)=mss
 have hkl:((A5 (AD n0 ns)).map (·.1)).length=((A5 (AD n0 ns)).map (·.2)).length:=by simp
 have hfoot:=L.hfoot
 generalize (A5 (AD n0 ns)).map (·.1)=kk at hkl hfoot ⊢
 generalize (A5 (AD n0 ns)).map (·.2)=kv at hkl hfoot ⊢
 have hhead:(headT n0).length<=3/\(AL n0).length<=2:=by
  unfold headT AL
  obtain ⟨b1,b2⟩:=Bp n0 (y:=4) (by decide)
  revert b1 b2
  generalize n0.fmod 4=a
  revert a
  exact ck (by decide) (by decide) (by decide) (by decide)
 have hP:=L.hparts
 have hR:=L.hraw
 have hRow:=L.hrow
 have hrowl:(C0 n0 ns).length<=8000:=by
  have:=Y7 ((C0 n0 ns).map (·.1))
  rw[List.length_map] at this
  lia
 have hJ1:=DG ((A9 n0 ns).map (·.1))
 have hJ2:=DG ((C0 n0 ns).map (·.1))
 rw[B1 8 9 rfl,js,c8 _ _ _ _ _ _ _ _ _ (by exact Nat.le_trans (by assumption) (by decide)),Option.map_some,bs,KO lower _ (by exact Nat.le_trans (by assumption) (by decide)),bs,B5 (by unfold Ap;lia),bs,Ab]
 rw[B1 9 10 rfl,jt,c9 _ _ _ _ _ _ _ _ _ _ (by exact Nat.le_trans hrowl (by decide)),bs,bs,BK,Ab]
 change Af app lower Au 40 (Au.body.drop 10) (Bl [script,numbers,.str (headT n0),.str (AL n0),.list ((A9 n0 ns).map BI),.dict kk (kv.map .int),lst,.str (KN n0 ns),.list ((C0 n0 ns).map AB)] [mss,lss]) Cw=_
 have hrq:=L.hreq
 have hrn:=L.hreadn
 rw[B1 10 11 rfl,gv,A.h93,dJ (by exact Nat.le_trans (by assumption) (by decide)) L.hread,bs,Ab]
 rw[B1 11 12 rfl,gw,JD _ (by exact Nat.le_trans (by assumption) (by decide)),Option.map_some,bs,KO lower _ (by exact Nat.le_trans (by assumption) (by decide)),bs,B5 (by unfold Ap;lia),bs]
 rw[show headT n0++Ao [47] ((C0 n0 ns).map (·.1))=C3 n0 ns from rfl,Ei,bs,CJ,Ab]
 have hlate1:∀ (is:List A6),is.length<=900->((((app (.val (.ref 309)) [.list (is.map AB),.str (AL n0)]).bind Cq).bind λl=>Jr Me l))=some ((CB (is.map (·.1)) (AL n0)).map .str):=λis hi=>by
  have hq:(DJ (is.map cJ) (AL n0)).length<=2000:=by
   unfold DJ
   have:=Kx (is.map cJ).reverse 0 []
   simp only[List.length_reverse,List.length_map,List.length_nil] at this
   rw[List.length_append,List.length_reverse]
   split
   ·rw[List.length_replicate];lia
   ·rw[List.length_nil];lia
  rw[Y3,A.h309,cp _ _ (by rw[List.length_map];exact Nat.le_trans (by assumption) (by decide)),bs]
  show (some ((DJ (is.map cJ) (AL n0)).map B6)).bind _=_
  rw[bs,Wn _ (by exact Nat.le_trans (by assumption) (by decide)),KL]
 have hln:=L.hlaten
 have hll:=L.hlatel
 rw[B1 12 13 rfl,gx,hlate1 _ L.hrowl,bs,bs,BK,Ab]
 change Af app lower Au 40 (Au.body.drop 13) (Bl [script,numbers,.str (headT n0),.str (AL n0),.list ((A9 n0 ns).map BI),.dict kk (kv.map .int),lst,.str (KN n0 ns),.list ((C0 n0 ns).map AB),.str (C3 n0 ns),.list ((BM n0 ns).map .str)] [mss,lss]) Cw=_
 rw[B1 13 14 rfl,gy,A.h208,Nv (by exact Nat.le_trans (by assumption) (by decide)),bs,A.h316,Sd (by lia) (by exact Nat.le_trans (by assumption) (by decide)),bs,L.hlate,Ei,bs,CJ,Ab]
 have hkn:=L.hkeptn
 have hkpl:=L.hkeptl
 have hkept:app (.val (.ref 309)) [.list ((A9 n0 ns).map BI),.str (AL n0)]=some (.list ((CD n0 ns).map BI)):=by
  rw[Sv,A.h309,cp _ _ (by rw[List.length_map];exact Nat.le_trans (by assumption) (by decide)),KM,Sv];rfl
 rw[B1 14 15 rfl,gz,hkept,bs,Ab]
 rw[B1 15 16 rfl,gA,A.h208,Nv (by exact Nat.le_trans (by assumption) (by decide)),bs,L.hkept,Ab]
 rw[B1 16 17 rfl,gB,jy _ _ _ _ _ _ _ _ _ _ _ _ _ _ _ (by exact Nat.le_trans (by assumption) (by decide)),Option.map_some,bs,A.h316,Sd (by lia) (by exact Nat.le_trans (by assumption) (by decide)),bs]
 rw[show As (AL n0) ((CD n0 ns).map (·.1))=Ef n0 ns from rfl,Ei,bs,CJ,Ab]
 have hhl:=L.hheldl
 have hhn:=L.hheldn
 have hearl:(Ef n0 ns).length<=30010:=by
  unfold Ef As
  have:=DG ((CD n0 ns).map (·.1))
  split
  ·simp
  ·rw[List.length_append];lia
 have hmetl:(PD n0 ns).length<=8010:=by
  unfold PD As
  have:=DG ((Cz n0 ns).map (·.1))
  split
  ·simp
  ·rw[List.length_append];lia
 rw[B1 17 18 rfl,gC,jz _ _ _ _ _ _ _ _ _ _ _ _ _ _ _ (Nat.le_trans hhl (by decide)),bs,bs,BK,Ab]
 change Af app lower Au 40 (Au.body.drop 18) (Bl [script,numbers,.str (headT n0),.str (AL n0),.list ((A9 n0 ns).map BI),.dict kk (kv.map .int),lst,.str (KN n0 ns),.list ((C0 n0 ns).map AB),.str (C3 n0 ns),.list ((BM n0 ns).map .str),.list ((CD n0 ns).map BI),.str (Ef n0 ns),.list ((Cz n0 ns).map AB)] [mss,lss]) Cw=_
 rw[B1 18 19 rfl,gD,A.h93,dJ (by exact Nat.le_trans (by assumption) (by decide)) L.hheld,bs,JD _ (by exact Nat.le_trans (by assumption) (by decide)),Option.map_some,bs,A.h316,Sd (by lia) (by exact Nat.le_trans (by assumption) (by decide)),bs]
 rw[show As (AL n0) ((Cz n0 ns).map (·.1))=PD n0 ns from rfl,Ei,bs,CJ,Ab]
 have han:=L.hagainn
 rw[B1 19 20 rfl,gE,hlate1 _ L.hheldl,bs,bs,BK,Ab]
 change Af app lower Au 40 (Au.body.drop 20) (Bl [script,numbers,.str (headT n0),.str (AL n0),.list ((A9 n0 ns).map BI),.dict kk (kv.map .int),lst,.str (KN n0 ns),.list ((C0 n0 ns).map AB),.str (C3 n0 ns),.list ((BM n0 ns).map .str),.list ((CD n0 ns).map BI),.str (Ef n0 ns),.list ((Cz n0 ns).map AB),.list ((C1 n0 ns).map .str)] [mss,lss]) Cw=_
 rw[B1 20 21 rfl,gF,A.h93,dJ (by exact Nat.le_trans (by assumption) (by decide)) L.hheld,bs,A.h208,Nv (by exact Nat.le_trans (by assumption) (by decide)),bs,A.h316,Sd (by lia) (by exact Nat.le_trans (by assumption) (by decide)),bs,L.hagain,Ei,bs,CJ,Ab]
 have hsr:A8 (.str (AL n0)) none (some 1)=some (.str ((AL n0).take 1)):=by
  show some (D.str (AN (AL n0) none (some ((1:Nat):Int))))=_
  rw[C8]
 have hct:wt ((BM n0 ns).take (Cp (BM n0 ns) (C1 n0 ns)))<=wt (BM n0 ns):=by
  have:=List.take_append_drop (Cp (BM n0 ns) (C1 n0 ns)) (BM n0 ns)
  have h2:wt (BM n0 ns)=wt ((BM n0 ns).take (Cp (BM n0 ns) (C1 n0 ns)))+wt ((BM n0 ns).drop (Cp (BM n0 ns) (C1 n0 ns))):=by rw[<-HZ,this]
  lia
 have hJ3:=DG ((BM n0 ns).take (Cp (BM n0 ns) (C1 n0 ns)))
 have ht1:((AL n0).take 1).length<=1:=by rw[List.length_take];lia
 rw[B1 21 22 rfl,gG,A.h208,Nv (by exact Nat.le_trans (by assumption) (by decide)),bs,A.h93,dJ (by exact Nat.le_trans (by assumption) (by decide)) L.hheld,bs,A.h208,Nv (by exact Nat.le_trans (by assumption) (by decide)),bs,L.hlate,L.hagain,A.h213,gp _ _ L.hcom,bs,hsr,bs,A.h335,fM _ _ hll,bs,KO lower _ (by lia),bs,B5 (by unfold Ap;lia),bs,L.hcom2,Ei,bs,CJ,Ab]
 have hln2:app (.val (.builtin "len")) [.str (headT n0)]=some (.int (headT n0).length):=A.b.b _ _
 have hsl2:A8 (.str (C3 n0 ns)) (some ((headT n0).length:Nat)) none=some (.str ((C3 n0 ns).drop (headT n0).length)):=by
  show some (D.str (AN (C3 n0 ns) (some (((headT n0).length:Nat):Int)) none))=_
  rw[CR]
 have hws:wt (Ai 47 ((C3 n0 ns).drop (headT n0).length))<=8001:=by
  rw[Fb,List.length_drop];lia
 rw[gH,hln2,bs,Ea (ES (by lia) (by lia)),bs,hsl2,bs,KA lower (by rw[List.length_drop];lia),bs,A.h328,fZ _ _ _ _ (by lia) hkl,bs,A.h321,fY _ _ (by exact Nat.le_trans (by assumption) (by decide)) (by lia),bs,hfoot,Mg,bs]
end
noncomputable def Al (a:Addr):List D->Option D:=
 if a=66 then LY else if a=74 then Pp else if a=86 then LZ else if a=93 then PC else if a=166 then ER else if a=180 then HR else if a=187 then Jj else if a=194 then Jg else if a=201 then Jh else if a=208 then HV else if a=213 then Jz else if a=220 then Je else if a=227 then F9 else if a=234 then Jf else if a=274 then L5 else if a=281 then Gc else if a=288 then Jk else if a=295 then Jl else if a=302 then Jw else if a=309 then Jm else if a=316 then Ga else if a=321 then Js else if a=328 then Ju else if a=335 then Jo else if a=340 then H9 else λZ=>none
noncomputable def Av (a:Addr):Nat:=
 if a=66 then 1 else if a=74 then 1 else if a=86 then 2 else if a=93 then 4 else if a=166 then 1 else if a=180 then 1 else if a=187 then 2 else if a=194 then 2 else if a=201 then 2 else if a=208 then 3 else if a=213 then 3 else if a=220 then 1 else if a=227 then 1 else if a=234 then 2 else if a=274 then 2 else if a=281 then 1 else if a=288 then 1 else if a=295 then 2 else if a=302 then 3 else if a=309 then 1 else if a=316 then 1 else if a=321 then 2 else if a=328 then 4 else if a=335 then 1 else if a=340 then 5 else 9
theorem E3 (k:Nat):CW (AY Al Av k):=⟨λid as=>by rfl,λty as=>by rfl⟩
theorem Bq {a:Addr} {e:DT} (he:F2 (.val (.ref a))=some e) (hf:e.fa=a) {sp:List D->Option D} (hs:Al a=sp) {k:Nat} (hk:Av a<=k) (as:List D):AY Al Av k (.val (.ref a)) as=sp as:=by
 unfold AY
 rw[he]
 dsimp only
 rw[hf,if_pos hk,hs]
theorem gL {k:Nat} (hk:1<=k):∀as,AY Al Av k (.val (.ref 66)) as=LY as:=Bq (e:=⟨66,14,65,[],false⟩) (by kernel_rfl) rfl (by rfl) hk
theorem gM {k:Nat} (hk:1<=k):∀as,AY Al Av k (.val (.ref 74)) as=Pp as:=Bq (e:=⟨74,15,73,[],false⟩) (by kernel_rfl) rfl (by rfl) hk
theorem gN {k:Nat} (hk:2<=k):∀as,AY Al Av k (.val (.ref 86)) as=LZ as:=Bq (e:=⟨86,19,85,[],false⟩) (by kernel_rfl) rfl (by rfl) hk
theorem gO {k:Nat} (hk:4<=k):∀as,AY Al Av k (.val (.ref 93)) as=PC as:=Bq (e:=⟨93,20,92,[],false⟩) (by kernel_rfl) rfl (by rfl) hk
theorem Mh {k:Nat} (hk:1<=k):∀as,AY Al Av k (.val (.ref 166)) as=ER as:=Bq (e:=⟨166,29,165,[],false⟩) (by kernel_rfl) rfl (by rfl) hk
theorem WQ {k:Nat} (hk:1<=k):∀as,AY Al Av k (.val (.ref 180)) as=HR as:=Bq (e:=⟨180,33,179,[],false⟩) (by kernel_rfl) rfl (by rfl) hk
theorem cM {k:Nat} (hk:2<=k):∀as,AY Al Av k (.val (.ref 187)) as=Jj as:=Bq (e:=⟨187,34,186,[],true⟩) (by kernel_rfl) rfl (by rfl) hk
theorem cO {k:Nat} (hk:2<=k):∀as,AY Al Av k (.val (.ref 194)) as=Jg as:=Bq (e:=⟨194,35,193,[],false⟩) (by kernel_rfl) rfl (by rfl) hk
theorem cP {k:Nat} (hk:2<=k):∀as,AY Al Av k (.val (.ref 201)) as=Jh as:=Bq (e:=⟨201,36,200,[],false⟩) (by kernel_rfl) rfl (by rfl) hk
theorem WR {k:Nat} (hk:3<=k):∀as,AY Al Av k (.val (.ref 208)) as=HV as:=Bq (e:=⟨208,37,207,["new_comps"],false⟩) (by kernel_rfl) rfl (by rfl) hk
theorem cQ {k:Nat} (hk:3<=k):∀as,AY Al Av k (.val (.ref 213)) as=Jz as:=Bq (e:=⟨213,38,212,[],false⟩) (by kernel_rfl) rfl (by rfl) hk
theorem cR {k:Nat} (hk:1<=k):∀as,AY Al Av k (.val (.ref 220)) as=Je as:=Bq (e:=⟨220,40,219,[],false⟩) (by kernel_rfl) rfl (by rfl) hk
theorem WS {k:Nat} (hk:1<=k):∀as,AY Al Av k (.val (.ref 227)) as=F9 as:=Bq (e:=⟨227,41,226,[],false⟩) (by kernel_rfl) rfl (by rfl) hk
theorem cS {k:Nat} (hk:2<=k):∀as,AY Al Av k (.val (.ref 234)) as=Jf as:=Bq (e:=⟨234,49,233,[],false⟩) (by kernel_rfl) rfl (by rfl) hk
theorem cT {k:Nat} (hk:2<=k):∀as,AY Al Av k (.val (.ref 274)) as=L5 as:=Bq (e:=⟨274,63,273,["perm"],false⟩) (by kernel_rfl) rfl (by rfl) hk
theorem SG {k:Nat} (hk:1<=k):∀as,AY Al Av k (.val (.ref 281)) as=Gc as:=Bq (e:=⟨281,65,280,[],false⟩) (by kernel_rfl) rfl (by rfl) hk
theorem cU {k:Nat} (hk:1<=k):∀as,AY Al Av k (.val (.ref 288)) as=Jk as:=Bq (e:=⟨288,66,287,[],false⟩) (by kernel_rfl) rfl (by rfl) hk
theorem cV {k:Nat} (hk:2<=k):∀as,AY Al Av k (.val (.ref 295)) as=Jl as:=Bq (e:=⟨295,67,294,[],false⟩) (by kernel_rfl) rfl (by rfl) hk
theorem cW {k:Nat} (hk:3<=k):∀as,AY Al Av k (.val (.ref 302)) as=Jw as:=Bq (e:=⟨302,68,301,["modes","parts"],false⟩) (by kernel_rfl) rfl (by rfl) hk
theorem cX {k:Nat} (hk:1<=k):∀as,AY Al Av k (.val (.ref 309)) as=Jm as:=Bq (e:=⟨309,69,308,["left"],false⟩) (by kernel_rfl) rfl (by rfl) hk
theorem WT {k:Nat} (hk:1<=k):∀as,AY Al Av k (.val (.ref 316)) as=Ga as:=Bq (e:=⟨316,70,315,[],false⟩) (by kernel_rfl) rfl (by rfl) hk
theorem cY {k:Nat} (hk:2<=k):∀as,AY Al Av k (.val (.ref 321)) as=Js as:=Bq (e:=⟨321,71,320,["places"],false⟩) (by kernel_rfl) rfl (by rfl) hk
theorem cZ {k:Nat} (hk:4<=k):∀as,AY Al Av k (.val (.ref 328)) as=Ju as:=Bq (e:=⟨328,72,327,["places"],false⟩) (by kernel_rfl) rfl (by rfl) hk
theorem c4 {k:Nat} (hk:1<=k):∀as,AY Al Av k (.val (.ref 335)) as=Jo as:=Bq (e:=⟨335,73,334,[],false⟩) (by kernel_rfl) rfl (by rfl) hk
theorem c5:Bg (AY Al Av 0) (Cb Al Av 0) ⟨66,14,65,[],false⟩ LY:=YE (E3 0)
theorem c6:Bg (AY Al Av 0) (Cb Al Av 0) ⟨74,15,73,[],false⟩ Pp:=YG
theorem c7:Bg (AY Al Av 1) (Cb Al Av 1) ⟨86,19,85,[],false⟩ LZ:=YF (gL (by decide))
theorem da:Bg (AY Al Av 3) (Cb Al Av 3) ⟨93,20,92,[],false⟩ PC:=Y2 (lower:=Cb Al Av 3) (show ∀as,AY Al Av 2 (.val (.ref 86)) as=LZ as from gN (by decide))
theorem Y8:Bg (AY Al Av 0) (Cb Al Av 0) ⟨166,29,165,[],false⟩ ER:=Vk (E3 0)
theorem Y9:Bg (AY Al Av 0) (Cb Al Av 0) ⟨180,33,179,[],false⟩ HR:=Vl (E3 0)
theorem Za:Bg (AY Al Av 1) (Cb Al Av 1) ⟨187,34,186,[],true⟩ Jj:=Vr (Mh (by decide)) (WQ (by decide))
theorem Zb:Bg (AY Al Av 1) (Cb Al Av 1) ⟨194,35,193,[],false⟩ Jg:=Vp (E3 1) (Mh (by decide))
theorem Zc:Bg (AY Al Av 1) (Cb Al Av 1) ⟨201,36,200,[],false⟩ Jh:=Vq (Mh (by decide)) (WQ (by decide))
theorem Zd:Bg (AY Al Av 2) (Cb Al Av 2) ⟨208,37,207,["new_comps"],false⟩ HV:=VX (E3 2) (Mh (by decide)) (cO (by decide))
theorem Ze:Bg (AY Al Av 2) (Cb Al Av 2) ⟨213,38,212,[],false⟩ Jz:=Wi (lower:=Cb Al Av 2) (E3 2) (show ∀as,AY Al Av 1 (.val (.ref 166)) as=ER as from Mh (by decide))
theorem Zf:Bg (AY Al Av 0) (Cb Al Av 0) ⟨220,40,219,[],false⟩ Je:=Vm
theorem Zg:Bg (AY Al Av 0) (Cb Al Av 0) ⟨227,41,226,[],false⟩ F9:=Vn
theorem Zh:Bg (AY Al Av 1) (Cb Al Av 1) ⟨234,49,233,[],false⟩ Jf:=Vo (WS (by decide))
theorem Zi:Bg (AY Al Av 1) (Cb Al Av 1) ⟨274,63,273,["perm"],false⟩ L5:=VP (WS (by decide))
theorem Zj:Bg (AY Al Av 0) (Cb Al Av 0) ⟨281,65,280,[],false⟩ Gc:=Vu
theorem Zk:Bg (AY Al Av 0) (Cb Al Av 0) ⟨288,66,287,[],false⟩ Jk:=Vs
theorem Zl:Bg (AY Al Av 1) (Cb Al Av 1) ⟨295,67,294,[],false⟩ Jl:=Vy (SG (by decide))
theorem Zm:Bg (AY Al Av 2) (Cb Al Av 2) ⟨302,68,301,["modes","parts"],false⟩ Jw:=Wc ⟨SG (by decide),cU (by decide),cV (by decide)⟩
theorem Zn:Bg (AY Al Av 0) (Cb Al Av 0) ⟨309,69,308,["left"],false⟩ Jm:=VE
theorem Zo:Bg (AY Al Av 0) (Cb Al Av 0) ⟨316,70,315,[],false⟩ Ga:=Vt
theorem Zp:Bg (AY Al Av 1) (Cb Al Av 1) ⟨321,71,320,["places"],false⟩ Js:=V5 (WT (by decide))
theorem Zq:Bg (AY Al Av 3) (Cb Al Av 3) ⟨328,72,327,["places"],false⟩ Ju:=V8 ⟨cM (by decide),cP (by decide),WR (by decide),cR (by decide),cS (by decide)⟩
theorem Zr:Bg (AY Al Av 0) (Cb Al Av 0) ⟨335,73,334,[],false⟩ Jo:=VL (E3 0)
theorem SH:Bg (AY Al Av 4) (Cb Al Av 4) ⟨340,74,339,[],false⟩ H9:=Wo ⟨E3 4,gM (by decide),gO (by decide),WR (by decide),cQ (by decide),cT (by decide),SG (by decide),cW (by decide),cX (by decide),WT (by decide),cY (by decide),cZ (by decide),c4 (by decide)⟩
noncomputable def Zs (e:DT):Prop:=∀ (k:Nat) (as:List D) (d:D),Av e.fa=k+1->Al e.fa as=some d->EI Gl Ak (AC Gl) (CF Gl) (AY Al Av k) (Cb Al Av k) e as=some d
theorem BN {e:DT} {l:List DT} {n:Nat} {sp:List D->Option D} (h:Bg (AY Al Av n) (Cb Al Av n) e sp) (hn:Av e.fa=n+1) (hs:∀as,Al e.fa as=sp as) (t:∀e∈l,Zs e):∀e'∈e::l,Zs e':=λe' m=>by
 cases m with
 |head=>
  intro k as d hl q
  obtain rfl:n=k:=Nat.succ.inj (hn.symm.trans hl)
  exact h as d ((hs as).symm.trans q)
 |tail _ m=>exact t _ m
theorem Wp:∀e∈PY,Zs e:=
 BN c5 rfl (λZ=>rfl)<|BN c6 rfl (λZ=>rfl)<|BN c7 rfl (λZ=>rfl)<|BN da rfl (λZ=>rfl)<|BN Y8 rfl (λZ=>rfl)<|BN Y9 rfl (λZ=>rfl)<|BN Za rfl (λZ=>rfl)<|BN Zb rfl (λZ=>rfl)<|BN Zc rfl (λZ=>rfl)<|BN Zd rfl (λZ=>rfl)<|BN Ze rfl (λZ=>rfl)<|BN Zf rfl (λZ=>rfl)<|BN Zg rfl (λZ=>rfl)<|BN Zh rfl (λZ=>rfl)<|BN Zi rfl (λZ=>rfl)<|BN Zj rfl (λZ=>rfl)<|BN Zk rfl (λZ=>rfl)<|BN Zl rfl (λZ=>rfl)<|BN Zm rfl (λZ=>rfl)<|BN Zn rfl (λZ=>rfl)<|BN Zo rfl (λZ=>rfl)<|BN Zp rfl (λZ=>rfl)<|BN Zq rfl (λZ=>rfl)<|BN Zr rfl (λZ=>rfl)<|BN SH rfl (λZ=>rfl)<|λZ h=>nomatch h
theorem Wq (k:Nat) (e:DT) (as:List D) (d:D) (he:e∈PY) (hl:Av e.fa=k+1) (hs:Al e.fa as=some d):EI Gl Ak (AC Gl) (CF Gl) (AY Al Av k) (Cb Al Av k) e as=some d:=Wp e he k as d hl hs
theorem Wr (e:DT) (he:e∈PY):1<=Av e.fa:=of_decide_eq_true (List.all_eq_true.mp (show (PY.all λe=>decide (1<=Av e.fa))=true by kernel_rfl) e he)
end Mine
namespace Mine
open PySem PySem.Calls PyProof.Rows PySem.W PySem.SeqAt PySem.MeetsSeq PySem.MeetsSeq2 PySem.MeetsSeq3
noncomputable def KP {α:Type} (M:Model) (t:Sem α):Prop:=∀ (Γ:Ctx) (Q:α->Pos->Shared->Prop) (E:Value->Pos->Shared->Prop) (p:Pos) (s:Shared),Sem.wp M Γ t (λa p s'=>1<=s'.toks->Q a p s') E p s->Sem.wp M Γ t Q E p s
theorem NB (M:Model):KP M fresh:=λZ Z Z Z s h=>h (Nat.succ_le_succ (Nat.zero_le s.toks))
theorem Dp {α β:Type} {M:Model} {t:Sem α} {f:α->Sem β} (h:KP M t):KP M (t>>=f):=λΓ Q E p s g=>by
 rw[Sem.wp_bind'] at g ⊢
 refine h Γ _ E p s (Sem.wp_mono M Γ t (λa p' s' g' hn=>?_) (λZ Z Z x=>x) p s g)
 refine NV M Γ (f a) 1 Q E p' s' hn ?_
 exact Sem.wp_mono M Γ (f a) (exc:=λa p s=>E a p s) (exc':=λa p s'=>1<=s'.toks->E a p s') (λZ Z Z x=>x) (λZ Z Z x Z=>x) p' s' g'
theorem FG {α β:Type} {M:Model} {t:Sem α} {f:α->Sem β} (h:∀a,KP M (f a)):KP M (t>>=f):=λΓ Q E p s g=>by
 rw[Sem.wp_bind'] at g ⊢
 exact Sem.wp_mono M Γ t (λa p' s' g'=>h a Γ Q E p' s' g') (λZ Z Z x=>x) p s g
theorem NC {M:Model} {env:Env} {x:Str} {v:Value} (h1:env.scope.kind=.function) (h2:env.kindOf x=some .local):KP M (storeName env x v):=by
 have e:storeName env x v=nsSet env.locals x v:=by
  unfold storeName
  rw[h2,h1]
  rfl
 rw[e]
 unfold nsSet mkText
 exact FG λZ=>Dp (Dp (NB M))
theorem SI {M:Model} {scope:Scope} {globals:Addr} {x:Str} {v:Value} {r:List (Str×Value)} {qual:Str} {func:Option Addr} {code:Value} {builtins:Addr} (h1:scope.kind=.function) (h2:scope.names.lookup x=some .local):
  KP M (newFunctionEnv scope globals [] ((x,v)::r) qual func code none builtins):=by
 unfold newFunctionEnv
 refine FG λlocals=>FG λcells=>Dp ?_
 rw[List.forIn_cons]
 exact Dp (Dp (NC h1 h2))
theorem SJ {α:Type} {M:Model} {A:Around} {t:Sem α} {Q:α->Shared->Prop} {E:Value->Shared->Prop} {s:Shared} (L:KP M t) (h:wpAny M A t (λa s'=>1<=s'.toks->Q a s') E s):wpAny M A t Q E s:=
 λΓ p hΓ=>L Γ _ _ p s (h Γ p hΓ)
section
variable {prog:Program} {w:World} {A:Around} {E:Value->Shared->Prop} {s s':Shared} {N N':Az} {M:Addr->Prop} {Gl:List (Str×D)} {k:Nat} {env:Env} {names:List (Str×NameKind)} {σ:Sg} {r:CA} {owned:List Str}
theorem Ws {ex:List Stmt->Sg->Option (Fl×Sg)} {fa:Addr} {o:Obj} {fd:FuncData} {body:List Stmt} {xs:List Str} {vs:List Value} {ds:List D} {d:D} {σ':Sg} (Df:QR fd body names xs) (hx:SX prog w Gl k names ex) (hdata:o.data=.func fd) (hN:(fa,o)∈N)
  (hcd:s.heap.CodeRec fd.code fd.qualname) (hbind:∀ (Q:List (Str×Value)->Shared->Prop) (E:Value->Shared->Prop),(∀s₁ N₁ vs₁,A1 N s N₁ s₁->Ar w.params N₁ vs₁ ds->Q (xs.zip vs₁) s₁)->wpAny (model prog w) A.in1 (bindArgs fd ⟨vs,[]⟩) Q E s) (hN0:Cn N s) (hT0:GQ w.params Gl N) {x0:Str} {xs0:List Str} (hxs:xs=x0::xs0) (hds:ds≠[]) (R:AG (k+1) A)
  (h:ex body ⟨xs.zip ds,[],[]⟩=some (.ret d,σ')):wpAny (model prog w) A (call (.ref fa) vs) (Gv w.params N s d) E s:=by
 refine wpAny_call (codeAny_call_function (by have:=R.2.1;lia) (hN0 _ hN) hdata Df.co Df.gen Df.body hcd (hbind _ _ λs₀ N₀ vs₀ x₀ rs=>?_))
 have Th:=x₀.has
 have Tt:=hT0.mono x₀.sub
 rw[Df.clo]
 have hloc:∀x∈xs,fd.scope.names.lookup x=some .local:=λx hx=>by
  have:=List.all_eq_true.mp Df.loc x hx
  rw[Df.nm];exact eq_of_beq this
 have hL:KP (model prog w) (newFunctionEnv fd.scope fd.globals [] (xs.zip vs₀) (fd.qualname++".<locals>.") (some fa) fd.code none fd.builtins):=by
  obtain ⟨v0,vs0',rfl⟩:∃v vs',vs₀=v::vs':=by
   cases vs₀ with
   |nil=>exact absurd (by have:=rs.length;simpa using this.symm) hds
   |cons v vs'=>exact ⟨v,vs',rfl⟩
  rw[hxs,List.zip_cons_cons]
  exact SI Df.kind (hloc x0 (by rw[hxs];exact List.mem_cons_self))
 refine AV (SJ hL (wpAny_newFunctionEnv_cells Df.kind (λp hp=>.inl (hloc _ (List.of_mem_zip hp).1)) λenv he s₁ hI hpos htk=>?_))
 have hkind:∀x,env.kindOf x=names.lookup x:=λx=>by rw[he];show fd.scope.names.lookup x=_;rw[Df.nm]
 have hkl:∀x∈xs,env.kindOf x=some .local:=λx hx=>by rw[hkind,<-Df.nm];exact hloc x hx
 have hb:=Hv (Pa:=w.params) (kindOf:=env.kindOf) xs vs₀ (λZ=>none) hkl
 have keep:=hI.toInCall.keep
 have hns:=hI.toInCall.ns
 rw[hb] at hns
 have hcells:env.cells=cellsFrom (s₀.heap.objs.size+1) fd.scope.names []:=by rw[he];rfl
 refine ⟨(Tt s₁.heap λp hp=>keep _ _ (Th p hp)).2.1,codeAny_func ?_⟩
 have S:SS w.params Gl env names N₀ (λb=>b=env.locals\/∃x,names.lookup x=some .cell/\env.cells.lookup x=some b) ⟨xs.zip ds,[],[]⟩ s₁:=by
  refine ⟨by rw[he];exact Df.kind,by rw[he];exact Df.nm,by rw[he];exact Df.glob,by rw[he];exact Df.blt,λp hp=>keep _ _ (Th p hp),hpos,Tt,λp hp hM=>?_,.inl rfl,λb hM=>?_,λx e=>?_,λx d e=>(by exact Aa e),λx y c e1 e2 h1 h2=>?_,_,[],hns,λp hp=>(by cases hp),λx d e=>J1 xs vs₀ ds _ x d Df.nodup rs e,λx ds e=>(by exact Aa e),λx y ds es a e=>(by exact Aa e)⟩
  ·have hp':p.1<s₀.heap.objs.size:=Heap.lt_size (Th p hp)
   have hL:=hI.toInCall.fresh
   rcases hM with h|⟨x,_,h⟩
   ·rw[h] at hp';exact Nat.lt_irrefl _ (Nat.lt_of_lt_of_le hp' hL)
   ·have:=hI.above x p.1 (mem_of_lookup h)
    exact Nat.lt_irrefl _ (Nat.lt_trans (Nat.lt_of_lt_of_le hp' hL) this)
  ·rcases hM with rfl|⟨x,_,h⟩
   ·obtain ⟨o,_,_,ho,_⟩:=hns;exact ⟨o,ho⟩
   ·obtain ⟨o,ho,_⟩:=hI.cell x b h;exact ⟨o,ho⟩
  ·have hs:((cellsFrom (s₀.heap.objs.size+1) fd.scope.names []).lookup x).isSome=true:=cellsFrom_some _ _ _ (.inl (by rw[Df.nm];exact e))
   rw[<-hcells] at hs
   obtain ⟨c,hc⟩:=Option.isSome_iff_exists.mp hs
   exact ⟨c,_,hc,hI.cell x c hc,.inr ⟨x,e,hc⟩⟩
  ·exact name_of_addr hI.apart (mem_of_lookup h1) (mem_of_lookup h2)
 refine TA (hx _ _ _ _ h (A.deeper env) _ s₁ N₀ _ env (R.deeper env) S) λfl s₂ N' M' S' T' F'=>?_
 rcases fl with _|_<;>first|exact F'.elim|skip
 have hf:∀b,(b=env.locals\/∃x,names.lookup x=some .cell/\env.cells.lookup x=some b)->s₀.heap.get? b=Option.none:=λb hM=>by
  cases q:s₀.heap.get? b with
  |none=>rfl
  |some o=>
   have hp':b<s₀.heap.objs.size:=Heap.lt_size q
   have hL:=hI.toInCall.fresh
   rcases hM with h|⟨x,_,h⟩
   ·rw[h] at hp';exact (Nat.lt_irrefl _ (Nat.lt_of_lt_of_le hp' hL)).elim
   ·have:=hI.above x b (mem_of_lookup h)
    exact (Nat.lt_irrefl _ (Nat.lt_trans (Nat.lt_of_lt_of_le hp' hL) this)).elim
 have kp:∀b o,s₀.heap.get? b=some o->s₂.heap.get? b=some o:=λb o e=>T'.kp b o (λhM=>by rw[hf b hM] at e;exact Aa e) (keep b o e)
 refine Mine.S2 hI.toInCall.same λh1 t1 eq1=>?_
 subst eq1
 refine Mine.S2 T'.sh λh2 t2 eq1=>?_
 subst eq1
 refine ⟨N',x₀.trans ⟨⟨h2,t2,rfl,kp⟩,Nat.le_trans htk T'.tk,T'.sub,S'.has,λp hp=>?_⟩,F'⟩
 rcases T'.new p hp with h|h|h
 ·exact .inl h
 ·exact .inr (Aw keep h)
 ·exact .inr (hf _ h)
end
end Mine
namespace Mine
open PySem PySem.Calls PyProof.Rows PySem.W
theorem Ib {β:Type}:∀ (l:List (Nat×β)) (p:Nat×β),(l.map (·.1)).Nodup->p∈l->l.lookup p.1=some p.2
 |[],p,_,h=>by cases h
 |q::l,p,hn,h=>by
  rw[List.map_cons,List.nodup_cons] at hn
  rcases List.mem_cons.mp h with rfl|hm
  ·obtain ⟨a,b⟩:=p
   rw[List.lookup_cons];simp
  ·obtain ⟨a,b⟩:=q
   rw[List.lookup_cons]
   have hne:(p.1==a)=false:=by
    rw[beq_eq_false_iff_ne]
    rintro e
    exact hn.1 (List.mem_map.mpr ⟨p,hm,e⟩)
   rw[hne]
   exact Ib l p hn.2 hm
theorem Zt {P:Params} {s:Shared} (K:(KK P).In s.heap):∀p∈KK P,s.heap.get? p.1=some p.2:=λp hp=>
 K p.1 p.2 (Ib (KK P) p (by rw[<-ia];decide+kernel) hp)
theorem SK {w:World} {A:Around} {E:Value->Shared->Prop} {s:Shared} {N:Az} {vs:List Value} {ns:List Int} {d:D} (hN:Cn N s) (hk:∀p∈KK w.params,p∈N) (rs:Ar w.params N vs [.list (ns.map .int)]) (R:AG 5 A) (hd:H9 [.list (ns.map .int)]=some d):
  wpAny (model pw w) A (call (.ref 340) vs) (Gv w.params N s d) E s:=by
 have h:=SH _ _ hd
 obtain ⟨h1,h2⟩:=Oo Al Av (w:=w) (Gl:=Gl) Wr (λk e as d h1 h2 h3=>Wq k e as d h1 h2 h3) 4
 have he:(Au:DT)∈PY:=by unfold PY;simp
 refine Mine.ie ((QS w.params _ he).ex) λo fd co fs t m1 e1 Df m2 e2 e3 e4 B=>?_
 have hF:=hk _ m1
 have hC:=hN _ (hk _ m2)
 unfold EI at h
 have q2:Au.args [.list (ns.map .int)]=some [.list (ns.map .int)]:=by kernel_rfl
 rw[q2] at h
 obtain ⟨σ',h⟩:=Lr h
 obtain ⟨hr,ht⟩:=MN (LI h2) h1 (LN h2) 40
 exact Ws Df (MS hr ht (Jb _ _ _ hr) 40) e1 hF ⟨_,_,_,_,e2,hC,e3,e4⟩ (λQ E hq=>B _ _ _ N _ _ _ hN (WH hN hk) q2 rs Q E hq) hN (Yz hk) (x0:="script") (xs0:=[]) (by kernel_rfl) (by exact List.cons_ne_nil _ _) R h
theorem PH {P:Params} {N:Az} {vs:List Value} {ns:List Int} (h:IntsAre vs ns):Ar P N vs (ns.map .int):=by
 induction h with
 |nil=>exact .nil
 |cons n t _ ih=>exact .cons (.int n t) ih
theorem SL {vs:List Value} {ns:List Int} (h:IntsAre vs ns):vs.length=ns.length:=by
 induction h with
 |nil=>rfl
 |cons n t _ ih=>exact congrArg (· +1) ih
theorem Zu {w:World} {E:Value->Shared->Prop} {s:Shared} {a:Addr} {vs:List Value} {ns:List Int} (K:(KK w.params).In s.heap) (hl:s.heap.get? a=some (AZ vs 0)) (hi:IntsAre vs ns) (hn:ns.length<=63) (hd:H9 [.list (ns.map .int)]=some (.bool true))
  {Q:Value->Shared->Prop} (hq:∀s',Keeps s s'->Q (.bool true) s'):wpAny (model pw w) callerA (call (.ref 340) [.ref a]) Q E s:=by
 have hN:Cn ((a,AZ vs 0)::KK w.params) s:=λp hp=>by
  rcases List.mem_cons.mp hp with rfl|hp
  ·exact hl
  ·exact Zt K p hp
 have hv:=SL hi
 have rs:Ar w.params ((a,AZ vs 0)::KK w.params) [.ref a] [.list (ns.map .int)]:=.cons (.list (.head _) (by rw[hv];unfold Ap;exact Nat.le_trans (by assumption) (by decide)) (PH hi)) .nil
 have hR:AG 5 callerA:=⟨rfl,by decide+kernel,by decide+kernel⟩
 refine wpAny_mono (SK hN (λp hp=>.tail _ hp) rs hR hd) (λv s' h=>?_) λZ Z e=>e
 revert h
 refine Mine.T0 λN' x r=>?_
 rw[r.boolOf]
 exact hq s' x.keeps
theorem SM {P:Params} {h:Heap} {mg:Str->Option Value} {fa:Addr} (K:(KK P).In h) (G:h.Ns mainGlobals mg) (e:mg "law"=some (.ref fa)):fa=340:=by
 have h2:=Oj (v:=.ref 340) K G (x:="law") (by kernel_rfl)
 rw[h2] at e
 cases e
 rfl
end Mine
namespace Mine
open PySem
theorem KQ (n k:Nat):n&&& 2^k=if n/2^k%2=1 then 2^k else 0:=by
 apply Nat.eq_of_testBit_eq
 intro i
 rw[Nat.testBit_and,Nat.testBit_two_pow]
 by_cases h:k=i
 ·subst h
  rw[Nat.testBit_eq_decide_div_mod_eq]
  by_cases h2:n/2^k%2=1
  ·rw[if_pos h2,decide_eq_true h2];simp[Nat.testBit_two_pow]
  ·rw[if_neg h2,decide_eq_false h2];simp
 ·by_cases h2:n/2^k%2=1
  ·rw[if_pos h2,Nat.testBit_two_pow];simp[h]
  ·rw[if_neg h2];simp[h]
theorem Dq (a b:Nat):Builtin.bitAnd (a:Int) (b:Int)=((a&&& b:Nat):Int):=by
 unfold Builtin.bitAnd
 rw[decide_eq_true (Int.natCast_nonneg a),decide_eq_true (Int.natCast_nonneg b)]
 rfl
theorem SN (n k:Nat):(Builtin.bitAnd (n:Int) ((2^k:Nat):Int)=((2^k:Nat):Int))↔n/2^k%2=1:=by
 rw[Dq,KQ]
 have:=Nat.two_pow_pos k
 split
 ·simp[*]
 ·constructor
  ·intro h;exfalso;have:((0:Nat):Int)=((2^k:Nat):Int):=h;lia
  ·intro h;contradiction
theorem Zv (n j k:Nat) (hjk:k<j):(Builtin.bitAnd (n:Int) ((2^j+2^k:Nat):Int)=((2^j+2^k:Nat):Int))↔(n/2^j%2=1/\n/2^k%2=1):=by
 have hor:2^j+2^k=2^j|||2^k:=by
  have:=Nat.two_pow_add_eq_or_of_lt (i:=j) (b:=2^k) (Nat.pow_lt_pow_right (by decide) hjk) 1
  simpa using this
 rw[Dq,hor,Nat.and_or_distrib_left,KQ,KQ]
 have h1:=Nat.two_pow_pos j
 have h2:=Nat.two_pow_pos k
 have h3:2^k<2^j:=Nat.pow_lt_pow_right (by decide) hjk
 by_cases a:n/2^j%2=1
 ·by_cases b:n/2^k%2=1
  ·rw[if_pos a,if_pos b];exact ⟨λZ=>⟨a,b⟩,λZ=>rfl⟩
  ·rw[if_pos a,if_neg b,Nat.or_zero,<-hor];exact ⟨λh=>by exfalso;lia,λh=>absurd h.2 b⟩
 ·by_cases b:n/2^k%2=1
  ·rw[if_neg a,if_pos b,Nat.zero_or,<-hor];exact ⟨λh=>by exfalso;lia,λh=>absurd h.1 a⟩
  ·rw[if_neg a,if_neg b,Nat.zero_or,<-hor];exact ⟨λh=>by exfalso;lia,λh=>absurd h.1 a⟩
noncomputable def SP (n k c:Nat):Nat:=if n/2^k%2=1 then c else 45
noncomputable def TC (n j k a b c:Nat):Nat:=if n/2^j%2=1 then (if n/2^k%2=1 then a else b) else (if n/2^k%2=1 then c else 45)
theorem db (i n k c:Nat) (hi:i≠0):BQ i (n:Int) [(((2^k:Nat):Int),c)]=SP n k c:=by
 unfold BQ BQ SP
 simp only[if_neg hi,SN]
theorem SQ (i n j k a b c:Nat) (hi:i≠0) (hjk:k<j):BQ i (n:Int) [(((2^j+2^k:Nat):Int),a),(((2^j:Nat):Int),b),(((2^k:Nat):Int),c)]=TC n j k a b c:=by
 unfold BQ BQ BQ BQ TC
 simp only[if_neg hi,SN,Zv n j k hjk]
 by_cases h1:n/2^j%2=1<;>by_cases h2:n/2^k%2=1<;>simp[h1,h2]
theorem E4 (n k:Nat):(n:Int).fdiv (k:Int)=((n/k:Nat):Int):=(Int.ofNat_fdiv n k).symm
theorem Ic (n k:Nat):(n:Int).fmod (k:Int)=((n%k:Nat):Int):=by
 rw[Int.fmod_eq_emod_of_nonneg _ (Int.natCast_nonneg k)];rfl
theorem dN (x:Nat):(x:Int).fmod 2=((x%2:Nat):Int):=Ic x 2
theorem jB (x:Nat):(x:Int).fmod 8=((x%8:Nat):Int):=Ic x 8
theorem gP (x:Nat):(x:Int).fmod 16=((x%16:Nat):Int):=Ic x 16
theorem jC (x:Nat):(x:Int).fdiv 2=((x/2:Nat):Int):=E4 x 2
theorem jD (x:Nat):(x:Int).fdiv 4=((x/4:Nat):Int):=E4 x 4
theorem SR (x:Nat):(x:Int).fdiv 4096=((x/4096:Nat):Int):=E4 x 4096
theorem Zw (x:Nat):x%8/4=x/4%2:=Nat.mod_mul_right_div_self x 4 2
theorem Zx (x:Nat):x%8/2%2=x/2%2:=(congrArg (· %2) (Nat.mod_mul_right_div_self x 2 4)).trans (Nat.mod_mod_of_dvd _ ⟨2,rfl⟩)
theorem Zy (x:Nat):x%8%2=x%2:=Nat.mod_mod_of_dvd x ⟨4,rfl⟩
theorem de (a b x:Nat):([a,b]:List Nat).getD (x%2) 0=if x%2=1 then b else a:=by
 rcases Nat.mod_two_eq_zero_or_one x with e|e<;>(rw[e];rfl)
theorem KS (n i j:Nat) (k:Nat) (hk:k=0\/k=1\/k=2) (a b:Nat) (hab:Dn (3*1+(k:Int))=[b,a]):Bk (((n:Int).fdiv ((2^i:Nat):Int)).fmod 8) (((n:Int).fdiv ((2^j:Nat):Int)).fmod 2) (k:Int)=[SP n (i+2) 114,SP n (i+1) 119,TC n j i a b 120]:=by
 have h4:n/2^i/4=n/2^(i+2):=by rw[Nat.div_div_eq_div_mul,Nat.pow_add]
 have h2:n/2^i/2=n/2^(i+1):=by rw[Nat.div_div_eq_div_mul,Nat.pow_add]
 rw[E4,E4,jB,dN]
 have e1:Bk ((n/2^i%8:Nat):Int) ((n/2^j%2:Nat):Int) (k:Int)=[([45,114]:List Nat).getD (n/2^i%8/4) 0,([45,119]:List Nat).getD (n/2^i%8/2%2) 0,(Dn (3*((n/2^j%2:Nat):Int)+(k:Int))).getD (n/2^i%8%2) 0]:=by
  unfold Bk
  rw[jD,jC,dN,dN]
  rfl
 rw[e1,Zw,Zx,Zy,de,de,h4,h2]
 have e2:(Dn (3*((n/2^j%2:Nat):Int)+(k:Int))).getD (n/2^i%2) 0=TC n j i a b 120:=by
  unfold TC
  rcases Nat.mod_two_eq_zero_or_one (n/2^j) with e|e<;>rcases Nat.mod_two_eq_zero_or_one (n/2^i) with f|f<;>rw[e,f]
  ·rcases hk with rfl|rfl|rfl<;>rfl
  ·rcases hk with rfl|rfl|rfl<;>rfl
  ·rw[show ((1:Nat):Int)=1 from rfl,hab];rfl
  ·rw[show ((1:Nat):Int)=1 from rfl,hab];rfl
 rw[e2];rfl
noncomputable def C4 (m:Int):Prop:=∃t r:Nat,m=((t*4096+r:Nat):Int)/\r<4096/\(t=0\/t=4\/t=8\/t=10)
theorem ND (q:Int):∃t:Nat,LX q=t/\(t=0\/t=4\/t=8\/t=10):=by
 obtain ⟨b1,b2⟩:=Bp q (y:=8) (by decide)
 unfold LX
 revert b1 b2
 generalize q.fmod 8=a
 revert a
 exact cj ⟨4,rfl,.inr (.inl rfl)⟩ ⟨4,rfl,.inr (.inl rfl)⟩ ⟨4,rfl,.inr (.inl rfl)⟩ ⟨4,rfl,.inr (.inl rfl)⟩ ⟨4,rfl,.inr (.inl rfl)⟩ ⟨8,rfl,.inr (.inr (.inl rfl))⟩ ⟨10,rfl,.inr (.inr (.inr rfl))⟩ ⟨0,rfl,.inl rfl⟩
theorem Cm (q:Int):C4 (Ad q):=by
 obtain ⟨c1,c2⟩:=Bp (q.fdiv 8+493) (y:=4096) (by decide)
 refine Mine.S0 (ND q) λt e ht=>?_
 refine ⟨t,((q.fdiv 8+493).fmod 4096).toNat,?_,by lia,ht⟩
 unfold Ad
 rw[e]
 generalize (q.fdiv 8+493).fmod 4096=r at c1
 lia
noncomputable def Mi (t:Nat):Nat:=if t=4 then 100 else if t=8 then 45 else if t=10 then 108 else 63
noncomputable def JE (n:Nat):Nat:=TC n 9 0 116 84 120
noncomputable def SU (n:Nat):List Nat:=[SP n 8 114,SP n 7 119,TC n 11 6 115 83 120,SP n 5 114,SP n 4 119,TC n 10 3 115 83 120,SP n 2 114,SP n 1 119,JE n]
theorem OG (t r:Nat) (hr:r<4096):(t*4096+r)/4096=t:=eA hr
theorem E5 (t r:Nat) (hr:r<4096) (ht:t=0\/t=4\/t=8\/t=10):Ag ((t*4096+r:Nat):Int)=Mi t::SU (t*4096+r):=by
 have hs:PZ [63,112,99,63,100,63,98,63,45,63,108,63,115,63,63,63] ((((t*4096+r:Nat):Int).fdiv 4096).fmod 16)=Mi t:=by
  rw[SR,OG t r hr,gP]
  rcases ht with rfl|rfl|rfl|rfl<;>rfl
 generalize t*4096+r=n at hs ⊢
 have e0:=KS n 6 11 0 (.inl rfl) 115 83 rfl
 have e1:=KS n 3 10 1 (.inr (.inl rfl)) 115 83 rfl
 have e2:=KS n 0 9 2 (.inr (.inr rfl)) 116 84 rfl
 have e:Ag (n:Int)=((([PZ [63,112,99,63,100,63,98,63,45,63,108,63,115,63,63,63] (((n:Int).fdiv 4096).fmod 16)]++Bk (((n:Int).fdiv ((2^6:Nat):Int)).fmod 8) (((n:Int).fdiv ((2^11:Nat):Int)).fmod 2) ((0:Nat):Int))++Bk (((n:Int).fdiv ((2^3:Nat):Int)).fmod 8) (((n:Int).fdiv ((2^10:Nat):Int)).fmod 2) ((1:Nat):Int))++Bk (((n:Int).fdiv ((2^0:Nat):Int)).fmod 8) (((n:Int).fdiv ((2^9:Nat):Int)).fmod 2) ((2:Nat):Int)):=rfl
 rw[e,hs,e0,e1,e2]
 rfl
theorem Mj (t r:Nat) (hr:r<4096) (ht:t=0\/t=4\/t=8\/t=10):Builtin.bitAnd ((t*4096+r:Nat):Int) 61440=((t*4096:Nat):Int):=by
 refine (Dq (t*4096+r) 61440).trans (congrArg _ ?_)
 have h1:t*4096+r=t<<<12|||r:=by rw[<-Nat.shiftLeft_add_eq_or_of_lt hr,Nat.shiftLeft_eq]
 have h2:r&&& 61440=0:=by
  have:r=r&&& 4095:=(Nat.mod_eq_of_lt hr).symm.trans (Nat.and_two_pow_sub_one_eq_mod r 12).symm
  rw[this,Nat.and_assoc];exact Nat.and_zero r
 rw[h1,Nat.and_comm,Nat.and_or_distrib_left,Nat.and_comm 61440 r,h2,Nat.or_zero]
 rcases ht with rfl|rfl|rfl|rfl<;>rfl
theorem NE (m:Int) (p:Int×Nat) (r:List (Int×Nat)):BQ 0 m (p::r)=if Builtin.bitAnd m 61440=p.1 then p.2 else BQ 0 m r:=rfl
noncomputable def WU (x:Int):List (Int×Nat)->Nat
 |[]=>63
 |p::r=>if x=p.1 then p.2 else WU x r
theorem Mk {m x:Int} (h:Builtin.bitAnd m 61440=x):∀l,BQ 0 m l=WU x l
 |[]=>rfl
 |p::r=>by rw[NE,h,Mk h r];rfl
theorem KU (t r:Nat) (hr:r<4096) (ht:t=0\/t=4\/t=8\/t=10):Bz ((t*4096+r:Nat):Int)=Mi t::SU (t*4096+r):=by
 have hs:BQ 0 ((t*4096+r:Nat):Int) [(40960,108),(49152,115),(32768,45),(24576,98),(16384,100),(8192,99),(4096,112)]=Mi t:=by
  rw[Mk (Mj t r hr ht)]
  rcases ht with rfl|rfl|rfl|rfl<;>rfl
 generalize t*4096+r=n at hs ⊢
 have e:Bz (n:Int)=[BQ 0 n [(40960,108),(49152,115),(32768,45),(24576,98),(16384,100),(8192,99),(4096,112)],BQ 1 n [(((2^8:Nat):Int),114)],BQ 2 n [(((2^7:Nat):Int),119)],
  BQ 3 n [(((2^11+2^6:Nat):Int),115),(((2^11:Nat):Int),83),(((2^6:Nat):Int),120)],BQ 4 n [(((2^5:Nat):Int),114)],BQ 5 n [(((2^4:Nat):Int),119)],
  BQ 6 n [(((2^10+2^3:Nat):Int),115),(((2^10:Nat):Int),83),(((2^3:Nat):Int),120)],BQ 7 n [(((2^2:Nat):Int),114)],BQ 8 n [(((2^1:Nat):Int),119)],
  BQ 9 n [(((2^9+2^0:Nat):Int),116),(((2^9:Nat):Int),84),(((2^0:Nat):Int),120)]]:=rfl
 simp only[e,hs,db _ _ _ _ (Nat.succ_ne_zero _),SQ 3 n 11 6 115 83 120 (by decide) (by decide),SQ 6 n 10 3 115 83 120 (by decide) (by decide),SQ 9 n 9 0 116 84 120 (by decide) (by decide)]
 rfl
theorem Ml {m:Int} (h:C4 m):Bz m=Ag m:=by
 revert h
 refine Mine.T3 λt r eq1 hr ht=>?_
 subst eq1
 exact (KU t r hr ht).trans (E5 t r hr ht).symm
noncomputable def JF:List Nat:=[63,100,45,108,114,119,120,115,83,116,84]
theorem He {P:Nat->Prop} {c:Prop} [Decidable c] {a b:Nat} (ha:P a) (hb:P b):P (if c then a else b):=by
 split
 ·exact ha
 ·exact hb
theorem GP {P:Nat->Prop} {n k c:Nat} (h:P c) (h2:P 45):P (SP n k c):=He h h2
theorem NF {P:Nat->Prop} {n j k a b c:Nat} (h:P a) (h1:P b) (h2:P c) (h3:P 45):P (TC n j k a b c):=He (He h h1) (He h2 h3)
theorem SV {P:Nat->Prop} (h:∀c∈JF,P c) (n:Nat):∀c∈SU n,P c:=by
 have r:=h 114 (by decide)
 have w:=h 119 (by decide)
 have x:=h 120 (by decide)
 have s:=h 115 (by decide)
 have s':=h 83 (by decide)
 have t:=h 116 (by decide)
 have t':=h 84 (by decide)
 have d:=h 45 (by decide)
 have c:=@List.forall_mem_cons Nat P
 exact c.mpr ⟨GP r d,c.mpr ⟨GP w d,c.mpr ⟨NF s s' x d,c.mpr ⟨GP r d,c.mpr ⟨GP w d,c.mpr ⟨NF s s' x d,c.mpr ⟨GP r d,c.mpr ⟨GP w d,c.mpr ⟨NF t t' x d,nofun⟩⟩⟩⟩⟩⟩⟩⟩⟩
theorem CN {m:Int} (h:C4 m):∀c∈Ag m,c∈JF:=by
 revert h
 refine Mine.T3 λt r eq1 hr ht=>?_
 subst eq1
 rw[E5 t r hr ht]
 refine List.forall_mem_cons.mpr ⟨?_,SV (λZ h=>h) _⟩
 rcases ht with rfl|rfl|rfl|rfl<;>decide
theorem SW:∀c∈JF,Bx c=if c=63 then [61,51,70] else [c]:=by
 unfold JF
 simp only[List.mem_cons,List.not_mem_nil,or_false]
 rintro c (rfl|rfl|rfl|rfl|rfl|rfl|rfl|rfl|rfl|rfl|rfl)<;>kernel_rfl
theorem Mm {m:Int} (h:C4 m):OF (Ag m):=by
 have hs:=CN h
 refine ⟨Cl m,λc hc=>?_,?_,DW m⟩
 ·have:∀c∈JF,c<128:=by decide
  exact this c (hs c hc)
 ·unfold AE
  generalize Ag m=l at hs
  induction l with
  |nil=>rfl
  |cons a l ih=>
   rw[List.flatMap_cons,List.flatMap_cons,ih λc hc=>hs c (List.mem_cons_of_mem _ hc),SW a (hs a (List.mem_cons_self ..))]
noncomputable def NG (m:Int):Bool:=m.fdiv 4096==4&&m.fmod 2==1
noncomputable def df (l:List Nat):Bool:=l.getD 0 0==100&&(l.getD 9 0==116||l.getD 9 0==120)
theorem Mn (t r:Nat) (hr:r<4096):NG ((t*4096+r:Nat):Int)=(t==4&&r%2==1):=by
 have e:(t*4096+r)%2=r%2:=bq t r
 unfold NG
 rw[SR,dN,OG t r hr,e]
 rw[Bool.eq_iff_iff]
 simp only[Bool.and_eq_true,beq_iff_eq]
 exact ew
theorem Wt (n:Nat):(JE n==116||JE n==120)=(n%2==1):=by
 unfold JE TC
 rw[Nat.pow_zero,Nat.div_one]
 rcases Nat.mod_two_eq_zero_or_one n with e|e<;>rw[e]<;>split<;>rfl
theorem Ie {m:Int} (h:C4 m):NG m=df (Ag m):=by
 revert h
 refine Mine.T3 λt r eq1 hr ht=>?_
 subst eq1
 rw[E5 t r hr ht,Mn t r hr]
 show _=(Mi t==100&&(JE (t*4096+r)==116||JE (t*4096+r)==120))
 have e:(t*4096+r)%2=r%2:=bq t r
 rw[Wt,e]
 rcases ht with rfl|rfl|rfl|rfl<;>rfl
theorem KV {m m':Int} (h:C4 m) (h':C4 m') (e:Ag m=Ag m'):NG m=NG m':=by
 rw[Ie h,Ie h',e]
theorem PI {m:Int} (h:C4 m):(¬ Builtin.bitAnd m 61440=16384\/Builtin.bitAnd (Builtin.bitAnd m 4095) 1=0)↔NG m=false:=by
 revert h
 refine Mine.T3 λt r eq1 hr ht=>?_
 subst eq1
 have e4095:Builtin.bitAnd ((t*4096+r:Nat):Int) 4095=((r:Nat):Int):=by
  refine (Dq _ (2^12-1)).trans (congrArg _ ((Nat.and_two_pow_sub_one_eq_mod _ 12).trans ?_))
  exact (Nat.mul_add_mod_self_right t 4096 r).trans (Nat.mod_eq_of_lt hr)
 have e1:Builtin.bitAnd ((r:Nat):Int) 1=((r%2:Nat):Int):=(Dq _ (2^1-1)).trans (congrArg _ (Nat.and_two_pow_sub_one_eq_mod _ 1))
 rw[Mj t r hr ht,e4095,e1,Mn t r hr]
 have k2:(((r%2:Nat):Int)=0)↔(r%2==1)=false:=by
  rcases Nat.mod_two_eq_zero_or_one r with a|a<;>rw[a]<;>decide
 rw[k2,Bool.and_eq_false_iff]
 rcases ht with rfl|rfl|rfl|rfl<;>simp
noncomputable abbrev dd:List Nat:=[46,46]
noncomputable def Ej (c:List Nat):Prop:=c≠[]/\c≠[46]/\c≠dd
noncomputable def Dr (s:Nat×List (List Nat)) (c:List Nat):Nat×List (List Nat):=
 if c=[]\/c=[46] then s else if c=dd then (if s.2=[] then (s.1+1,[]) else (s.1,s.2.dropLast)) else (s.1,s.2++[c])
noncomputable def TD:List (List Nat)->Nat×List (List Nat)
 |[]=>(0,[])
 |c::r=>Dr (TD r) c
noncomputable def BF (r:List Nat) (s:Nat×List (List Nat)):List (List Nat):=(if r=[] then List.replicate s.1 dd else [])++s.2
theorem NH:∀c∈([]:List (List Nat)),Ej c:=nofun
theorem Gg {s:Nat×List (List Nat)} (h:∀c∈s.2,Ej c) (c:List Nat):∀x∈(Dr s c).2,Ej x:=by
 unfold Dr
 split
 ·exact h
 rename_i h1
 split
 ·split
  ·intro x hx;cases hx
  ·intro x hx;exact h x (List.dropLast_subset _ hx)
 ·rename_i h2
  intro x hx
  rcases List.mem_append.mp hx with hx|hx
  ·exact h x hx
  ·have:x=c:=by simpa using hx
   subst this
   exact ⟨λe=>h1 (.inl e),λe=>h1 (.inr e),h2⟩
theorem G1 {α:Type} (a l:List α) (h:l≠[]):(a++l).getLast?=l.getLast?:=by
 rcases List.eq_nil_or_concat l with rfl|⟨l',x,rfl⟩
 ·exact (h rfl).elim
 ·simp
theorem OH {s:Nat×List (List Nat)} {c:List Nat} (h:c=[]\/c=[46]):Dr s c=s:=by unfold Dr;rw[if_pos h]
theorem NI {e:Nat}:Dr (e,[]) dd=(e+1,[]):=rfl
theorem SY {e:Nat} {l:List (List Nat)} {x:List Nat}:Dr (e,l++[x]) dd=(e,l):=by
 unfold Dr
 rw[if_neg (by decide),if_pos rfl,if_neg (by simp)]
 simp
theorem KW {e:Nat} {l:List (List Nat)} {c:List Nat} (h1:¬ (c=[]\/c=[46])) (h2:c≠dd):Dr (e,l) c=(e,l++[c]):=by
 unfold Dr
 rw[if_neg h1,if_neg h2]
theorem Fd (r:List Nat) (e:Nat) (l:List (List Nat)):BF r (e,l)=(if r=[] then List.replicate e dd else [])++l:=rfl
theorem Ek (r:List Nat) (s:Nat×List (List Nat)) (h:∀c∈s.2,Ej c) (c:List Nat):Bc r (BF r s) c=BF r (Dr s c):=by
 obtain ⟨e,l⟩:=s
 by_cases h1:c=[]\/c=[46]
 ·rw[OH h1];unfold Bc;rw[if_pos h1]
 by_cases h2:c=dd
 rotate_left
 ·rw[KW h1 h2]
  unfold Bc
  rw[if_neg h1,if_pos (.inl h2),Fd,Fd,List.append_assoc]
 subst h2
 rcases List.eq_nil_or_concat l with rfl|⟨l',x,rfl⟩
 ·rw[NI]
  unfold Bc
  rw[if_neg h1,Fd,Fd]
  simp only[List.append_nil]
  by_cases hr:r=[]
  ·rw[if_pos hr,if_pos hr,if_pos]
   ·rw[List.replicate_succ']
   ·cases e with
    |zero=>exact .inr (.inl ⟨hr,rfl⟩)
    |succ e=>exact .inr (.inr (by rw[List.replicate_succ'];simp))
  ·rw[if_neg hr,if_neg hr,if_neg]
   ·rfl
   ·rintro (h|h|h)
    ·exact h rfl
    ·exact hr h.1
    ·exact Aa h
 ·rw[List.concat_eq_append] at h ⊢
  have hx:=h x (by simp)
  rw[SY]
  unfold Bc
  have hlast:((if r=[] then List.replicate e dd else [])++(l'++[x])).getLast?=some x:=by rw[G1 _ _ (by simp)];simp
  rw[if_neg h1,Fd,Fd,if_neg (c:=_\/_)]
  ·rw[<-List.append_assoc,List.dropLast_concat]
  ·rintro (h3|h3|h3)
   ·exact h3 rfl
   ·exact absurd h3.2 (by simp)
   ·rw[hlast] at h3
    injection h3 with h3
    exact hx.2.2 h3
theorem FH:∀rcs:List (List Nat),∀x∈(TD rcs).2,Ej x
 |[],x,h=>by cases h
 |c::r,x,h=>Gg (FH r) c x h
theorem Ds (r:List Nat):∀rcs:List (List Nat),AR r rcs.reverse=BF r (TD rcs)
 |[]=>by unfold BF;split<;>rfl
 |c::rcs=>by
  have ih:=Ds r rcs
  unfold AR at ih ⊢
  rw[List.reverse_cons,List.foldl_append,ih]
  exact Ek r _ (FH rcs) c
theorem dg {k:Nat} {acc:List (List Nat)}:gS id (k,acc) dd=(k+1,acc):=rfl
theorem Wu {k:Nat} {acc:List (List Nat)} {c:List Nat} (h1:c≠dd) (h2:c=[]\/c=[46]):gS id (k,acc) c=(k,acc):=by
 unfold gS
 rw[if_neg (show ¬ id c=[46,46] from h1),if_pos (show id c=[]\/id c=[46] from h2)]
theorem Zz {k:Nat} {acc:List (List Nat)} {c:List Nat} (h1:c≠dd) (h2:¬ (c=[]\/c=[46])):gS id (k+1,acc) c=(k,acc):=by
 unfold gS
 rw[if_neg (show ¬ id c=[46,46] from h1),if_neg (show ¬ (id c=[]\/id c=[46]) from h2),if_pos (Nat.succ_pos k)]
 rfl
theorem Wv {acc:List (List Nat)} {c:List Nat} (h1:c≠dd) (h2:¬ (c=[]\/c=[46])):gS id (0,acc) c=(0,acc++[c]):=by
 unfold gS
 rw[if_neg (show ¬ id c=[46,46] from h1),if_neg (show ¬ (id c=[]\/id c=[46]) from h2),if_neg (Nat.lt_irrefl 0)]
noncomputable def WV (s:Nat×List (List Nat)) (k:Nat) (acc:List (List Nat)):Nat×List (List Nat):=(s.1+(k-s.2.length),acc++(s.2.take (s.2.length-k)).reverse)
theorem OI:∀ (rcs:List (List Nat)) (k:Nat) (acc:List (List Nat)),rcs.foldl (gS id) (k,acc)=WV (TD rcs) k acc
 |[],k,acc=>by simp[TD,WV]
 |c::rcs,k,acc=>by
  rw[List.foldl_cons]
  show rcs.foldl (gS id) (gS id (k,acc) c)=WV (Dr (TD rcs) c) k acc
  have ih:=OI rcs
  generalize TD rcs=s at ih ⊢
  obtain ⟨e,l⟩:=s
  by_cases h1:c=dd
  ·subst h1
   rw[dg,ih]
   rcases List.eq_nil_or_concat l with rfl|⟨l',x,rfl⟩
   ·rw[NI];unfold WV;simp;lia
   ·rw[List.concat_eq_append,SY]
    unfold WV
    simp only[List.length_append,List.length_cons,List.length_nil]
    refine Prod.ext ?_ ?_
    ·simp only;lia
    ·simp only
     rw[List.take_append_of_le_length eB]
     congr 3
     lia
  by_cases h2:c=[]\/c=[46]
  ·rw[Wu h1 h2,ih,OH h2]
  rw[KW h2 h1]
  cases k with
  |succ k=>
   rw[Zz h1 h2,ih]
   unfold WV
   simp only[List.length_append,List.length_cons,List.length_nil]
   refine Prod.ext ?_ ?_
   ·simp only;lia
   ·simp only
    rw[List.take_append_of_le_length (by lia)]
    congr 3
    lia
  |zero=>
   rw[Wv h1 h2,ih]
   unfold WV
   simp
   rw[List.take_of_length_le (by simp)]
   simp
theorem BY (r:List Nat) (cs:List (List Nat)):AR r cs=CB cs r:=by
 have h:=Ds r cs.reverse
 rw[List.reverse_reverse] at h
 rw[h]
 unfold CB Gd BF
 rw[OI]
 unfold WV
 simp
noncomputable def BG (r:List Nat) (xs:List (List Nat)):Prop:=∃s:Nat×List (List Nat),xs=BF r s/\∀c∈s.2,Ej c
theorem BG.step {r:List Nat} {xs:List (List Nat)} (h:BG r xs) (c:List Nat):BG r (Bc r xs c):=by
 revert h
 refine Mine.T0 λs eq1 hp=>?_
 subst eq1
 exact ⟨Dr s c,Ek r s hp c,Gg hp c⟩
theorem BG.nil (r:List Nat):BG r []:=⟨(0,[]),by unfold BF;split<;>rfl,nofun⟩
theorem FI (r:List Nat) (e:Nat):∀ (l l0:List (List Nat)),(∀c∈l,Ej c)->(∀c∈l0,Ej c)->l.foldl (Bc r) (BF r (e,l0))=BF r (e,l0++l)
 |[],l0,_,_=>by simp
 |c::l,l0,h,h0=>by
  have hc:=h c (by exact List.mem_cons_self)
  rw[List.foldl_cons,Ek r (e,l0) h0 c]
  rw[KW (by rintro (x|x);exact hc.1 x;exact hc.2.1 x) hc.2.2,FI r e l (l0++[c]) (λc hc=>h c (by simp[hc])) (λx hx=>by
   rcases List.mem_append.mp hx with hx|hx
   ·exact h0 x hx
   ·have:x=c:=by simpa using hx
    subst this;exact hc)]
  simp
theorem Mo (r:List Nat) (hr:r=[]):∀ (e e0:Nat),(List.replicate e dd).foldl (Bc r) (BF r (e0,[]))=BF r (e0+e,[])
 |0,e0=>rfl
 |e+1,e0=>by
  rw[List.replicate_succ,List.foldl_cons,Ek r (e0,[]) NH dd]
  rw[NI,Mo r hr e (e0+1)]
  congr 2
  lia
theorem BG.same {r:List Nat} {xs:List (List Nat)} (h:BG r xs):AR r xs=xs:=by
 obtain ⟨⟨e,l⟩,rfl,hp⟩:=h
 have h0:([]:List (List Nat))=BF r (0,[]):=by unfold BF;split<;>rfl
 unfold AR
 conv=>lhs;rw[h0];arg 3;unfold BF
 rw[List.foldl_append]
 by_cases hr:r=[]
 ·rw[if_pos hr,Mo r hr,FI r _ l [] hp NH]
  simp
 ·rw[if_neg hr,List.foldl_nil,FI r _ l [] hp NH]
  unfold BF
  rw[if_neg hr,if_neg hr];rfl
theorem NJ {r:List Nat} {s:Nat×List (List Nat)} {x:List Nat} (h:x∈BF r s):x=dd\/x∈s.2:=by
 unfold BF at h
 rcases List.mem_append.mp h with h|h
 ·split at h
  ·exact .inl (List.eq_of_mem_replicate h)
  ·cases h
 ·exact .inr h
theorem Hf:∀ (rcs:List (List Nat)) (x:List Nat),x∈(TD rcs).2->x∈rcs
 |[],x,h=>by cases h
 |c::r,x,h=>by
  have h:x∈(Dr (TD r) c).2:=h
  unfold Dr at h
  split at h
  ·exact .tail _ (Hf r x h)
  split at h
  ·split at h
   ·cases h
   ·exact .tail _ (Hf r x (List.dropLast_subset _ h))
  ·rcases List.mem_append.mp h with h|h
   ·exact .tail _ (Hf r x h)
   ·have:x=c:=by simpa using h
    subst this;exact .head _
theorem NK (cs:List (List Nat)) (r:List Nat):CB cs r=BF r (TD cs.reverse):=by
 rw[<-BY]
 have h:=Ds r cs.reverse
 rwa [List.reverse_reverse] at h
theorem JG {cs:List (List Nat)} {r x:List Nat} (h:x∈CB cs r):x=dd\/(x∈cs/\Ej x):=by
 rw[NK] at h
 rcases NJ h with h|h
 ·exact .inl h
 ·exact .inr ⟨by have:=Hf _ _ h;simpa using this,FH _ _ h⟩
theorem Gh (cs:List (List Nat)) (r:List Nat):wt (CB cs r)<=wt cs/\(CB cs r).length<=cs.length:=by
 rw[<-BY]
 have h1:=KD r cs []
 have h2:=(HX r cs []).2
 unfold AR
 refine ⟨?_,?_⟩
 ·have:wt []=0:=rfl
  lia
 ·simpa using h2
noncomputable def NL (x:List Nat):Option (List Nat):=Ee (AE 95 [32] x)
noncomputable def Dc (x y:List Nat):Prop:=∀t,NL (x++t)=(NL t).map (y++ ·)
theorem Dt (z c:Nat) (w t:List Nat):AE z w (c::t)=(if c=z then w else [c])++AE z w t:=rfl
theorem Dc.nil:Dc [] []:=λt=>by
 show NL t=_
 cases NL t<;>rfl
theorem Dc.app {x y x' y':List Nat} (h:Dc x y) (h':Dc x' y'):Dc (x++x') (y++y'):=λt=>by
 rw[List.append_assoc,h,h']
 cases NL t with
 |none=>rfl
 |some o=>simp
theorem Dc.chr {c:Nat} (h1:c≠61) (h2:c≠95):Dc [c] [c]:=λt=>by
 show Ee (AE 95 [32] (c::t))=(Ee (AE 95 [32] t)).map _
 rw[Dt,if_neg h2]
 show Ee (c::AE 95 [32] t)=_
 rcases AE 95 [32] t with _|⟨a,_|⟨b,r⟩⟩
 ·rw[Fc,DF];rfl
 ·rw[KF,Fc];rfl
 ·rw[H7 (λh=>h1 h.1)];rfl
theorem Dc.esc {a b:Nat} {v:Int} (ha:BA a=true) (hb:BA b=true) (ha':a≠95) (hb':b≠95) (hv:DR [a,b]=some v):Dc [61,a,b] [v.toNat]:=λt=>by
 show Ee (AE 95 [32] (61::a::b::t))=(Ee (AE 95 [32] t)).map _
 rw[Dt,Dt,Dt,if_neg (by decide),if_neg ha',if_neg hb']
 show Ee (61::a::b::AE 95 [32] t)=_
 rw[KG ⟨rfl,ha,hb⟩,hv]
 rfl
theorem Dc.q3F:Dc [61,51,70] [63]:=Dc.esc (v:=63) (by decide+kernel) (by decide+kernel) (by decide) (by decide) (by decide+kernel)
theorem Dc.d2E:Dc [61,50,69] [46]:=Dc.esc (v:=46) (by decide+kernel) (by decide+kernel) (by decide) (by decide) (by decide+kernel)
theorem Dc.d2e:Dc [61,50,101] [46]:=Dc.esc (v:=46) (by decide+kernel) (by decide+kernel) (by decide) (by decide) (by decide+kernel)
theorem Dc.s2F:Dc [61,50,70] [47]:=Dc.esc (v:=47) (by decide+kernel) (by decide+kernel) (by decide) (by decide) (by decide+kernel)
theorem Dc.s2f:Dc [61,50,102] [47]:=Dc.esc (v:=47) (by decide+kernel) (by decide+kernel) (by decide) (by decide) (by decide+kernel)
theorem Dc.plain:∀l:List Nat,(∀c∈l,c≠61/\c≠95)->Dc l l
 |[],_=>Dc.nil
 |c::l,h=>Dc.app (x:=[c]) (y:=[c]) (Dc.chr (h c (by exact List.mem_cons_self)).1 (h c (by exact List.mem_cons_self)).2) (Dc.plain l λc hc=>h c (by simp[hc]))
theorem Dc.repl:∀l:List Nat,(∀c∈l,c≠61/\c≠95)->Dc (AE 63 [61,51,70] l) l
 |[],_=>Dc.nil
 |c::l,h=>by
  rw[Dt]
  refine Dc.app (y:=[c]) ?_ (Dc.repl l λc hc=>h c (by simp[hc]))
  split
  ·rename_i e;rw[e];exact Dc.q3F
  ·exact Dc.chr (h c (by exact List.mem_cons_self)).1 (h c (by exact List.mem_cons_self)).2
theorem Dc.join {α:Type} (f g:α->List Nat):∀l:List α,(∀a∈l,Dc (f a) (g a))->Dc (Ao [47] (l.map f)) (Ao [47] (l.map g))
 |[],_=>Dc.nil
 |[a],h=>by
  rw[List.map_cons,List.map_nil,List.map_cons,List.map_nil,AH,AH]
  exact h a (by exact List.mem_cons_self)
 |a::b::l,h=>by
  rw[List.map_cons,List.map_cons,List.map_cons,List.map_cons,AJ,AJ]
  exact Dc.app (h a (by exact List.mem_cons_self)) (Dc.app (Dc.chr (by decide) (by decide)) (Dc.join f g (b::l) λa ha=>h a (by simp[ha])))
theorem Dc.done {x y:List Nat} (h:Dc x y):Ee (AE 95 [32] x)=some y:=by
 have:=h []
 rw[List.append_nil] at this
 show NL x=_
 rw[this]
 show (Ee []).map _=_
 rw[DF]
 simp
theorem Gi (a b:List (List Nat)) (ha:a≠[]) (hb:b≠[]):Ao [47] (a++b)=Ao [47] a++([47]++Ao [47] b):=by
 induction a with
 |nil=>exact (ha rfl).elim
 |cons x a ih=>
  cases a with
  |nil=>
   refine Mine.S2 (List.exists_cons_of_ne_nil hb) λy b eq1=>?_
   subst eq1
   rw[AH]
   show Ao [47] (x::y::b)=_
   rw[AJ]
  |cons y a=>
   show Ao [47] (x::y::(a++b))=_
   rw[AJ,AJ]
   have:=ih (by exact List.cons_ne_nil _ _)
   rw[show y::(a++b)=(y::a)++b from rfl,this]
   simp
theorem JH {α:Type} (f:α->List (List Nat)):∀l:List α,(∀a∈l,f a≠[])->Ao [47] (l.map λa=>Ao [47] (f a))=Ao [47] (l.flatMap f)
 |[],_=>rfl
 |[a],_=>by rw[List.map_cons,List.map_nil,AH,List.flatMap_cons,List.flatMap_nil,List.append_nil]
 |a::b::l,h=>by
  have ih:=JH f (b::l) λa ha=>h a (by simp[ha])
  have hne:(b::l).flatMap f≠[]:=by
   rw[List.flatMap_cons]
   have:=h b (by simp)
   simp[this]
  rw[show (a::b::l).flatMap f=f a++(b::l).flatMap f from List.flatMap_cons,Gi _ _ (h a (by exact List.mem_cons_self)) hne,<-ih,List.map_cons,List.map_cons,AJ]
noncomputable def E6 (ms:List Int) (i:A6):Prop:=i=([],true)\/i=([46],true)\/i=GH\/∃m∈ms,i=AT m
structure DX (ms:List Int) (p:Bd):Prop where
 dc:Dc p.1 (Ao [47] (p.2.map (·.1)))
 ne:p.2≠[]
 two:p.2.length<=2
 free:47∉p.1
 len:p.1.length<=80
 it:∀i∈p.2,E6 ms i
 emp:p.1≠[]->∀i∈p.2,i.1≠[]
theorem FJ:∀c∈JF,c≠61/\c≠95/\c≠47/\c≠46:=by decide
theorem IG {m:Int} (h:C4 m):∀c∈Ag m,c≠61/\c≠95:=λc hc=>⟨(FJ c (CN h c hc)).1,(FJ c (CN h c hc)).2.1⟩
theorem C7 {m:Int} (h:C4 m):47∉Ag m:=λhc=>(FJ 47 (CN h 47 hc)).2.2.1 rfl
theorem BZ (m:Int):Ag m≠[]:=by
 intro e
 have:=Cl m
 rw[e] at this
 cases this
theorem Ig {m:Int} (h:C4 m):Dc (BD m) (Ag m):=Dc.repl _ (IG h)
theorem E7 {m:Int} (h:C4 m):47∉BD m:=by
 unfold BD AE
 intro hc
 refine Mine.S0 (List.mem_flatMap.mp hc) λa ha h2=>?_
 split at h2
 ·revert h2;decide
 ·have:47=a:=by simpa using h2
  subst this
  exact C7 h ha
theorem Du (ms:List Int) {m:Int} (h:m∈ms):E6 ms (AT m):=.inr (.inr (.inr ⟨m,h,rfl⟩))
theorem Dv (ms:List Int):E6 ms GH:=.inr (.inr (.inl rfl))
theorem dh:Dc [46,46] (Ao [47] ([GH].map (·.1))):=Dc.plain _ (by decide)
theorem OJ (ms:List Int):DX ms ZG:=⟨dh,by decide,by decide,by decide,by decide,λi hi=>by
 have:i=GH:=by simpa [ZG] using hi
 rw[this];exact Dv ms,λZ i hi=>by
 have:i=GH:=by simpa [ZG] using hi
 rw[this];decide⟩
theorem FK (ms:List Int) {m:Int} (h:m∈ms) (hg:C4 m):DX ms (BD m,[AT m]):=by
 have hl:=DW m
 refine ⟨?_,by exact List.cons_ne_nil _ _,by simp,E7 hg,by show (BD m).length<=80;exact Nat.le_trans (by assumption) (by decide),λi hi=>?_,λ_ i hi=>?_⟩
 ·show Dc (BD m) (Ao [47] [Ag m])
  rw[AH];exact Ig hg
 ·have:i=AT m:=by simpa using hi
  rw[this];exact Du ms h
 ·have:i=AT m:=by simpa using hi
  rw[this];exact BZ m
theorem PJ (ms:List Int) (a q:Int) (ha:0<=a/\a<8) (h:∀m∈BC a q,m∈ms):DX ms (GI a q):=by
 have g1:=Cm q
 have g2:=Cm (q.fdiv 64)
 have hl1:=DW (Ad q)
 have hl2:=DW (Ad (q.fdiv 64))
 obtain ⟨b1,b2⟩:=Bp q (y:=4) (by decide)
 obtain ⟨c1,c2⟩:=Bp q (y:=2) (by decide)
 obtain ⟨a0,a8⟩:=ha
 revert h a0 a8
 revert a
 refine λa h a0 a8=>cj (P:=λa=>(∀m∈BC a q,m∈ms)->DX ms (GI a q)) ?_ ?_ ?_ ?_ ?_ ?_ ?_ ?_ a a0 a8 h
 ·intro h;exact FK ms (h _ (by simp[BC])) g1
 ·intro h;exact FK ms (h _ (by simp[BC])) g1
 ·intro h;exact OJ ms
 ·intro h
  show DX ms (PA (q.fmod 4),[GH])
  have he:∀i∈[GH],i=GH:=λi hi=>by simpa using hi
  unfold PA
  revert b1 b2
  generalize q.fmod 4=a
  revert a
  refine ck ?_ ?_ ?_ ?_
  ·exact ⟨Dc.app Dc.d2E Dc.d2E,by exact List.cons_ne_nil _ _,by simp,by decide,by decide,λi hi=>he i hi▸Dv ms,λZ i hi=>he i hi▸(by decide)⟩
  ·exact ⟨Dc.app (Dc.chr (c:=46) (by decide) (by decide)) Dc.d2E,by exact List.cons_ne_nil _ _,by simp,by decide,by decide,λi hi=>he i hi▸Dv ms,λZ i hi=>he i hi▸(by decide)⟩
  ·exact ⟨Dc.app Dc.d2e (Dc.chr (c:=46) (by decide) (by decide)),by exact List.cons_ne_nil _ _,by simp,by decide,by decide,λi hi=>he i hi▸Dv ms,λZ i hi=>he i hi▸(by decide)⟩
  ·exact ⟨Dc.app Dc.d2E Dc.d2e,by exact List.cons_ne_nil _ _,by simp,by decide,by decide,λi hi=>he i hi▸Dv ms,λZ i hi=>he i hi▸(by decide)⟩
 ·intro h
  show DX ms (H3 (q.fmod 4))
  have he:∀i∈[(([46],true):A6)],i=([46],true):=λi hi=>by simpa using hi
  have gd:E6 ms ([46],true):=.inr (.inl rfl)
  unfold H3
  revert b1 b2
  generalize q.fmod 4=a
  revert a
  refine ck ?_ ?_ ?_ ?_
  ·exact ⟨Dc.nil,by exact List.cons_ne_nil _ _,by simp,by decide,by decide,λi hi=>by
    have:i=([],true):=by simpa using hi
    rw[this];exact .inl rfl,λh=>(h rfl).elim⟩
  ·exact ⟨Dc.chr (c:=46) (by decide) (by decide),by exact List.cons_ne_nil _ _,by simp,by decide,by decide,λi hi=>he i hi▸gd,λZ i hi=>he i hi▸(by decide)⟩
  ·exact ⟨Dc.d2E,by exact List.cons_ne_nil _ _,by simp,by decide,by decide,λi hi=>he i hi▸gd,λZ i hi=>he i hi▸(by decide)⟩
  ·exact ⟨Dc.d2e,by exact List.cons_ne_nil _ _,by simp,by decide,by decide,λi hi=>he i hi▸gd,λZ i hi=>he i hi▸(by decide)⟩
 ·intro h
  show DX ms (BD (Ad q)++[61,50,70]++BD (Ad (q.fdiv 64)),[AT (Ad q),AT (Ad (q.fdiv 64))])
  have he:∀i∈[AT (Ad q),AT (Ad (q.fdiv 64))],i=AT (Ad q)\/i=AT (Ad (q.fdiv 64)):=λi hi=>by simpa using hi
  refine ⟨?_,by exact List.cons_ne_nil _ _,by simp,?_,by simp;first|exact br (by assumption) (by assumption)|lia,λi hi=>?_,λ_ i hi=>?_⟩
  ·show Dc _ (Ao [47] [Ag (Ad q),Ag (Ad (q.fdiv 64))])
   rw[AJ,AH,List.append_assoc]
   exact Dc.app (Ig g1) (Dc.app Dc.s2F (Ig g2))
  ·have:=E7 g1
   have:=E7 g2
   simp[*]
  ·rcases he i hi with rfl|rfl
   ·exact Du ms (h _ (by simp[BC]))
   ·exact Du ms (h _ (by simp[BC]))
  ·rcases he i hi with rfl|rfl
   ·exact BZ _
   ·exact BZ _
 ·intro h
  show DX ms (BD (Ad q)++ID (q.fmod 2),[AT (Ad q),GH])
  have he:∀i∈[AT (Ad q),GH],i=AT (Ad q)\/i=GH:=λi hi=>by simpa using hi
  have hE:Dc (ID (q.fmod 2)) ([47]++[46,46])/\47∉ID (q.fmod 2)/\(ID (q.fmod 2)).length<=10:=by
   unfold ID
   revert c1 c2
   generalize q.fmod 2=a
   revert a
   refine iB ?_ ?_
   ·exact ⟨Dc.app Dc.s2F (Dc.plain [46,46] (by decide)),by decide,by decide⟩
   ·exact ⟨Dc.app Dc.s2f (Dc.app Dc.d2E (Dc.chr (c:=46) (by decide) (by decide))),by decide,by decide⟩
  refine ⟨?_,by exact List.cons_ne_nil _ _,by simp,?_,by simp;first|exact br (by assumption) (by assumption)|lia,λi hi=>?_,λ_ i hi=>?_⟩
  ·show Dc _ (Ao [47] [Ag (Ad q),[46,46]])
   rw[AJ,AH]
   exact Dc.app (Ig g1) hE.1
  ·have:=E7 g1
   simp[*]
  ·rcases he i hi with rfl|rfl
   ·exact Du ms (h _ (by simp[BC]))
   ·exact Dv ms
  ·rcases he i hi with rfl|rfl
   ·exact BZ _
   ·decide
 ·intro h
  show DX ms ([46,46,61,50,70]++BD (Ad q),[GH,AT (Ad q)])
  have he:∀i∈[GH,AT (Ad q)],i=GH\/i=AT (Ad q):=λi hi=>by simpa using hi
  refine ⟨?_,by exact List.cons_ne_nil _ _,by simp,?_,by simp;exact Nat.le_trans (by assumption) (by decide),λi hi=>?_,λ_ i hi=>?_⟩
  ·show Dc ([46,46]++([61,50,70]++BD (Ad q))) (Ao [47] [[46,46],Ag (Ad q)])
   rw[AJ,AH]
   exact Dc.app (Dc.plain [46,46] (by decide)) (Dc.app Dc.s2F (Ig g1))
  ·have:=E7 g1
   simp[*]
  ·rcases he i hi with rfl|rfl
   ·exact Dv ms
   ·exact Du ms (h _ (by simp[BC]))
  ·rcases he i hi with rfl|rfl
   ·decide
   ·exact BZ _
theorem NM (n0:Int) (ns:List Int):∀p∈A9 n0 ns,DX (AD n0 ns) p:=by
 intro p hp
 unfold A9 at hp
 rcases List.mem_cons.mp hp with rfl|hp
 ·exact FK _ (by simp[AD]) (Cm _)
 ·refine Mine.S0 (List.mem_map.mp hp) λn hn eq1=>?_
  subst eq1
  refine PJ _ _ _ (Bp n (y:=8) (by decide)) λm hm=>?_
  unfold AD
  exact .tail _ (List.mem_flatMap.mpr ⟨n,hn,hm⟩)
theorem NO (n0:Int) (ns:List Int):∀m∈AD n0 ns,C4 m:=by
 intro m hm
 unfold AD at hm
 rcases List.mem_cons.mp hm with rfl|hm
 ·exact Cm _
 ·refine Mine.S0 (List.mem_flatMap.mp hm) λn hn hm=>?_
  unfold DL BC at hm
  split at hm
  ·cases hm
  split at hm
  ·simp only[List.mem_cons,List.not_mem_nil,or_false] at hm
   rcases hm with rfl|rfl<;>exact Cm _
  ·simp only[List.mem_cons,List.not_mem_nil,or_false] at hm
   rw[hm];exact Cm _
theorem gQ {x:List Nat} (h:x.take 1≠[47]):Bf x=([],x):=by
 unfold Bf
 rw[if_pos (by simpa using h)]
theorem jE {x:List Nat} (h:x.take 1≠[47]):Bf (47::x)=([47],x):=by
 unfold Bf
 rw[if_neg (by simp),if_pos (by simpa using h)]
 rfl
theorem jF {x:List Nat} (h:x.take 1≠[47]):Bf (47::47::x)=([47,47],x):=by
 unfold Bf
 rw[if_neg (by simp),if_neg (by simp),if_neg (by simpa using h)]
 rfl
theorem jG (x:List Nat):Bf (47::47::47::x)=([47],47::47::x):=by
 unfold Bf
 rw[if_neg (by simp),if_neg (by simp),if_pos (by simp)]
 rfl
noncomputable def C2 (r:List Nat):Prop:=r=[47]\/r=[47,47]\/r=[]
theorem ro {r y:List Nat} (hr:C2 r) (h:y.take 1≠[47]):Bf (r++y)=(r,y):=by
 rcases hr with rfl|rfl|rfl
 ·exact jE h
 ·exact jF h
 ·exact gQ h
theorem JI (r:List Nat) (xs:List (List Nat)):As r xs=Jp (r++Ao [47] xs):=rfl
theorem CK {z r t:List Nat} (hz:z≠[]) (h:Bf z=(r,t)):Bh z=As r (AR r (Ai 47 t)):=by
 unfold Bh
 rw[if_neg (by simpa using hz),h]
 rfl
theorem Fq {x:List Nat} (h:47∉x):x.take 1≠[47]:=by
 cases x with
 |nil=>simp
 |cons a x=>
  intro e
  have:a=47:=by simpa using e
  exact h (by simp[this])
theorem DY {f:List Nat} {rest:List (List Nat)} (hf:f≠[]) (h:47∉f):(Ao [47] (f::rest)).take 1≠[47]/\Ao [47] (f::rest)≠[]:=by
 refine Mine.S2 (List.exists_cons_of_ne_nil hf) λa f' eq1=>?_
 subst eq1
 have:∃z,Ao [47] ((a::f')::rest)=a::z:=⟨_,rfl⟩
 obtain ⟨z,e⟩:=this
 rw[e]
 refine ⟨λe=>?_,by exact List.cons_ne_nil _ _⟩
 have:a=47:=by simpa using e
 exact h (by simp[this])
theorem CL (x:List Nat):Ai 47 (47::x)=[]::Ai 47 x:=by
 rw[Ai];simp
theorem Ih (x:List Nat):Ai 47 (46::47::x)=[46]::Ai 47 x:=by
 rw[Ai,CL];simp
theorem Fe {r c:List Nat} (h:c=[]\/c=[46]) (cs:List (List Nat)):AR r (c::cs)=AR r cs:=by
 unfold AR
 rw[List.foldl_cons]
 congr 1
 unfold Bc
 rw[if_pos h]
theorem FL {r f:List Nat} {rest:List (List Nat)} (hr:C2 r) (hf:f≠[]) (h:∀x∈f::rest,47∉x):Bh (r++Ao [47] (f::rest))=As r (CB (f::rest) r):=by
 obtain ⟨h1,h2⟩:=DY (rest:=rest) hf (h f (by exact List.mem_cons_self))
 rw[CK (by simp[h2]) (ro hr h1),By 47 _ (by exact List.cons_ne_nil _ _) h,BY]
theorem PK {r:List Nat} {xs:List (List Nat)} (hr:C2 r) (hx:∀x∈xs,47∉x/\x≠[]):Bh (As r xs)=As r (CB xs r):=by
 cases xs with
 |nil=>
  rcases hr with rfl|rfl|rfl<;>decide+kernel
 |cons f rest=>
  have hf:=(hx f (by exact List.mem_cons_self)).2
  have e:As r (f::rest)=r++Ao [47] (f::rest):=by
   have:=(DY (rest:=rest) hf (hx f (by exact List.mem_cons_self)).1).2
   rw[JI]
   unfold Jp
   rw[if_neg (by simp[this])]
  rw[e,FL hr hf λx h=>(hx x h).1]
theorem DZ (n0:Int):(headT n0=[47]/\AL n0=[47])\/(headT n0=[47,47]/\AL n0=[47,47])\/(headT n0=[47,47,47]/\AL n0=[47])\/(headT n0=[46,47]/\AL n0=[]):=by
 unfold headT AL
 obtain ⟨b1,b2⟩:=Bp n0 (y:=4) (by decide)
 revert b1 b2
 generalize n0.fmod 4=a
 revert a
 exact ck (.inl ⟨rfl,rfl⟩) (.inr (.inl ⟨rfl,rfl⟩)) (.inr (.inr (.inl ⟨rfl,rfl⟩))) (.inr (.inr (.inr ⟨rfl,rfl⟩)))
theorem Ww (n0:Int):C2 (AL n0):=by
 rcases DZ n0 with h|h|h|h<;>rw[h.2]
 ·exact .inl rfl
 ·exact .inr (.inl rfl)
 ·exact .inl rfl
 ·exact .inr (.inr rfl)
theorem JJ (n0:Int) {f:List Nat} {rest:List (List Nat)} (hf:f≠[]) (h:∀x∈f::rest,47∉x):Bh (headT n0++Ao [47] (f::rest))=As (AL n0) (CB (f::rest) (AL n0)):=by
 obtain ⟨h1,h2⟩:=DY (rest:=rest) hf (h f (by exact List.mem_cons_self))
 rcases DZ n0 with e|e|e|e<;>rw[e.1,e.2]
 ·exact FL (.inl rfl) hf h
 ·exact FL (.inr (.inl rfl)) hf h
 ·rw[show [47,47,47]++Ao [47] (f::rest)=47::47::47::Ao [47] (f::rest) from rfl,CK (by exact List.cons_ne_nil _ _) (jG _),CL,CL,Fe (.inl rfl),Fe (.inl rfl),By 47 _ (by exact List.cons_ne_nil _ _) h,BY]
 ·rw[show [46,47]++Ao [47] (f::rest)=46::47::Ao [47] (f::rest) from rfl,CK (by exact List.cons_ne_nil _ _) (gQ (by simp)),Ih,Fe (.inr rfl),By 47 _ (by exact List.cons_ne_nil _ _) h,BY]
theorem PL (n0:Int):Bh (headT n0)=As (AL n0) []:=by
 rcases DZ n0 with e|e|e|e<;>rw[e.1,e.2]<;>decide+kernel
theorem El:∀b:List Nat,47∉b->A4 47 b= -1
 |[],_=>rfl
 |a::b,h=>by
  have ih:=El b (λhb=>h (by simp[hb]))
  unfold A4
  rw[ih,if_neg (by lia),if_neg (λe=>h (by simp[e]))]
theorem G2 (b:List Nat) (h:47∉b):∀a:List Nat,A4 47 (a++47::b)=a.length
 |[]=>by
  show A4 47 (47::b)=_
  unfold A4
  rw[El b h,if_neg (by lia),if_pos rfl];rfl
 |c::a=>by
  show A4 47 (c::(a++47::b))=_
  unfold A4
  rw[G2 b h a,if_pos (by lia)]
  simp
theorem PM {b:List Nat} (h:47∉b):Bw b=b:=by
 unfold Bw
 rw[El b h];rfl
theorem Ii {a b:List Nat} (h:47∉b):Bw (a++47::b)=b:=by
 unfold Bw
 rw[G2 b h a,show ((a.length:Int)+1).toNat=a.length+1 from by lia]
 rw[show a++47::b=(a++[47])++b from by simp,List.drop_left' (by simp)]
theorem C9 {r:List Nat} {xs:List (List Nat)} (hx:∀x∈xs,47∉x/\x≠[]) (hne:xs≠[]):As r xs=r++Ao [47] xs:=by
 refine Mine.S2 (List.exists_cons_of_ne_nil hne) λf rest eq1=>?_
 subst eq1
 have:=(DY (rest:=rest) (hx f (by exact List.mem_cons_self)).2 (hx f (by exact List.mem_cons_self)).1).2
 rw[JI]
 unfold Jp
 rw[if_neg (by simp[this])]
theorem PN {r x:List Nat} {xs:List (List Nat)} (hr:C2 r) (hx:∀y∈xs++[x],47∉y/\y≠[]):Bw (As r (xs++[x]))=x:=by
 have h1:=(hx x (by simp)).1
 rw[C9 hx (by simp)]
 by_cases h:xs=[]
 ·subst h
  rw[List.nil_append,AH]
  rcases hr with rfl|rfl|rfl
  ·exact Ii (a:=[]) h1
  ·exact Ii (a:=[47]) h1
  ·exact PM h1
 ·rw[Gi _ _ h (by exact List.cons_ne_nil _ _),AH,<-List.append_assoc]
  exact Ii h1
theorem KY {a x:List Nat} (h1:47∉x) (h2:x≠[]):((a++x).getLast?==some 47)=false:=by
 rw[G1 _ _ h2,beq_eq_false_iff_ne]
 intro e
 exact h1 (List.mem_of_getLast? e)
theorem SZ {p:List Nat} (h:47∉p):([47]:List Nat).isPrefixOf p=false:=by
 cases p with
 |nil=>rfl
 |cons a p=>
  have:(47:Nat)≠a:=λe=>h (by simp[e])
  simp[List.isPrefixOf,this]
theorem FM {p:List Nat} (h:47∉p):Ai 47 p=[p]:=by
 have:=By 47 [p] (by exact List.cons_ne_nil _ _) (by simpa using h)
 rwa [AH] at this
theorem PQ {r p:List Nat} {xs:List (List Nat)} (hr:C2 r) (hx:∀y∈xs,47∉y/\y≠[]) (hn:BG r xs) (hp:47∉p):Bh (Bo (As r xs) p)=As r (Bc r xs p):=by
 have K4:=SZ hp
 by_cases h:xs=[]
 ·subst h
  have hs:AR r [p]=Bc r [] p:=rfl
  rcases hr with rfl|rfl|rfl
  ·have e:Bo (As [47] []) p=[47]++p:=by
    show Bo [47] p=_
    unfold Bo
    rw[K4];rfl
   rw[e,CK (by exact List.cons_ne_nil _ _) (ro (r:=[47]) (.inl rfl) (Fq hp)),FM hp,hs]
  ·have e:Bo (As [47,47] []) p=[47,47]++p:=by
    show Bo [47,47] p=_
    unfold Bo
    rw[K4];rfl
   rw[e,CK (by exact List.cons_ne_nil _ _) (ro (r:=[47,47]) (.inr (.inl rfl)) (Fq hp)),FM hp,hs]
  ·have e:Bo (As [] []) p=46::47::p:=by
    show Bo [46] p=_
    unfold Bo
    rw[K4];rfl
   rw[e,CK (by exact List.cons_ne_nil _ _) (gQ (by simp)),Ih,FM hp,Fe (.inr rfl),hs]
 ·obtain ⟨xs',x,rfl⟩:∃xs' x,xs=xs'++[x]:=by
   rcases List.eq_nil_or_concat xs with e|⟨l,x,e⟩
   ·exact (h e).elim
   ·exact ⟨l,x,by rw[e,List.concat_eq_append]⟩
  refine Mine.S2 (List.exists_cons_of_ne_nil h) λf rest hfr=>?_
  have hxx:=hx x (by simp)
  have hjoin:∃a,r++Ao [47] (xs'++[x])=a++x:=by
   by_cases h':xs'=[]
   ·subst h';exact ⟨r,by rw[List.nil_append,AH]⟩
   ·exact ⟨r++(Ao [47] xs'++[47]),by rw[Gi _ _ h' (by exact List.cons_ne_nil _ _),AH];simp⟩
  have e:Bo (As r (xs'++[x])) p=r++Ao [47] ((xs'++[x])++[p]):=by
   rw[C9 hx (by simp),Gi (xs'++[x]) [p] (by simp) (by exact List.cons_ne_nil _ _),AH]
   obtain ⟨a,ha⟩:=hjoin
   unfold Bo
   rw[K4,ha,KY hxx.1 hxx.2]
   have:(a++x).isEmpty=false:=by simp[hxx.2]
   rw[this,if_neg (by decide),if_neg (by decide),if_neg (by decide),<-ha]
   simp
  have hf:f≠[]/\47∉f:=by
   have:=hx f (by rw[hfr];exact List.mem_cons_self)
   exact ⟨this.2,this.1⟩
  have hall:∀y∈(xs'++[x])++[p],47∉y:=λy hy=>by
   rcases List.mem_append.mp hy with hy|hy
   ·exact (hx y hy).1
   ·have:y=p:=by simpa using hy
    rw[this];exact hp
  have hjt:=DY (rest:=rest++[p]) hf.1 hf.2
  have hcons:(xs'++[x])++[p]=f::(rest++[p]):=by rw[hfr];rfl
  rw[e,CK (t:=Ao [47] ((xs'++[x])++[p])) (by rw[hcons];simp[hjt.2]) (ro hr (by rw[hcons];exact hjt.1)),By 47 _ (by simp) hall]
  have hs:AR r ((xs'++[x])++[p])=Bc r (AR r (xs'++[x])) p:=by
   unfold AR
   rw[List.foldl_append];rfl
  rw[hs,hn.same]
theorem PR {r:List Nat} {xs:List (List Nat)} (hr:r≠[]) (h:BG r xs):xs.getLast?≠some dd:=by
 revert h
 refine Mine.T0 λs eq1 hp=>?_
 subst eq1
 unfold BF
 rw[if_neg hr,List.nil_append]
 intro e
 exact (hp dd (List.mem_of_getLast? e)).2.2 rfl
theorem JK {r:List Nat} {st:List A6} (q:A6) (h:BG r (st.map (·.1))):(Ov r st q).map (·.1)=Bc r (st.map (·.1)) q.1:=by
 unfold Ov Bc
 by_cases h1:q.1=dd
 ·rw[if_pos (show q.1=[46,46] from h1),if_neg (c:=_\/_) (by rw[h1];decide)]
  rcases List.eq_nil_or_concat st with rfl|⟨l,x,rfl⟩
  ·rw[if_neg (c:=∃_,_) (by simp)]
   by_cases hr:r=[]
   ·rw[if_pos hr,if_pos (.inr (.inl ⟨hr,rfl⟩))];rfl
   ·rw[if_neg hr,if_neg (c:=_\/_\/_)]
    ·rfl
    ·rintro (h2|h2|h2)
     ·exact h2 h1
     ·exact hr h2.1
     ·exact Aa h2
  ·rw[List.concat_eq_append] at h ⊢
   by_cases hx:x.1=dd
   ·have hr:r=[]:=by
     by_cases hr:r=[]
     ·exact hr
     ·exact absurd (by simp[hx]) (PR hr h)
    rw[if_neg (c:=∃_,_) (by simp;exact hx),if_pos hr,if_pos (c:=_\/_\/_) (.inr (.inr (by simp;exact hx)))]
    simp
   ·rw[if_pos (c:=∃_,_) ⟨x,by simp,hx⟩,if_neg (c:=_\/_\/_)]
    ·simp
    ·rintro (h2|h2|h2)
     ·exact h2 h1
     ·exact absurd h2.2 (by simp)
     ·have:x.1=[46,46]:=by simpa using h2
      exact hx this
 ·rw[if_neg (show ¬ q.1=[46,46] from h1)]
  by_cases h2:q.1=[]\/q.1=[46]
  ·rw[if_pos h2,if_neg (c:=_/\_) (by rintro ⟨a,b⟩;rcases h2 with h2|h2;exact a h2;exact b h2)]
  ·rw[if_neg h2,if_pos (c:=_/\_) ⟨λe=>h2 (.inl e),λe=>h2 (.inr e)⟩,if_pos (.inl h1),List.map_append]
   rfl
noncomputable def KZ (ms:List Int) (st:List A6):Prop:=∀i∈st,i=GH\/∃m∈ms,i=AT m
theorem NP {ms:List Int} {r:List Nat} {st:List A6} {q:A6} (h:KZ ms st) (hq:E6 ms q):KZ ms (Ov r st q):=by
 have push:(q.1≠[]/\q.1≠[46])->KZ ms (st++[q]):=λhne i hi=>by
  rcases List.mem_append.mp hi with hi|hi
  ·exact h i hi
  ·have e:i=q:=by simpa using hi
   subst e
   rcases hq with e|e|e|e
   ·exact absurd (by rw[e]) hne.1
   ·exact absurd (by rw[e]) hne.2
   ·exact .inl e
   ·exact .inr e
 unfold Ov
 split
 ·rename_i h1
  split
  ·exact λi hi=>h i (List.dropLast_subset _ hi)
  split
  ·exact push (by rw[h1];decide)
  ·exact h
 split
 ·rename_i h2
  exact push h2
 ·exact h
noncomputable def Ij (ms:List Int) (l:List (List Nat×Int)):Prop:=∀p∈l,p.1=Ag p.2/\p.2∈ms
theorem Wx {ms:List Int} {l:List (List Nat×Int)} (h:Ij ms l) {m:Int} (hm:m∈ms):Ij ms (Ge m l):=by
 unfold Ge
 split
 ·intro p hp
  refine Mine.S0 (List.mem_map.mp hp) λp' hp' eq1=>?_
  subst eq1
  split
  ·rename_i e;exact ⟨e,hm⟩
  ·exact h p' hp'
 ·intro p hp
  rcases List.mem_append.mp hp with hp|hp
  ·exact h p hp
  ·have:p=(Ag m,m):=by simpa using hp
   rw[this];exact ⟨rfl,hm⟩
theorem JL {l:List (List Nat×Int)} {m:Int} {x:List Nat} (h:x∈l.map (·.1)\/x=Ag m):x∈(Ge m l).map (·.1):=by
 unfold Ge
 split
 ·rename_i hany
  have e:(l.map λp=>if p.1=Ag m then (p.1,m) else p).map (·.1)=l.map (·.1):=by
   rw[List.map_map]
   apply List.map_congr_left
   intro p _
   simp only[Function.comp]
   split<;>rfl
  rw[e]
  rcases h with h|h
  ·exact h
  ·refine Mine.S0 (List.any_eq_true.mp hany) λp hp hpe=>?_
   rw[h]
   exact List.mem_map.mpr ⟨p,hp,of_decide_eq_true hpe⟩
 ·rw[List.map_append]
  rcases h with h|h
  ·exact List.mem_append_left _ h
  ·exact List.mem_append_right _ (by simp[h])
theorem JM (ms:List Int):∀ (ms':List Int) (l:List (List Nat×Int)),(∀m∈ms',m∈ms)->Ij ms l->Ij ms (ms'.foldl (λl m=>Ge m l) l)/\∀x,(x∈l.map (·.1)\/∃m∈ms',x=Ag m)->x∈(ms'.foldl (λl m=>Ge m l) l).map (·.1)
 |[],l,_,h=>⟨h,λx hx=>by
  rcases hx with hx|⟨m,hm,_⟩
  ·exact hx
  ·cases hm⟩
 |m::ms',l,hs,h=>by
  obtain ⟨h1,h2⟩:=JM ms ms' (Ge m l) (λm hm=>hs m (by simp[hm])) (Wx h (hs m (by exact List.mem_cons_self)))
  refine ⟨h1,λx hx=>h2 x ?_⟩
  rcases hx with hx|⟨m',hm',e⟩
  ·exact .inl (JL (.inl hx))
  ·rcases List.mem_cons.mp hm' with rfl|hm'
   ·exact .inl (JL (.inr e))
   ·exact .inr ⟨m',hm',e⟩
theorem Ff (ms:List Int):Ij ms (A5 ms)/\∀m∈ms,Ag m∈(A5 ms).map (·.1):=by
 obtain ⟨h1,h2⟩:=JM ms ms [] (λZ h=>h) nofun
 exact ⟨h1,λm hm=>h2 _ (.inr ⟨m,hm,rfl⟩)⟩
theorem Mp {x:List Nat} {d:Int}:∀l:List (List Nat×Int),x∉l.map (·.1)->C5 x d (l.map (·.1)) (l.map (·.2))=d
 |[],_=>rfl
 |p::l,h=>by
  rw[List.map_cons,List.mem_cons,not_or] at h
  rw[List.map_cons,List.map_cons]
  unfold C5
  rw[if_neg (λe=>h.1 e.symm)]
  exact Mp l h.2
theorem OK {x:List Nat} {d:Int}:∀l:List (List Nat×Int),x∈l.map (·.1)->∃p∈l,p.1=x/\C5 x d (l.map (·.1)) (l.map (·.2))=p.2
 |[],h=>by cases h
 |p::l,h=>by
  rw[List.map_cons,List.map_cons]
  by_cases e:p.1=x
  ·exact ⟨p,by exact List.mem_cons_self,e,by unfold C5;rw[if_pos e]⟩
  ·rw[List.map_cons,List.mem_cons] at h
   rcases h with h|h
   ·exact absurd h.symm e
   ·refine Mine.S8 (OK (d:=d) l h) λp' hp' h1 h2=>?_
    exact ⟨p',by simp[hp'],h1,by unfold C5;rw[if_neg e];exact h2⟩
theorem PS {ms:List Int} {x:List Nat} (h:x∈(A5 ms).map (·.1)):x.length=10:=by
 refine Mine.S0 (List.mem_map.mp h) λp hp eq1=>?_
 subst eq1
 rw[((Ff ms).1 p hp).1,Cl]
noncomputable abbrev Mq (g:Int):Prop:=¬ Builtin.bitAnd g 61440=16384\/Builtin.bitAnd (Builtin.bitAnd g 4095) 1=0
theorem Fr:¬ Mq 16877:=by
 unfold Mq
 decide+kernel
theorem JN {ms:List Int} {r:List Nat} (hr:C2 r) (hms:∀m∈ms,C4 m):∀ (qs:List A6) (st:List A6),(∀q∈qs,E6 ms q)->KZ ms st->BG r (st.map (·.1))->
  DK ((A5 ms).map (·.1)) ((A5 ms).map (·.2)) (qs.map (·.1)) (As r (st.map (·.1)))=CM r qs st
 |[],_,_,_,_=>rfl
 |q::qs,st,hq,hst,hn=>by
  have hfree:∀i,E6 ms i->47∉i.1:=λi hi=>by
   rcases hi with rfl|rfl|rfl|⟨m,hm,rfl⟩
   ·decide
   ·decide
   ·decide
   ·exact C7 (hms m hm)
  have hx:∀y∈st.map (·.1),47∉y/\y≠[]:=λy hy=>by
   refine Mine.S0 (List.mem_map.mp hy) λi hi eq1=>?_
   subst eq1
   rcases hst i hi with rfl|⟨m,hm,rfl⟩
   ·decide
   ·exact ⟨C7 (hms m hm),BZ m⟩
  have hstop:Mq (C5 (Bw (As r (st.map (·.1)))) 16877 ((A5 ms).map (·.1)) ((A5 ms).map (·.2)))↔∃x,st.getLast?=some x/\x.2=false:=by
   have hnot:∀x:List Nat,x.length≠10->C5 x 16877 ((A5 ms).map (·.1)) ((A5 ms).map (·.2))=16877:=λx hl=>Mp _ λh=>hl (PS h)
   rcases List.eq_nil_or_concat st with rfl|⟨l,x,rfl⟩
   ·have e:Bw (As r (([]:List A6).map (·.1)))=[]\/Bw (As r (([]:List A6).map (·.1)))=[46]:=by
     rcases hr with rfl|rfl|rfl
     ·exact .inl (by decide+kernel)
     ·exact .inl (by decide+kernel)
     ·exact .inr (by decide+kernel)
    rw[hnot _ (by rcases e with e|e<;>(rw[e];decide))]
    exact iff_of_false Fr (by simp)
   ·rw[List.concat_eq_append] at hst hx ⊢
    rw[List.map_append,List.map_cons,List.map_nil] at hx ⊢
    rw[PN hr hx]
    have hl:(∃y,(l++[x]).getLast?=some y/\y.2=false)↔x.2=false:=by simp
    rw[hl]
    rcases hst x (by simp) with rfl|⟨m,hm,rfl⟩
    ·rw[hnot _ (by decide)]
     exact iff_of_false Fr (by decide)
    ·refine Mine.S8 (OK (d:=16877) (A5 ms) ((Ff ms).2 m hm)) λp hp h1 h2=>?_
     show Mq (C5 (Ag m) _ _ _)↔NG m=false
     rw[h2]
     obtain ⟨k1,k2⟩:=(Ff ms).1 p hp
     rw[KV (hms m hm) (hms _ k2) (by rw[<-k1,h1])]
     exact PI (hms _ k2)
  have hqf:=hfree q (hq q (by exact List.mem_cons_self))
  rw[List.map_cons]
  unfold DK CM
  by_cases hc:Mq (C5 (Bw (As r (st.map (·.1)))) 16877 ((A5 ms).map (·.1)) ((A5 ms).map (·.2)))
  ·rw[if_pos hc,if_pos (hstop.mp hc)]
  ·rw[if_neg hc,if_neg (λh=>hc (hstop.mpr h)),PQ hr hx hn hqf,<-JK q hn]
   have hn':BG r ((Ov r st q).map (·.1)):=by rw[JK q hn];exact hn.step q.1
   rw[JN hr hms qs (Ov r st q) (λq hq'=>hq q (by simp[hq'])) (NP hst (hq q (by exact List.mem_cons_self))) hn']
theorem Mr:∀x y:List Nat,¬ x<y->¬ y<x->x=y
 |[],[],_,_=>rfl
 |[],b::y,h,_=>absurd (List.Lex.nil) h
 |a::x,[],_,h=>absurd (List.Lex.nil) h
 |a::x,b::y,h1,h2=>by
  have hab:a=b:=by
   rcases Nat.lt_trichotomy a b with h|h|h
   ·exact absurd (List.Lex.rel h) h1
   ·exact h
   ·exact absurd (List.Lex.rel h) h2
  subst hab
  rw[Mr x y (λh=>h1 (List.Lex.cons h)) (λh=>h2 (List.Lex.cons h))]
theorem PT (x y:List Nat) (h:x<y):¬ y<x:=List.lt_asymm h
theorem Fg (lt:Bool) (a:List Nat) (x:List (List Nat)) (b:List Nat) (y:List (List Nat)):Co lt (a::x) (b::y)=if a=b then Co lt x y else (if lt then decide (a<b) else decide (b<a)):=rfl
theorem JO:∀x y:List (List Nat),(Co true y x=true/\Co false y x=false)\/(Co true y x=false/\Co false y x=true)\/(Co true y x=false/\Co false y x=false/\x=y)
 |[],[]=>.inr (.inr ⟨rfl,rfl,rfl⟩)
 |[],b::y=>.inr (.inl ⟨by unfold Co;simp,by unfold Co;simp⟩)
 |a::x,[]=>.inl ⟨by unfold Co;simp,by unfold Co;simp⟩
 |a::x,b::y=>by
  rw[Fg,Fg]
  by_cases h:b=a
  ·subst h
   rw[if_pos rfl,if_pos rfl]
   rcases JO x y with h|h|⟨h1,h2,h3⟩
   ·exact .inl h
   ·exact .inr (.inl h)
   ·exact .inr (.inr ⟨h1,h2,by rw[h3]⟩)
  ·rw[if_neg h,if_neg h]
   by_cases h1:b<a
   ·exact .inl ⟨by simp[h1],by simp[PT _ _ h1]⟩
   ·by_cases h2:a<b
    ·exact .inr (.inl ⟨by simp[h1],by simp[h2]⟩)
    ·exact absurd (Mr _ _ h1 h2) h
theorem Ms:∀x y:List (List Nat),Cp x y=Cp y x
 |[],[]=>rfl
 |[],_::_=>rfl
 |_::_,[]=>rfl
 |a::x,b::y=>by
  rw[CU,CU,Ms x y]
  by_cases h:a=b
  ·rw[if_pos h,if_pos h.symm]
  ·rw[if_neg h,if_neg (λe=>h e.symm)]
theorem Mt:∀x y:List (List Nat),x.take (Cp x y)=y.take (Cp x y)
 |[],y=>by simp[Cp]
 |_::_,[]=>by simp[Cp]
 |a::x,b::y=>by
  rw[CU]
  split
  ·rename_i h;rw[List.take_succ_cons,List.take_succ_cons,Mt x y,h]
  ·rfl
theorem Mu:∀x:List (List Nat),Cp x x=x.length
 |[]=>rfl
 |a::x=>by rw[CU,if_pos rfl,Mu x];rfl
theorem K0:∀s t:List (List Nat),(Co true s t=true\/Co false t s=true)->Cp s t<s.length->Cp s t<t.length
 |[],t,_,h=>by simp at h
 |a::s,[],h,_=>by
  exfalso
  rcases h with h|h<;>(unfold Co at h;simp at h)
 |a::s,b::t,h,hl=>by
  rw[CU] at hl ⊢
  by_cases e:a=b
  ·rw[if_pos e] at hl ⊢
   rw[Fg,Fg,if_pos e,if_pos e.symm] at h
   have:=K0 s t h (by simp at hl;lia)
   simp;lia
  ·rw[if_neg e];simp
theorem Wy (x y:List (List Nat)):(EY x y).take (Cp (EY x y) (G6 x y))=x.take (Cp x y)/\(Cp (EY x y) (G6 x y)<(EY x y).length->Cp (EY x y) (G6 x y)<(G6 x y).length):=by
 unfold EY G6
 rcases JO x y with ⟨h1,h2⟩|⟨h1,h2⟩|⟨h1,h2,h3⟩
 ·rw[if_pos h1,if_neg (by rw[h2];decide)]
  refine ⟨?_,K0 y x (.inl h1)⟩
  rw[Ms y x,<-Mt]
 ·rw[if_neg (by rw[h1];decide),if_pos h2]
  exact ⟨rfl,K0 x y (.inr h2)⟩
 ·rw[if_neg (by rw[h1];decide),if_neg (by rw[h2];decide),<-h3,Mu]
  exact ⟨rfl,λh=>h⟩
theorem Em (c:List Nat) (l:List (List Nat)):A2 (c::l)=if c=[]\/c=[46] then A2 l else c::A2 l:=by
 unfold A2
 rw[List.filter_cons]
 by_cases h:c=[]\/c=[46]
 ·rw[if_pos h,if_neg]
  rcases h with h|h<;>(rw[h];decide)
 ·rw[if_neg h,if_pos]
  rw[not_or] at h
  simp[h.1,h.2]
theorem Ik:∀l:List (List Nat),(∀c∈l,c≠[]/\c≠[46])->A2 l=l
 |[],_=>rfl
 |c::l,h=>by
  rw[Em,if_neg (by rintro (e|e);exact (h c (by exact List.mem_cons_self)).1 e;exact (h c (by exact List.mem_cons_self)).2 e),Ik l λc hc=>h c (by simp[hc])]
noncomputable def Mv (xs:List (List Nat)):Prop:=∀x∈xs,47∉x/\x≠[]/\x≠[46]
theorem JP {r:List Nat} {xs:List (List Nat)} (hr:C2 r) (hx:Mv xs):A2 (Ai 47 (As r xs))=xs:=by
 have hx':∀x∈xs,47∉x/\x≠[]:=λx h=>⟨(hx x h).1,(hx x h).2.1⟩
 by_cases h:xs=[]
 ·subst h
  rcases hr with rfl|rfl|rfl<;>decide+kernel
 ·rw[C9 hx' h]
  have hs:=By 47 xs h λx hh=>(hx x hh).1
  have hk:=Ik xs λx hh=>(hx x hh).2
  rcases hr with rfl|rfl|rfl
  ·show A2 (Ai 47 (47::Ao [47] xs))=_
   rw[CL,hs,Em,if_pos (.inl rfl),hk]
  ·show A2 (Ai 47 (47::47::Ao [47] xs))=_
   rw[CL,CL,hs,Em,if_pos (.inl rfl),Em,if_pos (.inl rfl),hk]
  ·show A2 (Ai 47 (Ao [47] xs))=_
   rw[hs,hk]
theorem Mw {r:List Nat} {xs:List (List Nat)} (hr:C2 r) (hx:Mv xs):([47]:List Nat).isPrefixOf (As r xs)=!(r==[]):=by
 have hx':∀x∈xs,47∉x/\x≠[]:=λx h=>⟨(hx x h).1,(hx x h).2.1⟩
 by_cases h:xs=[]
 ·subst h
  rcases hr with rfl|rfl|rfl<;>decide+kernel
 ·rw[C9 hx' h]
  rcases hr with rfl|rfl|rfl
  ·simp[List.isPrefixOf]
  ·simp[List.isPrefixOf]
  ·refine Mine.S2 (List.exists_cons_of_ne_nil h) λf rest eq1=>?_
   subst eq1
   have hf:=hx' f (by exact List.mem_cons_self)
   refine Mine.S2 (List.exists_cons_of_ne_nil hf.2) λa f' eq1=>?_
   subst eq1
   have ha:(47:Nat)≠a:=λe=>hf.1 (by simp[e])
   have:∃z,Ao [47] ((a::f')::rest)=a::z:=⟨_,rfl⟩
   obtain ⟨z,e⟩:=this
   rw[List.nil_append,e]
   simp[List.isPrefixOf,ha]
theorem Mx {r:List Nat} (hr:C2 r) (xs:List (List Nat)):(As r xs).length<=wt xs+3:=by
 have:=DG xs
 have hl:r.length<=2:=by rcases hr with rfl|rfl|rfl<;>decide
 unfold As
 split
 ·simp
 ·rw[List.length_append];lia
theorem ZA {r:List Nat} {x y:List (List Nat)} (hr:C2 r) (hx:Mv x) (hy:Mv y) (hlx:wt x<=10000) (hly:wt y<=10000):
  Jy (As r x) (As r y)/\H5 (As r x) (As r y)=r.take 1++Ao [47] (x.take (Cp x y)):=by
 obtain ⟨m1,m2⟩:=Wy x y
 have l1:=Mx hr x
 have l2:=Mx hr y
 unfold Jy H5
 rw[JP hr hx,JP hr hy,Mw hr hx,Mw hr hy]
 refine ⟨⟨by lia,by lia,rfl,m2⟩,?_⟩
 rw[m1]
 rcases hr with rfl|rfl|rfl<;>rfl
theorem Ta {α:Type} {key:α->List Nat}:∀ (ps:List α) (s:Nat×List α) (x:α),x∈(ps.foldl (gS key) s).2->x∈s.2\/x∈ps
 |[],s,x,h=>.inl h
 |p::ps,s,x,h=>by
  rw[List.foldl_cons] at h
  rcases Ta ps _ x h with h|h
  ·unfold gS at h
   split at h
   ·exact .inl h
   split at h
   ·exact .inl h
   split at h
   ·exact .inl h
   ·rcases List.mem_append.mp h with h|h
    ·exact .inl h
    ·have:x=p:=by simpa using h
     exact .inr (by simp[this])
  ·exact .inr (by simp[h])
theorem PU {α:Type} {key:α->List Nat} {up:α} {ps:List α} {root:List Nat} {x:α} (h:x∈Gd key up ps root):x=up\/x∈ps:=by
 unfold Gd at h
 rcases List.mem_append.mp h with h|h
 ·split at h
  ·exact .inl (List.eq_of_mem_replicate h)
  ·cases h
 ·rcases Ta _ _ _ (List.mem_reverse.mp h) with h|h
  ·cases h
  ·exact .inr (List.mem_reverse.mp h)
theorem My (ps:List Bd) (root:List Nat):(Sw ps root).map (·.1)=CB (ps.map (·.1)) root:=
 GN (kα:=λp:Bd=>p.1) (kβ:=id) (uα:=ZG) (uβ:=[46,46]) (λp:Bd=>p.1) (λZ=>rfl) rfl ps root
theorem OL (k:Nat):∀l:List (List Nat),(∀x∈l,x.length<=k)->wt l<=(k+1)*l.length
 |[],_=>by simp[wt]
 |x::l,h=>by
  have ih:=OL k l λx hx=>h x (by simp[hx])
  have:=h x (by exact List.mem_cons_self)
  rw[Cf,List.length_cons,Nat.mul_succ]
  lia
theorem NQ (ps:List Bd):(ps.flatMap (·.2)).map (·.1)=ps.flatMap λp=>p.2.map (·.1):=by
 induction ps with
 |nil=>rfl
 |cons p ps ih=>rw[List.flatMap_cons,List.flatMap_cons,List.map_append,ih]
theorem Il {ms:List Int}:∀ps:List Bd,(∀p∈ps,DX ms p)->(ps.flatMap (·.2)).length<=2*ps.length
 |[],_=>by simp
 |p::ps,h=>by
  have ih:=Il ps λp hp=>h p (by simp[hp])
  have:=(h p (by exact List.mem_cons_self)).two
  rw[List.flatMap_cons,List.length_append,List.length_cons]
  lia
theorem Mz {ms:List Int} {ps:List Bd} (h:∀p∈ps,DX ms p):Dc (Ao [47] (ps.map (·.1))) (Ao [47] ((ps.flatMap (·.2)).map (·.1))):=by
 rw[NQ,<-JH (λp:Bd=>p.2.map (·.1)) ps λp hp=>by simpa using (h p hp).ne]
 exact Dc.join (λp:Bd=>p.1) (λp:Bd=>Ao [47] (p.2.map (·.1))) ps λp hp=>(h p hp).dc
theorem JQ {ms:List Int} {i:A6} (h:E6 ms i):i.1.length<=10:=by
 rcases h with rfl|rfl|rfl|⟨m,_,rfl⟩
 ·decide
 ·decide
 ·decide
 ·exact Nat.le_of_eq (Cl m)
theorem Im {ms:List Int} (hms:∀m∈ms,C4 m) {i:A6} (h:E6 ms i):47∉i.1:=by
 rcases h with rfl|rfl|rfl|⟨m,hm,rfl⟩
 ·decide
 ·decide
 ·decide
 ·exact C7 (hms m hm)
theorem Wz {r:List Nat} (h:C2 r):Dc r r:=by
 rcases h with rfl|rfl|rfl<;>exact Dc.plain _ (by decide)
theorem WA (n0:Int):Dc (headT n0) (headT n0):=by
 rcases DZ n0 with e|e|e|e<;>(rw[e.1];exact Dc.plain _ (by decide))
theorem PV (n0:Int) (ns:List Int) (hn:ns.length<=5):Gf n0 ns:=by
 have hms:=NO n0 ns
 have hps:=NM n0 ns
 have hr:=Ww n0
 have hlen:(A9 n0 ns).length<=8:=by
  unfold A9
  simp only[List.length_cons,List.length_map,List.length_append,List.length_nil]
  lia
 have hhd:(headT n0).length<=3:=by rcases DZ n0 with e|e|e|e<;>(rw[e.1];decide)
 have hraw:wt ((A9 n0 ns).map (·.1))<=648:=by
  have:=OL 80 ((A9 n0 ns).map (·.1)) λx hx=>by
   refine Mine.S0 (List.mem_map.mp hx) λp hp eq1=>?_
   subst eq1
   exact (hps p hp).len
  rw[List.length_map] at this
  lia
 have hrawf:∀x∈(A9 n0 ns).map (·.1),47∉x:=λx hx=>by
  refine Mine.S0 (List.mem_map.mp hx) λp hp eq1=>?_
  subst eq1
  exact (hps p hp).free
 have hrowG:∀i∈C0 n0 ns,E6 (AD n0 ns) i:=λi hi=>by
  refine Mine.S0 (List.mem_flatMap.mp hi) λp hp hi=>?_
  exact (hps p hp).it i hi
 have hrowl:(C0 n0 ns).length<=16:=by
  have:=Il (A9 n0 ns) hps
  unfold C0
  lia
 have hrow:wt ((C0 n0 ns).map (·.1))<=176:=by
  have:=OL 10 ((C0 n0 ns).map (·.1)) λx hx=>by
   refine Mine.S0 (List.mem_map.mp hx) λi hi eq1=>?_
   subst eq1
   exact JQ (hrowG i hi)
  rw[List.length_map] at this
  lia
 have hrowf:∀x∈(C0 n0 ns).map (·.1),47∉x:=λx hx=>by
  refine Mine.S0 (List.mem_map.mp hx) λi hi eq1=>?_
  subst eq1
  exact Im hms (hrowG i hi)
 have hrowc:∃rest,(C0 n0 ns).map (·.1)=Ag (DN n0)::rest:=⟨_,rfl⟩
 have hrawc:∃rest,(A9 n0 ns).map (·.1)=BD (DN n0)::rest:=⟨_,rfl⟩
 have hraw0:BD (DN n0)≠[]:=by
  have h1:=(hps (BD (DN n0),[AT (DN n0)]) (by simp[A9])).dc
  intro e
  have h2:=h1 []
  rw[e] at h2
  rw[show (([AT (DN n0)]:List A6).map (·.1))=[Ag (DN n0)] from rfl,AH] at h2
  have h3:NL []=some []:=DF
  rw[List.append_nil,h3,Option.map_some,List.append_nil] at h2
  injection h2 with h2
  exact BZ _ h2.symm
 have hkn:=My (A9 n0 ns) (AL n0)
 have hkG:∀p∈CD n0 ns,DX (AD n0 ns) p:=λp hp=>by
  rcases PU hp with rfl|hp
  ·exact OJ _
  ·exact hps p hp
 have hkl:(CD n0 ns).length<=8:=by
  have:=(Gh ((A9 n0 ns).map (·.1)) (AL n0)).2
  rw[<-hkn,List.length_map,List.length_map] at this
  unfold CD
  lia
 have hkw:wt ((CD n0 ns).map (·.1))<=648:=by
  have:=(Gh ((A9 n0 ns).map (·.1)) (AL n0)).1
  unfold CD
  rw[hkn]
  lia
 have hkx:∀x∈(CD n0 ns).map (·.1),47∉x/\x≠[]:=λx hx=>by
  have hx':x∈CB ((A9 n0 ns).map (·.1)) (AL n0):=by rw[<-hkn];exact hx
  rcases JG hx' with rfl|⟨h1,h2⟩
  ·decide
  ·exact ⟨hrawf x h1,h2.1⟩
 have hhG:∀i∈Cz n0 ns,E6 (AD n0 ns) i/\i.1≠[]:=λi hi=>by
  refine Mine.S0 (List.mem_flatMap.mp hi) λp hp hi=>?_
  exact ⟨(hkG p hp).it i hi,(hkG p hp).emp (hkx p.1 (List.mem_map_of_mem hp)).2 i hi⟩
 have hhl:(Cz n0 ns).length<=16:=by
  have:=Il (CD n0 ns) hkG
  unfold Cz
  lia
 have hhw:wt ((Cz n0 ns).map (·.1))<=176:=by
  have:=OL 10 ((Cz n0 ns).map (·.1)) λx hx=>by
   refine Mine.S0 (List.mem_map.mp hx) λi hi eq1=>?_
   subst eq1
   exact JQ (hhG i hi).1
  rw[List.length_map] at this
  lia
 have hhx:∀x∈(Cz n0 ns).map (·.1),47∉x/\x≠[]:=λx hx=>by
  refine Mine.S0 (List.mem_map.mp hx) λi hi eq1=>?_
  subst eq1
  exact ⟨Im hms (hhG i hi).1,(hhG i hi).2⟩
 have hlw:=Gh ((C0 n0 ns).map (·.1)) (AL n0)
 have haw:=Gh ((Cz n0 ns).map (·.1)) (AL n0)
 have hnames:∀cs:List (List Nat),(∀x∈cs,47∉x)->Mv (CB cs (AL n0)):=λcs hc x hx=>by
  rcases JG hx with rfl|⟨h1,h2⟩
  ·decide
  ·exact ⟨hc x h1,h2.1,h2.2.1⟩
 have hcom:=ZA hr (hnames _ hrowf) (hnames _ λx hx=>(hhx x hx).1) (x:=CB ((C0 n0 ns).map (·.1)) (AL n0)) (y:=CB ((Cz n0 ns).map (·.1)) (AL n0)) (by lia) (by lia)
 have hj1:=DG ((A9 n0 ns).map (·.1))
 have hj2:=DG ((C0 n0 ns).map (·.1))
 refine
  {hmode:=λm hm=>Ml (hms m hm)
   hhdr:=λp hp=>?_
   hreq:=by unfold KN;rw[List.length_append];lia
   hread:=(Dc.app (WA n0) (Mz hps)).done
   hreadn:=by unfold C3;rw[List.length_append];lia
   hraw:=by exact Nat.le_trans (by assumption) (by decide)
   hrow:=by exact Nat.le_trans (by assumption) (by decide)
   hparts:=by exact Nat.le_trans (by assumption) (by decide)
   hrowl:=by exact Nat.le_trans (by assumption) (by decide)
   hkeptl:=by exact Nat.le_trans (by assumption) (by decide)
   hheldl:=by exact Nat.le_trans (by assumption) (by decide)
   hlate:=?_
   hlaten:=by unfold BM;lia
   hlatel:=by unfold BM;have:=hlw.2;rw[List.length_map] at this;lia
   hkept:=?_
   hkeptn:=by exact Nat.le_trans (by assumption) (by decide)
   hheld:=?_
   hheldn:=by exact Nat.le_trans (by assumption) (by decide)
   hagain:=PK hr hhx
   hagainn:=by unfold C1;lia
   hcom:=hcom.1
   hcom2:=hcom.2
   hfoot:=?_}
 ·obtain ⟨h1,h2⟩:=(Ff (AD n0 ns)).1 p hp
  have:=Mm (hms _ h2)
  rw[<-h1] at this
  exact this
 ·obtain ⟨rest,e⟩:=hrowc
  unfold C3 BM
  rw[e] at hrowf ⊢
  exact JJ n0 (BZ _) hrowf
 ·obtain ⟨rest,e⟩:=hrawc
  unfold KN Ef CD
  rw[hkn]
  rw[e] at hrawf ⊢
  exact JJ n0 hraw0 hrawf
 ·unfold Ef PD
  by_cases h:CD n0 ns=[]
  ·have h2:Cz n0 ns=[]:=by unfold Cz;rw[h];rfl
   rw[h,h2]
   exact Dc.done (Dc.plain _ (by
    rcases hr with e|e|e<;>rw[e]<;>decide+kernel))
  ·rw[C9 hkx (by simpa using h),C9 hhx (by
    refine Mine.S2 (List.exists_cons_of_ne_nil h) λp l e=>?_
    have hne:=(hkG p (by rw[e];exact List.mem_cons_self)).ne
    unfold Cz
    rw[e,List.flatMap_cons]
    simp[hne])]
   exact (Dc.app (Wz hr) (Mz hkG)).done
 ·have e:(C3 n0 ns).drop (headT n0).length=Ao [47] ((C0 n0 ns).map (·.1)):=by
   unfold C3
   rw[List.drop_left]
  obtain ⟨rest,e2⟩:=hrowc
  rw[e,By 47 _ (by rw[e2];exact List.cons_ne_nil _ _) hrowf,PL]
  exact JN hr hms (C0 n0 ns) [] hrowG nofun (BG.nil _)
end Mine
set_option backward.match.sparseCases true
open PySem PySem.W PySem.Calls PyProof.Rows
set_option backward.match.sparseCases false
namespace Mine
theorem Tb (sc:List Int):H9 [.list (sc.map .int)]=some (.bool true):=by
 rw[gI]
 cases hn:E0 sc with
 |nil=>
  exfalso
  have:=congrArg List.length hn
  unfold E0 at this
  split at this
  ·simp at this
  ·rename_i h
   rw[List.length_take,List.length_nil] at this
   have:sc.length=0:=et this
   exact h (List.length_eq_zero_iff.mp this)
 |cons n0 ns=>
  refine Wl hn (PV n0 ns ?_)
  have:=congrArg List.length hn
  unfold E0 at this
  rw[List.length_take,List.length_cons] at this
  omega
theorem Gj {P:Params} {h:Heap}:∀ (vs:List Value) (xs:List Int),WellAll P h vs (ofPys (xs.map PyData.int))->IntsAre vs xs
 |[],[],_=>.nil
 |[],x::xs,h=>by
  have h:WellAll P _ [] (ofPy (.int x)::ofPys (xs.map PyData.int)):=h
  cases h
 |v::vs,[],h=>by
  have h:WellAll P _ (v::vs) []:=h
  cases h
 |v::vs,x::xs,h=>by
  have h:WellAll P _ (v::vs) (.int x::ofPys (xs.map PyData.int)):=h
  cases h with
  |cons h1 h2=>
   cases h1 with
   |int i t=>exact .cons x t (Gj vs xs h2)
end Mine
set_option tactic.hygienic true
set_option maxHeartbeats 4000000 in
theorem PySem.Challenge.cw_il0083_01_holds : PySem.Challenge.rw_il0083_01.Holds := by
 w_on
 refine PySem.W.holds_law (by
  unfold PySem.W.OpenLaw.wellSaid PySem.W.OpenRow.wellSaid PySem.W.OpenRow.partSaid PySem.W.looksOpen
  repeat' with_reducible refine PySem.W.look_both ?_ ?_
  all_goals decide+kernel) λsaid=>?_
 refine PySem.W.holds_open (r:=PySem.Challenge.rw_il0083_01.row) (q:=Mine.qq) (loose:=Mine.loose) (Xt:=Mine.Xt) (XP:=λZ Z=>True) (Yf:=Mine.HK.obs) (Ya:=Mine.HK.val) (YP:=Mine.HK.says) (N:=Mine.NN) Mine.bk Mine.HK.of Mine.HK.keeps (λZ Z=>trivial) (λZ Z Z h Z=>h) (by rfl) (by rfl) (by rfl) (λs e=>recFacts_of e) (by rfl) said (by decide+kernel) ⟨rfl,rfl,rfl,rfl,rfl,by decide+kernel⟩ ?hw ?hc
 case hw=>w_witness2
 case hc=>
  intro w s₀ s₁ mg mb G Y fa o pm cd doc dV kV ho hd hcd hD hmg hg args vals as K4 hlay hrd hwl hlo
  have KX:=kIn_of Y
  clear hcd hd hD
  clear pm cd doc dV kV
  have hT:=G.T.g
  obtain rfl:=Mine.SM KX hT hmg
  clear hmg ho G Y
  wrow_args K4 hlay hrd hwl hlo
  rename_i xs hs hlay0 hL0 hr0 hl2 as1 as2 a its as3 hL ra w1 r0 hI hr hc1 hc2
  cases w1 with
  |list hget hall=>
  have hlen:xs.length<=63:=by omega
  refine Mine.Zu KX hget ?_ hlen (Mine.Tb xs) λs' hk=>?_
  ·exact Mine.Gj _ _ hall
  ·revert hk
   refine Mine.T1 λh' t' eq1 kp=>?_
   subst eq1
   exact ⟨.inl ⟨_,_,[],rfl,λZ=>rfl,ReadsW.bool true,by first|rfl|wrow_post,λZ=>⟨List.nodup_nil,λZ hm=>(nomatch hm)⟩⟩,OldK.of_keep kp,rfl,.of_eq hg⟩
set_option backward.match.sparseCases true
