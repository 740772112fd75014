import PyProof.Rows.All
import Wide.All
import OpenK.AllK
import Wide.FinOn
import Lean
import PySem.Challenge.RW_dn0059_08
set_option Elab.async false
set_option compiler.extract_closed false
set_option linter.all false
section
open PySem PySem.W PyProof.Rows
set_option Elab.async false
set_option maxRecDepth 100000
set_option maxHeartbeats 0
namespace Mine
abbrev pw : Program := PySem.Challenge.pw_dn0059_08
def stAt : List Nat → List Stmt → Option Stmt
  | [], _ => none
  | [i], l => l[i]?
  | i :: r, l => match l[i]? with
    | some (.ClassDef _ _ _ b ..) => stAt r b
    | some (.FunctionDef _ _ b ..) => stAt r b
    | _ => none
noncomputable def fnAt (path : List Nat) (name qual : Str) (g : Addr) (cl : List (Str × Addr)) (dv kv doc pm : Value) (an : Option Addr) (cd ct : Value) (bl : Addr) : FuncData :=
  match stAt path pw.main.body with
  | some (.FunctionDef _ a b _ _ _ sc _ _ _) => { name := name, qualname := qual, params := a, body := .stmts b, scope := sc, globals := g, closure := cl, defaults := dv, kwdefaults := kv, doc := doc, pyModule := pm, annotations := an, code := cd, closureTuple := ct, builtins := bl }
  | _ => default
def ent (P : Params) (x : Str) (t : Tok) (v : Value) : DictEntry := ⟨PyData.keyHash P x, .str x t, v⟩
def btOf (l : List Obj) : BT := (l.foldl (fun (x : BT × Nat) o => (x.1.ins x.2 o, x.2 + 1)) (.nil, 0)).1
noncomputable def o0 (P : Params) : Obj := ⟨.type "dict", none, .dict #[ent P "__name__" 1 (.str "builtins" 160), ent P "__doc__" 2 (.builtin "builtins.__doc__:str#opaque"), ent P "__package__" 3 (.builtin "builtins.__package__:str#opaque"), ent P "__loader__" 4 (.builtin "builtins.__loader__:shared#opaque"), ent P "__spec__" 5 (.builtin "builtins.__spec__#opaque"), ent P "__build_class__" 6 (.builtin "__build_class__"), ent P "__import__" 7 (.builtin "__import__"), ent P "abs" 8 (.builtin "abs"), ent P "all" 9 (.builtin "all"), ent P "any" 10 (.builtin "any"), ent P "ascii" 11 (.builtin "ascii"), ent P "bin" 12 (.builtin "bin"), ent P "breakpoint" 13 (.builtin "breakpoint"), ent P "callable" 14 (.builtin "callable"), ent P "chr" 15 (.builtin "chr"), ent P "compile" 16 (.builtin "compile"), ent P "delattr" 17 (.builtin "delattr"), ent P "dir" 18 (.builtin "dir"), ent P "divmod" 19 (.builtin "divmod"), ent P "eval" 20 (.builtin "eval"), ent P "exec" 21 (.builtin "exec"), ent P "format" 22 (.builtin "format"), ent P "getattr" 23 (.builtin "getattr"), ent P "globals" 24 (.builtin "globals"), ent P "hasattr" 25 (.builtin "hasattr"), ent P "hash" 26 (.builtin "hash"), ent P "hex" 27 (.builtin "hex"), ent P "id" 28 (.builtin "id"), ent P "input" 29 (.builtin "input"), ent P "isinstance" 30 (.builtin "isinstance"), ent P "issubclass" 31 (.builtin "issubclass"), ent P "iter" 32 (.builtin "iter"), ent P "aiter" 33 (.builtin "aiter"), ent P "len" 34 (.builtin "len"), ent P "locals" 35 (.builtin "locals"), ent P "max" 36 (.builtin "max"), ent P "min" 37 (.builtin "min"), ent P "next" 38 (.builtin "next"), ent P "anext" 39 (.builtin "anext"), ent P "oct" 40 (.builtin "oct"), ent P "ord" 41 (.builtin "ord"), ent P "pow" 42 (.builtin "pow"), ent P "print" 43 (.builtin "print"), ent P "repr" 44 (.builtin "repr"), ent P "round" 45 (.builtin "round"), ent P "setattr" 46 (.builtin "setattr"), ent P "sorted" 47 (.builtin "sorted"), ent P "sum" 48 (.builtin "sum"), ent P "vars" 49 (.builtin "vars"), ent P "None" 50 (.none), ent P "Ellipsis" 51 (.ellipsis), ent P "NotImplemented" 52 (.notImplemented), ent P "False" 53 (.bool false), ent P "True" 54 (.bool true), ent P "bool" 55 (.type "bool"), ent P "memoryview" 56 (.type "memoryview"), ent P "bytearray" 57 (.type "bytearray"), ent P "bytes" 58 (.type "bytes"), ent P "classmethod" 59 (.type "classmethod"), ent P "complex" 60 (.type "complex"), ent P "dict" 61 (.type "dict"), ent P "enumerate" 62 (.type "enumerate"), ent P "filter" 63 (.type "filter"), ent P "float" 64 (.type "float"), ent P "frozenset" 65 (.type "frozenset"), ent P "property" 66 (.type "property"), ent P "int" 67 (.type "int"), ent P "list" 68 (.type "list"), ent P "map" 69 (.type "map"), ent P "object" 70 (.type "object"), ent P "range" 71 (.type "range"), ent P "reversed" 72 (.type "reversed"), ent P "set" 73 (.type "set"), ent P "slice" 74 (.type "slice"), ent P "staticmethod" 75 (.type "staticmethod"), ent P "str" 76 (.type "str"), ent P "super" 77 (.type "super"), ent P "tuple" 78 (.type "tuple"), ent P "type" 79 (.type "type"), ent P "zip" 80 (.type "zip"), ent P "__debug__" 81 (.bool true), ent P "BaseException" 82 (.type "BaseException"), ent P "BaseExceptionGroup" 83 (.type "BaseExceptionGroup"), ent P "Exception" 84 (.type "Exception"), ent P "GeneratorExit" 85 (.type "GeneratorExit"), ent P "KeyboardInterrupt" 86 (.type "KeyboardInterrupt"), ent P "SystemExit" 87 (.type "SystemExit"), ent P "ArithmeticError" 88 (.type "ArithmeticError"), ent P "AssertionError" 89 (.type "AssertionError"), ent P "AttributeError" 90 (.type "AttributeError"), ent P "BufferError" 91 (.type "BufferError"), ent P "EOFError" 92 (.type "EOFError"), ent P "ImportError" 93 (.type "ImportError"), ent P "LookupError" 94 (.type "LookupError"), ent P "MemoryError" 95 (.type "MemoryError"), ent P "NameError" 96 (.type "NameError"), ent P "OSError" 97 (.type "OSError"), ent P "ReferenceError" 98 (.type "ReferenceError"), ent P "RuntimeError" 99 (.type "RuntimeError"), ent P "StopAsyncIteration" 100 (.type "StopAsyncIteration"), ent P "StopIteration" 101 (.type "StopIteration"), ent P "SyntaxError" 102 (.type "SyntaxError"), ent P "SystemError" 103 (.type "SystemError"), ent P "TypeError" 104 (.type "TypeError"), ent P "ValueError" 105 (.type "ValueError"), ent P "Warning" 106 (.type "Warning"), ent P "FloatingPointError" 107 (.type "FloatingPointError"), ent P "OverflowError" 108 (.type "OverflowError"), ent P "ZeroDivisionError" 109 (.type "ZeroDivisionError"), ent P "BytesWarning" 110 (.type "BytesWarning"), ent P "DeprecationWarning" 111 (.type "DeprecationWarning"), ent P "EncodingWarning" 112 (.type "EncodingWarning"), ent P "FutureWarning" 113 (.type "FutureWarning"), ent P "ImportWarning" 114 (.type "ImportWarning"), ent P "PendingDeprecationWarning" 115 (.type "PendingDeprecationWarning"), ent P "ResourceWarning" 116 (.type "ResourceWarning"), ent P "RuntimeWarning" 117 (.type "RuntimeWarning"), ent P "SyntaxWarning" 118 (.type "SyntaxWarning"), ent P "UnicodeWarning" 119 (.type "UnicodeWarning"), ent P "UserWarning" 120 (.type "UserWarning"), ent P "BlockingIOError" 121 (.type "BlockingIOError"), ent P "ChildProcessError" 122 (.type "ChildProcessError"), ent P "ConnectionError" 123 (.type "ConnectionError"), ent P "FileExistsError" 124 (.type "FileExistsError"), ent P "FileNotFoundError" 125 (.type "FileNotFoundError"), ent P "InterruptedError" 126 (.type "InterruptedError"), ent P "IsADirectoryError" 127 (.type "IsADirectoryError"), ent P "NotADirectoryError" 128 (.type "NotADirectoryError"), ent P "PermissionError" 129 (.type "PermissionError"), ent P "ProcessLookupError" 130 (.type "ProcessLookupError"), ent P "TimeoutError" 131 (.type "TimeoutError"), ent P "IndentationError" 132 (.type "IndentationError"), ent P "_IncompleteInputError" 133 (.type "_IncompleteInputError"), ent P "IndexError" 134 (.type "IndexError"), ent P "KeyError" 135 (.type "KeyError"), ent P "ModuleNotFoundError" 136 (.type "ModuleNotFoundError"), ent P "NotImplementedError" 137 (.type "NotImplementedError"), ent P "PythonFinalizationError" 138 (.type "PythonFinalizationError"), ent P "RecursionError" 139 (.type "RecursionError"), ent P "UnboundLocalError" 140 (.type "UnboundLocalError"), ent P "UnicodeError" 141 (.type "UnicodeError"), ent P "BrokenPipeError" 142 (.type "BrokenPipeError"), ent P "ConnectionAbortedError" 143 (.type "ConnectionAbortedError"), ent P "ConnectionRefusedError" 144 (.type "ConnectionRefusedError"), ent P "ConnectionResetError" 145 (.type "ConnectionResetError"), ent P "TabError" 146 (.type "TabError"), ent P "UnicodeDecodeError" 147 (.type "UnicodeDecodeError"), ent P "UnicodeEncodeError" 148 (.type "UnicodeEncodeError"), ent P "UnicodeTranslateError" 149 (.type "UnicodeTranslateError"), ent P "ExceptionGroup" 150 (.type "ExceptionGroup"), ent P "EnvironmentError" 151 (.type "OSError"), ent P "IOError" 152 (.type "OSError"), ent P "open" 153 (.builtin "open"), ent P "quit" 154 (.builtin "builtins.quit#opaque"), ent P "exit" 155 (.builtin "builtins.exit#opaque"), ent P "copyright" 156 (.builtin "builtins.copyright#opaque"), ent P "credits" 157 (.builtin "builtins.credits#opaque"), ent P "license" 158 (.builtin "builtins.license#opaque"), ent P "help" 159 (.builtin "builtins.help#opaque")] 159, #[]⟩
noncomputable def o1 (P : Params) : Obj := ⟨.type "dict", none, .dict #[ent P "builtins" 162 (.ref 4), ent P "__main__" 163 (.ref 5), ent P "_sre" 244 (.ref 12), ent P "_collections" 292 (.ref 30)] 4, #[]⟩
noncomputable def o2 (P : Params) : Obj := ⟨.none, none, .dict #[ent P "\x69mport.loaded._sre" 183 (.bool true), ent P "class._frozen_importlib.BuiltinImporter" 185 (.ref 14), ent P "watched.\x69mport" 206 (.ref 18), ent P "class._frozen_importlib.ModuleSpec" 216 (.ref 22), ent P "sys.modules.booked-epoch" 245 (.int 4 0), ent P "\x69mport.later-laid._sre" 270 (.bool true), ent P "watched.library" 272 (.ref 27), ent P "watched.library-objects" 0 (.str "\x0c\x1e" 0), ent P "watched.library-deep._sre" 273 (.str ⟨#[4, 0, 0, 11, 4, 0, 0, 11, 4, 0, 0, 3, 4, 0, 0, 11, 8, 4, 100, 105, 99, 116, 2]⟩ 0), ent P "\x69mport.loaded._collections" 280 (.bool true), ent P "sys.modules.landed._collections" 294 (.bool true), ent P "\x69mport.later-laid._collections" 309 (.bool true), ent P "watched.library-deep._collections" 311 (.str ⟨#[4, 0, 0, 29, 4, 0, 0, 29, 4, 0, 0, 3, 4, 0, 0, 29, 8, 4, 100, 105, 99, 116, 2]⟩ 0)] 13, #[]⟩
noncomputable def o3 (P : Params) : Obj := ⟨.type "dict", none, .dict #[ent P "__name__" 165 (.str "__main__" 164), ent P "__doc__" 166 (.none), ent P "__package__" 167 (.none), ent P "__loader__" 168 (.builtin "__main__.__loader__#opaque"), ent P "__spec__" 169 (.none), ent P "__annotations__" 170 (.ref 6), ent P "__builtins__" 171 (.ref 4), ent P "__file__" 173 (.str "/claim/cut.py" 172), ent P "__cached__" 174 (.none), ent P "_sre" 275 (.ref 12), ent P "deque" 317 (.type "collections.deque")] 11, #[]⟩
noncomputable def o4 (P : Params) : Obj := ⟨.type "module", (some (0)), .plain, #[]⟩
noncomputable def o5 (P : Params) : Obj := ⟨.type "module", (some (3)), .plain, #[]⟩
noncomputable def o6 (P : Params) : Obj := ⟨.type "dict", none, .dict #[] 0, #[]⟩
noncomputable def o7 (P : Params) : Obj := ⟨.type "tuple", none, .seq #[] 0, #[]⟩
noncomputable def o8 (P : Params) : Obj := ⟨.none, none, .fields #[], #[]⟩
noncomputable def o9 (P : Params) : Obj := ⟨.type "code", none, .fields #[.str "<module>" 176, .str "<module>" 177, .str "/claim/cut.py" 178, .int 1 0, .int 0 0, .int 0 0, .int 0 0, .int 0 0, .ref 7, .bool false, .int 175 0, .ref 8, .none, .none, .none, .none, .int 179 0, .int 1 0, .str "/claim/cut.py" 180], #[]⟩
noncomputable def o10 (P : Params) : Obj := ⟨.type "frame", none, .plain, #[(some (.ref 9)), (some (.ref 3)), (some (.ref 3)), none, (some (.str "__main__" 164)), none, (some (.ref 0))]⟩
noncomputable def o11 (P : Params) : Obj := ⟨.type "dict", none, .dict #[ent P "__name__" 247 (.str "_sre" 246), ent P "__doc__" 248 (.none), ent P "__package__" 250 (.str "" 249), ent P "__loader__" 251 (.builtin "off-the-table:_sre.__loader__:shared#opaque"), ent P "__spec__" 252 (.builtin "off-the-table:_sre.__spec__:shared#opaque"), ent P "compile" 253 (.builtin "_sre.compile"), ent P "template" 254 (.builtin "off-the-table:_sre.template:shared#opaque"), ent P "getcodesize" 255 (.builtin "off-the-table:_sre.getcodesize:shared#opaque"), ent P "ascii_iscased" 256 (.builtin "off-the-table:_sre.ascii_iscased:shared#opaque"), ent P "unicode_iscased" 257 (.builtin "off-the-table:_sre.unicode_iscased:shared#opaque"), ent P "ascii_tolower" 258 (.builtin "off-the-table:_sre.ascii_tolower:shared#opaque"), ent P "unicode_tolower" 259 (.builtin "off-the-table:_sre.unicode_tolower:shared#opaque"), ent P "MAGIC" 261 (.int 20230612 260), ent P "CODESIZE" 263 (.int 4 262), ent P "MAXREPEAT" 265 (.int 4294967295 264), ent P "MAXGROUPS" 267 (.int 1073741823 266), ent P "copyright" 269 (.str " SRE 2.2.2 Copyright (c) 1997-2002 by Secret Labs AB " 268)] 17, #[]⟩
noncomputable def o12 (P : Params) : Obj := ⟨.type "module", (some (11)), .plain, #[]⟩
noncomputable def o13 (P : Params) : Obj := ⟨.type "dict", none, .dict #[ent P "__module__" 189 (.str "_frozen_importlib" 186), ent P "__firstlineno__" 190 (.int 971 187), ent P "__doc__" 191 (.builtin "_frozen_importlib.BuiltinImporter.__doc__:str#opaque"), ent P "_ORIGIN" 192 (.str "built-in" 188), ent P "find_spec" 193 (.builtin "_frozen_importlib.BuiltinImporter.find_spec#opaque"), ent P "create_module" 194 (.builtin "_frozen_importlib.BuiltinImporter.create_module#opaque"), ent P "exec_module" 195 (.builtin "_frozen_importlib.BuiltinImporter.exec_module#opaque"), ent P "get_code" 196 (.builtin "_frozen_importlib.BuiltinImporter.get_code#opaque"), ent P "get_source" 197 (.builtin "_frozen_importlib.BuiltinImporter.get_source#opaque"), ent P "is_package" 198 (.builtin "_frozen_importlib.BuiltinImporter.is_package#opaque"), ent P "load_module" 199 (.builtin "_frozen_importlib.BuiltinImporter.load_module#opaque"), ent P "__static_attributes__" 200 (.ref 15), ent P "__dict__" 202 (.ref 16), ent P "__weakref__" 204 (.ref 17)] 14, #[]⟩
noncomputable def o14 (P : Params) : Obj := ⟨.type "type", none, .cls { name := "BuiltinImporter", bases := [.type "object"], mro := [.ref 14, .type "object"], ns := 13, qualname := "BuiltinImporter", hasDict := true, slotNames := [], subclasses := [], abstract := false, collection := none, hasDel := false }, #[]⟩
noncomputable def o15 (P : Params) : Obj := ⟨.type "tuple", none, .seq #[] 0, #[]⟩
noncomputable def o16 (P : Params) : Obj := ⟨.type "getset_descriptor", none, .fields #[.str "__dict__" 201, .ref 14, .builtin "function.__dict__", .builtin "function.__dict__#set"], #[]⟩
noncomputable def o17 (P : Params) : Obj := ⟨.type "getset_descriptor", none, .fields #[.str "__weakref__" 203, .ref 14, .builtin "ExceptionGroup.__weakref__", .none], #[]⟩
noncomputable def o18 (P : Params) : Obj := ⟨.none, none, .seq #[.int 13 0, .str ⟨#[6, 189, 10, 95, 95, 109, 111, 100, 117, 108, 101, 95, 95, 6, 186, 17, 95, 102, 114, 111, 122, 101, 110, 95, 105, 109, 112, 111, 114, 116, 108, 105, 98, 6, 190, 15, 95, 95, 102, 105, 114, 115, 116, 108, 105, 110, 101, 110, 111, 95, 95, 4, 187, 0, 971, 6, 191, 7, 95, 95, 100, 111, 99, 95, 95, 9, 52, 95, 102, 114, 111, 122, 101, 110, 95, 105, 109, 112, 111, 114, 116, 108, 105, 98, 46, 66, 117, 105, 108, 116, 105, 110, 73, 109, 112, 111, 114, 116, 101, 114, 46, 95, 95, 100, 111, 99, 95, 95, 58, 115, 116, 114, 35, 111, 112, 97, 113, 117, 101, 6, 192, 7, 95, 79, 82, 73, 71, 73, 78, 6, 188, 8, 98, 117, 105, 108, 116, 45, 105, 110, 6, 193, 9, 102, 105, 110, 100, 95, 115, 112, 101, 99, 9, 50, 95, 102, 114, 111, 122, 101, 110, 95, 105, 109, 112, 111, 114, 116, 108, 105, 98, 46, 66, 117, 105, 108, 116, 105, 110, 73, 109, 112, 111, 114, 116, 101, 114, 46, 102, 105, 110, 100, 95, 115, 112, 101, 99, 35, 111, 112, 97, 113, 117, 101, 6, 194, 13, 99, 114, 101, 97, 116, 101, 95, 109, 111, 100, 117, 108, 101, 9, 54, 95, 102, 114, 111, 122, 101, 110, 95, 105, 109, 112, 111, 114, 116, 108, 105, 98, 46, 66, 117, 105, 108, 116, 105, 110, 73, 109, 112, 111, 114, 116, 101, 114, 46, 99, 114, 101, 97, 116, 101, 95, 109, 111, 100, 117, 108, 101, 35, 111, 112, 97, 113, 117, 101, 6, 195, 11, 101, 120, 101, 99, 95, 109, 111, 100, 117, 108, 101, 9, 52, 95, 102, 114, 111, 122, 101, 110, 95, 105, 109, 112, 111, 114, 116, 108, 105, 98, 46, 66, 117, 105, 108, 116, 105, 110, 73, 109, 112, 111, 114, 116, 101, 114, 46, 101, 120, 101, 99, 95, 109, 111, 100, 117, 108, 101, 35, 111, 112, 97, 113, 117, 101, 6, 196, 8, 103, 101, 116, 95, 99, 111, 100, 101, 9, 49, 95, 102, 114, 111, 122, 101, 110, 95, 105, 109, 112, 111, 114, 116, 108, 105, 98, 46, 66, 117, 105, 108, 116, 105, 110, 73, 109, 112, 111, 114, 116, 101, 114, 46, 103, 101, 116, 95, 99, 111, 100, 101, 35, 111, 112, 97, 113, 117, 101, 6, 197, 10, 103, 101, 116, 95, 115, 111, 117, 114, 99, 101, 9, 51, 95, 102, 114, 111, 122, 101, 110, 95, 105, 109, 112, 111, 114, 116, 108, 105, 98, 46, 66, 117, 105, 108, 116, 105, 110, 73, 109, 112, 111, 114, 116, 101, 114, 46, 103, 101, 116, 95, 115, 111, 117, 114, 99, 101, 35, 111, 112, 97, 113, 117, 101, 6, 198, 10, 105, 115, 95, 112, 97, 99, 107, 97, 103, 101, 9, 51, 95, 102, 114, 111, 122, 101, 110, 95, 105, 109, 112, 111, 114, 116, 108, 105, 98, 46, 66, 117, 105, 108, 116, 105, 110, 73, 109, 112, 111, 114, 116, 101, 114, 46, 105, 115, 95, 112, 97, 99, 107, 97, 103, 101, 35, 111, 112, 97, 113, 117, 101, 6, 199, 11, 108, 111, 97, 100, 95, 109, 111, 100, 117, 108, 101, 9, 52, 95, 102, 114, 111, 122, 101, 110, 95, 105, 109, 112, 111, 114, 116, 108, 105, 98, 46, 66, 117, 105, 108, 116, 105, 110, 73, 109, 112, 111, 114, 116, 101, 114, 46, 108, 111, 97, 100, 95, 109, 111, 100, 117, 108, 101, 35, 111, 112, 97, 113, 117, 101, 6, 200, 21, 95, 95, 115, 116, 97, 116, 105, 99, 95, 97, 116, 116, 114, 105, 98, 117, 116, 101, 115, 95, 95, 4, 0, 0, 15, 6, 202, 8, 95, 95, 100, 105, 99, 116, 95, 95, 4, 0, 0, 16, 6, 204, 11, 95, 95, 119, 101, 97, 107, 114, 101, 102, 95, 95, 4, 0, 0, 17]⟩ 0, .bool true, .bool true, .str "" 205, .int 21 0, .str ⟨#[6, 227, 10, 95, 95, 109, 111, 100, 117, 108, 101, 95, 95, 6, 217, 17, 95, 102, 114, 111, 122, 101, 110, 95, 105, 109, 112, 111, 114, 116, 108, 105, 98, 6, 228, 15, 95, 95, 102, 105, 114, 115, 116, 108, 105, 110, 101, 110, 111, 95, 95, 4, 218, 0, 562, 6, 229, 7, 95, 95, 100, 111, 99, 95, 95, 9, 47, 95, 102, 114, 111, 122, 101, 110, 95, 105, 109, 112, 111, 114, 116, 108, 105, 98, 46, 77, 111, 100, 117, 108, 101, 83, 112, 101, 99, 46, 95, 95, 100, 111, 99, 95, 95, 58, 115, 116, 114, 35, 111, 112, 97, 113, 117, 101, 6, 230, 8, 95, 95, 105, 110, 105, 116, 95, 95, 9, 44, 95, 102, 114, 111, 122, 101, 110, 95, 105, 109, 112, 111, 114, 116, 108, 105, 98, 46, 77, 111, 100, 117, 108, 101, 83, 112, 101, 99, 46, 95, 95, 105, 110, 105, 116, 95, 95, 35, 111, 112, 97, 113, 117, 101, 6, 231, 8, 95, 95, 114, 101, 112, 114, 95, 95, 9, 44, 95, 102, 114, 111, 122, 101, 110, 95, 105, 109, 112, 111, 114, 116, 108, 105, 98, 46, 77, 111, 100, 117, 108, 101, 83, 112, 101, 99, 46, 95, 95, 114, 101, 112, 114, 95, 95, 35, 111, 112, 97, 113, 117, 101, 6, 232, 6, 95, 95, 101, 113, 95, 95, 9, 42, 95, 102, 114, 111, 122, 101, 110, 95, 105, 109, 112, 111, 114, 116, 108, 105, 98, 46, 77, 111, 100, 117, 108, 101, 83, 112, 101, 99, 46, 95, 95, 101, 113, 95, 95, 35, 111, 112, 97, 113, 117, 101, 6, 233, 6, 99, 97, 99, 104, 101, 100, 9, 42, 95, 102, 114, 111, 122, 101, 110, 95, 105, 109, 112, 111, 114, 116, 108, 105, 98, 46, 77, 111, 100, 117, 108, 101, 83, 112, 101, 99, 46, 99, 97, 99, 104, 101, 100, 35, 111, 112, 97, 113, 117, 101, 6, 234, 6, 112, 97, 114, 101, 110, 116, 9, 42, 95, 102, 114, 111, 122, 101, 110, 95, 105, 109, 112, 111, 114, 116, 108, 105, 98, 46, 77, 111, 100, 117, 108, 101, 83, 112, 101, 99, 46, 112, 97, 114, 101, 110, 116, 35, 111, 112, 97, 113, 117, 101, 6, 235, 12, 104, 97, 115, 95, 108, 111, 99, 97, 116, 105, 111, 110, 9, 48, 95, 102, 114, 111, 122, 101, 110, 95, 105, 109, 112, 111, 114, 116, 108, 105, 98, 46, 77, 111, 100, 117, 108, 101, 83, 112, 101, 99, 46, 104, 97, 115, 95, 108, 111, 99, 97, 116, 105, 111, 110, 35, 111, 112, 97, 113, 117, 101, 6, 236, 21, 95, 95, 115, 116, 97, 116, 105, 99, 95, 97, 116, 116, 114, 105, 98, 117, 116, 101, 115, 95, 95, 4, 0, 0, 23, 6, 238, 8, 95, 95, 100, 105, 99, 116, 95, 95, 4, 0, 0, 24, 6, 240, 11, 95, 95, 119, 101, 97, 107, 114, 101, 102, 95, 95, 4, 0, 0, 25, 6, 241, 8, 95, 95, 104, 97, 115, 104, 95, 95, 0]⟩ 0, .bool true, .bool true, .str "" 242] 1, #[]⟩
noncomputable def o19 (P : Params) : Obj := ⟨.type "list", none, .seq #[] 0, #[]⟩
noncomputable def o20 (P : Params) : Obj := ⟨.type "dict", none, .dict #[ent P "name" 208 (.str "_sre" 207), ent P "loader" 209 (.ref 14), ent P "origin" 210 (.str "built-in" 184), ent P "loader_state" 211 (.none), ent P "submodule_search_locations" 212 (.none), ent P "_uninitialized_submodules" 213 (.ref 19), ent P "_set_fileattr" 214 (.bool false), ent P "_cached" 215 (.none), ent P "_initializing" 243 (.bool false)] 9, #[]⟩
noncomputable def o21 (P : Params) : Obj := ⟨.type "dict", none, .dict #[ent P "__module__" 227 (.str "_frozen_importlib" 217), ent P "__firstlineno__" 228 (.int 562 218), ent P "__doc__" 229 (.builtin "_frozen_importlib.ModuleSpec.__doc__:str#opaque"), ent P "__init__" 230 (.builtin "_frozen_importlib.ModuleSpec.__init__#opaque"), ent P "__repr__" 231 (.builtin "_frozen_importlib.ModuleSpec.__repr__#opaque"), ent P "__eq__" 232 (.builtin "_frozen_importlib.ModuleSpec.__eq__#opaque"), ent P "cached" 233 (.builtin "_frozen_importlib.ModuleSpec.cached#opaque"), ent P "parent" 234 (.builtin "_frozen_importlib.ModuleSpec.parent#opaque"), ent P "has_location" 235 (.builtin "_frozen_importlib.ModuleSpec.has_location#opaque"), ent P "__static_attributes__" 236 (.ref 23), ent P "__dict__" 238 (.ref 24), ent P "__weakref__" 240 (.ref 25), ent P "__hash__" 241 (.none)] 13, #[]⟩
noncomputable def o22 (P : Params) : Obj := ⟨.type "type", none, .cls { name := "ModuleSpec", bases := [.type "object"], mro := [.ref 22, .type "object"], ns := 21, qualname := "ModuleSpec", hasDict := true, slotNames := [], subclasses := [], abstract := false, collection := none, hasDel := false }, #[]⟩
noncomputable def o23 (P : Params) : Obj := ⟨.type "tuple", none, .seq #[.str "_cached" 219, .str "_set_fileattr" 220, .str "_uninitialized_submodules" 221, .str "loader" 222, .str "loader_state" 223, .str "name" 224, .str "origin" 225, .str "submodule_search_locations" 226] 0, #[]⟩
noncomputable def o24 (P : Params) : Obj := ⟨.type "getset_descriptor", none, .fields #[.str "__dict__" 237, .ref 22, .builtin "function.__dict__", .builtin "function.__dict__#set"], #[]⟩
noncomputable def o25 (P : Params) : Obj := ⟨.type "getset_descriptor", none, .fields #[.str "__weakref__" 239, .ref 22, .builtin "ExceptionGroup.__weakref__", .none], #[]⟩
noncomputable def o26 (P : Params) : Obj := ⟨.ref 22, (some (20)), .plain, #[]⟩
noncomputable def o27 (P : Params) : Obj := ⟨.none, none, .seq #[.int 11 0, .str ⟨#[6, 247, 8, 95, 95, 110, 97, 109, 101, 95, 95, 6, 246, 4, 95, 115, 114, 101, 6, 248, 7, 95, 95, 100, 111, 99, 95, 95, 0, 6, 250, 11, 95, 95, 112, 97, 99, 107, 97, 103, 101, 95, 95, 6, 249, 0, 6, 251, 10, 95, 95, 108, 111, 97, 100, 101, 114, 95, 95, 4, 0, 0, 14, 6, 252, 8, 95, 95, 115, 112, 101, 99, 95, 95, 4, 0, 0, 26, 6, 253, 7, 99, 111, 109, 112, 105, 108, 101, 9, 12, 95, 115, 114, 101, 46, 99, 111, 109, 112, 105, 108, 101, 6, 254, 8, 116, 101, 109, 112, 108, 97, 116, 101, 9, 13, 95, 115, 114, 101, 46, 116, 101, 109, 112, 108, 97, 116, 101, 6, 255, 11, 103, 101, 116, 99, 111, 100, 101, 115, 105, 122, 101, 9, 16, 95, 115, 114, 101, 46, 103, 101, 116, 99, 111, 100, 101, 115, 105, 122, 101, 6, 256, 13, 97, 115, 99, 105, 105, 95, 105, 115, 99, 97, 115, 101, 100, 9, 18, 95, 115, 114, 101, 46, 97, 115, 99, 105, 105, 95, 105, 115, 99, 97, 115, 101, 100, 6, 257, 15, 117, 110, 105, 99, 111, 100, 101, 95, 105, 115, 99, 97, 115, 101, 100, 9, 20, 95, 115, 114, 101, 46, 117, 110, 105, 99, 111, 100, 101, 95, 105, 115, 99, 97, 115, 101, 100, 6, 258, 13, 97, 115, 99, 105, 105, 95, 116, 111, 108, 111, 119, 101, 114, 9, 18, 95, 115, 114, 101, 46, 97, 115, 99, 105, 105, 95, 116, 111, 108, 111, 119, 101, 114, 6, 259, 15, 117, 110, 105, 99, 111, 100, 101, 95, 116, 111, 108, 111, 119, 101, 114, 9, 20, 95, 115, 114, 101, 46, 117, 110, 105, 99, 111, 100, 101, 95, 116, 111, 108, 111, 119, 101, 114, 6, 261, 5, 77, 65, 71, 73, 67, 4, 260, 0, 20230612, 6, 263, 8, 67, 79, 68, 69, 83, 73, 90, 69, 4, 262, 0, 4, 6, 265, 9, 77, 65, 88, 82, 69, 80, 69, 65, 84, 4, 264, 0, 4294967295, 6, 267, 9, 77, 65, 88, 71, 82, 79, 85, 80, 83, 4, 266, 0, 1073741823, 6, 269, 9, 99, 111, 112, 121, 114, 105, 103, 104, 116, 6, 268, 53, 32, 83, 82, 69, 32, 50, 46, 50, 46, 50, 32, 67, 111, 112, 121, 114, 105, 103, 104, 116, 32, 40, 99, 41, 32, 49, 57, 57, 55, 45, 50, 48, 48, 50, 32, 98, 121, 32, 83, 101, 99, 114, 101, 116, 32, 76, 97, 98, 115, 32, 65, 66, 32]⟩ 0, .bool true, .bool false, .str "_sre" 271, .int 29 0, .str ⟨#[6, 296, 8, 95, 95, 110, 97, 109, 101, 95, 95, 6, 295, 12, 95, 99, 111, 108, 108, 101, 99, 116, 105, 111, 110, 115, 6, 297, 7, 95, 95, 100, 111, 99, 95, 95, 9, 31, 95, 99, 111, 108, 108, 101, 99, 116, 105, 111, 110, 115, 46, 95, 95, 100, 111, 99, 95, 95, 58, 115, 116, 114, 35, 111, 112, 97, 113, 117, 101, 6, 299, 11, 95, 95, 112, 97, 99, 107, 97, 103, 101, 95, 95, 6, 298, 0, 6, 300, 10, 95, 95, 108, 111, 97, 100, 101, 114, 95, 95, 4, 0, 0, 14, 6, 301, 8, 95, 95, 115, 112, 101, 99, 95, 95, 4, 0, 0, 33, 6, 302, 15, 95, 99, 111, 117, 110, 116, 95, 101, 108, 101, 109, 101, 110, 116, 115, 9, 28, 95, 99, 111, 108, 108, 101, 99, 116, 105, 111, 110, 115, 46, 95, 99, 111, 117, 110, 116, 95, 101, 108, 101, 109, 101, 110, 116, 115, 6, 303, 5, 100, 101, 113, 117, 101, 8, 17, 99, 111, 108, 108, 101, 99, 116, 105, 111, 110, 115, 46, 100, 101, 113, 117, 101, 6, 304, 11, 100, 101, 102, 97, 117, 108, 116, 100, 105, 99, 116, 8, 23, 99, 111, 108, 108, 101, 99, 116, 105, 111, 110, 115, 46, 100, 101, 102, 97, 117, 108, 116, 100, 105, 99, 116, 6, 305, 15, 95, 100, 101, 113, 117, 101, 95, 105, 116, 101, 114, 97, 116, 111, 114, 8, 27, 99, 111, 108, 108, 101, 99, 116, 105, 111, 110, 115, 46, 95, 100, 101, 113, 117, 101, 95, 105, 116, 101, 114, 97, 116, 111, 114, 6, 306, 23, 95, 100, 101, 113, 117, 101, 95, 114, 101, 118, 101, 114, 115, 101, 95, 105, 116, 101, 114, 97, 116, 111, 114, 8, 35, 99, 111, 108, 108, 101, 99, 116, 105, 111, 110, 115, 46, 95, 100, 101, 113, 117, 101, 95, 114, 101, 118, 101, 114, 115, 101, 95, 105, 116, 101, 114, 97, 116, 111, 114, 6, 307, 12, 95, 116, 117, 112, 108, 101, 103, 101, 116, 116, 101, 114, 8, 24, 99, 111, 108, 108, 101, 99, 116, 105, 111, 110, 115, 46, 95, 116, 117, 112, 108, 101, 103, 101, 116, 116, 101, 114, 6, 308, 11, 79, 114, 100, 101, 114, 101, 100, 68, 105, 99, 116, 8, 23, 99, 111, 108, 108, 101, 99, 116, 105, 111, 110, 115, 46, 79, 114, 100, 101, 114, 101, 100, 68, 105, 99, 116]⟩ 0, .bool true, .bool false, .str "_collections" 310] 1, #[]⟩
noncomputable def o28 (P : Params) : Obj := ⟨.type "tuple", none, .seq #[.str "deque" 277] 0, #[]⟩
noncomputable def o29 (P : Params) : Obj := ⟨.type "dict", none, .dict #[ent P "__name__" 296 (.str "_collections" 295), ent P "__doc__" 297 (.builtin "off-the-table:_collections.__doc__:shared#opaque"), ent P "__package__" 299 (.str "" 298), ent P "__loader__" 300 (.builtin "off-the-table:_collections.__loader__:shared#opaque"), ent P "__spec__" 301 (.builtin "off-the-table:_collections.__spec__:shared#opaque"), ent P "_count_elements" 302 (.builtin "_collections._count_elements"), ent P "deque" 303 (.type "collections.deque"), ent P "defaultdict" 304 (.type "collections.defaultdict"), ent P "_deque_iterator" 305 (.builtin "off-the-table:_collections._deque_iterator:shared#opaque"), ent P "_deque_reverse_iterator" 306 (.builtin "off-the-table:_collections._deque_reverse_iterator:shared#opaque"), ent P "_tuplegetter" 307 (.type "collections._tuplegetter"), ent P "OrderedDict" 308 (.type "collections.OrderedDict")] 12, #[]⟩
noncomputable def o30 (P : Params) : Obj := ⟨.type "module", (some (29)), .plain, #[]⟩
noncomputable def o31 (P : Params) : Obj := ⟨.type "list", none, .seq #[] 0, #[]⟩
noncomputable def o32 (P : Params) : Obj := ⟨.type "dict", none, .dict #[ent P "name" 283 (.str "_collections" 282), ent P "loader" 284 (.ref 14), ent P "origin" 285 (.str "built-in" 281), ent P "loader_state" 286 (.none), ent P "submodule_search_locations" 287 (.none), ent P "_uninitialized_submodules" 288 (.ref 31), ent P "_set_fileattr" 289 (.bool false), ent P "_cached" 290 (.none), ent P "_initializing" 291 (.bool false)] 9, #[]⟩
noncomputable def o33 (P : Params) : Obj := ⟨.ref 22, (some (32)), .plain, #[]⟩
noncomputable def H0 (P : Params) : Heap := ⟨⟨[o0 P, o1 P, o2 P, o3 P, o4 P, o5 P, o6 P, o7 P, o8 P, o9 P, o10 P, o11 P, o12 P, o13 P, o14 P, o15 P, o16 P, o17 P, o18 P, o19 P, o20 P, o21 P, o22 P, o23 P, o24 P, o25 P, o26 P, o27 P, o28 P, o29 P, o30 P, o31 P, o32 P, o33 P]⟩, { registered := [], finalised := [], alive := [], known := 0, ids := [], orphanDicts := [], counting := false, cnt := #[], zero := [], soft := 0, below := false, collecting := false, loading := false, debug := 0, thresholds := [2000, 10, 10], woke := false, asked := 0, gcEnabled := true, old := [], middle := [], young := 0, intoMiddle := false }⟩
noncomputable def o34 (P : Params) : Obj := ⟨.type "tuple", none, .seq #[] 0, #[]⟩
noncomputable def o35 (P : Params) : Obj := ⟨.none, none, .fields #[], #[]⟩
noncomputable def o36 (P : Params) : Obj := ⟨.type "code", none, .fields #[.str "<module>" 319, .str "<module>" 320, .str "/claim/cut.py" 321, .int 1 0, .int 0 0, .int 0 0, .int 0 0, .int 0 0, .ref 34, .bool false, .int 318 0, .ref 35, .none, .none, .none, .none, .int 322 0, .int 1 0, .str "/claim/cut.py" 323], #[]⟩
noncomputable def o37 (P : Params) : Obj := ⟨.type "frame", none, .plain, #[(some (.ref 36)), (some (.ref 3)), (some (.ref 3)), none, (some (.str "__main__" 164)), none, (some (.ref 0))]⟩
noncomputable def Ha (P : Params) : Heap := ⟨⟨[o0 P, o1 P, o2 P, o3 P, o4 P, o5 P, o6 P, o7 P, o8 P, o9 P, o10 P, o11 P, o12 P, o13 P, o14 P, o15 P, o16 P, o17 P, o18 P, o19 P, o20 P, o21 P, o22 P, o23 P, o24 P, o25 P, o26 P, o27 P, o28 P, o29 P, o30 P, o31 P, o32 P, o33 P, o34 P, o35 P, o36 P, o37 P]⟩, { registered := [], finalised := [], alive := [], known := 0, ids := [], orphanDicts := [], counting := false, cnt := #[], zero := [], soft := 0, below := false, collecting := false, loading := false, debug := 0, thresholds := [2000, 10, 10], woke := false, asked := 0, gcEnabled := true, old := [], middle := [], young := 0, intoMiddle := false }⟩
noncomputable def T0 (P : Params) : BT := btOf [o0 P, o1 P, o2 P, o3 P, o4 P, o5 P, o6 P, o7 P, o8 P, o9 P, o10 P, o11 P, o12 P, o13 P, o14 P, o15 P, o16 P, o17 P, o18 P, o19 P, o20 P, o21 P, o22 P, o23 P, o24 P, o25 P, o26 P, o27 P, o28 P, o29 P, o30 P, o31 P, o32 P, o33 P, o34 P, o35 P, o36 P, o37 P]
noncomputable def life0 : Life := { registered := [], finalised := [], alive := [], known := 0, ids := [], orphanDicts := [], counting := false, cnt := #[], zero := [], soft := 0, below := false, collecting := false, loading := false, debug := 0, thresholds := [2000, 10, 10], woke := false, asked := 0, gcEnabled := true, old := [], middle := [], young := 0, intoMiddle := false }
noncomputable def env0 : Env := 
  { scope := pw.main.scope, locals := mainNs, globals := mainNs, cells := [], code := .ref 36, frame := some 37 }
noncomputable def body0 : List Stmt := behindTheImports pw
noncomputable def code0 : Code := .body body0 env0
noncomputable def ann0 : Option Value := some (.ref 6)
noncomputable def B0 : List Frame := [topFrame ⟨0, 0, 0, 0⟩]
theorem opening_runs (w : World) : (fencedOpening treeTable pw w 100000).map (fun s => (s.heap, s.gens, s.drawn, s.toks)) = some (H0 w.params, #[], ⟨0, 0, 0, 0⟩, 318) := by kernel_rfl
theorem pre_runs (w : World) (os : OsState) : topGo treeTable pw w 34 ann0 12 ⟨H0 w.params, #[], ⟨0, 0, 0, 0⟩, 318, os⟩ (topStub pw) = some (⟨Ha w.params, #[], ⟨0, 0, 0, 0⟩, 324, os⟩, ⟨denote treeTable code0, code0, ⟨0, 0, 0, 0⟩, B0⟩) := by kernel_rfl
theorem block_runs (w : World) (os : OsState) : segRun treeTable pw w 34 ann0 1 1 ⟨Ha w.params, #[], ⟨0, 0, 0, 0⟩, 324, os⟩ (blockOf body0 env0 code0 ⟨0, 0, 0, 0⟩ B0) = some (.next, SharedT.abs ⟨T0 w.params, 38, life0, #[], ⟨0, 0, 0, 0⟩, 324, os⟩, code0, ⟨0, 0, 0, 0⟩) := by kernel_rfl
noncomputable def o38 (P : Params) : Obj := ⟨.none, none, .dict #[ent P "\x69mport.loaded._sre" 183 (.bool true), ent P "class._frozen_importlib.BuiltinImporter" 185 (.ref 14), ent P "watched.\x69mport" 206 (.ref 18), ent P "class._frozen_importlib.ModuleSpec" 216 (.ref 22), ent P "sys.modules.booked-epoch" 245 (.int 4 0), ent P "\x69mport.later-laid._sre" 270 (.bool true), ent P "watched.library" 272 (.ref 27), ent P "watched.library-objects" 0 (.str "\x0c\x1e" 0), ent P "watched.library-deep._sre" 273 (.str ⟨#[4, 0, 0, 11, 4, 0, 0, 11, 4, 0, 0, 3, 4, 0, 0, 11, 8, 4, 100, 105, 99, 116, 2]⟩ 0), ent P "\x69mport.loaded._collections" 280 (.bool true), ent P "sys.modules.landed._collections" 294 (.bool true), ent P "\x69mport.later-laid._collections" 309 (.bool true), ent P "watched.library-deep._collections" 311 (.str ⟨#[4, 0, 0, 29, 4, 0, 0, 29, 4, 0, 0, 3, 4, 0, 0, 29, 8, 4, 100, 105, 99, 116, 2]⟩ 0), ent P "type.__subclasses__.OSError.0" 435 (.int 98 0), ent P "type.__subclasses__.OSError.n" 436 (.int 1 0)] 15, #[]⟩
noncomputable def o39 (P : Params) : Obj := ⟨.type "dict", none, .dict #[ent P "__name__" 165 (.str "io" 399), ent P "__doc__" 166 (.none), ent P "__package__" 167 (.none), ent P "__loader__" 168 (.builtin "__main__.__loader__#opaque"), ent P "__spec__" 169 (.none), ent P "__annotations__" 170 (.ref 6), ent P "__builtins__" 171 (.ref 4), ent P "__file__" 173 (.str "/claim/cut.py" 172), ent P "__cached__" 174 (.none), ent P "_sre" 275 (.ref 12), ent P "deque" 317 (.type "collections.deque"), ent P "_wall" 330 (.ref 44), ent P "dict_replace_saxutils" 342 (.ref 51), ent P "escape" 350 (.ref 60), ent P "unescape" 358 (.ref 69), ent P "_twin_re_1" 398 (.ref 74), ent P "_whence" 408 (.ref 81), ent P "_index" 416 (.ref 88), ent P "UnsupportedOperation" 438 (.ref 98), ent P "IOBase" 470 (.ref 118), ent P "BufferedIOBase" 488 (.ref 133)] 21, #[]⟩
noncomputable def o40 (P : Params) : Obj := ⟨.none, none, .fields #[.int 3 0, .int 0 0, .ref 43, .int 7 0, .int 0 0, .ref 50, .int 11 0, .int 0 0, .ref 59, .int 18 0, .int 0 0, .ref 68, .int 26 0, .int 0 0, .ref 80, .int 31 0, .int 0 0, .ref 87, .int 38 0, .int 0 0, .ref 94, .int 40 0, .int 0 0, .ref 107, .int 47 0, .int 0 0, .ref 129], #[]⟩
noncomputable def o41 (P : Params) : Obj := ⟨.type "tuple", none, .seq #[] 0, #[]⟩
noncomputable def o42 (P : Params) : Obj := ⟨.none, none, .fields #[], #[]⟩
noncomputable def o43 (P : Params) : Obj := ⟨.type "tuple", none, .seq #[.str "k" 327] 0, #[]⟩
noncomputable def o44 (P : Params) : Obj := ⟨.type "tuple", none, .seq #[] 0, #[]⟩
noncomputable def o45 (P : Params) : Obj := ⟨.none, none, .func (fnAt [2] "_wall" "_wall" 0 [] (.none) (.none) (.none) (.none) none (.none) (.none) 0), #[]⟩
noncomputable def o46 (P : Params) : Obj := ⟨.type "code", none, .fields #[.str "_wall" 324, .str "_wall" 325, .str "/claim/cut.py" 326, .int 3 0, .int 1 0, .int 0 0, .int 0 0, .int 3 0, .ref 38, .bool true, .int 318 0, .ref 39, .none, .ref 40, .ref 41, .ref 42, .int 328 0, .int 3 0, .str "/claim/cut.py" 329], #[]⟩
noncomputable def o47 (P : Params) : Obj := ⟨.type "function", none, .func (fnAt [2] "_wall" "_wall" 3 [] (.none) (.none) (.none) (.str "__main__" 164) none (.ref 43) (.none) 0), #[]⟩
noncomputable def o48 (P : Params) : Obj := ⟨.type "tuple", none, .seq #[] 0, #[]⟩
noncomputable def o49 (P : Params) : Obj := ⟨.none, none, .fields #[], #[]⟩
noncomputable def o50 (P : Params) : Obj := ⟨.type "tuple", none, .seq #[.str "s" 336, .str "d" 337, .str "key" 338, .str "value" 339] 0, #[]⟩
noncomputable def o51 (P : Params) : Obj := ⟨.type "tuple", none, .seq #[] 0, #[]⟩
noncomputable def o52 (P : Params) : Obj := ⟨.none, none, .func (fnAt [4] "dict_replace_saxutils" "dict_replace_saxutils" 0 [] (.none) (.none) (.none) (.none) none (.none) (.none) 0), #[]⟩
noncomputable def o53 (P : Params) : Obj := ⟨.type "code", none, .fields #[.str "dict_replace_saxutils" 333, .str "dict_replace_saxutils" 334, .str "/claim/cut.py" 335, .int 7 0, .int 2 0, .int 0 0, .int 0 0, .int 3 0, .ref 45, .bool true, .int 318 0, .ref 46, .none, .ref 47, .ref 48, .ref 49, .int 340 0, .int 7 0, .str "/claim/cut.py" 341], #[]⟩
noncomputable def o54 (P : Params) : Obj := ⟨.type "function", none, .func (fnAt [4] "dict_replace_saxutils" "dict_replace_saxutils" 3 [] (.none) (.none) (.none) (.str "cpy313.xml.sax.saxutils" 331) none (.ref 50) (.none) 0), #[]⟩
noncomputable def o55 (P : Params) : Obj := ⟨.type "dict", none, .dict #[] 0, #[]⟩
noncomputable def o56 (P : Params) : Obj := ⟨.type "tuple", none, .seq #[.ref 52] 0, #[]⟩
noncomputable def o57 (P : Params) : Obj := ⟨.type "tuple", none, .seq #[] 0, #[]⟩
noncomputable def o58 (P : Params) : Obj := ⟨.none, none, .fields #[], #[]⟩
noncomputable def o59 (P : Params) : Obj := ⟨.type "tuple", none, .seq #[.str "data" 346, .str "entities" 347] 0, #[]⟩
noncomputable def o60 (P : Params) : Obj := ⟨.type "tuple", none, .seq #[] 0, #[]⟩
noncomputable def o61 (P : Params) : Obj := ⟨.none, none, .func (fnAt [5] "escape" "escape" 0 [] (.none) (.none) (.none) (.none) none (.none) (.none) 0), #[]⟩
noncomputable def o62 (P : Params) : Obj := ⟨.type "code", none, .fields #[.str "escape" 343, .str "escape" 344, .str "/claim/cut.py" 345, .int 11 0, .int 2 0, .int 0 0, .int 0 0, .int 3 0, .ref 54, .bool true, .int 318 0, .ref 55, .none, .ref 56, .ref 57, .ref 58, .int 348 0, .int 11 0, .str "/claim/cut.py" 349], #[]⟩
noncomputable def o63 (P : Params) : Obj := ⟨.type "function", none, .func (fnAt [5] "escape" "escape" 3 [] (.ref 53) (.none) (.none) (.str "cpy313.xml.sax.saxutils" 331) none (.ref 59) (.none) 0), #[]⟩
noncomputable def o64 (P : Params) : Obj := ⟨.type "dict", none, .dict #[] 0, #[]⟩
noncomputable def o65 (P : Params) : Obj := ⟨.type "tuple", none, .seq #[.ref 61] 0, #[]⟩
noncomputable def o66 (P : Params) : Obj := ⟨.type "tuple", none, .seq #[] 0, #[]⟩
noncomputable def o67 (P : Params) : Obj := ⟨.none, none, .fields #[], #[]⟩
noncomputable def o68 (P : Params) : Obj := ⟨.type "tuple", none, .seq #[.str "data" 354, .str "entities" 355] 0, #[]⟩
noncomputable def o69 (P : Params) : Obj := ⟨.type "tuple", none, .seq #[] 0, #[]⟩
noncomputable def o70 (P : Params) : Obj := ⟨.none, none, .func (fnAt [6] "unescape" "unescape" 0 [] (.none) (.none) (.none) (.none) none (.none) (.none) 0), #[]⟩
noncomputable def o71 (P : Params) : Obj := ⟨.type "code", none, .fields #[.str "unescape" 351, .str "unescape" 352, .str "/claim/cut.py" 353, .int 18 0, .int 2 0, .int 0 0, .int 0 0, .int 3 0, .ref 63, .bool true, .int 318 0, .ref 64, .none, .ref 65, .ref 66, .ref 67, .int 356 0, .int 18 0, .str "/claim/cut.py" 357], #[]⟩
noncomputable def o72 (P : Params) : Obj := ⟨.type "function", none, .func (fnAt [6] "unescape" "unescape" 3 [] (.ref 62) (.none) (.none) (.str "cpy313.xml.sax.saxutils" 331) none (.ref 68) (.none) 0), #[]⟩
noncomputable def o73 (P : Params) : Obj := ⟨.type "list", none, .seq #[.int 14 362, .int 17 363, .int 4 364, .int 1 365, .int 1 366, .int 21 367, .int 9 368, .int 0 369, .int 604043296 370, .int 1 371, .int 0 372, .int 0 373, .int 0 374, .int 0 375, .int 0 376, .int 8 377, .int 4 378, .int 0 379, .int 13 380, .int 14 381, .int 21 382, .int 9 383, .int 0 384, .int 604043296 385, .int 1 386, .int 0 387, .int 0 388, .int 0 389, .int 0 390, .int 0 391, .int 8 392, .int 4 393, .int 0 394, .int 1 395] 0, #[]⟩
noncomputable def o74 (P : Params) : Obj := ⟨.type "dict", none, .dict #[] 0, #[]⟩
noncomputable def o75 (P : Params) : Obj := ⟨.type "tuple", none, .seq #[.none] 0, #[]⟩
noncomputable def o76 (P : Params) : Obj := ⟨.type "tuple", none, .seq #[.int 14 0, .int 17 0, .int 4 0, .int 1 0, .int 1 0, .int 21 0, .int 9 0, .int 0 0, .int 604043296 0, .int 1 0, .int 0 0, .int 0 0, .int 0 0, .int 0 0, .int 0 0, .int 8 0, .int 4 0, .int 0 0, .int 13 0, .int 14 0, .int 21 0, .int 9 0, .int 0 0, .int 604043296 0, .int 1 0, .int 0 0, .int 0 0, .int 0 0, .int 0 0, .int 0 0, .int 8 0, .int 4 0, .int 0 0, .int 1 0] 0, #[]⟩
noncomputable def o77 (P : Params) : Obj := ⟨.type "re.Pattern", none, .fields #[.str "[^\\w@%+=:,./-]" 360, .int 256 397, .int 0 0, .none, .none, .ref 73, .int 0 0], #[]⟩
noncomputable def o78 (P : Params) : Obj := ⟨.type "tuple", none, .seq #[] 0, #[]⟩
noncomputable def o79 (P : Params) : Obj := ⟨.none, none, .fields #[], #[]⟩
noncomputable def o80 (P : Params) : Obj := ⟨.type "tuple", none, .seq #[.str "n" 404, .str "what" 405] 0, #[]⟩
noncomputable def o81 (P : Params) : Obj := ⟨.type "tuple", none, .seq #[] 0, #[]⟩
noncomputable def o82 (P : Params) : Obj := ⟨.none, none, .func (fnAt [9] "_whence" "_whence" 0 [] (.none) (.none) (.none) (.none) none (.none) (.none) 0), #[]⟩
noncomputable def o83 (P : Params) : Obj := ⟨.type "code", none, .fields #[.str "_whence" 401, .str "_whence" 402, .str "/claim/cut.py" 403, .int 26 0, .int 2 0, .int 0 0, .int 0 0, .int 3 0, .ref 75, .bool true, .int 318 0, .ref 76, .none, .ref 77, .ref 78, .ref 79, .int 406 0, .int 26 0, .str "/claim/cut.py" 407], #[]⟩
noncomputable def o84 (P : Params) : Obj := ⟨.type "function", none, .func (fnAt [9] "_whence" "_whence" 3 [] (.none) (.none) (.none) (.str "io" 399) none (.ref 80) (.none) 0), #[]⟩
noncomputable def o85 (P : Params) : Obj := ⟨.type "tuple", none, .seq #[] 0, #[]⟩
noncomputable def o86 (P : Params) : Obj := ⟨.none, none, .fields #[], #[]⟩
noncomputable def o87 (P : Params) : Obj := ⟨.type "tuple", none, .seq #[.str "n" 412, .str "what" 413] 0, #[]⟩
noncomputable def o88 (P : Params) : Obj := ⟨.type "tuple", none, .seq #[] 0, #[]⟩
noncomputable def o89 (P : Params) : Obj := ⟨.none, none, .func (fnAt [10] "_index" "_index" 0 [] (.none) (.none) (.none) (.none) none (.none) (.none) 0), #[]⟩
noncomputable def o90 (P : Params) : Obj := ⟨.type "code", none, .fields #[.str "_index" 409, .str "_index" 410, .str "/claim/cut.py" 411, .int 31 0, .int 2 0, .int 0 0, .int 0 0, .int 3 0, .ref 82, .bool true, .int 318 0, .ref 83, .none, .ref 84, .ref 85, .ref 86, .int 414 0, .int 31 0, .str "/claim/cut.py" 415], #[]⟩
noncomputable def o91 (P : Params) : Obj := ⟨.type "function", none, .func (fnAt [10] "_index" "_index" 3 [] (.none) (.none) (.none) (.str "io" 399) none (.ref 87) (.none) 0), #[]⟩
noncomputable def o92 (P : Params) : Obj := ⟨.type "tuple", none, .seq #[.type "OSError", .type "ValueError"] 0, #[]⟩
noncomputable def o93 (P : Params) : Obj := ⟨.type "builtin_function_or_method", none, .fields #[.builtin "type.__prepare__", .type "type"], #[]⟩
noncomputable def o94 (P : Params) : Obj := ⟨.type "dict", none, .dict #[ent P "__module__" 424 (.str "io" 429), ent P "__qualname__" 426 (.str "UnsupportedOperation" 425), ent P "__firstlineno__" 428 (.int 38 427), ent P "__static_attributes__" 431 (.ref 96)] 4, #[]⟩
noncomputable def o95 (P : Params) : Obj := ⟨.type "tuple", none, .seq #[] 0, #[]⟩
noncomputable def o96 (P : Params) : Obj := ⟨.none, none, .fields #[], #[]⟩
noncomputable def o97 (P : Params) : Obj := ⟨.type "code", none, .fields #[.str "UnsupportedOperation" 419, .str "UnsupportedOperation" 420, .str "/claim/cut.py" 421, .int 38 0, .int 0 0, .int 0 0, .int 0 0, .int 0 0, .ref 92, .bool false, .int 318 0, .ref 93, .none, .none, .none, .none, .int 422 0, .int 38 0, .str "/claim/cut.py" 423], #[]⟩
noncomputable def o98 (P : Params) : Obj := ⟨.type "frame", none, .plain, #[(some (.ref 94)), (some (.ref 3)), (some (.ref 91)), none, (some (.str "io" 399)), none, (some (.ref 0))]⟩
noncomputable def o99 (P : Params) : Obj := ⟨.type "tuple", none, .seq #[] 0, #[]⟩
noncomputable def o100 (P : Params) : Obj := ⟨.type "dict", none, .dict #[ent P "__module__" 424 (.str "io" 429), ent P "__firstlineno__" 428 (.int 38 427), ent P "__static_attributes__" 431 (.ref 96), ent P "__weakref__" 433 (.ref 99), ent P "__doc__" 434 (.none)] 3, #[]⟩
noncomputable def o101 (P : Params) : Obj := ⟨.type "type", none, .cls { name := "UnsupportedOperation", bases := [.type "OSError", .type "ValueError"], mro := [.ref 98, .type "OSError", .type "ValueError", .type "Exception", .type "BaseException", .type "object"], ns := 97, qualname := "UnsupportedOperation", hasDict := true, slotNames := [], subclasses := [], abstract := false, collection := none, hasDel := false }, #[(some (.ref 89)), none, (some (.str "UnsupportedOperation" 417)), (some (.str "UnsupportedOperation" 425)), (some (.builtin "OSError.__new__")), (some (.bool true))]⟩
noncomputable def o102 (P : Params) : Obj := ⟨.type "getset_descriptor", none, .fields #[.str "__weakref__" 432, .ref 98, .builtin "ExceptionGroup.__weakref__", .none], #[]⟩
noncomputable def o103 (P : Params) : Obj := ⟨.type "super", none, .fields #[.ref 98, .ref 98, .ref 98], #[]⟩
noncomputable def o104 (P : Params) : Obj := ⟨.type "builtin_function_or_method", none, .fields #[.builtin "object.__init_subclass__", .ref 98], #[]⟩
noncomputable def o105 (P : Params) : Obj := ⟨.type "tuple", none, .seq #[] 0, #[]⟩
noncomputable def o106 (P : Params) : Obj := ⟨.type "builtin_function_or_method", none, .fields #[.builtin "type.__prepare__", .type "type"], #[]⟩
noncomputable def o107 (P : Params) : Obj := ⟨.type "dict", none, .dict #[ent P "__module__" 446 (.str "io" 451), ent P "__qualname__" 448 (.str "IOBase" 447), ent P "__firstlineno__" 450 (.int 40 449), ent P "__new__" 461 (.ref 115), ent P "__static_attributes__" 462 (.ref 116)] 5, #[]⟩
noncomputable def o108 (P : Params) : Obj := ⟨.type "tuple", none, .seq #[] 0, #[]⟩
noncomputable def o109 (P : Params) : Obj := ⟨.none, none, .fields #[.int 43 0, .int 4 0, .ref 114], #[]⟩
noncomputable def o110 (P : Params) : Obj := ⟨.type "code", none, .fields #[.str "IOBase" 441, .str "IOBase" 442, .str "/claim/cut.py" 443, .int 40 0, .int 0 0, .int 0 0, .int 0 0, .int 0 0, .ref 105, .bool false, .int 318 0, .ref 106, .none, .none, .none, .none, .int 444 0, .int 40 0, .str "/claim/cut.py" 445], #[]⟩
noncomputable def o111 (P : Params) : Obj := ⟨.type "frame", none, .plain, #[(some (.ref 107)), (some (.ref 3)), (some (.ref 104)), none, (some (.str "io" 399)), none, (some (.ref 0))]⟩
noncomputable def o112 (P : Params) : Obj := ⟨.type "tuple", none, .seq #[] 0, #[]⟩
noncomputable def o113 (P : Params) : Obj := ⟨.none, none, .fields #[], #[]⟩
noncomputable def o114 (P : Params) : Obj := ⟨.type "tuple", none, .seq #[.str "cls" 456, .str "args" 457, .str "kwargs" 458] 0, #[]⟩
noncomputable def o115 (P : Params) : Obj := ⟨.type "tuple", none, .seq #[] 0, #[]⟩
noncomputable def o116 (P : Params) : Obj := ⟨.none, none, .func (fnAt [12, 1] "__new__" "IOBase.__new__" 0 [] (.none) (.none) (.none) (.none) none (.none) (.none) 0), #[]⟩
noncomputable def o117 (P : Params) : Obj := ⟨.type "code", none, .fields #[.str "__new__" 453, .str "IOBase.__new__" 454, .str "/claim/cut.py" 455, .int 43 0, .int 1 0, .int 1 0, .int 0 0, .int 15 0, .ref 109, .bool true, .int 318 0, .ref 110, .none, .ref 111, .ref 112, .ref 113, .int 459 0, .int 43 0, .str "/claim/cut.py" 460], #[]⟩
noncomputable def o118 (P : Params) : Obj := ⟨.type "function", none, .func (fnAt [12, 1] "__new__" "IOBase.__new__" 3 [] (.none) (.none) (.none) (.str "io" 399) none (.ref 114) (.none) 0), #[]⟩
noncomputable def o119 (P : Params) : Obj := ⟨.type "tuple", none, .seq #[] 0, #[]⟩
noncomputable def o120 (P : Params) : Obj := ⟨.type "dict", none, .dict #[ent P "__module__" 446 (.str "io" 451), ent P "__firstlineno__" 450 (.int 40 449), ent P "__new__" 461 (.ref 119), ent P "__static_attributes__" 462 (.ref 116), ent P "__dict__" 465 (.ref 120), ent P "__weakref__" 467 (.ref 121), ent P "__doc__" 468 (.none)] 4, #[]⟩
noncomputable def o121 (P : Params) : Obj := ⟨.type "type", none, .cls { name := "IOBase", bases := [.type "object"], mro := [.ref 118, .type "object"], ns := 117, qualname := "IOBase", hasDict := true, slotNames := [], subclasses := [.ref 133], abstract := false, collection := none, hasDel := false }, #[none, none, (some (.str "IOBase" 439)), (some (.str "IOBase" 447)), (some (.none)), (some (.bool true))]⟩
noncomputable def o122 (P : Params) : Obj := ⟨.type "staticmethod", none, .fields #[.ref 115], #[]⟩
noncomputable def o123 (P : Params) : Obj := ⟨.type "getset_descriptor", none, .fields #[.str "__dict__" 464, .ref 118, .builtin "function.__dict__", .builtin "function.__dict__#set"], #[]⟩
noncomputable def o124 (P : Params) : Obj := ⟨.type "getset_descriptor", none, .fields #[.str "__weakref__" 466, .ref 118, .builtin "ExceptionGroup.__weakref__", .none], #[]⟩
noncomputable def o125 (P : Params) : Obj := ⟨.type "super", none, .fields #[.ref 118, .ref 118, .ref 118], #[]⟩
noncomputable def o126 (P : Params) : Obj := ⟨.type "builtin_function_or_method", none, .fields #[.builtin "object.__init_subclass__", .ref 118], #[]⟩
noncomputable def o127 (P : Params) : Obj := ⟨.type "tuple", none, .seq #[.ref 118] 0, #[]⟩
noncomputable def o128 (P : Params) : Obj := ⟨.type "builtin_function_or_method", none, .fields #[.builtin "type.__prepare__", .type "type"], #[]⟩
noncomputable def o129 (P : Params) : Obj := ⟨.type "dict", none, .dict #[ent P "__module__" 478 (.str "io" 483), ent P "__qualname__" 480 (.str "BufferedIOBase" 479), ent P "__firstlineno__" 482 (.int 47 481), ent P "__static_attributes__" 485 (.ref 131)] 4, #[]⟩
noncomputable def o130 (P : Params) : Obj := ⟨.type "tuple", none, .seq #[] 0, #[]⟩
noncomputable def o131 (P : Params) : Obj := ⟨.none, none, .fields #[], #[]⟩
noncomputable def o132 (P : Params) : Obj := ⟨.type "code", none, .fields #[.str "BufferedIOBase" 473, .str "BufferedIOBase" 474, .str "/claim/cut.py" 475, .int 47 0, .int 0 0, .int 0 0, .int 0 0, .int 0 0, .ref 127, .bool false, .int 318 0, .ref 128, .none, .none, .none, .none, .int 476 0, .int 47 0, .str "/claim/cut.py" 477], #[]⟩
noncomputable def o133 (P : Params) : Obj := ⟨.type "frame", none, .plain, #[(some (.ref 129)), (some (.ref 3)), (some (.ref 126)), none, (some (.str "io" 399)), none, (some (.ref 0))]⟩
noncomputable def o134 (P : Params) : Obj := ⟨.type "tuple", none, .seq #[] 0, #[]⟩
noncomputable def o135 (P : Params) : Obj := ⟨.type "dict", none, .dict #[ent P "__module__" 478 (.str "io" 483), ent P "__firstlineno__" 482 (.int 47 481), ent P "__static_attributes__" 485 (.ref 131), ent P "__doc__" 486 (.none)] 2, #[]⟩
noncomputable def o136 (P : Params) : Obj := ⟨.type "type", none, .cls { name := "BufferedIOBase", bases := [.ref 118], mro := [.ref 133, .ref 118, .type "object"], ns := 132, qualname := "BufferedIOBase", hasDict := true, slotNames := [], subclasses := [], abstract := false, collection := none, hasDel := false }, #[(some (.ref 124)), none, (some (.str "BufferedIOBase" 471)), (some (.str "BufferedIOBase" 479)), (some (.none)), (some (.bool true))]⟩
noncomputable def o137 (P : Params) : Obj := ⟨.type "super", none, .fields #[.ref 133, .ref 133, .ref 133], #[]⟩
noncomputable def o138 (P : Params) : Obj := ⟨.type "builtin_function_or_method", none, .fields #[.builtin "object.__init_subclass__", .ref 133], #[]⟩
noncomputable def T1 (P : Params) : BT := btOf [o0 P, o1 P, o38 P, o39 P, o4 P, o5 P, o6 P, o7 P, o8 P, o9 P, o10 P, o11 P, o12 P, o13 P, o14 P, o15 P, o16 P, o17 P, o18 P, o19 P, o20 P, o21 P, o22 P, o23 P, o24 P, o25 P, o26 P, o27 P, o28 P, o29 P, o30 P, o31 P, o32 P, o33 P, o34 P, o40 P, o36 P, o37 P, o41 P, o42 P, o43 P, o44 P, o45 P, o46 P, o47 P, o48 P, o49 P, o50 P, o51 P, o52 P, o53 P, o54 P, o55 P, o56 P, o57 P, o58 P, o59 P, o60 P, o61 P, o62 P, o63 P, o64 P, o65 P, o66 P, o67 P, o68 P, o69 P, o70 P, o71 P, o72 P, o73 P, o74 P, o75 P, o76 P, o77 P, o78 P, o79 P, o80 P, o81 P, o82 P, o83 P, o84 P, o85 P, o86 P, o87 P, o88 P, o89 P, o90 P, o91 P, o92 P, o93 P, o94 P, o95 P, o96 P, o97 P, o98 P, o99 P, o100 P, o101 P, o102 P, o103 P, o104 P, o105 P, o106 P, o107 P, o108 P, o109 P, o110 P, o111 P, o112 P, o113 P, o114 P, o115 P, o116 P, o117 P, o118 P, o119 P, o120 P, o121 P, o122 P, o123 P, o124 P, o125 P, o126 P, o127 P, o128 P, o129 P, o130 P, o131 P, o132 P, o133 P, o134 P, o135 P, o136 P, o137 P, o138 P]
noncomputable def sts0 : List Stmt := (body0.drop 0).take 12
theorem piece0 (w : World) (os : OsState) : segRunT treeTable pw w 34 ann0 1 959 ⟨T0 w.params, 38, life0, #[], ⟨0, 0, 0, 0⟩, 324, os⟩ (piecesOf sts0 env0 code0 ⟨0, 0, 0, 0⟩ B0) = some (.next, ⟨T1 w.params, 136, life0, #[], ⟨0, 0, 0, 0⟩, 489, os⟩, code0, ⟨47, 0, 48, 21⟩) := by kernel_rfl
noncomputable def o139 (P : Params) : Obj := ⟨.type "dict", none, .dict #[ent P "__name__" 165 (.str "io" 399), ent P "__doc__" 166 (.none), ent P "__package__" 167 (.none), ent P "__loader__" 168 (.builtin "__main__.__loader__#opaque"), ent P "__spec__" 169 (.none), ent P "__annotations__" 170 (.ref 6), ent P "__builtins__" 171 (.ref 4), ent P "__file__" 173 (.str "/claim/cut.py" 172), ent P "__cached__" 174 (.none), ent P "_sre" 275 (.ref 12), ent P "deque" 317 (.type "collections.deque"), ent P "_wall" 330 (.ref 44), ent P "dict_replace_saxutils" 342 (.ref 51), ent P "escape" 350 (.ref 60), ent P "unescape" 358 (.ref 69), ent P "_twin_re_1" 398 (.ref 74), ent P "_whence" 408 (.ref 81), ent P "_index" 416 (.ref 88), ent P "UnsupportedOperation" 438 (.ref 98), ent P "IOBase" 470 (.ref 118), ent P "BufferedIOBase" 488 (.ref 133), ent P "TextIOBase" 506 (.ref 145)] 22, #[]⟩
noncomputable def o140 (P : Params) : Obj := ⟨.none, none, .fields #[.int 3 0, .int 0 0, .ref 43, .int 7 0, .int 0 0, .ref 50, .int 11 0, .int 0 0, .ref 59, .int 18 0, .int 0 0, .ref 68, .int 26 0, .int 0 0, .ref 80, .int 31 0, .int 0 0, .ref 87, .int 38 0, .int 0 0, .ref 94, .int 40 0, .int 0 0, .ref 107, .int 47 0, .int 0 0, .ref 129, .int 49 0, .int 0 0, .ref 141], #[]⟩
noncomputable def o141 (P : Params) : Obj := ⟨.type "type", none, .cls { name := "IOBase", bases := [.type "object"], mro := [.ref 118, .type "object"], ns := 117, qualname := "IOBase", hasDict := true, slotNames := [], subclasses := [.ref 133, .ref 145], abstract := false, collection := none, hasDel := false }, #[none, none, (some (.str "IOBase" 439)), (some (.str "IOBase" 447)), (some (.none)), (some (.bool true))]⟩
noncomputable def o142 (P : Params) : Obj := ⟨.type "tuple", none, .seq #[.ref 118] 0, #[]⟩
noncomputable def o143 (P : Params) : Obj := ⟨.type "builtin_function_or_method", none, .fields #[.builtin "type.__prepare__", .type "type"], #[]⟩
noncomputable def o144 (P : Params) : Obj := ⟨.type "dict", none, .dict #[ent P "__module__" 496 (.str "io" 501), ent P "__qualname__" 498 (.str "TextIOBase" 497), ent P "__firstlineno__" 500 (.int 49 499), ent P "__static_attributes__" 503 (.ref 143)] 4, #[]⟩
noncomputable def o145 (P : Params) : Obj := ⟨.type "tuple", none, .seq #[] 0, #[]⟩
noncomputable def o146 (P : Params) : Obj := ⟨.none, none, .fields #[], #[]⟩
noncomputable def o147 (P : Params) : Obj := ⟨.type "code", none, .fields #[.str "TextIOBase" 491, .str "TextIOBase" 492, .str "/claim/cut.py" 493, .int 49 0, .int 0 0, .int 0 0, .int 0 0, .int 0 0, .ref 139, .bool false, .int 318 0, .ref 140, .none, .none, .none, .none, .int 494 0, .int 49 0, .str "/claim/cut.py" 495], #[]⟩
noncomputable def o148 (P : Params) : Obj := ⟨.type "frame", none, .plain, #[(some (.ref 141)), (some (.ref 3)), (some (.ref 138)), none, (some (.str "io" 399)), none, (some (.ref 0))]⟩
noncomputable def o149 (P : Params) : Obj := ⟨.type "tuple", none, .seq #[] 0, #[]⟩
noncomputable def o150 (P : Params) : Obj := ⟨.type "dict", none, .dict #[ent P "__module__" 496 (.str "io" 501), ent P "__firstlineno__" 500 (.int 49 499), ent P "__static_attributes__" 503 (.ref 143), ent P "__doc__" 504 (.none)] 2, #[]⟩
noncomputable def o151 (P : Params) : Obj := ⟨.type "type", none, .cls { name := "TextIOBase", bases := [.ref 118], mro := [.ref 145, .ref 118, .type "object"], ns := 144, qualname := "TextIOBase", hasDict := true, slotNames := [], subclasses := [], abstract := false, collection := none, hasDel := false }, #[(some (.ref 136)), none, (some (.str "TextIOBase" 489)), (some (.str "TextIOBase" 497)), (some (.none)), (some (.bool true))]⟩
noncomputable def o152 (P : Params) : Obj := ⟨.type "super", none, .fields #[.ref 145, .ref 145, .ref 145], #[]⟩
noncomputable def o153 (P : Params) : Obj := ⟨.type "builtin_function_or_method", none, .fields #[.builtin "object.__init_subclass__", .ref 145], #[]⟩
noncomputable def T2 (P : Params) : BT := btOf [o0 P, o1 P, o38 P, o139 P, o4 P, o5 P, o6 P, o7 P, o8 P, o9 P, o10 P, o11 P, o12 P, o13 P, o14 P, o15 P, o16 P, o17 P, o18 P, o19 P, o20 P, o21 P, o22 P, o23 P, o24 P, o25 P, o26 P, o27 P, o28 P, o29 P, o30 P, o31 P, o32 P, o33 P, o34 P, o140 P, o36 P, o37 P, o41 P, o42 P, o43 P, o44 P, o45 P, o46 P, o47 P, o48 P, o49 P, o50 P, o51 P, o52 P, o53 P, o54 P, o55 P, o56 P, o57 P, o58 P, o59 P, o60 P, o61 P, o62 P, o63 P, o64 P, o65 P, o66 P, o67 P, o68 P, o69 P, o70 P, o71 P, o72 P, o73 P, o74 P, o75 P, o76 P, o77 P, o78 P, o79 P, o80 P, o81 P, o82 P, o83 P, o84 P, o85 P, o86 P, o87 P, o88 P, o89 P, o90 P, o91 P, o92 P, o93 P, o94 P, o95 P, o96 P, o97 P, o98 P, o99 P, o100 P, o101 P, o102 P, o103 P, o104 P, o105 P, o106 P, o107 P, o108 P, o109 P, o110 P, o111 P, o112 P, o113 P, o114 P, o115 P, o116 P, o117 P, o118 P, o119 P, o120 P, o141 P, o122 P, o123 P, o124 P, o125 P, o126 P, o127 P, o128 P, o129 P, o130 P, o131 P, o132 P, o133 P, o134 P, o135 P, o136 P, o137 P, o138 P, o142 P, o143 P, o144 P, o145 P, o146 P, o147 P, o148 P, o149 P, o150 P, o151 P, o152 P, o153 P]
noncomputable def sts1 : List Stmt := (body0.drop 12).take 1
theorem piece1 (w : World) (os : OsState) : segRunT treeTable pw w 34 ann0 1 224 ⟨T1 w.params, 136, life0, #[], ⟨0, 0, 0, 0⟩, 489, os⟩ (piecesOf sts1 env0 code0 ⟨47, 0, 48, 21⟩ B0) = some (.next, ⟨T2 w.params, 148, life0, #[], ⟨0, 0, 0, 0⟩, 507, os⟩, code0, ⟨49, 0, 50, 21⟩) := by kernel_rfl
noncomputable def o154 (P : Params) : Obj := ⟨.type "dict", none, .dict #[ent P "__name__" 165 (.str "io" 399), ent P "__doc__" 166 (.none), ent P "__package__" 167 (.none), ent P "__loader__" 168 (.builtin "__main__.__loader__#opaque"), ent P "__spec__" 169 (.none), ent P "__annotations__" 170 (.ref 6), ent P "__builtins__" 171 (.ref 4), ent P "__file__" 173 (.str "/claim/cut.py" 172), ent P "__cached__" 174 (.none), ent P "_sre" 275 (.ref 12), ent P "deque" 317 (.type "collections.deque"), ent P "_wall" 330 (.ref 44), ent P "dict_replace_saxutils" 342 (.ref 51), ent P "escape" 350 (.ref 60), ent P "unescape" 358 (.ref 69), ent P "_twin_re_1" 398 (.ref 74), ent P "_whence" 408 (.ref 81), ent P "_index" 416 (.ref 88), ent P "UnsupportedOperation" 438 (.ref 98), ent P "IOBase" 470 (.ref 118), ent P "BufferedIOBase" 488 (.ref 133), ent P "TextIOBase" 506 (.ref 145), ent P "BytesIO" 768 (.ref 375)] 23, #[]⟩
noncomputable def o155 (P : Params) : Obj := ⟨.none, none, .fields #[.int 3 0, .int 0 0, .ref 43, .int 7 0, .int 0 0, .ref 50, .int 11 0, .int 0 0, .ref 59, .int 18 0, .int 0 0, .ref 68, .int 26 0, .int 0 0, .ref 80, .int 31 0, .int 0 0, .ref 87, .int 38 0, .int 0 0, .ref 94, .int 40 0, .int 0 0, .ref 107, .int 47 0, .int 0 0, .ref 129, .int 49 0, .int 0 0, .ref 141, .int 51 0, .int 0 0, .ref 153], #[]⟩
noncomputable def o156 (P : Params) : Obj := ⟨.type "type", none, .cls { name := "BufferedIOBase", bases := [.ref 118], mro := [.ref 133, .ref 118, .type "object"], ns := 132, qualname := "BufferedIOBase", hasDict := true, slotNames := [], subclasses := [.ref 375], abstract := false, collection := none, hasDel := false }, #[(some (.ref 124)), none, (some (.str "BufferedIOBase" 471)), (some (.str "BufferedIOBase" 479)), (some (.none)), (some (.bool true))]⟩
noncomputable def o157 (P : Params) : Obj := ⟨.type "tuple", none, .seq #[.ref 133] 0, #[]⟩
noncomputable def o158 (P : Params) : Obj := ⟨.type "builtin_function_or_method", none, .fields #[.builtin "type.__prepare__", .type "type"], #[]⟩
noncomputable def o159 (P : Params) : Obj := ⟨.type "dict", none, .dict #[ent P "__module__" 514 (.str "_io" 519), ent P "__qualname__" 516 (.str "BytesIO" 515), ent P "__firstlineno__" 518 (.int 51 517), ent P "__init__" 528 (.ref 162), ent P "_BytesIO__check" 535 (.ref 169), ent P "_BytesIO__line" 546 (.ref 176), ent P "closed" 554 (.ref 184), ent P "close" 561 (.ref 191), ent P "__enter__" 568 (.ref 198), ent P "__exit__" 576 (.ref 205), ent P "readable" 583 (.ref 212), ent P "writable" 590 (.ref 219), ent P "seekable" 597 (.ref 226), ent P "isatty" 604 (.ref 233), ent P "flush" 611 (.ref 240), ent P "fileno" 618 (.ref 247), ent P "detach" 625 (.ref 254), ent P "getvalue" 632 (.ref 261), ent P "getbuffer" 639 (.ref 268), ent P "tell" 646 (.ref 275), ent P "seek" 656 (.ref 283), ent P "truncate" 664 (.ref 291), ent P "read" 676 (.ref 299), ent P "read1" 686 (.ref 307), ent P "readinto" 696 (.ref 314), ent P "readinto1" 704 (.ref 321), ent P "readline" 714 (.ref 329), ent P "readlines" 722 (.ref 337), ent P "__iter__" 729 (.ref 344), ent P "__next__" 737 (.ref 351), ent P "write" 747 (.ref 358), ent P "writelines" 755 (.ref 365), ent P "__repr__" 762 (.ref 372), ent P "__static_attributes__" 765 (.ref 373)] 34, #[]⟩
noncomputable def o160 (P : Params) : Obj := ⟨.type "tuple", none, .seq #[] 0, #[]⟩
noncomputable def o161 (P : Params) : Obj := ⟨.none, none, .fields #[.int 54 0, .int 4 0, .ref 161, .int 60 0, .int 4 0, .ref 168, .int 64 0, .int 4 0, .ref 175, .int 78 0, .int 4 0, .ref 182, .int 81 0, .int 4 0, .ref 190, .int 84 0, .int 4 0, .ref 197, .int 88 0, .int 4 0, .ref 204, .int 91 0, .int 4 0, .ref 211, .int 95 0, .int 4 0, .ref 218, .int 99 0, .int 4 0, .ref 225, .int 103 0, .int 4 0, .ref 232, .int 107 0, .int 4 0, .ref 239, .int 110 0, .int 4 0, .ref 246, .int 113 0, .int 4 0, .ref 253, .int 116 0, .int 4 0, .ref 260, .int 119 0, .int 4 0, .ref 267, .int 122 0, .int 4 0, .ref 274, .int 126 0, .int 4 0, .ref 282, .int 143 0, .int 4 0, .ref 290, .int 146 0, .int 4 0, .ref 298, .int 160 0, .int 4 0, .ref 306, .int 163 0, .int 4 0, .ref 313, .int 177 0, .int 4 0, .ref 320, .int 180 0, .int 4 0, .ref 328, .int 187 0, .int 4 0, .ref 336, .int 190 0, .int 4 0, .ref 343, .int 193 0, .int 4 0, .ref 350, .int 200 0, .int 4 0, .ref 357, .int 216 0, .int 4 0, .ref 364, .int 219 0, .int 4 0, .ref 371], #[]⟩
noncomputable def o162 (P : Params) : Obj := ⟨.type "code", none, .fields #[.str "BytesIO" 509, .str "BytesIO" 510, .str "/claim/cut.py" 511, .int 51 0, .int 0 0, .int 0 0, .int 0 0, .int 0 0, .ref 151, .bool false, .int 318 0, .ref 152, .none, .none, .none, .none, .int 512 0, .int 51 0, .str "/claim/cut.py" 513], #[]⟩
noncomputable def o163 (P : Params) : Obj := ⟨.type "frame", none, .plain, #[(some (.ref 153)), (some (.ref 3)), (some (.ref 150)), none, (some (.str "io" 399)), none, (some (.ref 0))]⟩
noncomputable def o164 (P : Params) : Obj := ⟨.type "tuple", none, .seq #[.none] 0, #[]⟩
noncomputable def o165 (P : Params) : Obj := ⟨.type "tuple", none, .seq #[] 0, #[]⟩
noncomputable def o166 (P : Params) : Obj := ⟨.none, none, .fields #[], #[]⟩
noncomputable def o167 (P : Params) : Obj := ⟨.type "tuple", none, .seq #[.str "self" 524, .str "initial_bytes" 525] 0, #[]⟩
noncomputable def o168 (P : Params) : Obj := ⟨.type "tuple", none, .seq #[] 0, #[]⟩
noncomputable def o169 (P : Params) : Obj := ⟨.none, none, .func (fnAt [15, 1] "__init__" "BytesIO.__init__" 0 [] (.none) (.none) (.none) (.none) none (.none) (.none) 0), #[]⟩
noncomputable def o170 (P : Params) : Obj := ⟨.type "code", none, .fields #[.str "__init__" 521, .str "BytesIO.__init__" 522, .str "/claim/cut.py" 523, .int 54 0, .int 2 0, .int 0 0, .int 0 0, .int 3 0, .ref 156, .bool true, .int 318 0, .ref 157, .none, .ref 158, .ref 159, .ref 160, .int 526 0, .int 54 0, .str "/claim/cut.py" 527], #[]⟩
noncomputable def o171 (P : Params) : Obj := ⟨.type "function", none, .func (fnAt [15, 1] "__init__" "BytesIO.__init__" 3 [] (.ref 155) (.none) (.none) (.str "io" 399) none (.ref 161) (.none) 0), #[]⟩
noncomputable def o172 (P : Params) : Obj := ⟨.type "tuple", none, .seq #[] 0, #[]⟩
noncomputable def o173 (P : Params) : Obj := ⟨.none, none, .fields #[], #[]⟩
noncomputable def o174 (P : Params) : Obj := ⟨.type "tuple", none, .seq #[.str "self" 532] 0, #[]⟩
noncomputable def o175 (P : Params) : Obj := ⟨.type "tuple", none, .seq #[] 0, #[]⟩
noncomputable def o176 (P : Params) : Obj := ⟨.none, none, .func (fnAt [15, 2] "__check" "BytesIO.__check" 0 [] (.none) (.none) (.none) (.none) none (.none) (.none) 0), #[]⟩
noncomputable def o177 (P : Params) : Obj := ⟨.type "code", none, .fields #[.str "__check" 529, .str "BytesIO.__check" 530, .str "/claim/cut.py" 531, .int 60 0, .int 1 0, .int 0 0, .int 0 0, .int 3 0, .ref 163, .bool true, .int 318 0, .ref 164, .none, .ref 165, .ref 166, .ref 167, .int 533 0, .int 60 0, .str "/claim/cut.py" 534], #[]⟩
noncomputable def o178 (P : Params) : Obj := ⟨.type "function", none, .func (fnAt [15, 2] "__check" "BytesIO.__check" 3 [] (.none) (.none) (.none) (.str "io" 399) none (.ref 168) (.none) 0), #[]⟩
noncomputable def o179 (P : Params) : Obj := ⟨.type "tuple", none, .seq #[] 0, #[]⟩
noncomputable def o180 (P : Params) : Obj := ⟨.none, none, .fields #[], #[]⟩
noncomputable def o181 (P : Params) : Obj := ⟨.type "tuple", none, .seq #[.str "self" 539, .str "limit" 540, .str "start" 541, .str "stop" 542, .str "i" 543] 0, #[]⟩
noncomputable def o182 (P : Params) : Obj := ⟨.type "tuple", none, .seq #[] 0, #[]⟩
noncomputable def o183 (P : Params) : Obj := ⟨.none, none, .func (fnAt [15, 3] "__line" "BytesIO.__line" 0 [] (.none) (.none) (.none) (.none) none (.none) (.none) 0), #[]⟩
noncomputable def o184 (P : Params) : Obj := ⟨.type "code", none, .fields #[.str "__line" 536, .str "BytesIO.__line" 537, .str "/claim/cut.py" 538, .int 64 0, .int 2 0, .int 0 0, .int 0 0, .int 3 0, .ref 170, .bool true, .int 318 0, .ref 171, .none, .ref 172, .ref 173, .ref 174, .int 544 0, .int 64 0, .str "/claim/cut.py" 545], #[]⟩
noncomputable def o185 (P : Params) : Obj := ⟨.type "function", none, .func (fnAt [15, 3] "__line" "BytesIO.__line" 3 [] (.none) (.none) (.none) (.str "io" 399) none (.ref 175) (.none) 0), #[]⟩
noncomputable def o186 (P : Params) : Obj := ⟨.type "tuple", none, .seq #[] 0, #[]⟩
noncomputable def o187 (P : Params) : Obj := ⟨.none, none, .fields #[], #[]⟩
noncomputable def o188 (P : Params) : Obj := ⟨.type "tuple", none, .seq #[.str "self" 550] 0, #[]⟩
noncomputable def o189 (P : Params) : Obj := ⟨.type "tuple", none, .seq #[] 0, #[]⟩
noncomputable def o190 (P : Params) : Obj := ⟨.none, none, .func (fnAt [15, 4] "closed" "BytesIO.closed" 0 [] (.none) (.none) (.none) (.none) none (.none) (.none) 0), #[]⟩
noncomputable def o191 (P : Params) : Obj := ⟨.type "code", none, .fields #[.str "closed" 547, .str "BytesIO.closed" 548, .str "/claim/cut.py" 549, .int 77 0, .int 1 0, .int 0 0, .int 0 0, .int 3 0, .ref 177, .bool true, .int 318 0, .ref 178, .none, .ref 179, .ref 180, .ref 181, .int 551 0, .int 77 0, .str "/claim/cut.py" 552], #[]⟩
noncomputable def o192 (P : Params) : Obj := ⟨.type "function", none, .func (fnAt [15, 4] "closed" "BytesIO.closed" 3 [] (.none) (.none) (.none) (.str "io" 399) none (.ref 182) (.none) 0), #[]⟩
noncomputable def o193 (P : Params) : Obj := ⟨.type "property", none, .fields #[.ref 183, .none, .none, .none, .str "closed" 554, .bool false], #[]⟩
noncomputable def o194 (P : Params) : Obj := ⟨.type "tuple", none, .seq #[] 0, #[]⟩
noncomputable def o195 (P : Params) : Obj := ⟨.none, none, .fields #[], #[]⟩
noncomputable def o196 (P : Params) : Obj := ⟨.type "tuple", none, .seq #[.str "self" 558] 0, #[]⟩
noncomputable def o197 (P : Params) : Obj := ⟨.type "tuple", none, .seq #[] 0, #[]⟩
noncomputable def o198 (P : Params) : Obj := ⟨.none, none, .func (fnAt [15, 5] "close" "BytesIO.close" 0 [] (.none) (.none) (.none) (.none) none (.none) (.none) 0), #[]⟩
noncomputable def o199 (P : Params) : Obj := ⟨.type "code", none, .fields #[.str "close" 555, .str "BytesIO.close" 556, .str "/claim/cut.py" 557, .int 81 0, .int 1 0, .int 0 0, .int 0 0, .int 3 0, .ref 185, .bool true, .int 318 0, .ref 186, .none, .ref 187, .ref 188, .ref 189, .int 559 0, .int 81 0, .str "/claim/cut.py" 560], #[]⟩
noncomputable def o200 (P : Params) : Obj := ⟨.type "function", none, .func (fnAt [15, 5] "close" "BytesIO.close" 3 [] (.none) (.none) (.none) (.str "io" 399) none (.ref 190) (.none) 0), #[]⟩
noncomputable def o201 (P : Params) : Obj := ⟨.type "tuple", none, .seq #[] 0, #[]⟩
noncomputable def o202 (P : Params) : Obj := ⟨.none, none, .fields #[], #[]⟩
noncomputable def o203 (P : Params) : Obj := ⟨.type "tuple", none, .seq #[.str "self" 565] 0, #[]⟩
noncomputable def o204 (P : Params) : Obj := ⟨.type "tuple", none, .seq #[] 0, #[]⟩
noncomputable def o205 (P : Params) : Obj := ⟨.none, none, .func (fnAt [15, 6] "__enter__" "BytesIO.__enter__" 0 [] (.none) (.none) (.none) (.none) none (.none) (.none) 0), #[]⟩
noncomputable def o206 (P : Params) : Obj := ⟨.type "code", none, .fields #[.str "__enter__" 562, .str "BytesIO.__enter__" 563, .str "/claim/cut.py" 564, .int 84 0, .int 1 0, .int 0 0, .int 0 0, .int 3 0, .ref 192, .bool true, .int 318 0, .ref 193, .none, .ref 194, .ref 195, .ref 196, .int 566 0, .int 84 0, .str "/claim/cut.py" 567], #[]⟩
noncomputable def o207 (P : Params) : Obj := ⟨.type "function", none, .func (fnAt [15, 6] "__enter__" "BytesIO.__enter__" 3 [] (.none) (.none) (.none) (.str "io" 399) none (.ref 197) (.none) 0), #[]⟩
noncomputable def o208 (P : Params) : Obj := ⟨.type "tuple", none, .seq #[] 0, #[]⟩
noncomputable def o209 (P : Params) : Obj := ⟨.none, none, .fields #[], #[]⟩
noncomputable def o210 (P : Params) : Obj := ⟨.type "tuple", none, .seq #[.str "self" 572, .str "args" 573] 0, #[]⟩
noncomputable def o211 (P : Params) : Obj := ⟨.type "tuple", none, .seq #[] 0, #[]⟩
noncomputable def o212 (P : Params) : Obj := ⟨.none, none, .func (fnAt [15, 7] "__exit__" "BytesIO.__exit__" 0 [] (.none) (.none) (.none) (.none) none (.none) (.none) 0), #[]⟩
noncomputable def o213 (P : Params) : Obj := ⟨.type "code", none, .fields #[.str "__exit__" 569, .str "BytesIO.__exit__" 570, .str "/claim/cut.py" 571, .int 88 0, .int 1 0, .int 0 0, .int 0 0, .int 7 0, .ref 199, .bool true, .int 318 0, .ref 200, .none, .ref 201, .ref 202, .ref 203, .int 574 0, .int 88 0, .str "/claim/cut.py" 575], #[]⟩
noncomputable def o214 (P : Params) : Obj := ⟨.type "function", none, .func (fnAt [15, 7] "__exit__" "BytesIO.__exit__" 3 [] (.none) (.none) (.none) (.str "io" 399) none (.ref 204) (.none) 0), #[]⟩
noncomputable def o215 (P : Params) : Obj := ⟨.type "tuple", none, .seq #[] 0, #[]⟩
noncomputable def o216 (P : Params) : Obj := ⟨.none, none, .fields #[], #[]⟩
noncomputable def o217 (P : Params) : Obj := ⟨.type "tuple", none, .seq #[.str "self" 580] 0, #[]⟩
noncomputable def o218 (P : Params) : Obj := ⟨.type "tuple", none, .seq #[] 0, #[]⟩
noncomputable def o219 (P : Params) : Obj := ⟨.none, none, .func (fnAt [15, 8] "readable" "BytesIO.readable" 0 [] (.none) (.none) (.none) (.none) none (.none) (.none) 0), #[]⟩
noncomputable def o220 (P : Params) : Obj := ⟨.type "code", none, .fields #[.str "readable" 577, .str "BytesIO.readable" 578, .str "/claim/cut.py" 579, .int 91 0, .int 1 0, .int 0 0, .int 0 0, .int 3 0, .ref 206, .bool true, .int 318 0, .ref 207, .none, .ref 208, .ref 209, .ref 210, .int 581 0, .int 91 0, .str "/claim/cut.py" 582], #[]⟩
noncomputable def o221 (P : Params) : Obj := ⟨.type "function", none, .func (fnAt [15, 8] "readable" "BytesIO.readable" 3 [] (.none) (.none) (.none) (.str "io" 399) none (.ref 211) (.none) 0), #[]⟩
noncomputable def o222 (P : Params) : Obj := ⟨.type "tuple", none, .seq #[] 0, #[]⟩
noncomputable def o223 (P : Params) : Obj := ⟨.none, none, .fields #[], #[]⟩
noncomputable def o224 (P : Params) : Obj := ⟨.type "tuple", none, .seq #[.str "self" 587] 0, #[]⟩
noncomputable def o225 (P : Params) : Obj := ⟨.type "tuple", none, .seq #[] 0, #[]⟩
noncomputable def o226 (P : Params) : Obj := ⟨.none, none, .func (fnAt [15, 9] "writable" "BytesIO.writable" 0 [] (.none) (.none) (.none) (.none) none (.none) (.none) 0), #[]⟩
noncomputable def o227 (P : Params) : Obj := ⟨.type "code", none, .fields #[.str "writable" 584, .str "BytesIO.writable" 585, .str "/claim/cut.py" 586, .int 95 0, .int 1 0, .int 0 0, .int 0 0, .int 3 0, .ref 213, .bool true, .int 318 0, .ref 214, .none, .ref 215, .ref 216, .ref 217, .int 588 0, .int 95 0, .str "/claim/cut.py" 589], #[]⟩
noncomputable def o228 (P : Params) : Obj := ⟨.type "function", none, .func (fnAt [15, 9] "writable" "BytesIO.writable" 3 [] (.none) (.none) (.none) (.str "io" 399) none (.ref 218) (.none) 0), #[]⟩
noncomputable def o229 (P : Params) : Obj := ⟨.type "tuple", none, .seq #[] 0, #[]⟩
noncomputable def o230 (P : Params) : Obj := ⟨.none, none, .fields #[], #[]⟩
noncomputable def o231 (P : Params) : Obj := ⟨.type "tuple", none, .seq #[.str "self" 594] 0, #[]⟩
noncomputable def o232 (P : Params) : Obj := ⟨.type "tuple", none, .seq #[] 0, #[]⟩
noncomputable def o233 (P : Params) : Obj := ⟨.none, none, .func (fnAt [15, 10] "seekable" "BytesIO.seekable" 0 [] (.none) (.none) (.none) (.none) none (.none) (.none) 0), #[]⟩
noncomputable def o234 (P : Params) : Obj := ⟨.type "code", none, .fields #[.str "seekable" 591, .str "BytesIO.seekable" 592, .str "/claim/cut.py" 593, .int 99 0, .int 1 0, .int 0 0, .int 0 0, .int 3 0, .ref 220, .bool true, .int 318 0, .ref 221, .none, .ref 222, .ref 223, .ref 224, .int 595 0, .int 99 0, .str "/claim/cut.py" 596], #[]⟩
noncomputable def o235 (P : Params) : Obj := ⟨.type "function", none, .func (fnAt [15, 10] "seekable" "BytesIO.seekable" 3 [] (.none) (.none) (.none) (.str "io" 399) none (.ref 225) (.none) 0), #[]⟩
noncomputable def o236 (P : Params) : Obj := ⟨.type "tuple", none, .seq #[] 0, #[]⟩
noncomputable def o237 (P : Params) : Obj := ⟨.none, none, .fields #[], #[]⟩
noncomputable def o238 (P : Params) : Obj := ⟨.type "tuple", none, .seq #[.str "self" 601] 0, #[]⟩
noncomputable def o239 (P : Params) : Obj := ⟨.type "tuple", none, .seq #[] 0, #[]⟩
noncomputable def o240 (P : Params) : Obj := ⟨.none, none, .func (fnAt [15, 11] "isatty" "BytesIO.isatty" 0 [] (.none) (.none) (.none) (.none) none (.none) (.none) 0), #[]⟩
noncomputable def o241 (P : Params) : Obj := ⟨.type "code", none, .fields #[.str "isatty" 598, .str "BytesIO.isatty" 599, .str "/claim/cut.py" 600, .int 103 0, .int 1 0, .int 0 0, .int 0 0, .int 3 0, .ref 227, .bool true, .int 318 0, .ref 228, .none, .ref 229, .ref 230, .ref 231, .int 602 0, .int 103 0, .str "/claim/cut.py" 603], #[]⟩
noncomputable def o242 (P : Params) : Obj := ⟨.type "function", none, .func (fnAt [15, 11] "isatty" "BytesIO.isatty" 3 [] (.none) (.none) (.none) (.str "io" 399) none (.ref 232) (.none) 0), #[]⟩
noncomputable def o243 (P : Params) : Obj := ⟨.type "tuple", none, .seq #[] 0, #[]⟩
noncomputable def o244 (P : Params) : Obj := ⟨.none, none, .fields #[], #[]⟩
noncomputable def o245 (P : Params) : Obj := ⟨.type "tuple", none, .seq #[.str "self" 608] 0, #[]⟩
noncomputable def o246 (P : Params) : Obj := ⟨.type "tuple", none, .seq #[] 0, #[]⟩
noncomputable def o247 (P : Params) : Obj := ⟨.none, none, .func (fnAt [15, 12] "flush" "BytesIO.flush" 0 [] (.none) (.none) (.none) (.none) none (.none) (.none) 0), #[]⟩
noncomputable def o248 (P : Params) : Obj := ⟨.type "code", none, .fields #[.str "flush" 605, .str "BytesIO.flush" 606, .str "/claim/cut.py" 607, .int 107 0, .int 1 0, .int 0 0, .int 0 0, .int 3 0, .ref 234, .bool true, .int 318 0, .ref 235, .none, .ref 236, .ref 237, .ref 238, .int 609 0, .int 107 0, .str "/claim/cut.py" 610], #[]⟩
noncomputable def o249 (P : Params) : Obj := ⟨.type "function", none, .func (fnAt [15, 12] "flush" "BytesIO.flush" 3 [] (.none) (.none) (.none) (.str "io" 399) none (.ref 239) (.none) 0), #[]⟩
noncomputable def o250 (P : Params) : Obj := ⟨.type "tuple", none, .seq #[] 0, #[]⟩
noncomputable def o251 (P : Params) : Obj := ⟨.none, none, .fields #[], #[]⟩
noncomputable def o252 (P : Params) : Obj := ⟨.type "tuple", none, .seq #[.str "self" 615] 0, #[]⟩
noncomputable def o253 (P : Params) : Obj := ⟨.type "tuple", none, .seq #[] 0, #[]⟩
noncomputable def o254 (P : Params) : Obj := ⟨.none, none, .func (fnAt [15, 13] "fileno" "BytesIO.fileno" 0 [] (.none) (.none) (.none) (.none) none (.none) (.none) 0), #[]⟩
noncomputable def o255 (P : Params) : Obj := ⟨.type "code", none, .fields #[.str "fileno" 612, .str "BytesIO.fileno" 613, .str "/claim/cut.py" 614, .int 110 0, .int 1 0, .int 0 0, .int 0 0, .int 3 0, .ref 241, .bool true, .int 318 0, .ref 242, .none, .ref 243, .ref 244, .ref 245, .int 616 0, .int 110 0, .str "/claim/cut.py" 617], #[]⟩
noncomputable def o256 (P : Params) : Obj := ⟨.type "function", none, .func (fnAt [15, 13] "fileno" "BytesIO.fileno" 3 [] (.none) (.none) (.none) (.str "io" 399) none (.ref 246) (.none) 0), #[]⟩
noncomputable def o257 (P : Params) : Obj := ⟨.type "tuple", none, .seq #[] 0, #[]⟩
noncomputable def o258 (P : Params) : Obj := ⟨.none, none, .fields #[], #[]⟩
noncomputable def o259 (P : Params) : Obj := ⟨.type "tuple", none, .seq #[.str "self" 622] 0, #[]⟩
noncomputable def o260 (P : Params) : Obj := ⟨.type "tuple", none, .seq #[] 0, #[]⟩
noncomputable def o261 (P : Params) : Obj := ⟨.none, none, .func (fnAt [15, 14] "detach" "BytesIO.detach" 0 [] (.none) (.none) (.none) (.none) none (.none) (.none) 0), #[]⟩
noncomputable def o262 (P : Params) : Obj := ⟨.type "code", none, .fields #[.str "detach" 619, .str "BytesIO.detach" 620, .str "/claim/cut.py" 621, .int 113 0, .int 1 0, .int 0 0, .int 0 0, .int 3 0, .ref 248, .bool true, .int 318 0, .ref 249, .none, .ref 250, .ref 251, .ref 252, .int 623 0, .int 113 0, .str "/claim/cut.py" 624], #[]⟩
noncomputable def o263 (P : Params) : Obj := ⟨.type "function", none, .func (fnAt [15, 14] "detach" "BytesIO.detach" 3 [] (.none) (.none) (.none) (.str "io" 399) none (.ref 253) (.none) 0), #[]⟩
noncomputable def o264 (P : Params) : Obj := ⟨.type "tuple", none, .seq #[] 0, #[]⟩
noncomputable def o265 (P : Params) : Obj := ⟨.none, none, .fields #[], #[]⟩
noncomputable def o266 (P : Params) : Obj := ⟨.type "tuple", none, .seq #[.str "self" 629] 0, #[]⟩
noncomputable def o267 (P : Params) : Obj := ⟨.type "tuple", none, .seq #[] 0, #[]⟩
noncomputable def o268 (P : Params) : Obj := ⟨.none, none, .func (fnAt [15, 15] "getvalue" "BytesIO.getvalue" 0 [] (.none) (.none) (.none) (.none) none (.none) (.none) 0), #[]⟩
noncomputable def o269 (P : Params) : Obj := ⟨.type "code", none, .fields #[.str "getvalue" 626, .str "BytesIO.getvalue" 627, .str "/claim/cut.py" 628, .int 116 0, .int 1 0, .int 0 0, .int 0 0, .int 3 0, .ref 255, .bool true, .int 318 0, .ref 256, .none, .ref 257, .ref 258, .ref 259, .int 630 0, .int 116 0, .str "/claim/cut.py" 631], #[]⟩
noncomputable def o270 (P : Params) : Obj := ⟨.type "function", none, .func (fnAt [15, 15] "getvalue" "BytesIO.getvalue" 3 [] (.none) (.none) (.none) (.str "io" 399) none (.ref 260) (.none) 0), #[]⟩
noncomputable def o271 (P : Params) : Obj := ⟨.type "tuple", none, .seq #[] 0, #[]⟩
noncomputable def o272 (P : Params) : Obj := ⟨.none, none, .fields #[], #[]⟩
noncomputable def o273 (P : Params) : Obj := ⟨.type "tuple", none, .seq #[.str "self" 636] 0, #[]⟩
noncomputable def o274 (P : Params) : Obj := ⟨.type "tuple", none, .seq #[] 0, #[]⟩
noncomputable def o275 (P : Params) : Obj := ⟨.none, none, .func (fnAt [15, 16] "getbuffer" "BytesIO.getbuffer" 0 [] (.none) (.none) (.none) (.none) none (.none) (.none) 0), #[]⟩
noncomputable def o276 (P : Params) : Obj := ⟨.type "code", none, .fields #[.str "getbuffer" 633, .str "BytesIO.getbuffer" 634, .str "/claim/cut.py" 635, .int 119 0, .int 1 0, .int 0 0, .int 0 0, .int 3 0, .ref 262, .bool true, .int 318 0, .ref 263, .none, .ref 264, .ref 265, .ref 266, .int 637 0, .int 119 0, .str "/claim/cut.py" 638], #[]⟩
noncomputable def o277 (P : Params) : Obj := ⟨.type "function", none, .func (fnAt [15, 16] "getbuffer" "BytesIO.getbuffer" 3 [] (.none) (.none) (.none) (.str "io" 399) none (.ref 267) (.none) 0), #[]⟩
noncomputable def o278 (P : Params) : Obj := ⟨.type "tuple", none, .seq #[] 0, #[]⟩
noncomputable def o279 (P : Params) : Obj := ⟨.none, none, .fields #[], #[]⟩
noncomputable def o280 (P : Params) : Obj := ⟨.type "tuple", none, .seq #[.str "self" 643] 0, #[]⟩
noncomputable def o281 (P : Params) : Obj := ⟨.type "tuple", none, .seq #[] 0, #[]⟩
noncomputable def o282 (P : Params) : Obj := ⟨.none, none, .func (fnAt [15, 17] "tell" "BytesIO.tell" 0 [] (.none) (.none) (.none) (.none) none (.none) (.none) 0), #[]⟩
noncomputable def o283 (P : Params) : Obj := ⟨.type "code", none, .fields #[.str "tell" 640, .str "BytesIO.tell" 641, .str "/claim/cut.py" 642, .int 122 0, .int 1 0, .int 0 0, .int 0 0, .int 3 0, .ref 269, .bool true, .int 318 0, .ref 270, .none, .ref 271, .ref 272, .ref 273, .int 644 0, .int 122 0, .str "/claim/cut.py" 645], #[]⟩
noncomputable def o284 (P : Params) : Obj := ⟨.type "function", none, .func (fnAt [15, 17] "tell" "BytesIO.tell" 3 [] (.none) (.none) (.none) (.str "io" 399) none (.ref 274) (.none) 0), #[]⟩
noncomputable def o285 (P : Params) : Obj := ⟨.type "tuple", none, .seq #[.int 0 647] 0, #[]⟩
noncomputable def o286 (P : Params) : Obj := ⟨.type "tuple", none, .seq #[] 0, #[]⟩
noncomputable def o287 (P : Params) : Obj := ⟨.none, none, .fields #[], #[]⟩
noncomputable def o288 (P : Params) : Obj := ⟨.type "tuple", none, .seq #[.str "self" 651, .str "pos" 652, .str "whence" 653] 0, #[]⟩
noncomputable def o289 (P : Params) : Obj := ⟨.type "tuple", none, .seq #[] 0, #[]⟩
noncomputable def o290 (P : Params) : Obj := ⟨.none, none, .func (fnAt [15, 18] "seek" "BytesIO.seek" 0 [] (.none) (.none) (.none) (.none) none (.none) (.none) 0), #[]⟩
noncomputable def o291 (P : Params) : Obj := ⟨.type "code", none, .fields #[.str "seek" 648, .str "BytesIO.seek" 649, .str "/claim/cut.py" 650, .int 126 0, .int 3 0, .int 3 0, .int 0 0, .int 3 0, .ref 277, .bool true, .int 318 0, .ref 278, .none, .ref 279, .ref 280, .ref 281, .int 654 0, .int 126 0, .str "/claim/cut.py" 655], #[]⟩
noncomputable def o292 (P : Params) : Obj := ⟨.type "function", none, .func (fnAt [15, 18] "seek" "BytesIO.seek" 3 [] (.ref 276) (.none) (.none) (.str "io" 399) none (.ref 282) (.none) 0), #[]⟩
noncomputable def o293 (P : Params) : Obj := ⟨.type "tuple", none, .seq #[.none] 0, #[]⟩
noncomputable def o294 (P : Params) : Obj := ⟨.type "tuple", none, .seq #[] 0, #[]⟩
noncomputable def o295 (P : Params) : Obj := ⟨.none, none, .fields #[], #[]⟩
noncomputable def o296 (P : Params) : Obj := ⟨.type "tuple", none, .seq #[.str "self" 660, .str "size" 661] 0, #[]⟩
noncomputable def o297 (P : Params) : Obj := ⟨.type "tuple", none, .seq #[] 0, #[]⟩
noncomputable def o298 (P : Params) : Obj := ⟨.none, none, .func (fnAt [15, 19] "truncate" "BytesIO.truncate" 0 [] (.none) (.none) (.none) (.none) none (.none) (.none) 0), #[]⟩
noncomputable def o299 (P : Params) : Obj := ⟨.type "code", none, .fields #[.str "truncate" 657, .str "BytesIO.truncate" 658, .str "/claim/cut.py" 659, .int 143 0, .int 2 0, .int 2 0, .int 0 0, .int 3 0, .ref 285, .bool true, .int 318 0, .ref 286, .none, .ref 287, .ref 288, .ref 289, .int 662 0, .int 143 0, .str "/claim/cut.py" 663], #[]⟩
noncomputable def o300 (P : Params) : Obj := ⟨.type "function", none, .func (fnAt [15, 19] "truncate" "BytesIO.truncate" 3 [] (.ref 284) (.none) (.none) (.str "io" 399) none (.ref 290) (.none) 0), #[]⟩
noncomputable def o301 (P : Params) : Obj := ⟨.type "tuple", none, .seq #[.int (-1) 666] 0, #[]⟩
noncomputable def o302 (P : Params) : Obj := ⟨.type "tuple", none, .seq #[] 0, #[]⟩
noncomputable def o303 (P : Params) : Obj := ⟨.none, none, .fields #[], #[]⟩
noncomputable def o304 (P : Params) : Obj := ⟨.type "tuple", none, .seq #[.str "self" 670, .str "size" 671, .str "start" 672, .str "stop" 673] 0, #[]⟩
noncomputable def o305 (P : Params) : Obj := ⟨.type "tuple", none, .seq #[] 0, #[]⟩
noncomputable def o306 (P : Params) : Obj := ⟨.none, none, .func (fnAt [15, 20] "read" "BytesIO.read" 0 [] (.none) (.none) (.none) (.none) none (.none) (.none) 0), #[]⟩
noncomputable def o307 (P : Params) : Obj := ⟨.type "code", none, .fields #[.str "read" 667, .str "BytesIO.read" 668, .str "/claim/cut.py" 669, .int 146 0, .int 2 0, .int 2 0, .int 0 0, .int 3 0, .ref 293, .bool true, .int 318 0, .ref 294, .none, .ref 295, .ref 296, .ref 297, .int 674 0, .int 146 0, .str "/claim/cut.py" 675], #[]⟩
noncomputable def o308 (P : Params) : Obj := ⟨.type "function", none, .func (fnAt [15, 20] "read" "BytesIO.read" 3 [] (.ref 292) (.none) (.none) (.str "io" 399) none (.ref 298) (.none) 0), #[]⟩
noncomputable def o309 (P : Params) : Obj := ⟨.type "tuple", none, .seq #[.int (-1) 678] 0, #[]⟩
noncomputable def o310 (P : Params) : Obj := ⟨.type "tuple", none, .seq #[] 0, #[]⟩
noncomputable def o311 (P : Params) : Obj := ⟨.none, none, .fields #[], #[]⟩
noncomputable def o312 (P : Params) : Obj := ⟨.type "tuple", none, .seq #[.str "self" 682, .str "size" 683] 0, #[]⟩
noncomputable def o313 (P : Params) : Obj := ⟨.type "tuple", none, .seq #[] 0, #[]⟩
noncomputable def o314 (P : Params) : Obj := ⟨.none, none, .func (fnAt [15, 21] "read1" "BytesIO.read1" 0 [] (.none) (.none) (.none) (.none) none (.none) (.none) 0), #[]⟩
noncomputable def o315 (P : Params) : Obj := ⟨.type "code", none, .fields #[.str "read1" 679, .str "BytesIO.read1" 680, .str "/claim/cut.py" 681, .int 160 0, .int 2 0, .int 2 0, .int 0 0, .int 3 0, .ref 301, .bool true, .int 318 0, .ref 302, .none, .ref 303, .ref 304, .ref 305, .int 684 0, .int 160 0, .str "/claim/cut.py" 685], #[]⟩
noncomputable def o316 (P : Params) : Obj := ⟨.type "function", none, .func (fnAt [15, 21] "read1" "BytesIO.read1" 3 [] (.ref 300) (.none) (.none) (.str "io" 399) none (.ref 306) (.none) 0), #[]⟩
noncomputable def o317 (P : Params) : Obj := ⟨.type "tuple", none, .seq #[] 0, #[]⟩
noncomputable def o318 (P : Params) : Obj := ⟨.none, none, .fields #[], #[]⟩
noncomputable def o319 (P : Params) : Obj := ⟨.type "tuple", none, .seq #[.str "self" 690, .str "buffer" 691, .str "start" 692, .str "n" 693] 0, #[]⟩
noncomputable def o320 (P : Params) : Obj := ⟨.type "tuple", none, .seq #[] 0, #[]⟩
noncomputable def o321 (P : Params) : Obj := ⟨.none, none, .func (fnAt [15, 22] "readinto" "BytesIO.readinto" 0 [] (.none) (.none) (.none) (.none) none (.none) (.none) 0), #[]⟩
noncomputable def o322 (P : Params) : Obj := ⟨.type "code", none, .fields #[.str "readinto" 687, .str "BytesIO.readinto" 688, .str "/claim/cut.py" 689, .int 163 0, .int 2 0, .int 2 0, .int 0 0, .int 3 0, .ref 308, .bool true, .int 318 0, .ref 309, .none, .ref 310, .ref 311, .ref 312, .int 694 0, .int 163 0, .str "/claim/cut.py" 695], #[]⟩
noncomputable def o323 (P : Params) : Obj := ⟨.type "function", none, .func (fnAt [15, 22] "readinto" "BytesIO.readinto" 3 [] (.none) (.none) (.none) (.str "io" 399) none (.ref 313) (.none) 0), #[]⟩
noncomputable def o324 (P : Params) : Obj := ⟨.type "tuple", none, .seq #[] 0, #[]⟩
noncomputable def o325 (P : Params) : Obj := ⟨.none, none, .fields #[], #[]⟩
noncomputable def o326 (P : Params) : Obj := ⟨.type "tuple", none, .seq #[.str "self" 700, .str "buffer" 701] 0, #[]⟩
noncomputable def o327 (P : Params) : Obj := ⟨.type "tuple", none, .seq #[] 0, #[]⟩
noncomputable def o328 (P : Params) : Obj := ⟨.none, none, .func (fnAt [15, 23] "readinto1" "BytesIO.readinto1" 0 [] (.none) (.none) (.none) (.none) none (.none) (.none) 0), #[]⟩
noncomputable def o329 (P : Params) : Obj := ⟨.type "code", none, .fields #[.str "readinto1" 697, .str "BytesIO.readinto1" 698, .str "/claim/cut.py" 699, .int 177 0, .int 2 0, .int 2 0, .int 0 0, .int 3 0, .ref 315, .bool true, .int 318 0, .ref 316, .none, .ref 317, .ref 318, .ref 319, .int 702 0, .int 177 0, .str "/claim/cut.py" 703], #[]⟩
noncomputable def o330 (P : Params) : Obj := ⟨.type "function", none, .func (fnAt [15, 23] "readinto1" "BytesIO.readinto1" 3 [] (.none) (.none) (.none) (.str "io" 399) none (.ref 320) (.none) 0), #[]⟩
noncomputable def o331 (P : Params) : Obj := ⟨.type "tuple", none, .seq #[.int (-1) 706] 0, #[]⟩
noncomputable def o332 (P : Params) : Obj := ⟨.type "tuple", none, .seq #[] 0, #[]⟩
noncomputable def o333 (P : Params) : Obj := ⟨.none, none, .fields #[], #[]⟩
noncomputable def o334 (P : Params) : Obj := ⟨.type "tuple", none, .seq #[.str "self" 710, .str "size" 711] 0, #[]⟩
noncomputable def o335 (P : Params) : Obj := ⟨.type "tuple", none, .seq #[] 0, #[]⟩
noncomputable def o336 (P : Params) : Obj := ⟨.none, none, .func (fnAt [15, 24] "readline" "BytesIO.readline" 0 [] (.none) (.none) (.none) (.none) none (.none) (.none) 0), #[]⟩
noncomputable def o337 (P : Params) : Obj := ⟨.type "code", none, .fields #[.str "readline" 707, .str "BytesIO.readline" 708, .str "/claim/cut.py" 709, .int 180 0, .int 2 0, .int 2 0, .int 0 0, .int 3 0, .ref 323, .bool true, .int 318 0, .ref 324, .none, .ref 325, .ref 326, .ref 327, .int 712 0, .int 180 0, .str "/claim/cut.py" 713], #[]⟩
noncomputable def o338 (P : Params) : Obj := ⟨.type "function", none, .func (fnAt [15, 24] "readline" "BytesIO.readline" 3 [] (.ref 322) (.none) (.none) (.str "io" 399) none (.ref 328) (.none) 0), #[]⟩
noncomputable def o339 (P : Params) : Obj := ⟨.type "tuple", none, .seq #[.none] 0, #[]⟩
noncomputable def o340 (P : Params) : Obj := ⟨.type "tuple", none, .seq #[] 0, #[]⟩
noncomputable def o341 (P : Params) : Obj := ⟨.none, none, .fields #[], #[]⟩
noncomputable def o342 (P : Params) : Obj := ⟨.type "tuple", none, .seq #[.str "self" 718, .str "size" 719] 0, #[]⟩
noncomputable def o343 (P : Params) : Obj := ⟨.type "tuple", none, .seq #[] 0, #[]⟩
noncomputable def o344 (P : Params) : Obj := ⟨.none, none, .func (fnAt [15, 25] "readlines" "BytesIO.readlines" 0 [] (.none) (.none) (.none) (.none) none (.none) (.none) 0), #[]⟩
noncomputable def o345 (P : Params) : Obj := ⟨.type "code", none, .fields #[.str "readlines" 715, .str "BytesIO.readlines" 716, .str "/claim/cut.py" 717, .int 187 0, .int 2 0, .int 2 0, .int 0 0, .int 3 0, .ref 331, .bool true, .int 318 0, .ref 332, .none, .ref 333, .ref 334, .ref 335, .int 720 0, .int 187 0, .str "/claim/cut.py" 721], #[]⟩
noncomputable def o346 (P : Params) : Obj := ⟨.type "function", none, .func (fnAt [15, 25] "readlines" "BytesIO.readlines" 3 [] (.ref 330) (.none) (.none) (.str "io" 399) none (.ref 336) (.none) 0), #[]⟩
noncomputable def o347 (P : Params) : Obj := ⟨.type "tuple", none, .seq #[] 0, #[]⟩
noncomputable def o348 (P : Params) : Obj := ⟨.none, none, .fields #[], #[]⟩
noncomputable def o349 (P : Params) : Obj := ⟨.type "tuple", none, .seq #[.str "self" 726] 0, #[]⟩
noncomputable def o350 (P : Params) : Obj := ⟨.type "tuple", none, .seq #[] 0, #[]⟩
noncomputable def o351 (P : Params) : Obj := ⟨.none, none, .func (fnAt [15, 26] "__iter__" "BytesIO.__iter__" 0 [] (.none) (.none) (.none) (.none) none (.none) (.none) 0), #[]⟩
noncomputable def o352 (P : Params) : Obj := ⟨.type "code", none, .fields #[.str "__iter__" 723, .str "BytesIO.__iter__" 724, .str "/claim/cut.py" 725, .int 190 0, .int 1 0, .int 0 0, .int 0 0, .int 3 0, .ref 338, .bool true, .int 318 0, .ref 339, .none, .ref 340, .ref 341, .ref 342, .int 727 0, .int 190 0, .str "/claim/cut.py" 728], #[]⟩
noncomputable def o353 (P : Params) : Obj := ⟨.type "function", none, .func (fnAt [15, 26] "__iter__" "BytesIO.__iter__" 3 [] (.none) (.none) (.none) (.str "io" 399) none (.ref 343) (.none) 0), #[]⟩
noncomputable def o354 (P : Params) : Obj := ⟨.type "tuple", none, .seq #[] 0, #[]⟩
noncomputable def o355 (P : Params) : Obj := ⟨.none, none, .fields #[], #[]⟩
noncomputable def o356 (P : Params) : Obj := ⟨.type "tuple", none, .seq #[.str "self" 733, .str "line" 734] 0, #[]⟩
noncomputable def o357 (P : Params) : Obj := ⟨.type "tuple", none, .seq #[] 0, #[]⟩
noncomputable def o358 (P : Params) : Obj := ⟨.none, none, .func (fnAt [15, 27] "__next__" "BytesIO.__next__" 0 [] (.none) (.none) (.none) (.none) none (.none) (.none) 0), #[]⟩
noncomputable def o359 (P : Params) : Obj := ⟨.type "code", none, .fields #[.str "__next__" 730, .str "BytesIO.__next__" 731, .str "/claim/cut.py" 732, .int 193 0, .int 1 0, .int 0 0, .int 0 0, .int 3 0, .ref 345, .bool true, .int 318 0, .ref 346, .none, .ref 347, .ref 348, .ref 349, .int 735 0, .int 193 0, .str "/claim/cut.py" 736], #[]⟩
noncomputable def o360 (P : Params) : Obj := ⟨.type "function", none, .func (fnAt [15, 27] "__next__" "BytesIO.__next__" 3 [] (.none) (.none) (.none) (.str "io" 399) none (.ref 350) (.none) 0), #[]⟩
noncomputable def o361 (P : Params) : Obj := ⟨.type "tuple", none, .seq #[] 0, #[]⟩
noncomputable def o362 (P : Params) : Obj := ⟨.none, none, .fields #[], #[]⟩
noncomputable def o363 (P : Params) : Obj := ⟨.type "tuple", none, .seq #[.str "self" 741, .str "b" 742, .str "n" 743, .str "start" 744] 0, #[]⟩
noncomputable def o364 (P : Params) : Obj := ⟨.type "tuple", none, .seq #[] 0, #[]⟩
noncomputable def o365 (P : Params) : Obj := ⟨.none, none, .func (fnAt [15, 28] "write" "BytesIO.write" 0 [] (.none) (.none) (.none) (.none) none (.none) (.none) 0), #[]⟩
noncomputable def o366 (P : Params) : Obj := ⟨.type "code", none, .fields #[.str "write" 738, .str "BytesIO.write" 739, .str "/claim/cut.py" 740, .int 200 0, .int 2 0, .int 2 0, .int 0 0, .int 3 0, .ref 352, .bool true, .int 318 0, .ref 353, .none, .ref 354, .ref 355, .ref 356, .int 745 0, .int 200 0, .str "/claim/cut.py" 746], #[]⟩
noncomputable def o367 (P : Params) : Obj := ⟨.type "function", none, .func (fnAt [15, 28] "write" "BytesIO.write" 3 [] (.none) (.none) (.none) (.str "io" 399) none (.ref 357) (.none) 0), #[]⟩
noncomputable def o368 (P : Params) : Obj := ⟨.type "tuple", none, .seq #[] 0, #[]⟩
noncomputable def o369 (P : Params) : Obj := ⟨.none, none, .fields #[], #[]⟩
noncomputable def o370 (P : Params) : Obj := ⟨.type "tuple", none, .seq #[.str "self" 751, .str "lines" 752] 0, #[]⟩
noncomputable def o371 (P : Params) : Obj := ⟨.type "tuple", none, .seq #[] 0, #[]⟩
noncomputable def o372 (P : Params) : Obj := ⟨.none, none, .func (fnAt [15, 29] "writelines" "BytesIO.writelines" 0 [] (.none) (.none) (.none) (.none) none (.none) (.none) 0), #[]⟩
noncomputable def o373 (P : Params) : Obj := ⟨.type "code", none, .fields #[.str "writelines" 748, .str "BytesIO.writelines" 749, .str "/claim/cut.py" 750, .int 216 0, .int 2 0, .int 2 0, .int 0 0, .int 3 0, .ref 359, .bool true, .int 318 0, .ref 360, .none, .ref 361, .ref 362, .ref 363, .int 753 0, .int 216 0, .str "/claim/cut.py" 754], #[]⟩
noncomputable def o374 (P : Params) : Obj := ⟨.type "function", none, .func (fnAt [15, 29] "writelines" "BytesIO.writelines" 3 [] (.none) (.none) (.none) (.str "io" 399) none (.ref 364) (.none) 0), #[]⟩
noncomputable def o375 (P : Params) : Obj := ⟨.type "tuple", none, .seq #[] 0, #[]⟩
noncomputable def o376 (P : Params) : Obj := ⟨.none, none, .fields #[], #[]⟩
noncomputable def o377 (P : Params) : Obj := ⟨.type "tuple", none, .seq #[.str "self" 759] 0, #[]⟩
noncomputable def o378 (P : Params) : Obj := ⟨.type "tuple", none, .seq #[] 0, #[]⟩
noncomputable def o379 (P : Params) : Obj := ⟨.none, none, .func (fnAt [15, 30] "__repr__" "BytesIO.__repr__" 0 [] (.none) (.none) (.none) (.none) none (.none) (.none) 0), #[]⟩
noncomputable def o380 (P : Params) : Obj := ⟨.type "code", none, .fields #[.str "__repr__" 756, .str "BytesIO.__repr__" 757, .str "/claim/cut.py" 758, .int 219 0, .int 1 0, .int 0 0, .int 0 0, .int 3 0, .ref 366, .bool true, .int 318 0, .ref 367, .none, .ref 368, .ref 369, .ref 370, .int 760 0, .int 219 0, .str "/claim/cut.py" 761], #[]⟩
noncomputable def o381 (P : Params) : Obj := ⟨.type "function", none, .func (fnAt [15, 30] "__repr__" "BytesIO.__repr__" 3 [] (.none) (.none) (.none) (.str "io" 399) none (.ref 371) (.none) 0), #[]⟩
noncomputable def o382 (P : Params) : Obj := ⟨.type "tuple", none, .seq #[.str "__buf" 763, .str "__pos" 764] 0, #[]⟩
noncomputable def o383 (P : Params) : Obj := ⟨.type "dict", none, .dict #[ent P "__module__" 514 (.str "_io" 519), ent P "__firstlineno__" 518 (.int 51 517), ent P "__init__" 528 (.ref 162), ent P "_BytesIO__check" 535 (.ref 169), ent P "_BytesIO__line" 546 (.ref 176), ent P "closed" 554 (.ref 184), ent P "close" 561 (.ref 191), ent P "__enter__" 568 (.ref 198), ent P "__exit__" 576 (.ref 205), ent P "readable" 583 (.ref 212), ent P "writable" 590 (.ref 219), ent P "seekable" 597 (.ref 226), ent P "isatty" 604 (.ref 233), ent P "flush" 611 (.ref 240), ent P "fileno" 618 (.ref 247), ent P "detach" 625 (.ref 254), ent P "getvalue" 632 (.ref 261), ent P "getbuffer" 639 (.ref 268), ent P "tell" 646 (.ref 275), ent P "seek" 656 (.ref 283), ent P "truncate" 664 (.ref 291), ent P "read" 676 (.ref 299), ent P "read1" 686 (.ref 307), ent P "readinto" 696 (.ref 314), ent P "readinto1" 704 (.ref 321), ent P "readline" 714 (.ref 329), ent P "readlines" 722 (.ref 337), ent P "__iter__" 729 (.ref 344), ent P "__next__" 737 (.ref 351), ent P "write" 747 (.ref 358), ent P "writelines" 755 (.ref 365), ent P "__repr__" 762 (.ref 372), ent P "__static_attributes__" 765 (.ref 373), ent P "__doc__" 766 (.none)] 2, #[]⟩
noncomputable def o384 (P : Params) : Obj := ⟨.type "type", none, .cls { name := "BytesIO", bases := [.ref 133], mro := [.ref 375, .ref 133, .ref 118, .type "object"], ns := 374, qualname := "BytesIO", hasDict := true, slotNames := [], subclasses := [], abstract := false, collection := none, hasDel := false }, #[(some (.ref 148)), none, (some (.str "BytesIO" 507)), (some (.str "BytesIO" 515)), (some (.none)), (some (.bool true))]⟩
noncomputable def o385 (P : Params) : Obj := ⟨.type "super", none, .fields #[.ref 375, .ref 375, .ref 375], #[]⟩
noncomputable def o386 (P : Params) : Obj := ⟨.type "builtin_function_or_method", none, .fields #[.builtin "object.__init_subclass__", .ref 375], #[]⟩
noncomputable def T3 (P : Params) : BT := btOf [o0 P, o1 P, o38 P, o154 P, o4 P, o5 P, o6 P, o7 P, o8 P, o9 P, o10 P, o11 P, o12 P, o13 P, o14 P, o15 P, o16 P, o17 P, o18 P, o19 P, o20 P, o21 P, o22 P, o23 P, o24 P, o25 P, o26 P, o27 P, o28 P, o29 P, o30 P, o31 P, o32 P, o33 P, o34 P, o155 P, o36 P, o37 P, o41 P, o42 P, o43 P, o44 P, o45 P, o46 P, o47 P, o48 P, o49 P, o50 P, o51 P, o52 P, o53 P, o54 P, o55 P, o56 P, o57 P, o58 P, o59 P, o60 P, o61 P, o62 P, o63 P, o64 P, o65 P, o66 P, o67 P, o68 P, o69 P, o70 P, o71 P, o72 P, o73 P, o74 P, o75 P, o76 P, o77 P, o78 P, o79 P, o80 P, o81 P, o82 P, o83 P, o84 P, o85 P, o86 P, o87 P, o88 P, o89 P, o90 P, o91 P, o92 P, o93 P, o94 P, o95 P, o96 P, o97 P, o98 P, o99 P, o100 P, o101 P, o102 P, o103 P, o104 P, o105 P, o106 P, o107 P, o108 P, o109 P, o110 P, o111 P, o112 P, o113 P, o114 P, o115 P, o116 P, o117 P, o118 P, o119 P, o120 P, o141 P, o122 P, o123 P, o124 P, o125 P, o126 P, o127 P, o128 P, o129 P, o130 P, o131 P, o132 P, o133 P, o134 P, o135 P, o156 P, o137 P, o138 P, o142 P, o143 P, o144 P, o145 P, o146 P, o147 P, o148 P, o149 P, o150 P, o151 P, o152 P, o153 P, o157 P, o158 P, o159 P, o160 P, o161 P, o162 P, o163 P, o164 P, o165 P, o166 P, o167 P, o168 P, o169 P, o170 P, o171 P, o172 P, o173 P, o174 P, o175 P, o176 P, o177 P, o178 P, o179 P, o180 P, o181 P, o182 P, o183 P, o184 P, o185 P, o186 P, o187 P, o188 P, o189 P, o190 P, o191 P, o192 P, o193 P, o194 P, o195 P, o196 P, o197 P, o198 P, o199 P, o200 P, o201 P, o202 P, o203 P, o204 P, o205 P, o206 P, o207 P, o208 P, o209 P, o210 P, o211 P, o212 P, o213 P, o214 P, o215 P, o216 P, o217 P, o218 P, o219 P, o220 P, o221 P, o222 P, o223 P, o224 P, o225 P, o226 P, o227 P, o228 P, o229 P, o230 P, o231 P, o232 P, o233 P, o234 P, o235 P, o236 P, o237 P, o238 P, o239 P, o240 P, o241 P, o242 P, o243 P, o244 P, o245 P, o246 P, o247 P, o248 P, o249 P, o250 P, o251 P, o252 P, o253 P, o254 P, o255 P, o256 P, o257 P, o258 P, o259 P, o260 P, o261 P, o262 P, o263 P, o264 P, o265 P, o266 P, o267 P, o268 P, o269 P, o270 P, o271 P, o272 P, o273 P, o274 P, o275 P, o276 P, o277 P, o278 P, o279 P, o280 P, o281 P, o282 P, o283 P, o284 P, o285 P, o286 P, o287 P, o288 P, o289 P, o290 P, o291 P, o292 P, o293 P, o294 P, o295 P, o296 P, o297 P, o298 P, o299 P, o300 P, o301 P, o302 P, o303 P, o304 P, o305 P, o306 P, o307 P, o308 P, o309 P, o310 P, o311 P, o312 P, o313 P, o314 P, o315 P, o316 P, o317 P, o318 P, o319 P, o320 P, o321 P, o322 P, o323 P, o324 P, o325 P, o326 P, o327 P, o328 P, o329 P, o330 P, o331 P, o332 P, o333 P, o334 P, o335 P, o336 P, o337 P, o338 P, o339 P, o340 P, o341 P, o342 P, o343 P, o344 P, o345 P, o346 P, o347 P, o348 P, o349 P, o350 P, o351 P, o352 P, o353 P, o354 P, o355 P, o356 P, o357 P, o358 P, o359 P, o360 P, o361 P, o362 P, o363 P, o364 P, o365 P, o366 P, o367 P, o368 P, o369 P, o370 P, o371 P, o372 P, o373 P, o374 P, o375 P, o376 P, o377 P, o378 P, o379 P, o380 P, o381 P, o382 P, o383 P, o384 P, o385 P, o386 P]
noncomputable def sts2 : List Stmt := (body0.drop 13).take 1
theorem piece2 (w : World) (os : OsState) : segRunT treeTable pw w 34 ann0 1 1278 ⟨T2 w.params, 148, life0, #[], ⟨0, 0, 0, 0⟩, 507, os⟩ (piecesOf sts2 env0 code0 ⟨49, 0, 50, 21⟩ B0) = some (.next, ⟨T3 w.params, 378, life0, #[], ⟨0, 0, 0, 0⟩, 769, os⟩, code0, ⟨51, 0, 220, 17⟩) := by kernel_rfl
noncomputable def o387 (P : Params) : Obj := ⟨.type "dict", none, .dict #[ent P "__name__" 165 (.str "io" 399), ent P "__doc__" 166 (.none), ent P "__package__" 167 (.none), ent P "__loader__" 168 (.builtin "__main__.__loader__#opaque"), ent P "__spec__" 169 (.none), ent P "__annotations__" 170 (.ref 6), ent P "__builtins__" 171 (.ref 4), ent P "__file__" 173 (.str "/claim/cut.py" 172), ent P "__cached__" 174 (.none), ent P "_sre" 275 (.ref 12), ent P "deque" 317 (.type "collections.deque"), ent P "_wall" 330 (.ref 44), ent P "dict_replace_saxutils" 342 (.ref 51), ent P "escape" 350 (.ref 60), ent P "unescape" 358 (.ref 69), ent P "_twin_re_1" 398 (.ref 74), ent P "_whence" 408 (.ref 81), ent P "_index" 416 (.ref 88), ent P "UnsupportedOperation" 438 (.ref 98), ent P "IOBase" 470 (.ref 118), ent P "BufferedIOBase" 488 (.ref 133), ent P "TextIOBase" 506 (.ref 145), ent P "BytesIO" 768 (.ref 375), ent P "StringIO" 1055 (.ref 622)] 24, #[]⟩
noncomputable def o388 (P : Params) : Obj := ⟨.none, none, .fields #[.int 3 0, .int 0 0, .ref 43, .int 7 0, .int 0 0, .ref 50, .int 11 0, .int 0 0, .ref 59, .int 18 0, .int 0 0, .ref 68, .int 26 0, .int 0 0, .ref 80, .int 31 0, .int 0 0, .ref 87, .int 38 0, .int 0 0, .ref 94, .int 40 0, .int 0 0, .ref 107, .int 47 0, .int 0 0, .ref 129, .int 49 0, .int 0 0, .ref 141, .int 51 0, .int 0 0, .ref 153, .int 221 0, .int 0 0, .ref 383], #[]⟩
noncomputable def o389 (P : Params) : Obj := ⟨.type "type", none, .cls { name := "TextIOBase", bases := [.ref 118], mro := [.ref 145, .ref 118, .type "object"], ns := 144, qualname := "TextIOBase", hasDict := true, slotNames := [], subclasses := [.ref 622], abstract := false, collection := none, hasDel := false }, #[(some (.ref 136)), none, (some (.str "TextIOBase" 489)), (some (.str "TextIOBase" 497)), (some (.none)), (some (.bool true))]⟩
noncomputable def o390 (P : Params) : Obj := ⟨.type "tuple", none, .seq #[.ref 145] 0, #[]⟩
noncomputable def o391 (P : Params) : Obj := ⟨.type "builtin_function_or_method", none, .fields #[.builtin "type.__prepare__", .type "type"], #[]⟩
noncomputable def o392 (P : Params) : Obj := ⟨.type "dict", none, .dict #[ent P "__module__" 776 (.str "_io" 781), ent P "__qualname__" 778 (.str "StringIO" 777), ent P "__firstlineno__" 780 (.int 221 779), ent P "__init__" 793 (.ref 392), ent P "_StringIO__translated" 802 (.ref 399), ent P "_StringIO__check" 809 (.ref 406), ent P "_StringIO__check_dot" 816 (.ref 413), ent P "_StringIO__line" 831 (.ref 420), ent P "closed" 839 (.ref 428), ent P "line_buffering" 847 (.ref 436), ent P "newlines" 855 (.ref 444), ent P "encoding" 863 (.ref 452), ent P "errors" 871 (.ref 460), ent P "close" 878 (.ref 467), ent P "__enter__" 885 (.ref 474), ent P "__exit__" 893 (.ref 481), ent P "readable" 900 (.ref 488), ent P "writable" 907 (.ref 495), ent P "seekable" 914 (.ref 502), ent P "isatty" 921 (.ref 509), ent P "flush" 928 (.ref 516), ent P "fileno" 935 (.ref 523), ent P "detach" 942 (.ref 530), ent P "getvalue" 949 (.ref 537), ent P "tell" 956 (.ref 544), ent P "seek" 966 (.ref 552), ent P "truncate" 974 (.ref 560), ent P "read" 986 (.ref 568), ent P "readline" 996 (.ref 576), ent P "readlines" 1006 (.ref 584), ent P "__iter__" 1013 (.ref 591), ent P "__next__" 1021 (.ref 598), ent P "write" 1033 (.ref 605), ent P "writelines" 1041 (.ref 612), ent P "__repr__" 1048 (.ref 619), ent P "__static_attributes__" 1052 (.ref 620)] 36, #[]⟩
noncomputable def o393 (P : Params) : Obj := ⟨.type "tuple", none, .seq #[] 0, #[]⟩
noncomputable def o394 (P : Params) : Obj := ⟨.none, none, .fields #[.int 224 0, .int 4 0, .ref 391, .int 237 0, .int 4 0, .ref 398, .int 245 0, .int 4 0, .ref 405, .int 249 0, .int 4 0, .ref 412, .int 253 0, .int 4 0, .ref 419, .int 286 0, .int 4 0, .ref 426, .int 290 0, .int 4 0, .ref 434, .int 294 0, .int 4 0, .ref 442, .int 298 0, .int 4 0, .ref 450, .int 302 0, .int 4 0, .ref 458, .int 305 0, .int 4 0, .ref 466, .int 308 0, .int 4 0, .ref 473, .int 312 0, .int 4 0, .ref 480, .int 315 0, .int 4 0, .ref 487, .int 319 0, .int 4 0, .ref 494, .int 323 0, .int 4 0, .ref 501, .int 327 0, .int 4 0, .ref 508, .int 331 0, .int 4 0, .ref 515, .int 334 0, .int 4 0, .ref 522, .int 337 0, .int 4 0, .ref 529, .int 340 0, .int 4 0, .ref 536, .int 343 0, .int 4 0, .ref 543, .int 347 0, .int 4 0, .ref 551, .int 364 0, .int 4 0, .ref 559, .int 367 0, .int 4 0, .ref 567, .int 381 0, .int 4 0, .ref 575, .int 388 0, .int 4 0, .ref 583, .int 391 0, .int 4 0, .ref 590, .int 395 0, .int 4 0, .ref 597, .int 402 0, .int 4 0, .ref 604, .int 421 0, .int 4 0, .ref 611, .int 424 0, .int 4 0, .ref 618], #[]⟩
noncomputable def o395 (P : Params) : Obj := ⟨.type "code", none, .fields #[.str "StringIO" 771, .str "StringIO" 772, .str "/claim/cut.py" 773, .int 221 0, .int 0 0, .int 0 0, .int 0 0, .int 0 0, .ref 381, .bool false, .int 318 0, .ref 382, .none, .none, .none, .none, .int 774 0, .int 221 0, .str "/claim/cut.py" 775], #[]⟩
noncomputable def o396 (P : Params) : Obj := ⟨.type "frame", none, .plain, #[(some (.ref 383)), (some (.ref 3)), (some (.ref 380)), none, (some (.str "io" 399)), none, (some (.ref 0))]⟩
noncomputable def o397 (P : Params) : Obj := ⟨.type "tuple", none, .seq #[.str "" 783, .str "\n" 784] 0, #[]⟩
noncomputable def o398 (P : Params) : Obj := ⟨.type "tuple", none, .seq #[] 0, #[]⟩
noncomputable def o399 (P : Params) : Obj := ⟨.none, none, .fields #[], #[]⟩
noncomputable def o400 (P : Params) : Obj := ⟨.type "tuple", none, .seq #[.str "self" 788, .str "initial_value" 789, .str "newline" 790] 0, #[]⟩
noncomputable def o401 (P : Params) : Obj := ⟨.type "tuple", none, .seq #[] 0, #[]⟩
noncomputable def o402 (P : Params) : Obj := ⟨.none, none, .func (fnAt [16, 1] "__init__" "StringIO.__init__" 0 [] (.none) (.none) (.none) (.none) none (.none) (.none) 0), #[]⟩
noncomputable def o403 (P : Params) : Obj := ⟨.type "code", none, .fields #[.str "__init__" 785, .str "StringIO.__init__" 786, .str "/claim/cut.py" 787, .int 224 0, .int 3 0, .int 0 0, .int 0 0, .int 3 0, .ref 386, .bool true, .int 318 0, .ref 387, .none, .ref 388, .ref 389, .ref 390, .int 791 0, .int 224 0, .str "/claim/cut.py" 792], #[]⟩
noncomputable def o404 (P : Params) : Obj := ⟨.type "function", none, .func (fnAt [16, 1] "__init__" "StringIO.__init__" 3 [] (.ref 385) (.none) (.none) (.str "io" 399) none (.ref 391) (.none) 0), #[]⟩
noncomputable def o405 (P : Params) : Obj := ⟨.type "tuple", none, .seq #[] 0, #[]⟩
noncomputable def o406 (P : Params) : Obj := ⟨.none, none, .fields #[], #[]⟩
noncomputable def o407 (P : Params) : Obj := ⟨.type "tuple", none, .seq #[.str "self" 797, .str "s" 798, .str "newline" 799] 0, #[]⟩
noncomputable def o408 (P : Params) : Obj := ⟨.type "tuple", none, .seq #[] 0, #[]⟩
noncomputable def o409 (P : Params) : Obj := ⟨.none, none, .func (fnAt [16, 2] "__translated" "StringIO.__translated" 0 [] (.none) (.none) (.none) (.none) none (.none) (.none) 0), #[]⟩
noncomputable def o410 (P : Params) : Obj := ⟨.type "code", none, .fields #[.str "__translated" 794, .str "StringIO.__translated" 795, .str "/claim/cut.py" 796, .int 237 0, .int 2 0, .int 0 0, .int 0 0, .int 3 0, .ref 393, .bool true, .int 318 0, .ref 394, .none, .ref 395, .ref 396, .ref 397, .int 800 0, .int 237 0, .str "/claim/cut.py" 801], #[]⟩
noncomputable def o411 (P : Params) : Obj := ⟨.type "function", none, .func (fnAt [16, 2] "__translated" "StringIO.__translated" 3 [] (.none) (.none) (.none) (.str "io" 399) none (.ref 398) (.none) 0), #[]⟩
noncomputable def o412 (P : Params) : Obj := ⟨.type "tuple", none, .seq #[] 0, #[]⟩
noncomputable def o413 (P : Params) : Obj := ⟨.none, none, .fields #[], #[]⟩
noncomputable def o414 (P : Params) : Obj := ⟨.type "tuple", none, .seq #[.str "self" 806] 0, #[]⟩
noncomputable def o415 (P : Params) : Obj := ⟨.type "tuple", none, .seq #[] 0, #[]⟩
noncomputable def o416 (P : Params) : Obj := ⟨.none, none, .func (fnAt [16, 3] "__check" "StringIO.__check" 0 [] (.none) (.none) (.none) (.none) none (.none) (.none) 0), #[]⟩
noncomputable def o417 (P : Params) : Obj := ⟨.type "code", none, .fields #[.str "__check" 803, .str "StringIO.__check" 804, .str "/claim/cut.py" 805, .int 245 0, .int 1 0, .int 0 0, .int 0 0, .int 3 0, .ref 400, .bool true, .int 318 0, .ref 401, .none, .ref 402, .ref 403, .ref 404, .int 807 0, .int 245 0, .str "/claim/cut.py" 808], #[]⟩
noncomputable def o418 (P : Params) : Obj := ⟨.type "function", none, .func (fnAt [16, 3] "__check" "StringIO.__check" 3 [] (.none) (.none) (.none) (.str "io" 399) none (.ref 405) (.none) 0), #[]⟩
noncomputable def o419 (P : Params) : Obj := ⟨.type "tuple", none, .seq #[] 0, #[]⟩
noncomputable def o420 (P : Params) : Obj := ⟨.none, none, .fields #[], #[]⟩
noncomputable def o421 (P : Params) : Obj := ⟨.type "tuple", none, .seq #[.str "self" 813] 0, #[]⟩
noncomputable def o422 (P : Params) : Obj := ⟨.type "tuple", none, .seq #[] 0, #[]⟩
noncomputable def o423 (P : Params) : Obj := ⟨.none, none, .func (fnAt [16, 4] "__check_dot" "StringIO.__check_dot" 0 [] (.none) (.none) (.none) (.none) none (.none) (.none) 0), #[]⟩
noncomputable def o424 (P : Params) : Obj := ⟨.type "code", none, .fields #[.str "__check_dot" 810, .str "StringIO.__check_dot" 811, .str "/claim/cut.py" 812, .int 249 0, .int 1 0, .int 0 0, .int 0 0, .int 3 0, .ref 407, .bool true, .int 318 0, .ref 408, .none, .ref 409, .ref 410, .ref 411, .int 814 0, .int 249 0, .str "/claim/cut.py" 815], #[]⟩
noncomputable def o425 (P : Params) : Obj := ⟨.type "function", none, .func (fnAt [16, 4] "__check_dot" "StringIO.__check_dot" 3 [] (.none) (.none) (.none) (.str "io" 399) none (.ref 412) (.none) 0), #[]⟩
noncomputable def o426 (P : Params) : Obj := ⟨.type "tuple", none, .seq #[] 0, #[]⟩
noncomputable def o427 (P : Params) : Obj := ⟨.none, none, .fields #[], #[]⟩
noncomputable def o428 (P : Params) : Obj := ⟨.type "tuple", none, .seq #[.str "self" 820, .str "limit" 821, .str "start" 822, .str "stop" 823, .str "cut" 824, .str "newline" 825, .str "i" 826, .str "j" 827, .str "end" 828] 0, #[]⟩
noncomputable def o429 (P : Params) : Obj := ⟨.type "tuple", none, .seq #[] 0, #[]⟩
noncomputable def o430 (P : Params) : Obj := ⟨.none, none, .func (fnAt [16, 5] "__line" "StringIO.__line" 0 [] (.none) (.none) (.none) (.none) none (.none) (.none) 0), #[]⟩
noncomputable def o431 (P : Params) : Obj := ⟨.type "code", none, .fields #[.str "__line" 817, .str "StringIO.__line" 818, .str "/claim/cut.py" 819, .int 253 0, .int 2 0, .int 0 0, .int 0 0, .int 3 0, .ref 414, .bool true, .int 318 0, .ref 415, .none, .ref 416, .ref 417, .ref 418, .int 829 0, .int 253 0, .str "/claim/cut.py" 830], #[]⟩
noncomputable def o432 (P : Params) : Obj := ⟨.type "function", none, .func (fnAt [16, 5] "__line" "StringIO.__line" 3 [] (.none) (.none) (.none) (.str "io" 399) none (.ref 419) (.none) 0), #[]⟩
noncomputable def o433 (P : Params) : Obj := ⟨.type "tuple", none, .seq #[] 0, #[]⟩
noncomputable def o434 (P : Params) : Obj := ⟨.none, none, .fields #[], #[]⟩
noncomputable def o435 (P : Params) : Obj := ⟨.type "tuple", none, .seq #[.str "self" 835] 0, #[]⟩
noncomputable def o436 (P : Params) : Obj := ⟨.type "tuple", none, .seq #[] 0, #[]⟩
noncomputable def o437 (P : Params) : Obj := ⟨.none, none, .func (fnAt [16, 6] "closed" "StringIO.closed" 0 [] (.none) (.none) (.none) (.none) none (.none) (.none) 0), #[]⟩
noncomputable def o438 (P : Params) : Obj := ⟨.type "code", none, .fields #[.str "closed" 832, .str "StringIO.closed" 833, .str "/claim/cut.py" 834, .int 285 0, .int 1 0, .int 0 0, .int 0 0, .int 3 0, .ref 421, .bool true, .int 318 0, .ref 422, .none, .ref 423, .ref 424, .ref 425, .int 836 0, .int 285 0, .str "/claim/cut.py" 837], #[]⟩
noncomputable def o439 (P : Params) : Obj := ⟨.type "function", none, .func (fnAt [16, 6] "closed" "StringIO.closed" 3 [] (.none) (.none) (.none) (.str "io" 399) none (.ref 426) (.none) 0), #[]⟩
noncomputable def o440 (P : Params) : Obj := ⟨.type "property", none, .fields #[.ref 427, .none, .none, .none, .str "closed" 839, .bool false], #[]⟩
noncomputable def o441 (P : Params) : Obj := ⟨.type "tuple", none, .seq #[] 0, #[]⟩
noncomputable def o442 (P : Params) : Obj := ⟨.none, none, .fields #[], #[]⟩
noncomputable def o443 (P : Params) : Obj := ⟨.type "tuple", none, .seq #[.str "self" 843] 0, #[]⟩
noncomputable def o444 (P : Params) : Obj := ⟨.type "tuple", none, .seq #[] 0, #[]⟩
noncomputable def o445 (P : Params) : Obj := ⟨.none, none, .func (fnAt [16, 7] "line_buffering" "StringIO.line_buffering" 0 [] (.none) (.none) (.none) (.none) none (.none) (.none) 0), #[]⟩
noncomputable def o446 (P : Params) : Obj := ⟨.type "code", none, .fields #[.str "line_buffering" 840, .str "StringIO.line_buffering" 841, .str "/claim/cut.py" 842, .int 289 0, .int 1 0, .int 0 0, .int 0 0, .int 3 0, .ref 429, .bool true, .int 318 0, .ref 430, .none, .ref 431, .ref 432, .ref 433, .int 844 0, .int 289 0, .str "/claim/cut.py" 845], #[]⟩
noncomputable def o447 (P : Params) : Obj := ⟨.type "function", none, .func (fnAt [16, 7] "line_buffering" "StringIO.line_buffering" 3 [] (.none) (.none) (.none) (.str "io" 399) none (.ref 434) (.none) 0), #[]⟩
noncomputable def o448 (P : Params) : Obj := ⟨.type "property", none, .fields #[.ref 435, .none, .none, .none, .str "line_buffering" 847, .bool false], #[]⟩
noncomputable def o449 (P : Params) : Obj := ⟨.type "tuple", none, .seq #[] 0, #[]⟩
noncomputable def o450 (P : Params) : Obj := ⟨.none, none, .fields #[], #[]⟩
noncomputable def o451 (P : Params) : Obj := ⟨.type "tuple", none, .seq #[.str "self" 851] 0, #[]⟩
noncomputable def o452 (P : Params) : Obj := ⟨.type "tuple", none, .seq #[] 0, #[]⟩
noncomputable def o453 (P : Params) : Obj := ⟨.none, none, .func (fnAt [16, 8] "newlines" "StringIO.newlines" 0 [] (.none) (.none) (.none) (.none) none (.none) (.none) 0), #[]⟩
noncomputable def o454 (P : Params) : Obj := ⟨.type "code", none, .fields #[.str "newlines" 848, .str "StringIO.newlines" 849, .str "/claim/cut.py" 850, .int 293 0, .int 1 0, .int 0 0, .int 0 0, .int 3 0, .ref 437, .bool true, .int 318 0, .ref 438, .none, .ref 439, .ref 440, .ref 441, .int 852 0, .int 293 0, .str "/claim/cut.py" 853], #[]⟩
noncomputable def o455 (P : Params) : Obj := ⟨.type "function", none, .func (fnAt [16, 8] "newlines" "StringIO.newlines" 3 [] (.none) (.none) (.none) (.str "io" 399) none (.ref 442) (.none) 0), #[]⟩
noncomputable def o456 (P : Params) : Obj := ⟨.type "property", none, .fields #[.ref 443, .none, .none, .none, .str "newlines" 855, .bool false], #[]⟩
noncomputable def o457 (P : Params) : Obj := ⟨.type "tuple", none, .seq #[] 0, #[]⟩
noncomputable def o458 (P : Params) : Obj := ⟨.none, none, .fields #[], #[]⟩
noncomputable def o459 (P : Params) : Obj := ⟨.type "tuple", none, .seq #[.str "self" 859] 0, #[]⟩
noncomputable def o460 (P : Params) : Obj := ⟨.type "tuple", none, .seq #[] 0, #[]⟩
noncomputable def o461 (P : Params) : Obj := ⟨.none, none, .func (fnAt [16, 9] "encoding" "StringIO.encoding" 0 [] (.none) (.none) (.none) (.none) none (.none) (.none) 0), #[]⟩
noncomputable def o462 (P : Params) : Obj := ⟨.type "code", none, .fields #[.str "encoding" 856, .str "StringIO.encoding" 857, .str "/claim/cut.py" 858, .int 297 0, .int 1 0, .int 0 0, .int 0 0, .int 3 0, .ref 445, .bool true, .int 318 0, .ref 446, .none, .ref 447, .ref 448, .ref 449, .int 860 0, .int 297 0, .str "/claim/cut.py" 861], #[]⟩
noncomputable def o463 (P : Params) : Obj := ⟨.type "function", none, .func (fnAt [16, 9] "encoding" "StringIO.encoding" 3 [] (.none) (.none) (.none) (.str "io" 399) none (.ref 450) (.none) 0), #[]⟩
noncomputable def o464 (P : Params) : Obj := ⟨.type "property", none, .fields #[.ref 451, .none, .none, .none, .str "encoding" 863, .bool false], #[]⟩
noncomputable def o465 (P : Params) : Obj := ⟨.type "tuple", none, .seq #[] 0, #[]⟩
noncomputable def o466 (P : Params) : Obj := ⟨.none, none, .fields #[], #[]⟩
noncomputable def o467 (P : Params) : Obj := ⟨.type "tuple", none, .seq #[.str "self" 867] 0, #[]⟩
noncomputable def o468 (P : Params) : Obj := ⟨.type "tuple", none, .seq #[] 0, #[]⟩
noncomputable def o469 (P : Params) : Obj := ⟨.none, none, .func (fnAt [16, 10] "errors" "StringIO.errors" 0 [] (.none) (.none) (.none) (.none) none (.none) (.none) 0), #[]⟩
noncomputable def o470 (P : Params) : Obj := ⟨.type "code", none, .fields #[.str "errors" 864, .str "StringIO.errors" 865, .str "/claim/cut.py" 866, .int 301 0, .int 1 0, .int 0 0, .int 0 0, .int 3 0, .ref 453, .bool true, .int 318 0, .ref 454, .none, .ref 455, .ref 456, .ref 457, .int 868 0, .int 301 0, .str "/claim/cut.py" 869], #[]⟩
noncomputable def o471 (P : Params) : Obj := ⟨.type "function", none, .func (fnAt [16, 10] "errors" "StringIO.errors" 3 [] (.none) (.none) (.none) (.str "io" 399) none (.ref 458) (.none) 0), #[]⟩
noncomputable def o472 (P : Params) : Obj := ⟨.type "property", none, .fields #[.ref 459, .none, .none, .none, .str "errors" 871, .bool false], #[]⟩
noncomputable def o473 (P : Params) : Obj := ⟨.type "tuple", none, .seq #[] 0, #[]⟩
noncomputable def o474 (P : Params) : Obj := ⟨.none, none, .fields #[], #[]⟩
noncomputable def o475 (P : Params) : Obj := ⟨.type "tuple", none, .seq #[.str "self" 875] 0, #[]⟩
noncomputable def o476 (P : Params) : Obj := ⟨.type "tuple", none, .seq #[] 0, #[]⟩
noncomputable def o477 (P : Params) : Obj := ⟨.none, none, .func (fnAt [16, 11] "close" "StringIO.close" 0 [] (.none) (.none) (.none) (.none) none (.none) (.none) 0), #[]⟩
noncomputable def o478 (P : Params) : Obj := ⟨.type "code", none, .fields #[.str "close" 872, .str "StringIO.close" 873, .str "/claim/cut.py" 874, .int 305 0, .int 1 0, .int 0 0, .int 0 0, .int 3 0, .ref 461, .bool true, .int 318 0, .ref 462, .none, .ref 463, .ref 464, .ref 465, .int 876 0, .int 305 0, .str "/claim/cut.py" 877], #[]⟩
noncomputable def o479 (P : Params) : Obj := ⟨.type "function", none, .func (fnAt [16, 11] "close" "StringIO.close" 3 [] (.none) (.none) (.none) (.str "io" 399) none (.ref 466) (.none) 0), #[]⟩
noncomputable def o480 (P : Params) : Obj := ⟨.type "tuple", none, .seq #[] 0, #[]⟩
noncomputable def o481 (P : Params) : Obj := ⟨.none, none, .fields #[], #[]⟩
noncomputable def o482 (P : Params) : Obj := ⟨.type "tuple", none, .seq #[.str "self" 882] 0, #[]⟩
noncomputable def o483 (P : Params) : Obj := ⟨.type "tuple", none, .seq #[] 0, #[]⟩
noncomputable def o484 (P : Params) : Obj := ⟨.none, none, .func (fnAt [16, 12] "__enter__" "StringIO.__enter__" 0 [] (.none) (.none) (.none) (.none) none (.none) (.none) 0), #[]⟩
noncomputable def o485 (P : Params) : Obj := ⟨.type "code", none, .fields #[.str "__enter__" 879, .str "StringIO.__enter__" 880, .str "/claim/cut.py" 881, .int 308 0, .int 1 0, .int 0 0, .int 0 0, .int 3 0, .ref 468, .bool true, .int 318 0, .ref 469, .none, .ref 470, .ref 471, .ref 472, .int 883 0, .int 308 0, .str "/claim/cut.py" 884], #[]⟩
noncomputable def o486 (P : Params) : Obj := ⟨.type "function", none, .func (fnAt [16, 12] "__enter__" "StringIO.__enter__" 3 [] (.none) (.none) (.none) (.str "io" 399) none (.ref 473) (.none) 0), #[]⟩
noncomputable def o487 (P : Params) : Obj := ⟨.type "tuple", none, .seq #[] 0, #[]⟩
noncomputable def o488 (P : Params) : Obj := ⟨.none, none, .fields #[], #[]⟩
noncomputable def o489 (P : Params) : Obj := ⟨.type "tuple", none, .seq #[.str "self" 889, .str "args" 890] 0, #[]⟩
noncomputable def o490 (P : Params) : Obj := ⟨.type "tuple", none, .seq #[] 0, #[]⟩
noncomputable def o491 (P : Params) : Obj := ⟨.none, none, .func (fnAt [16, 13] "__exit__" "StringIO.__exit__" 0 [] (.none) (.none) (.none) (.none) none (.none) (.none) 0), #[]⟩
noncomputable def o492 (P : Params) : Obj := ⟨.type "code", none, .fields #[.str "__exit__" 886, .str "StringIO.__exit__" 887, .str "/claim/cut.py" 888, .int 312 0, .int 1 0, .int 0 0, .int 0 0, .int 7 0, .ref 475, .bool true, .int 318 0, .ref 476, .none, .ref 477, .ref 478, .ref 479, .int 891 0, .int 312 0, .str "/claim/cut.py" 892], #[]⟩
noncomputable def o493 (P : Params) : Obj := ⟨.type "function", none, .func (fnAt [16, 13] "__exit__" "StringIO.__exit__" 3 [] (.none) (.none) (.none) (.str "io" 399) none (.ref 480) (.none) 0), #[]⟩
noncomputable def o494 (P : Params) : Obj := ⟨.type "tuple", none, .seq #[] 0, #[]⟩
noncomputable def o495 (P : Params) : Obj := ⟨.none, none, .fields #[], #[]⟩
noncomputable def o496 (P : Params) : Obj := ⟨.type "tuple", none, .seq #[.str "self" 897] 0, #[]⟩
noncomputable def o497 (P : Params) : Obj := ⟨.type "tuple", none, .seq #[] 0, #[]⟩
noncomputable def o498 (P : Params) : Obj := ⟨.none, none, .func (fnAt [16, 14] "readable" "StringIO.readable" 0 [] (.none) (.none) (.none) (.none) none (.none) (.none) 0), #[]⟩
noncomputable def o499 (P : Params) : Obj := ⟨.type "code", none, .fields #[.str "readable" 894, .str "StringIO.readable" 895, .str "/claim/cut.py" 896, .int 315 0, .int 1 0, .int 0 0, .int 0 0, .int 3 0, .ref 482, .bool true, .int 318 0, .ref 483, .none, .ref 484, .ref 485, .ref 486, .int 898 0, .int 315 0, .str "/claim/cut.py" 899], #[]⟩
noncomputable def o500 (P : Params) : Obj := ⟨.type "function", none, .func (fnAt [16, 14] "readable" "StringIO.readable" 3 [] (.none) (.none) (.none) (.str "io" 399) none (.ref 487) (.none) 0), #[]⟩
noncomputable def o501 (P : Params) : Obj := ⟨.type "tuple", none, .seq #[] 0, #[]⟩
noncomputable def o502 (P : Params) : Obj := ⟨.none, none, .fields #[], #[]⟩
noncomputable def o503 (P : Params) : Obj := ⟨.type "tuple", none, .seq #[.str "self" 904] 0, #[]⟩
noncomputable def o504 (P : Params) : Obj := ⟨.type "tuple", none, .seq #[] 0, #[]⟩
noncomputable def o505 (P : Params) : Obj := ⟨.none, none, .func (fnAt [16, 15] "writable" "StringIO.writable" 0 [] (.none) (.none) (.none) (.none) none (.none) (.none) 0), #[]⟩
noncomputable def o506 (P : Params) : Obj := ⟨.type "code", none, .fields #[.str "writable" 901, .str "StringIO.writable" 902, .str "/claim/cut.py" 903, .int 319 0, .int 1 0, .int 0 0, .int 0 0, .int 3 0, .ref 489, .bool true, .int 318 0, .ref 490, .none, .ref 491, .ref 492, .ref 493, .int 905 0, .int 319 0, .str "/claim/cut.py" 906], #[]⟩
noncomputable def o507 (P : Params) : Obj := ⟨.type "function", none, .func (fnAt [16, 15] "writable" "StringIO.writable" 3 [] (.none) (.none) (.none) (.str "io" 399) none (.ref 494) (.none) 0), #[]⟩
noncomputable def o508 (P : Params) : Obj := ⟨.type "tuple", none, .seq #[] 0, #[]⟩
noncomputable def o509 (P : Params) : Obj := ⟨.none, none, .fields #[], #[]⟩
noncomputable def o510 (P : Params) : Obj := ⟨.type "tuple", none, .seq #[.str "self" 911] 0, #[]⟩
noncomputable def o511 (P : Params) : Obj := ⟨.type "tuple", none, .seq #[] 0, #[]⟩
noncomputable def o512 (P : Params) : Obj := ⟨.none, none, .func (fnAt [16, 16] "seekable" "StringIO.seekable" 0 [] (.none) (.none) (.none) (.none) none (.none) (.none) 0), #[]⟩
noncomputable def o513 (P : Params) : Obj := ⟨.type "code", none, .fields #[.str "seekable" 908, .str "StringIO.seekable" 909, .str "/claim/cut.py" 910, .int 323 0, .int 1 0, .int 0 0, .int 0 0, .int 3 0, .ref 496, .bool true, .int 318 0, .ref 497, .none, .ref 498, .ref 499, .ref 500, .int 912 0, .int 323 0, .str "/claim/cut.py" 913], #[]⟩
noncomputable def o514 (P : Params) : Obj := ⟨.type "function", none, .func (fnAt [16, 16] "seekable" "StringIO.seekable" 3 [] (.none) (.none) (.none) (.str "io" 399) none (.ref 501) (.none) 0), #[]⟩
noncomputable def o515 (P : Params) : Obj := ⟨.type "tuple", none, .seq #[] 0, #[]⟩
noncomputable def o516 (P : Params) : Obj := ⟨.none, none, .fields #[], #[]⟩
noncomputable def o517 (P : Params) : Obj := ⟨.type "tuple", none, .seq #[.str "self" 918] 0, #[]⟩
noncomputable def o518 (P : Params) : Obj := ⟨.type "tuple", none, .seq #[] 0, #[]⟩
noncomputable def o519 (P : Params) : Obj := ⟨.none, none, .func (fnAt [16, 17] "isatty" "StringIO.isatty" 0 [] (.none) (.none) (.none) (.none) none (.none) (.none) 0), #[]⟩
noncomputable def o520 (P : Params) : Obj := ⟨.type "code", none, .fields #[.str "isatty" 915, .str "StringIO.isatty" 916, .str "/claim/cut.py" 917, .int 327 0, .int 1 0, .int 0 0, .int 0 0, .int 3 0, .ref 503, .bool true, .int 318 0, .ref 504, .none, .ref 505, .ref 506, .ref 507, .int 919 0, .int 327 0, .str "/claim/cut.py" 920], #[]⟩
noncomputable def o521 (P : Params) : Obj := ⟨.type "function", none, .func (fnAt [16, 17] "isatty" "StringIO.isatty" 3 [] (.none) (.none) (.none) (.str "io" 399) none (.ref 508) (.none) 0), #[]⟩
noncomputable def o522 (P : Params) : Obj := ⟨.type "tuple", none, .seq #[] 0, #[]⟩
noncomputable def o523 (P : Params) : Obj := ⟨.none, none, .fields #[], #[]⟩
noncomputable def o524 (P : Params) : Obj := ⟨.type "tuple", none, .seq #[.str "self" 925] 0, #[]⟩
noncomputable def o525 (P : Params) : Obj := ⟨.type "tuple", none, .seq #[] 0, #[]⟩
noncomputable def o526 (P : Params) : Obj := ⟨.none, none, .func (fnAt [16, 18] "flush" "StringIO.flush" 0 [] (.none) (.none) (.none) (.none) none (.none) (.none) 0), #[]⟩
noncomputable def o527 (P : Params) : Obj := ⟨.type "code", none, .fields #[.str "flush" 922, .str "StringIO.flush" 923, .str "/claim/cut.py" 924, .int 331 0, .int 1 0, .int 0 0, .int 0 0, .int 3 0, .ref 510, .bool true, .int 318 0, .ref 511, .none, .ref 512, .ref 513, .ref 514, .int 926 0, .int 331 0, .str "/claim/cut.py" 927], #[]⟩
noncomputable def o528 (P : Params) : Obj := ⟨.type "function", none, .func (fnAt [16, 18] "flush" "StringIO.flush" 3 [] (.none) (.none) (.none) (.str "io" 399) none (.ref 515) (.none) 0), #[]⟩
noncomputable def o529 (P : Params) : Obj := ⟨.type "tuple", none, .seq #[] 0, #[]⟩
noncomputable def o530 (P : Params) : Obj := ⟨.none, none, .fields #[], #[]⟩
noncomputable def o531 (P : Params) : Obj := ⟨.type "tuple", none, .seq #[.str "self" 932] 0, #[]⟩
noncomputable def o532 (P : Params) : Obj := ⟨.type "tuple", none, .seq #[] 0, #[]⟩
noncomputable def o533 (P : Params) : Obj := ⟨.none, none, .func (fnAt [16, 19] "fileno" "StringIO.fileno" 0 [] (.none) (.none) (.none) (.none) none (.none) (.none) 0), #[]⟩
noncomputable def o534 (P : Params) : Obj := ⟨.type "code", none, .fields #[.str "fileno" 929, .str "StringIO.fileno" 930, .str "/claim/cut.py" 931, .int 334 0, .int 1 0, .int 0 0, .int 0 0, .int 3 0, .ref 517, .bool true, .int 318 0, .ref 518, .none, .ref 519, .ref 520, .ref 521, .int 933 0, .int 334 0, .str "/claim/cut.py" 934], #[]⟩
noncomputable def o535 (P : Params) : Obj := ⟨.type "function", none, .func (fnAt [16, 19] "fileno" "StringIO.fileno" 3 [] (.none) (.none) (.none) (.str "io" 399) none (.ref 522) (.none) 0), #[]⟩
noncomputable def o536 (P : Params) : Obj := ⟨.type "tuple", none, .seq #[] 0, #[]⟩
noncomputable def o537 (P : Params) : Obj := ⟨.none, none, .fields #[], #[]⟩
noncomputable def o538 (P : Params) : Obj := ⟨.type "tuple", none, .seq #[.str "self" 939] 0, #[]⟩
noncomputable def o539 (P : Params) : Obj := ⟨.type "tuple", none, .seq #[] 0, #[]⟩
noncomputable def o540 (P : Params) : Obj := ⟨.none, none, .func (fnAt [16, 20] "detach" "StringIO.detach" 0 [] (.none) (.none) (.none) (.none) none (.none) (.none) 0), #[]⟩
noncomputable def o541 (P : Params) : Obj := ⟨.type "code", none, .fields #[.str "detach" 936, .str "StringIO.detach" 937, .str "/claim/cut.py" 938, .int 337 0, .int 1 0, .int 0 0, .int 0 0, .int 3 0, .ref 524, .bool true, .int 318 0, .ref 525, .none, .ref 526, .ref 527, .ref 528, .int 940 0, .int 337 0, .str "/claim/cut.py" 941], #[]⟩
noncomputable def o542 (P : Params) : Obj := ⟨.type "function", none, .func (fnAt [16, 20] "detach" "StringIO.detach" 3 [] (.none) (.none) (.none) (.str "io" 399) none (.ref 529) (.none) 0), #[]⟩
noncomputable def o543 (P : Params) : Obj := ⟨.type "tuple", none, .seq #[] 0, #[]⟩
noncomputable def o544 (P : Params) : Obj := ⟨.none, none, .fields #[], #[]⟩
noncomputable def o545 (P : Params) : Obj := ⟨.type "tuple", none, .seq #[.str "self" 946] 0, #[]⟩
noncomputable def o546 (P : Params) : Obj := ⟨.type "tuple", none, .seq #[] 0, #[]⟩
noncomputable def o547 (P : Params) : Obj := ⟨.none, none, .func (fnAt [16, 21] "getvalue" "StringIO.getvalue" 0 [] (.none) (.none) (.none) (.none) none (.none) (.none) 0), #[]⟩
noncomputable def o548 (P : Params) : Obj := ⟨.type "code", none, .fields #[.str "getvalue" 943, .str "StringIO.getvalue" 944, .str "/claim/cut.py" 945, .int 340 0, .int 1 0, .int 0 0, .int 0 0, .int 3 0, .ref 531, .bool true, .int 318 0, .ref 532, .none, .ref 533, .ref 534, .ref 535, .int 947 0, .int 340 0, .str "/claim/cut.py" 948], #[]⟩
noncomputable def o549 (P : Params) : Obj := ⟨.type "function", none, .func (fnAt [16, 21] "getvalue" "StringIO.getvalue" 3 [] (.none) (.none) (.none) (.str "io" 399) none (.ref 536) (.none) 0), #[]⟩
noncomputable def o550 (P : Params) : Obj := ⟨.type "tuple", none, .seq #[] 0, #[]⟩
noncomputable def o551 (P : Params) : Obj := ⟨.none, none, .fields #[], #[]⟩
noncomputable def o552 (P : Params) : Obj := ⟨.type "tuple", none, .seq #[.str "self" 953] 0, #[]⟩
noncomputable def o553 (P : Params) : Obj := ⟨.type "tuple", none, .seq #[] 0, #[]⟩
noncomputable def o554 (P : Params) : Obj := ⟨.none, none, .func (fnAt [16, 22] "tell" "StringIO.tell" 0 [] (.none) (.none) (.none) (.none) none (.none) (.none) 0), #[]⟩
noncomputable def o555 (P : Params) : Obj := ⟨.type "code", none, .fields #[.str "tell" 950, .str "StringIO.tell" 951, .str "/claim/cut.py" 952, .int 343 0, .int 1 0, .int 0 0, .int 0 0, .int 3 0, .ref 538, .bool true, .int 318 0, .ref 539, .none, .ref 540, .ref 541, .ref 542, .int 954 0, .int 343 0, .str "/claim/cut.py" 955], #[]⟩
noncomputable def o556 (P : Params) : Obj := ⟨.type "function", none, .func (fnAt [16, 22] "tell" "StringIO.tell" 3 [] (.none) (.none) (.none) (.str "io" 399) none (.ref 543) (.none) 0), #[]⟩
noncomputable def o557 (P : Params) : Obj := ⟨.type "tuple", none, .seq #[.int 0 957] 0, #[]⟩
noncomputable def o558 (P : Params) : Obj := ⟨.type "tuple", none, .seq #[] 0, #[]⟩
noncomputable def o559 (P : Params) : Obj := ⟨.none, none, .fields #[], #[]⟩
noncomputable def o560 (P : Params) : Obj := ⟨.type "tuple", none, .seq #[.str "self" 961, .str "pos" 962, .str "whence" 963] 0, #[]⟩
noncomputable def o561 (P : Params) : Obj := ⟨.type "tuple", none, .seq #[] 0, #[]⟩
noncomputable def o562 (P : Params) : Obj := ⟨.none, none, .func (fnAt [16, 23] "seek" "StringIO.seek" 0 [] (.none) (.none) (.none) (.none) none (.none) (.none) 0), #[]⟩
noncomputable def o563 (P : Params) : Obj := ⟨.type "code", none, .fields #[.str "seek" 958, .str "StringIO.seek" 959, .str "/claim/cut.py" 960, .int 347 0, .int 3 0, .int 3 0, .int 0 0, .int 3 0, .ref 546, .bool true, .int 318 0, .ref 547, .none, .ref 548, .ref 549, .ref 550, .int 964 0, .int 347 0, .str "/claim/cut.py" 965], #[]⟩
noncomputable def o564 (P : Params) : Obj := ⟨.type "function", none, .func (fnAt [16, 23] "seek" "StringIO.seek" 3 [] (.ref 545) (.none) (.none) (.str "io" 399) none (.ref 551) (.none) 0), #[]⟩
noncomputable def o565 (P : Params) : Obj := ⟨.type "tuple", none, .seq #[.none] 0, #[]⟩
noncomputable def o566 (P : Params) : Obj := ⟨.type "tuple", none, .seq #[] 0, #[]⟩
noncomputable def o567 (P : Params) : Obj := ⟨.none, none, .fields #[], #[]⟩
noncomputable def o568 (P : Params) : Obj := ⟨.type "tuple", none, .seq #[.str "self" 970, .str "pos" 971] 0, #[]⟩
noncomputable def o569 (P : Params) : Obj := ⟨.type "tuple", none, .seq #[] 0, #[]⟩
noncomputable def o570 (P : Params) : Obj := ⟨.none, none, .func (fnAt [16, 24] "truncate" "StringIO.truncate" 0 [] (.none) (.none) (.none) (.none) none (.none) (.none) 0), #[]⟩
noncomputable def o571 (P : Params) : Obj := ⟨.type "code", none, .fields #[.str "truncate" 967, .str "StringIO.truncate" 968, .str "/claim/cut.py" 969, .int 364 0, .int 2 0, .int 2 0, .int 0 0, .int 3 0, .ref 554, .bool true, .int 318 0, .ref 555, .none, .ref 556, .ref 557, .ref 558, .int 972 0, .int 364 0, .str "/claim/cut.py" 973], #[]⟩
noncomputable def o572 (P : Params) : Obj := ⟨.type "function", none, .func (fnAt [16, 24] "truncate" "StringIO.truncate" 3 [] (.ref 553) (.none) (.none) (.str "io" 399) none (.ref 559) (.none) 0), #[]⟩
noncomputable def o573 (P : Params) : Obj := ⟨.type "tuple", none, .seq #[.int (-1) 976] 0, #[]⟩
noncomputable def o574 (P : Params) : Obj := ⟨.type "tuple", none, .seq #[] 0, #[]⟩
noncomputable def o575 (P : Params) : Obj := ⟨.none, none, .fields #[], #[]⟩
noncomputable def o576 (P : Params) : Obj := ⟨.type "tuple", none, .seq #[.str "self" 980, .str "size" 981, .str "start" 982, .str "stop" 983] 0, #[]⟩
noncomputable def o577 (P : Params) : Obj := ⟨.type "tuple", none, .seq #[] 0, #[]⟩
noncomputable def o578 (P : Params) : Obj := ⟨.none, none, .func (fnAt [16, 25] "read" "StringIO.read" 0 [] (.none) (.none) (.none) (.none) none (.none) (.none) 0), #[]⟩
noncomputable def o579 (P : Params) : Obj := ⟨.type "code", none, .fields #[.str "read" 977, .str "StringIO.read" 978, .str "/claim/cut.py" 979, .int 367 0, .int 2 0, .int 2 0, .int 0 0, .int 3 0, .ref 562, .bool true, .int 318 0, .ref 563, .none, .ref 564, .ref 565, .ref 566, .int 984 0, .int 367 0, .str "/claim/cut.py" 985], #[]⟩
noncomputable def o580 (P : Params) : Obj := ⟨.type "function", none, .func (fnAt [16, 25] "read" "StringIO.read" 3 [] (.ref 561) (.none) (.none) (.str "io" 399) none (.ref 567) (.none) 0), #[]⟩
noncomputable def o581 (P : Params) : Obj := ⟨.type "tuple", none, .seq #[.int (-1) 988] 0, #[]⟩
noncomputable def o582 (P : Params) : Obj := ⟨.type "tuple", none, .seq #[] 0, #[]⟩
noncomputable def o583 (P : Params) : Obj := ⟨.none, none, .fields #[], #[]⟩
noncomputable def o584 (P : Params) : Obj := ⟨.type "tuple", none, .seq #[.str "self" 992, .str "size" 993] 0, #[]⟩
noncomputable def o585 (P : Params) : Obj := ⟨.type "tuple", none, .seq #[] 0, #[]⟩
noncomputable def o586 (P : Params) : Obj := ⟨.none, none, .func (fnAt [16, 26] "readline" "StringIO.readline" 0 [] (.none) (.none) (.none) (.none) none (.none) (.none) 0), #[]⟩
noncomputable def o587 (P : Params) : Obj := ⟨.type "code", none, .fields #[.str "readline" 989, .str "StringIO.readline" 990, .str "/claim/cut.py" 991, .int 381 0, .int 2 0, .int 2 0, .int 0 0, .int 3 0, .ref 570, .bool true, .int 318 0, .ref 571, .none, .ref 572, .ref 573, .ref 574, .int 994 0, .int 381 0, .str "/claim/cut.py" 995], #[]⟩
noncomputable def o588 (P : Params) : Obj := ⟨.type "function", none, .func (fnAt [16, 26] "readline" "StringIO.readline" 3 [] (.ref 569) (.none) (.none) (.str "io" 399) none (.ref 575) (.none) 0), #[]⟩
noncomputable def o589 (P : Params) : Obj := ⟨.type "tuple", none, .seq #[.int (-1) 998] 0, #[]⟩
noncomputable def o590 (P : Params) : Obj := ⟨.type "tuple", none, .seq #[] 0, #[]⟩
noncomputable def o591 (P : Params) : Obj := ⟨.none, none, .fields #[], #[]⟩
noncomputable def o592 (P : Params) : Obj := ⟨.type "tuple", none, .seq #[.str "self" 1002, .str "hint" 1003] 0, #[]⟩
noncomputable def o593 (P : Params) : Obj := ⟨.type "tuple", none, .seq #[] 0, #[]⟩
noncomputable def o594 (P : Params) : Obj := ⟨.none, none, .func (fnAt [16, 27] "readlines" "StringIO.readlines" 0 [] (.none) (.none) (.none) (.none) none (.none) (.none) 0), #[]⟩
noncomputable def o595 (P : Params) : Obj := ⟨.type "code", none, .fields #[.str "readlines" 999, .str "StringIO.readlines" 1000, .str "/claim/cut.py" 1001, .int 388 0, .int 2 0, .int 2 0, .int 0 0, .int 3 0, .ref 578, .bool true, .int 318 0, .ref 579, .none, .ref 580, .ref 581, .ref 582, .int 1004 0, .int 388 0, .str "/claim/cut.py" 1005], #[]⟩
noncomputable def o596 (P : Params) : Obj := ⟨.type "function", none, .func (fnAt [16, 27] "readlines" "StringIO.readlines" 3 [] (.ref 577) (.none) (.none) (.str "io" 399) none (.ref 583) (.none) 0), #[]⟩
noncomputable def o597 (P : Params) : Obj := ⟨.type "tuple", none, .seq #[] 0, #[]⟩
noncomputable def o598 (P : Params) : Obj := ⟨.none, none, .fields #[], #[]⟩
noncomputable def o599 (P : Params) : Obj := ⟨.type "tuple", none, .seq #[.str "self" 1010] 0, #[]⟩
noncomputable def o600 (P : Params) : Obj := ⟨.type "tuple", none, .seq #[] 0, #[]⟩
noncomputable def o601 (P : Params) : Obj := ⟨.none, none, .func (fnAt [16, 28] "__iter__" "StringIO.__iter__" 0 [] (.none) (.none) (.none) (.none) none (.none) (.none) 0), #[]⟩
noncomputable def o602 (P : Params) : Obj := ⟨.type "code", none, .fields #[.str "__iter__" 1007, .str "StringIO.__iter__" 1008, .str "/claim/cut.py" 1009, .int 391 0, .int 1 0, .int 0 0, .int 0 0, .int 3 0, .ref 585, .bool true, .int 318 0, .ref 586, .none, .ref 587, .ref 588, .ref 589, .int 1011 0, .int 391 0, .str "/claim/cut.py" 1012], #[]⟩
noncomputable def o603 (P : Params) : Obj := ⟨.type "function", none, .func (fnAt [16, 28] "__iter__" "StringIO.__iter__" 3 [] (.none) (.none) (.none) (.str "io" 399) none (.ref 590) (.none) 0), #[]⟩
noncomputable def o604 (P : Params) : Obj := ⟨.type "tuple", none, .seq #[] 0, #[]⟩
noncomputable def o605 (P : Params) : Obj := ⟨.none, none, .fields #[], #[]⟩
noncomputable def o606 (P : Params) : Obj := ⟨.type "tuple", none, .seq #[.str "self" 1017, .str "line" 1018] 0, #[]⟩
noncomputable def o607 (P : Params) : Obj := ⟨.type "tuple", none, .seq #[] 0, #[]⟩
noncomputable def o608 (P : Params) : Obj := ⟨.none, none, .func (fnAt [16, 29] "__next__" "StringIO.__next__" 0 [] (.none) (.none) (.none) (.none) none (.none) (.none) 0), #[]⟩
noncomputable def o609 (P : Params) : Obj := ⟨.type "code", none, .fields #[.str "__next__" 1014, .str "StringIO.__next__" 1015, .str "/claim/cut.py" 1016, .int 395 0, .int 1 0, .int 0 0, .int 0 0, .int 3 0, .ref 592, .bool true, .int 318 0, .ref 593, .none, .ref 594, .ref 595, .ref 596, .int 1019 0, .int 395 0, .str "/claim/cut.py" 1020], #[]⟩
noncomputable def o610 (P : Params) : Obj := ⟨.type "function", none, .func (fnAt [16, 29] "__next__" "StringIO.__next__" 3 [] (.none) (.none) (.none) (.str "io" 399) none (.ref 597) (.none) 0), #[]⟩
noncomputable def o611 (P : Params) : Obj := ⟨.type "tuple", none, .seq #[] 0, #[]⟩
noncomputable def o612 (P : Params) : Obj := ⟨.none, none, .fields #[], #[]⟩
noncomputable def o613 (P : Params) : Obj := ⟨.type "tuple", none, .seq #[.str "self" 1025, .str "s" 1026, .str "n" 1027, .str "m" 1028, .str "start" 1029, .str "buf" 1030] 0, #[]⟩
noncomputable def o614 (P : Params) : Obj := ⟨.type "tuple", none, .seq #[] 0, #[]⟩
noncomputable def o615 (P : Params) : Obj := ⟨.none, none, .func (fnAt [16, 30] "write" "StringIO.write" 0 [] (.none) (.none) (.none) (.none) none (.none) (.none) 0), #[]⟩
noncomputable def o616 (P : Params) : Obj := ⟨.type "code", none, .fields #[.str "write" 1022, .str "StringIO.write" 1023, .str "/claim/cut.py" 1024, .int 402 0, .int 2 0, .int 2 0, .int 0 0, .int 3 0, .ref 599, .bool true, .int 318 0, .ref 600, .none, .ref 601, .ref 602, .ref 603, .int 1031 0, .int 402 0, .str "/claim/cut.py" 1032], #[]⟩
noncomputable def o617 (P : Params) : Obj := ⟨.type "function", none, .func (fnAt [16, 30] "write" "StringIO.write" 3 [] (.none) (.none) (.none) (.str "io" 399) none (.ref 604) (.none) 0), #[]⟩
noncomputable def o618 (P : Params) : Obj := ⟨.type "tuple", none, .seq #[] 0, #[]⟩
noncomputable def o619 (P : Params) : Obj := ⟨.none, none, .fields #[], #[]⟩
noncomputable def o620 (P : Params) : Obj := ⟨.type "tuple", none, .seq #[.str "self" 1037, .str "lines" 1038] 0, #[]⟩
noncomputable def o621 (P : Params) : Obj := ⟨.type "tuple", none, .seq #[] 0, #[]⟩
noncomputable def o622 (P : Params) : Obj := ⟨.none, none, .func (fnAt [16, 31] "writelines" "StringIO.writelines" 0 [] (.none) (.none) (.none) (.none) none (.none) (.none) 0), #[]⟩
noncomputable def o623 (P : Params) : Obj := ⟨.type "code", none, .fields #[.str "writelines" 1034, .str "StringIO.writelines" 1035, .str "/claim/cut.py" 1036, .int 421 0, .int 2 0, .int 2 0, .int 0 0, .int 3 0, .ref 606, .bool true, .int 318 0, .ref 607, .none, .ref 608, .ref 609, .ref 610, .int 1039 0, .int 421 0, .str "/claim/cut.py" 1040], #[]⟩
noncomputable def o624 (P : Params) : Obj := ⟨.type "function", none, .func (fnAt [16, 31] "writelines" "StringIO.writelines" 3 [] (.none) (.none) (.none) (.str "io" 399) none (.ref 611) (.none) 0), #[]⟩
noncomputable def o625 (P : Params) : Obj := ⟨.type "tuple", none, .seq #[] 0, #[]⟩
noncomputable def o626 (P : Params) : Obj := ⟨.none, none, .fields #[], #[]⟩
noncomputable def o627 (P : Params) : Obj := ⟨.type "tuple", none, .seq #[.str "self" 1045] 0, #[]⟩
noncomputable def o628 (P : Params) : Obj := ⟨.type "tuple", none, .seq #[] 0, #[]⟩
noncomputable def o629 (P : Params) : Obj := ⟨.none, none, .func (fnAt [16, 32] "__repr__" "StringIO.__repr__" 0 [] (.none) (.none) (.none) (.none) none (.none) (.none) 0), #[]⟩
noncomputable def o630 (P : Params) : Obj := ⟨.type "code", none, .fields #[.str "__repr__" 1042, .str "StringIO.__repr__" 1043, .str "/claim/cut.py" 1044, .int 424 0, .int 1 0, .int 0 0, .int 0 0, .int 3 0, .ref 613, .bool true, .int 318 0, .ref 614, .none, .ref 615, .ref 616, .ref 617, .int 1046 0, .int 424 0, .str "/claim/cut.py" 1047], #[]⟩
noncomputable def o631 (P : Params) : Obj := ⟨.type "function", none, .func (fnAt [16, 32] "__repr__" "StringIO.__repr__" 3 [] (.none) (.none) (.none) (.str "io" 399) none (.ref 618) (.none) 0), #[]⟩
noncomputable def o632 (P : Params) : Obj := ⟨.type "tuple", none, .seq #[.str "__buf" 1049, .str "__newline" 1050, .str "__pos" 1051] 0, #[]⟩
noncomputable def o633 (P : Params) : Obj := ⟨.type "dict", none, .dict #[ent P "__module__" 776 (.str "_io" 781), ent P "__firstlineno__" 780 (.int 221 779), ent P "__init__" 793 (.ref 392), ent P "_StringIO__translated" 802 (.ref 399), ent P "_StringIO__check" 809 (.ref 406), ent P "_StringIO__check_dot" 816 (.ref 413), ent P "_StringIO__line" 831 (.ref 420), ent P "closed" 839 (.ref 428), ent P "line_buffering" 847 (.ref 436), ent P "newlines" 855 (.ref 444), ent P "encoding" 863 (.ref 452), ent P "errors" 871 (.ref 460), ent P "close" 878 (.ref 467), ent P "__enter__" 885 (.ref 474), ent P "__exit__" 893 (.ref 481), ent P "readable" 900 (.ref 488), ent P "writable" 907 (.ref 495), ent P "seekable" 914 (.ref 502), ent P "isatty" 921 (.ref 509), ent P "flush" 928 (.ref 516), ent P "fileno" 935 (.ref 523), ent P "detach" 942 (.ref 530), ent P "getvalue" 949 (.ref 537), ent P "tell" 956 (.ref 544), ent P "seek" 966 (.ref 552), ent P "truncate" 974 (.ref 560), ent P "read" 986 (.ref 568), ent P "readline" 996 (.ref 576), ent P "readlines" 1006 (.ref 584), ent P "__iter__" 1013 (.ref 591), ent P "__next__" 1021 (.ref 598), ent P "write" 1033 (.ref 605), ent P "writelines" 1041 (.ref 612), ent P "__repr__" 1048 (.ref 619), ent P "__static_attributes__" 1052 (.ref 620), ent P "__doc__" 1053 (.none)] 2, #[]⟩
noncomputable def o634 (P : Params) : Obj := ⟨.type "type", none, .cls { name := "StringIO", bases := [.ref 145], mro := [.ref 622, .ref 145, .ref 118, .type "object"], ns := 621, qualname := "StringIO", hasDict := true, slotNames := [], subclasses := [], abstract := false, collection := none, hasDel := false }, #[(some (.ref 378)), none, (some (.str "StringIO" 769)), (some (.str "StringIO" 777)), (some (.none)), (some (.bool true))]⟩
noncomputable def o635 (P : Params) : Obj := ⟨.type "super", none, .fields #[.ref 622, .ref 622, .ref 622], #[]⟩
noncomputable def o636 (P : Params) : Obj := ⟨.type "builtin_function_or_method", none, .fields #[.builtin "object.__init_subclass__", .ref 622], #[]⟩
noncomputable def T4 (P : Params) : BT := btOf [o0 P, o1 P, o38 P, o387 P, o4 P, o5 P, o6 P, o7 P, o8 P, o9 P, o10 P, o11 P, o12 P, o13 P, o14 P, o15 P, o16 P, o17 P, o18 P, o19 P, o20 P, o21 P, o22 P, o23 P, o24 P, o25 P, o26 P, o27 P, o28 P, o29 P, o30 P, o31 P, o32 P, o33 P, o34 P, o388 P, o36 P, o37 P, o41 P, o42 P, o43 P, o44 P, o45 P, o46 P, o47 P, o48 P, o49 P, o50 P, o51 P, o52 P, o53 P, o54 P, o55 P, o56 P, o57 P, o58 P, o59 P, o60 P, o61 P, o62 P, o63 P, o64 P, o65 P, o66 P, o67 P, o68 P, o69 P, o70 P, o71 P, o72 P, o73 P, o74 P, o75 P, o76 P, o77 P, o78 P, o79 P, o80 P, o81 P, o82 P, o83 P, o84 P, o85 P, o86 P, o87 P, o88 P, o89 P, o90 P, o91 P, o92 P, o93 P, o94 P, o95 P, o96 P, o97 P, o98 P, o99 P, o100 P, o101 P, o102 P, o103 P, o104 P, o105 P, o106 P, o107 P, o108 P, o109 P, o110 P, o111 P, o112 P, o113 P, o114 P, o115 P, o116 P, o117 P, o118 P, o119 P, o120 P, o141 P, o122 P, o123 P, o124 P, o125 P, o126 P, o127 P, o128 P, o129 P, o130 P, o131 P, o132 P, o133 P, o134 P, o135 P, o156 P, o137 P, o138 P, o142 P, o143 P, o144 P, o145 P, o146 P, o147 P, o148 P, o149 P, o150 P, o389 P, o152 P, o153 P, o157 P, o158 P, o159 P, o160 P, o161 P, o162 P, o163 P, o164 P, o165 P, o166 P, o167 P, o168 P, o169 P, o170 P, o171 P, o172 P, o173 P, o174 P, o175 P, o176 P, o177 P, o178 P, o179 P, o180 P, o181 P, o182 P, o183 P, o184 P, o185 P, o186 P, o187 P, o188 P, o189 P, o190 P, o191 P, o192 P, o193 P, o194 P, o195 P, o196 P, o197 P, o198 P, o199 P, o200 P, o201 P, o202 P, o203 P, o204 P, o205 P, o206 P, o207 P, o208 P, o209 P, o210 P, o211 P, o212 P, o213 P, o214 P, o215 P, o216 P, o217 P, o218 P, o219 P, o220 P, o221 P, o222 P, o223 P, o224 P, o225 P, o226 P, o227 P, o228 P, o229 P, o230 P, o231 P, o232 P, o233 P, o234 P, o235 P, o236 P, o237 P, o238 P, o239 P, o240 P, o241 P, o242 P, o243 P, o244 P, o245 P, o246 P, o247 P, o248 P, o249 P, o250 P, o251 P, o252 P, o253 P, o254 P, o255 P, o256 P, o257 P, o258 P, o259 P, o260 P, o261 P, o262 P, o263 P, o264 P, o265 P, o266 P, o267 P, o268 P, o269 P, o270 P, o271 P, o272 P, o273 P, o274 P, o275 P, o276 P, o277 P, o278 P, o279 P, o280 P, o281 P, o282 P, o283 P, o284 P, o285 P, o286 P, o287 P, o288 P, o289 P, o290 P, o291 P, o292 P, o293 P, o294 P, o295 P, o296 P, o297 P, o298 P, o299 P, o300 P, o301 P, o302 P, o303 P, o304 P, o305 P, o306 P, o307 P, o308 P, o309 P, o310 P, o311 P, o312 P, o313 P, o314 P, o315 P, o316 P, o317 P, o318 P, o319 P, o320 P, o321 P, o322 P, o323 P, o324 P, o325 P, o326 P, o327 P, o328 P, o329 P, o330 P, o331 P, o332 P, o333 P, o334 P, o335 P, o336 P, o337 P, o338 P, o339 P, o340 P, o341 P, o342 P, o343 P, o344 P, o345 P, o346 P, o347 P, o348 P, o349 P, o350 P, o351 P, o352 P, o353 P, o354 P, o355 P, o356 P, o357 P, o358 P, o359 P, o360 P, o361 P, o362 P, o363 P, o364 P, o365 P, o366 P, o367 P, o368 P, o369 P, o370 P, o371 P, o372 P, o373 P, o374 P, o375 P, o376 P, o377 P, o378 P, o379 P, o380 P, o381 P, o382 P, o383 P, o384 P, o385 P, o386 P, o390 P, o391 P, o392 P, o393 P, o394 P, o395 P, o396 P, o397 P, o398 P, o399 P, o400 P, o401 P, o402 P, o403 P, o404 P, o405 P, o406 P, o407 P, o408 P, o409 P, o410 P, o411 P, o412 P, o413 P, o414 P, o415 P, o416 P, o417 P, o418 P, o419 P, o420 P, o421 P, o422 P, o423 P, o424 P, o425 P, o426 P, o427 P, o428 P, o429 P, o430 P, o431 P, o432 P, o433 P, o434 P, o435 P, o436 P, o437 P, o438 P, o439 P, o440 P, o441 P, o442 P, o443 P, o444 P, o445 P, o446 P, o447 P, o448 P, o449 P, o450 P, o451 P, o452 P, o453 P, o454 P, o455 P, o456 P, o457 P, o458 P, o459 P, o460 P, o461 P, o462 P, o463 P, o464 P, o465 P, o466 P, o467 P, o468 P, o469 P, o470 P, o471 P, o472 P, o473 P, o474 P, o475 P, o476 P, o477 P, o478 P, o479 P, o480 P, o481 P, o482 P, o483 P, o484 P, o485 P, o486 P, o487 P, o488 P, o489 P, o490 P, o491 P, o492 P, o493 P, o494 P, o495 P, o496 P, o497 P, o498 P, o499 P, o500 P, o501 P, o502 P, o503 P, o504 P, o505 P, o506 P, o507 P, o508 P, o509 P, o510 P, o511 P, o512 P, o513 P, o514 P, o515 P, o516 P, o517 P, o518 P, o519 P, o520 P, o521 P, o522 P, o523 P, o524 P, o525 P, o526 P, o527 P, o528 P, o529 P, o530 P, o531 P, o532 P, o533 P, o534 P, o535 P, o536 P, o537 P, o538 P, o539 P, o540 P, o541 P, o542 P, o543 P, o544 P, o545 P, o546 P, o547 P, o548 P, o549 P, o550 P, o551 P, o552 P, o553 P, o554 P, o555 P, o556 P, o557 P, o558 P, o559 P, o560 P, o561 P, o562 P, o563 P, o564 P, o565 P, o566 P, o567 P, o568 P, o569 P, o570 P, o571 P, o572 P, o573 P, o574 P, o575 P, o576 P, o577 P, o578 P, o579 P, o580 P, o581 P, o582 P, o583 P, o584 P, o585 P, o586 P, o587 P, o588 P, o589 P, o590 P, o591 P, o592 P, o593 P, o594 P, o595 P, o596 P, o597 P, o598 P, o599 P, o600 P, o601 P, o602 P, o603 P, o604 P, o605 P, o606 P, o607 P, o608 P, o609 P, o610 P, o611 P, o612 P, o613 P, o614 P, o615 P, o616 P, o617 P, o618 P, o619 P, o620 P, o621 P, o622 P, o623 P, o624 P, o625 P, o626 P, o627 P, o628 P, o629 P, o630 P, o631 P, o632 P, o633 P, o634 P, o635 P, o636 P]
noncomputable def sts3 : List Stmt := (body0.drop 14).take 1
theorem piece3 (w : World) (os : OsState) : segRunT treeTable pw w 34 ann0 1 1578 ⟨T3 w.params, 378, life0, #[], ⟨0, 0, 0, 0⟩, 769, os⟩ (piecesOf sts3 env0 code0 ⟨51, 0, 220, 17⟩ B0) = some (.next, ⟨T4 w.params, 625, life0, #[], ⟨0, 0, 0, 0⟩, 1056, os⟩, code0, ⟨221, 0, 425, 17⟩) := by kernel_rfl
noncomputable def o637 (P : Params) : Obj := ⟨.type "dict", none, .dict #[ent P "__name__" 165 (.str "law_dn0059_08" 1283), ent P "__doc__" 166 (.none), ent P "__package__" 167 (.none), ent P "__loader__" 168 (.builtin "__main__.__loader__#opaque"), ent P "__spec__" 169 (.none), ent P "__annotations__" 170 (.ref 6), ent P "__builtins__" 171 (.ref 4), ent P "__file__" 173 (.str "/claim/cut.py" 172), ent P "__cached__" 174 (.none), ent P "_sre" 275 (.ref 12), ent P "deque" 317 (.type "collections.deque"), ent P "_wall" 330 (.ref 44), ent P "dict_replace_saxutils" 342 (.ref 51), ent P "escape" 350 (.ref 60), ent P "unescape" 358 (.ref 69), ent P "_twin_re_1" 398 (.ref 74), ent P "_whence" 408 (.ref 81), ent P "_index" 416 (.ref 88), ent P "UnsupportedOperation" 438 (.ref 98), ent P "IOBase" 470 (.ref 118), ent P "BufferedIOBase" 488 (.ref 133), ent P "TextIOBase" 506 (.ref 145), ent P "BytesIO" 768 (.ref 375), ent P "StringIO" 1055 (.ref 622), ent P "_kind" 1066 (.ref 631), ent P "_fspath" 1075 (.ref 638), ent P "_check_arg_types" 1085 (.ref 645), ent P "isabs" 1092 (.ref 652), ent P "join" 1103 (.ref 776), ent P "join_path" 1104 (.ref 659), ent P "dirname" 1114 (.ref 666), ent P "shlex" 1255 (.ref 757), ent P "split" 1265 (.ref 769), ent P "join_shlex" 1273 (.ref 776), ent P "_find_unsafe" 1275 (.ref 777), ent P "quote" 1282 (.ref 784)] 36, #[]⟩
noncomputable def o638 (P : Params) : Obj := ⟨.none, none, .fields #[.int 3 0, .int 0 0, .ref 43, .int 7 0, .int 0 0, .ref 50, .int 11 0, .int 0 0, .ref 59, .int 18 0, .int 0 0, .ref 68, .int 26 0, .int 0 0, .ref 80, .int 31 0, .int 0 0, .ref 87, .int 38 0, .int 0 0, .ref 94, .int 40 0, .int 0 0, .ref 107, .int 47 0, .int 0 0, .ref 129, .int 49 0, .int 0 0, .ref 141, .int 51 0, .int 0 0, .ref 153, .int 221 0, .int 0 0, .ref 383, .int 427 0, .int 0 0, .ref 630, .int 448 0, .int 0 0, .ref 637, .int 453 0, .int 0 0, .ref 644, .int 458 0, .int 0 0, .ref 651, .int 461 0, .int 0 0, .ref 658, .int 482 0, .int 0 0, .ref 665, .int 491 0, .int 0 0, .ref 672, .int 743 0, .int 0 0, .ref 768, .int 751 0, .int 0 0, .ref 775, .int 755 0, .int 0 0, .ref 783], #[]⟩
noncomputable def o639 (P : Params) : Obj := ⟨.type "tuple", none, .seq #[] 0, #[]⟩
noncomputable def o640 (P : Params) : Obj := ⟨.none, none, .fields #[], #[]⟩
noncomputable def o641 (P : Params) : Obj := ⟨.type "tuple", none, .seq #[.str "name" 1061, .str "x" 1062, .str "t" 1063] 0, #[]⟩
noncomputable def o642 (P : Params) : Obj := ⟨.type "tuple", none, .seq #[] 0, #[]⟩
noncomputable def o643 (P : Params) : Obj := ⟨.none, none, .func (fnAt [18] "_kind" "_kind" 0 [] (.none) (.none) (.none) (.none) none (.none) (.none) 0), #[]⟩
noncomputable def o644 (P : Params) : Obj := ⟨.type "code", none, .fields #[.str "_kind" 1058, .str "_kind" 1059, .str "/claim/cut.py" 1060, .int 427 0, .int 2 0, .int 0 0, .int 0 0, .int 3 0, .ref 625, .bool true, .int 318 0, .ref 626, .none, .ref 627, .ref 628, .ref 629, .int 1064 0, .int 427 0, .str "/claim/cut.py" 1065], #[]⟩
noncomputable def o645 (P : Params) : Obj := ⟨.type "function", none, .func (fnAt [18] "_kind" "_kind" 3 [] (.none) (.none) (.none) (.str "os.path" 1056) none (.ref 630) (.none) 0), #[]⟩
noncomputable def o646 (P : Params) : Obj := ⟨.type "tuple", none, .seq #[] 0, #[]⟩
noncomputable def o647 (P : Params) : Obj := ⟨.none, none, .fields #[], #[]⟩
noncomputable def o648 (P : Params) : Obj := ⟨.type "tuple", none, .seq #[.str "name" 1070, .str "x" 1071, .str "k" 1072] 0, #[]⟩
noncomputable def o649 (P : Params) : Obj := ⟨.type "tuple", none, .seq #[] 0, #[]⟩
noncomputable def o650 (P : Params) : Obj := ⟨.none, none, .func (fnAt [19] "_fspath" "_fspath" 0 [] (.none) (.none) (.none) (.none) none (.none) (.none) 0), #[]⟩
noncomputable def o651 (P : Params) : Obj := ⟨.type "code", none, .fields #[.str "_fspath" 1067, .str "_fspath" 1068, .str "/claim/cut.py" 1069, .int 448 0, .int 2 0, .int 0 0, .int 0 0, .int 3 0, .ref 632, .bool true, .int 318 0, .ref 633, .none, .ref 634, .ref 635, .ref 636, .int 1073 0, .int 448 0, .str "/claim/cut.py" 1074], #[]⟩
noncomputable def o652 (P : Params) : Obj := ⟨.type "function", none, .func (fnAt [19] "_fspath" "_fspath" 3 [] (.none) (.none) (.none) (.str "os.path" 1056) none (.ref 637) (.none) 0), #[]⟩
noncomputable def o653 (P : Params) : Obj := ⟨.type "tuple", none, .seq #[] 0, #[]⟩
noncomputable def o654 (P : Params) : Obj := ⟨.none, none, .fields #[], #[]⟩
noncomputable def o655 (P : Params) : Obj := ⟨.type "tuple", none, .seq #[.str "funcname" 1079, .str "args" 1080, .str "s" 1081, .str "k" 1082] 0, #[]⟩
noncomputable def o656 (P : Params) : Obj := ⟨.type "tuple", none, .seq #[] 0, #[]⟩
noncomputable def o657 (P : Params) : Obj := ⟨.none, none, .func (fnAt [20] "_check_arg_types" "_check_arg_types" 0 [] (.none) (.none) (.none) (.none) none (.none) (.none) 0), #[]⟩
noncomputable def o658 (P : Params) : Obj := ⟨.type "code", none, .fields #[.str "_check_arg_types" 1076, .str "_check_arg_types" 1077, .str "/claim/cut.py" 1078, .int 453 0, .int 1 0, .int 0 0, .int 0 0, .int 7 0, .ref 639, .bool true, .int 318 0, .ref 640, .none, .ref 641, .ref 642, .ref 643, .int 1083 0, .int 453 0, .str "/claim/cut.py" 1084], #[]⟩
noncomputable def o659 (P : Params) : Obj := ⟨.type "function", none, .func (fnAt [20] "_check_arg_types" "_check_arg_types" 3 [] (.none) (.none) (.none) (.str "os.path" 1056) none (.ref 644) (.none) 0), #[]⟩
noncomputable def o660 (P : Params) : Obj := ⟨.type "tuple", none, .seq #[] 0, #[]⟩
noncomputable def o661 (P : Params) : Obj := ⟨.none, none, .fields #[], #[]⟩
noncomputable def o662 (P : Params) : Obj := ⟨.type "tuple", none, .seq #[.str "s" 1089] 0, #[]⟩
noncomputable def o663 (P : Params) : Obj := ⟨.type "tuple", none, .seq #[] 0, #[]⟩
noncomputable def o664 (P : Params) : Obj := ⟨.none, none, .func (fnAt [21] "isabs" "isabs" 0 [] (.none) (.none) (.none) (.none) none (.none) (.none) 0), #[]⟩
noncomputable def o665 (P : Params) : Obj := ⟨.type "code", none, .fields #[.str "isabs" 1086, .str "isabs" 1087, .str "/claim/cut.py" 1088, .int 458 0, .int 1 0, .int 0 0, .int 0 0, .int 3 0, .ref 646, .bool true, .int 318 0, .ref 647, .none, .ref 648, .ref 649, .ref 650, .int 1090 0, .int 458 0, .str "/claim/cut.py" 1091], #[]⟩
noncomputable def o666 (P : Params) : Obj := ⟨.type "function", none, .func (fnAt [21] "isabs" "isabs" 3 [] (.none) (.none) (.none) (.str "os.path" 1056) none (.ref 651) (.none) 0), #[]⟩
noncomputable def o667 (P : Params) : Obj := ⟨.type "tuple", none, .seq #[] 0, #[]⟩
noncomputable def o668 (P : Params) : Obj := ⟨.none, none, .fields #[], #[]⟩
noncomputable def o669 (P : Params) : Obj := ⟨.type "tuple", none, .seq #[.str "a" 1096, .str "p" 1097, .str "b" 1098, .str "sep" 1099, .str "path" 1100] 0, #[]⟩
noncomputable def o670 (P : Params) : Obj := ⟨.type "tuple", none, .seq #[] 0, #[]⟩
noncomputable def o671 (P : Params) : Obj := ⟨.none, none, .func (fnAt [22] "join" "join" 0 [] (.none) (.none) (.none) (.none) none (.none) (.none) 0), #[]⟩
noncomputable def o672 (P : Params) : Obj := ⟨.type "code", none, .fields #[.str "join" 1093, .str "join" 1094, .str "/claim/cut.py" 1095, .int 461 0, .int 1 0, .int 0 0, .int 0 0, .int 7 0, .ref 653, .bool true, .int 318 0, .ref 654, .none, .ref 655, .ref 656, .ref 657, .int 1101 0, .int 461 0, .str "/claim/cut.py" 1102], #[]⟩
noncomputable def o673 (P : Params) : Obj := ⟨.type "function", none, .func (fnAt [22] "join" "join" 3 [] (.none) (.none) (.none) (.str "os.path" 1056) none (.ref 658) (.none) 0), #[]⟩
noncomputable def o674 (P : Params) : Obj := ⟨.type "tuple", none, .seq #[] 0, #[]⟩
noncomputable def o675 (P : Params) : Obj := ⟨.none, none, .fields #[], #[]⟩
noncomputable def o676 (P : Params) : Obj := ⟨.type "tuple", none, .seq #[.str "p" 1108, .str "sep" 1109, .str "i" 1110, .str "head" 1111] 0, #[]⟩
noncomputable def o677 (P : Params) : Obj := ⟨.type "tuple", none, .seq #[] 0, #[]⟩
noncomputable def o678 (P : Params) : Obj := ⟨.none, none, .func (fnAt [24] "dirname" "dirname" 0 [] (.none) (.none) (.none) (.none) none (.none) (.none) 0), #[]⟩
noncomputable def o679 (P : Params) : Obj := ⟨.type "code", none, .fields #[.str "dirname" 1105, .str "dirname" 1106, .str "/claim/cut.py" 1107, .int 482 0, .int 1 0, .int 0 0, .int 0 0, .int 3 0, .ref 660, .bool true, .int 318 0, .ref 661, .none, .ref 662, .ref 663, .ref 664, .int 1112 0, .int 482 0, .str "/claim/cut.py" 1113], #[]⟩
noncomputable def o680 (P : Params) : Obj := ⟨.type "function", none, .func (fnAt [24] "dirname" "dirname" 3 [] (.none) (.none) (.none) (.str "os.path" 1056) none (.ref 665) (.none) 0), #[]⟩
noncomputable def o681 (P : Params) : Obj := ⟨.type "tuple", none, .seq #[] 0, #[]⟩
noncomputable def o682 (P : Params) : Obj := ⟨.type "builtin_function_or_method", none, .fields #[.builtin "type.__prepare__", .type "type"], #[]⟩
noncomputable def o683 (P : Params) : Obj := ⟨.type "dict", none, .dict #[ent P "__module__" 1124 (.str "cpy313.shlex" 1115), ent P "__qualname__" 1126 (.str "shlex" 1125), ent P "__firstlineno__" 1128 (.int 491 1127), ent P "__init__" 1140 (.ref 681), ent P "punctuation_chars" 1148 (.ref 689), ent P "push_token" 1156 (.ref 696), ent P "push_source" 1165 (.ref 704), ent P "pop_source" 1172 (.ref 711), ent P "get_token" 1184 (.ref 718), ent P "read_token" 1195 (.ref 725), ent P "sourcehook" 1203 (.ref 732), ent P "error_leader" 1212 (.ref 740), ent P "__iter__" 1219 (.ref 747), ent P "__next__" 1227 (.ref 754), ent P "__static_attributes__" 1248 (.ref 755)] 15, #[]⟩
noncomputable def o684 (P : Params) : Obj := ⟨.type "tuple", none, .seq #[] 0, #[]⟩
noncomputable def o685 (P : Params) : Obj := ⟨.none, none, .fields #[.int 493 0, .int 4 0, .ref 680, .int 535 0, .int 4 0, .ref 687, .int 538 0, .int 4 0, .ref 695, .int 541 0, .int 4 0, .ref 703, .int 554 0, .int 4 0, .ref 710, .int 561 0, .int 4 0, .ref 717, .int 588 0, .int 4 0, .ref 724, .int 725 0, .int 4 0, .ref 731, .int 732 0, .int 4 0, .ref 739, .int 735 0, .int 4 0, .ref 746, .int 738 0, .int 4 0, .ref 753], #[]⟩
noncomputable def o686 (P : Params) : Obj := ⟨.type "code", none, .fields #[.str "shlex" 1119, .str "shlex" 1120, .str "/claim/cut.py" 1121, .int 491 0, .int 0 0, .int 0 0, .int 0 0, .int 0 0, .ref 670, .bool false, .int 318 0, .ref 671, .none, .none, .none, .none, .int 1122 0, .int 491 0, .str "/claim/cut.py" 1123], #[]⟩
noncomputable def o687 (P : Params) : Obj := ⟨.type "frame", none, .plain, #[(some (.ref 672)), (some (.ref 3)), (some (.ref 669)), none, (some (.str "cpy313.shlex" 1115)), none, (some (.ref 0))]⟩
noncomputable def o688 (P : Params) : Obj := ⟨.type "tuple", none, .seq #[.none, .none, .bool false, .bool false] 0, #[]⟩
noncomputable def o689 (P : Params) : Obj := ⟨.type "tuple", none, .seq #[] 0, #[]⟩
noncomputable def o690 (P : Params) : Obj := ⟨.none, none, .fields #[], #[]⟩
noncomputable def o691 (P : Params) : Obj := ⟨.type "tuple", none, .seq #[.str "self" 1132, .str "instream" 1133, .str "infile" 1134, .str "posix" 1135, .str "punctuation_chars" 1136, .str "t" 1137] 0, #[]⟩
noncomputable def o692 (P : Params) : Obj := ⟨.type "tuple", none, .seq #[] 0, #[]⟩
noncomputable def o693 (P : Params) : Obj := ⟨.none, none, .func (fnAt [26, 0] "__init__" "shlex.__init__" 0 [] (.none) (.none) (.none) (.none) none (.none) (.none) 0), #[]⟩
noncomputable def o694 (P : Params) : Obj := ⟨.type "code", none, .fields #[.str "__init__" 1129, .str "shlex.__init__" 1130, .str "/claim/cut.py" 1131, .int 493 0, .int 5 0, .int 0 0, .int 0 0, .int 3 0, .ref 675, .bool true, .int 318 0, .ref 676, .none, .ref 677, .ref 678, .ref 679, .int 1138 0, .int 493 0, .str "/claim/cut.py" 1139], #[]⟩
noncomputable def o695 (P : Params) : Obj := ⟨.type "function", none, .func (fnAt [26, 0] "__init__" "shlex.__init__" 3 [] (.ref 674) (.none) (.none) (.str "cpy313.shlex" 1115) none (.ref 680) (.none) 0), #[]⟩
noncomputable def o696 (P : Params) : Obj := ⟨.type "tuple", none, .seq #[] 0, #[]⟩
noncomputable def o697 (P : Params) : Obj := ⟨.none, none, .fields #[], #[]⟩
noncomputable def o698 (P : Params) : Obj := ⟨.type "tuple", none, .seq #[.str "self" 1144] 0, #[]⟩
noncomputable def o699 (P : Params) : Obj := ⟨.type "tuple", none, .seq #[] 0, #[]⟩
noncomputable def o700 (P : Params) : Obj := ⟨.none, none, .func (fnAt [26, 1] "punctuation_chars" "shlex.punctuation_chars" 0 [] (.none) (.none) (.none) (.none) none (.none) (.none) 0), #[]⟩
noncomputable def o701 (P : Params) : Obj := ⟨.type "code", none, .fields #[.str "punctuation_chars" 1141, .str "shlex.punctuation_chars" 1142, .str "/claim/cut.py" 1143, .int 534 0, .int 1 0, .int 0 0, .int 0 0, .int 3 0, .ref 682, .bool true, .int 318 0, .ref 683, .none, .ref 684, .ref 685, .ref 686, .int 1145 0, .int 534 0, .str "/claim/cut.py" 1146], #[]⟩
noncomputable def o702 (P : Params) : Obj := ⟨.type "function", none, .func (fnAt [26, 1] "punctuation_chars" "shlex.punctuation_chars" 3 [] (.none) (.none) (.none) (.str "cpy313.shlex" 1115) none (.ref 687) (.none) 0), #[]⟩
noncomputable def o703 (P : Params) : Obj := ⟨.type "property", none, .fields #[.ref 688, .none, .none, .none, .str "punctuation_chars" 1148, .bool false], #[]⟩
noncomputable def o704 (P : Params) : Obj := ⟨.type "tuple", none, .seq #[] 0, #[]⟩
noncomputable def o705 (P : Params) : Obj := ⟨.none, none, .fields #[], #[]⟩
noncomputable def o706 (P : Params) : Obj := ⟨.type "tuple", none, .seq #[.str "self" 1152, .str "tok" 1153] 0, #[]⟩
noncomputable def o707 (P : Params) : Obj := ⟨.type "tuple", none, .seq #[] 0, #[]⟩
noncomputable def o708 (P : Params) : Obj := ⟨.none, none, .func (fnAt [26, 2] "push_token" "shlex.push_token" 0 [] (.none) (.none) (.none) (.none) none (.none) (.none) 0), #[]⟩
noncomputable def o709 (P : Params) : Obj := ⟨.type "code", none, .fields #[.str "push_token" 1149, .str "shlex.push_token" 1150, .str "/claim/cut.py" 1151, .int 538 0, .int 2 0, .int 0 0, .int 0 0, .int 3 0, .ref 690, .bool true, .int 318 0, .ref 691, .none, .ref 692, .ref 693, .ref 694, .int 1154 0, .int 538 0, .str "/claim/cut.py" 1155], #[]⟩
noncomputable def o710 (P : Params) : Obj := ⟨.type "function", none, .func (fnAt [26, 2] "push_token" "shlex.push_token" 3 [] (.none) (.none) (.none) (.str "cpy313.shlex" 1115) none (.ref 695) (.none) 0), #[]⟩
noncomputable def o711 (P : Params) : Obj := ⟨.type "tuple", none, .seq #[.none] 0, #[]⟩
noncomputable def o712 (P : Params) : Obj := ⟨.type "tuple", none, .seq #[] 0, #[]⟩
noncomputable def o713 (P : Params) : Obj := ⟨.none, none, .fields #[], #[]⟩
noncomputable def o714 (P : Params) : Obj := ⟨.type "tuple", none, .seq #[.str "self" 1160, .str "newstream" 1161, .str "newfile" 1162] 0, #[]⟩
noncomputable def o715 (P : Params) : Obj := ⟨.type "tuple", none, .seq #[] 0, #[]⟩
noncomputable def o716 (P : Params) : Obj := ⟨.none, none, .func (fnAt [26, 3] "push_source" "shlex.push_source" 0 [] (.none) (.none) (.none) (.none) none (.none) (.none) 0), #[]⟩
noncomputable def o717 (P : Params) : Obj := ⟨.type "code", none, .fields #[.str "push_source" 1157, .str "shlex.push_source" 1158, .str "/claim/cut.py" 1159, .int 541 0, .int 3 0, .int 0 0, .int 0 0, .int 3 0, .ref 698, .bool true, .int 318 0, .ref 699, .none, .ref 700, .ref 701, .ref 702, .int 1163 0, .int 541 0, .str "/claim/cut.py" 1164], #[]⟩
noncomputable def o718 (P : Params) : Obj := ⟨.type "function", none, .func (fnAt [26, 3] "push_source" "shlex.push_source" 3 [] (.ref 697) (.none) (.none) (.str "cpy313.shlex" 1115) none (.ref 703) (.none) 0), #[]⟩
noncomputable def o719 (P : Params) : Obj := ⟨.type "tuple", none, .seq #[] 0, #[]⟩
noncomputable def o720 (P : Params) : Obj := ⟨.none, none, .fields #[], #[]⟩
noncomputable def o721 (P : Params) : Obj := ⟨.type "tuple", none, .seq #[.str "self" 1169] 0, #[]⟩
noncomputable def o722 (P : Params) : Obj := ⟨.type "tuple", none, .seq #[] 0, #[]⟩
noncomputable def o723 (P : Params) : Obj := ⟨.none, none, .func (fnAt [26, 4] "pop_source" "shlex.pop_source" 0 [] (.none) (.none) (.none) (.none) none (.none) (.none) 0), #[]⟩
noncomputable def o724 (P : Params) : Obj := ⟨.type "code", none, .fields #[.str "pop_source" 1166, .str "shlex.pop_source" 1167, .str "/claim/cut.py" 1168, .int 554 0, .int 1 0, .int 0 0, .int 0 0, .int 3 0, .ref 705, .bool true, .int 318 0, .ref 706, .none, .ref 707, .ref 708, .ref 709, .int 1170 0, .int 554 0, .str "/claim/cut.py" 1171], #[]⟩
noncomputable def o725 (P : Params) : Obj := ⟨.type "function", none, .func (fnAt [26, 4] "pop_source" "shlex.pop_source" 3 [] (.none) (.none) (.none) (.str "cpy313.shlex" 1115) none (.ref 710) (.none) 0), #[]⟩
noncomputable def o726 (P : Params) : Obj := ⟨.type "tuple", none, .seq #[] 0, #[]⟩
noncomputable def o727 (P : Params) : Obj := ⟨.none, none, .fields #[], #[]⟩
noncomputable def o728 (P : Params) : Obj := ⟨.type "tuple", none, .seq #[.str "self" 1176, .str "tok" 1177, .str "raw" 1178, .str "spec" 1179, .str "newfile" 1180, .str "newstream" 1181] 0, #[]⟩
noncomputable def o729 (P : Params) : Obj := ⟨.type "tuple", none, .seq #[] 0, #[]⟩
noncomputable def o730 (P : Params) : Obj := ⟨.none, none, .func (fnAt [26, 5] "get_token" "shlex.get_token" 0 [] (.none) (.none) (.none) (.none) none (.none) (.none) 0), #[]⟩
noncomputable def o731 (P : Params) : Obj := ⟨.type "code", none, .fields #[.str "get_token" 1173, .str "shlex.get_token" 1174, .str "/claim/cut.py" 1175, .int 561 0, .int 1 0, .int 0 0, .int 0 0, .int 3 0, .ref 712, .bool true, .int 318 0, .ref 713, .none, .ref 714, .ref 715, .ref 716, .int 1182 0, .int 561 0, .str "/claim/cut.py" 1183], #[]⟩
noncomputable def o732 (P : Params) : Obj := ⟨.type "function", none, .func (fnAt [26, 5] "get_token" "shlex.get_token" 3 [] (.none) (.none) (.none) (.str "cpy313.shlex" 1115) none (.ref 717) (.none) 0), #[]⟩
noncomputable def o733 (P : Params) : Obj := ⟨.type "tuple", none, .seq #[] 0, #[]⟩
noncomputable def o734 (P : Params) : Obj := ⟨.none, none, .fields #[], #[]⟩
noncomputable def o735 (P : Params) : Obj := ⟨.type "tuple", none, .seq #[.str "self" 1188, .str "quoted" 1189, .str "escapedstate" 1190, .str "nextchar" 1191, .str "result" 1192] 0, #[]⟩
noncomputable def o736 (P : Params) : Obj := ⟨.type "tuple", none, .seq #[] 0, #[]⟩
noncomputable def o737 (P : Params) : Obj := ⟨.none, none, .func (fnAt [26, 6] "read_token" "shlex.read_token" 0 [] (.none) (.none) (.none) (.none) none (.none) (.none) 0), #[]⟩
noncomputable def o738 (P : Params) : Obj := ⟨.type "code", none, .fields #[.str "read_token" 1185, .str "shlex.read_token" 1186, .str "/claim/cut.py" 1187, .int 588 0, .int 1 0, .int 0 0, .int 0 0, .int 3 0, .ref 719, .bool true, .int 318 0, .ref 720, .none, .ref 721, .ref 722, .ref 723, .int 1193 0, .int 588 0, .str "/claim/cut.py" 1194], #[]⟩
noncomputable def o739 (P : Params) : Obj := ⟨.type "function", none, .func (fnAt [26, 6] "read_token" "shlex.read_token" 3 [] (.none) (.none) (.none) (.str "cpy313.shlex" 1115) none (.ref 724) (.none) 0), #[]⟩
noncomputable def o740 (P : Params) : Obj := ⟨.type "tuple", none, .seq #[] 0, #[]⟩
noncomputable def o741 (P : Params) : Obj := ⟨.none, none, .fields #[], #[]⟩
noncomputable def o742 (P : Params) : Obj := ⟨.type "tuple", none, .seq #[.str "self" 1199, .str "newfile" 1200] 0, #[]⟩
noncomputable def o743 (P : Params) : Obj := ⟨.type "tuple", none, .seq #[] 0, #[]⟩
noncomputable def o744 (P : Params) : Obj := ⟨.none, none, .func (fnAt [26, 7] "sourcehook" "shlex.sourcehook" 0 [] (.none) (.none) (.none) (.none) none (.none) (.none) 0), #[]⟩
noncomputable def o745 (P : Params) : Obj := ⟨.type "code", none, .fields #[.str "sourcehook" 1196, .str "shlex.sourcehook" 1197, .str "/claim/cut.py" 1198, .int 725 0, .int 2 0, .int 0 0, .int 0 0, .int 3 0, .ref 726, .bool true, .int 318 0, .ref 727, .none, .ref 728, .ref 729, .ref 730, .int 1201 0, .int 725 0, .str "/claim/cut.py" 1202], #[]⟩
noncomputable def o746 (P : Params) : Obj := ⟨.type "function", none, .func (fnAt [26, 7] "sourcehook" "shlex.sourcehook" 3 [] (.none) (.none) (.none) (.str "cpy313.shlex" 1115) none (.ref 731) (.none) 0), #[]⟩
noncomputable def o747 (P : Params) : Obj := ⟨.type "tuple", none, .seq #[.none, .none] 0, #[]⟩
noncomputable def o748 (P : Params) : Obj := ⟨.type "tuple", none, .seq #[] 0, #[]⟩
noncomputable def o749 (P : Params) : Obj := ⟨.none, none, .fields #[], #[]⟩
noncomputable def o750 (P : Params) : Obj := ⟨.type "tuple", none, .seq #[.str "self" 1207, .str "infile" 1208, .str "lineno" 1209] 0, #[]⟩
noncomputable def o751 (P : Params) : Obj := ⟨.type "tuple", none, .seq #[] 0, #[]⟩
noncomputable def o752 (P : Params) : Obj := ⟨.none, none, .func (fnAt [26, 8] "error_leader" "shlex.error_leader" 0 [] (.none) (.none) (.none) (.none) none (.none) (.none) 0), #[]⟩
noncomputable def o753 (P : Params) : Obj := ⟨.type "code", none, .fields #[.str "error_leader" 1204, .str "shlex.error_leader" 1205, .str "/claim/cut.py" 1206, .int 732 0, .int 3 0, .int 0 0, .int 0 0, .int 3 0, .ref 734, .bool true, .int 318 0, .ref 735, .none, .ref 736, .ref 737, .ref 738, .int 1210 0, .int 732 0, .str "/claim/cut.py" 1211], #[]⟩
noncomputable def o754 (P : Params) : Obj := ⟨.type "function", none, .func (fnAt [26, 8] "error_leader" "shlex.error_leader" 3 [] (.ref 733) (.none) (.none) (.str "cpy313.shlex" 1115) none (.ref 739) (.none) 0), #[]⟩
noncomputable def o755 (P : Params) : Obj := ⟨.type "tuple", none, .seq #[] 0, #[]⟩
noncomputable def o756 (P : Params) : Obj := ⟨.none, none, .fields #[], #[]⟩
noncomputable def o757 (P : Params) : Obj := ⟨.type "tuple", none, .seq #[.str "self" 1216] 0, #[]⟩
noncomputable def o758 (P : Params) : Obj := ⟨.type "tuple", none, .seq #[] 0, #[]⟩
noncomputable def o759 (P : Params) : Obj := ⟨.none, none, .func (fnAt [26, 9] "__iter__" "shlex.__iter__" 0 [] (.none) (.none) (.none) (.none) none (.none) (.none) 0), #[]⟩
noncomputable def o760 (P : Params) : Obj := ⟨.type "code", none, .fields #[.str "__iter__" 1213, .str "shlex.__iter__" 1214, .str "/claim/cut.py" 1215, .int 735 0, .int 1 0, .int 0 0, .int 0 0, .int 3 0, .ref 741, .bool true, .int 318 0, .ref 742, .none, .ref 743, .ref 744, .ref 745, .int 1217 0, .int 735 0, .str "/claim/cut.py" 1218], #[]⟩
noncomputable def o761 (P : Params) : Obj := ⟨.type "function", none, .func (fnAt [26, 9] "__iter__" "shlex.__iter__" 3 [] (.none) (.none) (.none) (.str "cpy313.shlex" 1115) none (.ref 746) (.none) 0), #[]⟩
noncomputable def o762 (P : Params) : Obj := ⟨.type "tuple", none, .seq #[] 0, #[]⟩
noncomputable def o763 (P : Params) : Obj := ⟨.none, none, .fields #[], #[]⟩
noncomputable def o764 (P : Params) : Obj := ⟨.type "tuple", none, .seq #[.str "self" 1223, .str "token" 1224] 0, #[]⟩
noncomputable def o765 (P : Params) : Obj := ⟨.type "tuple", none, .seq #[] 0, #[]⟩
noncomputable def o766 (P : Params) : Obj := ⟨.none, none, .func (fnAt [26, 10] "__next__" "shlex.__next__" 0 [] (.none) (.none) (.none) (.none) none (.none) (.none) 0), #[]⟩
noncomputable def o767 (P : Params) : Obj := ⟨.type "code", none, .fields #[.str "__next__" 1220, .str "shlex.__next__" 1221, .str "/claim/cut.py" 1222, .int 738 0, .int 1 0, .int 0 0, .int 0 0, .int 3 0, .ref 748, .bool true, .int 318 0, .ref 749, .none, .ref 750, .ref 751, .ref 752, .int 1225 0, .int 738 0, .str "/claim/cut.py" 1226], #[]⟩
noncomputable def o768 (P : Params) : Obj := ⟨.type "function", none, .func (fnAt [26, 10] "__next__" "shlex.__next__" 3 [] (.none) (.none) (.none) (.str "cpy313.shlex" 1115) none (.ref 753) (.none) 0), #[]⟩
noncomputable def o769 (P : Params) : Obj := ⟨.type "tuple", none, .seq #[.str "_punctuation_chars" 1228, .str "_pushback_chars" 1229, .str "commenters" 1230, .str "debug" 1231, .str "eof" 1232, .str "escape" 1233, .str "escapedquotes" 1234, .str "filestack" 1235, .str "infile" 1236, .str "instream" 1237, .str "lineno" 1238, .str "posix" 1239, .str "pushback" 1240, .str "quotes" 1241, .str "source" 1242, .str "state" 1243, .str "token" 1244, .str "whitespace" 1245, .str "whitespace_split" 1246, .str "wordchars" 1247] 0, #[]⟩
noncomputable def o770 (P : Params) : Obj := ⟨.type "dict", none, .dict #[ent P "__module__" 1124 (.str "cpy313.shlex" 1115), ent P "__firstlineno__" 1128 (.int 491 1127), ent P "__init__" 1140 (.ref 681), ent P "punctuation_chars" 1148 (.ref 689), ent P "push_token" 1156 (.ref 696), ent P "push_source" 1165 (.ref 704), ent P "pop_source" 1172 (.ref 711), ent P "get_token" 1184 (.ref 718), ent P "read_token" 1195 (.ref 725), ent P "sourcehook" 1203 (.ref 732), ent P "error_leader" 1212 (.ref 740), ent P "__iter__" 1219 (.ref 747), ent P "__next__" 1227 (.ref 754), ent P "__static_attributes__" 1248 (.ref 755), ent P "__dict__" 1250 (.ref 758), ent P "__weakref__" 1252 (.ref 759), ent P "__doc__" 1253 (.none)] 4, #[]⟩
noncomputable def o771 (P : Params) : Obj := ⟨.type "type", none, .cls { name := "shlex", bases := [.type "object"], mro := [.ref 757, .type "object"], ns := 756, qualname := "shlex", hasDict := true, slotNames := [], subclasses := [], abstract := false, collection := none, hasDel := false }, #[none, none, (some (.str "shlex" 1117)), (some (.str "shlex" 1125)), (some (.builtin "object.__new__")), (some (.bool true))]⟩
noncomputable def o772 (P : Params) : Obj := ⟨.type "getset_descriptor", none, .fields #[.str "__dict__" 1249, .ref 757, .builtin "function.__dict__", .builtin "function.__dict__#set"], #[]⟩
noncomputable def o773 (P : Params) : Obj := ⟨.type "getset_descriptor", none, .fields #[.str "__weakref__" 1251, .ref 757, .builtin "ExceptionGroup.__weakref__", .none], #[]⟩
noncomputable def o774 (P : Params) : Obj := ⟨.type "super", none, .fields #[.ref 757, .ref 757, .ref 757], #[]⟩
noncomputable def o775 (P : Params) : Obj := ⟨.type "builtin_function_or_method", none, .fields #[.builtin "object.__init_subclass__", .ref 757], #[]⟩
noncomputable def o776 (P : Params) : Obj := ⟨.type "tuple", none, .seq #[.bool false, .bool true] 0, #[]⟩
noncomputable def o777 (P : Params) : Obj := ⟨.type "tuple", none, .seq #[] 0, #[]⟩
noncomputable def o778 (P : Params) : Obj := ⟨.none, none, .fields #[], #[]⟩
noncomputable def o779 (P : Params) : Obj := ⟨.type "tuple", none, .seq #[.str "s" 1259, .str "comments" 1260, .str "posix" 1261, .str "lex" 1262] 0, #[]⟩
noncomputable def o780 (P : Params) : Obj := ⟨.type "tuple", none, .seq #[] 0, #[]⟩
noncomputable def o781 (P : Params) : Obj := ⟨.none, none, .func (fnAt [27] "split" "split" 0 [] (.none) (.none) (.none) (.none) none (.none) (.none) 0), #[]⟩
noncomputable def o782 (P : Params) : Obj := ⟨.type "code", none, .fields #[.str "split" 1256, .str "split" 1257, .str "/claim/cut.py" 1258, .int 743 0, .int 3 0, .int 0 0, .int 0 0, .int 3 0, .ref 763, .bool true, .int 318 0, .ref 764, .none, .ref 765, .ref 766, .ref 767, .int 1263 0, .int 743 0, .str "/claim/cut.py" 1264], #[]⟩
noncomputable def o783 (P : Params) : Obj := ⟨.type "function", none, .func (fnAt [27] "split" "split" 3 [] (.ref 762) (.none) (.none) (.str "cpy313.shlex" 1115) none (.ref 768) (.none) 0), #[]⟩
noncomputable def o784 (P : Params) : Obj := ⟨.type "tuple", none, .seq #[] 0, #[]⟩
noncomputable def o785 (P : Params) : Obj := ⟨.none, none, .fields #[], #[]⟩
noncomputable def o786 (P : Params) : Obj := ⟨.type "tuple", none, .seq #[.str "split_command" 1269] 0, #[]⟩
noncomputable def o787 (P : Params) : Obj := ⟨.type "tuple", none, .seq #[] 0, #[]⟩
noncomputable def o788 (P : Params) : Obj := ⟨.none, none, .func (fnAt [28] "join" "join" 0 [] (.none) (.none) (.none) (.none) none (.none) (.none) 0), #[]⟩
noncomputable def o789 (P : Params) : Obj := ⟨.type "code", none, .fields #[.str "join" 1266, .str "join" 1267, .str "/claim/cut.py" 1268, .int 751 0, .int 1 0, .int 0 0, .int 0 0, .int 3 0, .ref 770, .bool true, .int 318 0, .ref 771, .none, .ref 772, .ref 773, .ref 774, .int 1270 0, .int 751 0, .str "/claim/cut.py" 1271], #[]⟩
noncomputable def o790 (P : Params) : Obj := ⟨.type "function", none, .func (fnAt [28] "join" "join" 3 [] (.none) (.none) (.none) (.str "cpy313.shlex" 1115) none (.ref 775) (.none) 0), #[]⟩
noncomputable def o791 (P : Params) : Obj := ⟨.type "builtin_function_or_method", none, .fields #[.builtin "re.Pattern.search", .ref 74], #[]⟩
noncomputable def o792 (P : Params) : Obj := ⟨.type "tuple", none, .seq #[] 0, #[]⟩
noncomputable def o793 (P : Params) : Obj := ⟨.none, none, .fields #[], #[]⟩
noncomputable def o794 (P : Params) : Obj := ⟨.type "tuple", none, .seq #[.str "s" 1279] 0, #[]⟩
noncomputable def o795 (P : Params) : Obj := ⟨.type "tuple", none, .seq #[] 0, #[]⟩
noncomputable def o796 (P : Params) : Obj := ⟨.none, none, .func (fnAt [31] "quote" "quote" 0 [] (.none) (.none) (.none) (.none) none (.none) (.none) 0), #[]⟩
noncomputable def o797 (P : Params) : Obj := ⟨.type "code", none, .fields #[.str "quote" 1276, .str "quote" 1277, .str "/claim/cut.py" 1278, .int 755 0, .int 1 0, .int 0 0, .int 0 0, .int 3 0, .ref 778, .bool true, .int 318 0, .ref 779, .none, .ref 780, .ref 781, .ref 782, .int 1280 0, .int 755 0, .str "/claim/cut.py" 1281], #[]⟩
noncomputable def o798 (P : Params) : Obj := ⟨.type "function", none, .func (fnAt [31] "quote" "quote" 3 [] (.none) (.none) (.none) (.str "cpy313.shlex" 1115) none (.ref 783) (.none) 0), #[]⟩
noncomputable def T5 (P : Params) : BT := btOf [o0 P, o1 P, o38 P, o637 P, o4 P, o5 P, o6 P, o7 P, o8 P, o9 P, o10 P, o11 P, o12 P, o13 P, o14 P, o15 P, o16 P, o17 P, o18 P, o19 P, o20 P, o21 P, o22 P, o23 P, o24 P, o25 P, o26 P, o27 P, o28 P, o29 P, o30 P, o31 P, o32 P, o33 P, o34 P, o638 P, o36 P, o37 P, o41 P, o42 P, o43 P, o44 P, o45 P, o46 P, o47 P, o48 P, o49 P, o50 P, o51 P, o52 P, o53 P, o54 P, o55 P, o56 P, o57 P, o58 P, o59 P, o60 P, o61 P, o62 P, o63 P, o64 P, o65 P, o66 P, o67 P, o68 P, o69 P, o70 P, o71 P, o72 P, o73 P, o74 P, o75 P, o76 P, o77 P, o78 P, o79 P, o80 P, o81 P, o82 P, o83 P, o84 P, o85 P, o86 P, o87 P, o88 P, o89 P, o90 P, o91 P, o92 P, o93 P, o94 P, o95 P, o96 P, o97 P, o98 P, o99 P, o100 P, o101 P, o102 P, o103 P, o104 P, o105 P, o106 P, o107 P, o108 P, o109 P, o110 P, o111 P, o112 P, o113 P, o114 P, o115 P, o116 P, o117 P, o118 P, o119 P, o120 P, o141 P, o122 P, o123 P, o124 P, o125 P, o126 P, o127 P, o128 P, o129 P, o130 P, o131 P, o132 P, o133 P, o134 P, o135 P, o156 P, o137 P, o138 P, o142 P, o143 P, o144 P, o145 P, o146 P, o147 P, o148 P, o149 P, o150 P, o389 P, o152 P, o153 P, o157 P, o158 P, o159 P, o160 P, o161 P, o162 P, o163 P, o164 P, o165 P, o166 P, o167 P, o168 P, o169 P, o170 P, o171 P, o172 P, o173 P, o174 P, o175 P, o176 P, o177 P, o178 P, o179 P, o180 P, o181 P, o182 P, o183 P, o184 P, o185 P, o186 P, o187 P, o188 P, o189 P, o190 P, o191 P, o192 P, o193 P, o194 P, o195 P, o196 P, o197 P, o198 P, o199 P, o200 P, o201 P, o202 P, o203 P, o204 P, o205 P, o206 P, o207 P, o208 P, o209 P, o210 P, o211 P, o212 P, o213 P, o214 P, o215 P, o216 P, o217 P, o218 P, o219 P, o220 P, o221 P, o222 P, o223 P, o224 P, o225 P, o226 P, o227 P, o228 P, o229 P, o230 P, o231 P, o232 P, o233 P, o234 P, o235 P, o236 P, o237 P, o238 P, o239 P, o240 P, o241 P, o242 P, o243 P, o244 P, o245 P, o246 P, o247 P, o248 P, o249 P, o250 P, o251 P, o252 P, o253 P, o254 P, o255 P, o256 P, o257 P, o258 P, o259 P, o260 P, o261 P, o262 P, o263 P, o264 P, o265 P, o266 P, o267 P, o268 P, o269 P, o270 P, o271 P, o272 P, o273 P, o274 P, o275 P, o276 P, o277 P, o278 P, o279 P, o280 P, o281 P, o282 P, o283 P, o284 P, o285 P, o286 P, o287 P, o288 P, o289 P, o290 P, o291 P, o292 P, o293 P, o294 P, o295 P, o296 P, o297 P, o298 P, o299 P, o300 P, o301 P, o302 P, o303 P, o304 P, o305 P, o306 P, o307 P, o308 P, o309 P, o310 P, o311 P, o312 P, o313 P, o314 P, o315 P, o316 P, o317 P, o318 P, o319 P, o320 P, o321 P, o322 P, o323 P, o324 P, o325 P, o326 P, o327 P, o328 P, o329 P, o330 P, o331 P, o332 P, o333 P, o334 P, o335 P, o336 P, o337 P, o338 P, o339 P, o340 P, o341 P, o342 P, o343 P, o344 P, o345 P, o346 P, o347 P, o348 P, o349 P, o350 P, o351 P, o352 P, o353 P, o354 P, o355 P, o356 P, o357 P, o358 P, o359 P, o360 P, o361 P, o362 P, o363 P, o364 P, o365 P, o366 P, o367 P, o368 P, o369 P, o370 P, o371 P, o372 P, o373 P, o374 P, o375 P, o376 P, o377 P, o378 P, o379 P, o380 P, o381 P, o382 P, o383 P, o384 P, o385 P, o386 P, o390 P, o391 P, o392 P, o393 P, o394 P, o395 P, o396 P, o397 P, o398 P, o399 P, o400 P, o401 P, o402 P, o403 P, o404 P, o405 P, o406 P, o407 P, o408 P, o409 P, o410 P, o411 P, o412 P, o413 P, o414 P, o415 P, o416 P, o417 P, o418 P, o419 P, o420 P, o421 P, o422 P, o423 P, o424 P, o425 P, o426 P, o427 P, o428 P, o429 P, o430 P, o431 P, o432 P, o433 P, o434 P, o435 P, o436 P, o437 P, o438 P, o439 P, o440 P, o441 P, o442 P, o443 P, o444 P, o445 P, o446 P, o447 P, o448 P, o449 P, o450 P, o451 P, o452 P, o453 P, o454 P, o455 P, o456 P, o457 P, o458 P, o459 P, o460 P, o461 P, o462 P, o463 P, o464 P, o465 P, o466 P, o467 P, o468 P, o469 P, o470 P, o471 P, o472 P, o473 P, o474 P, o475 P, o476 P, o477 P, o478 P, o479 P, o480 P, o481 P, o482 P, o483 P, o484 P, o485 P, o486 P, o487 P, o488 P, o489 P, o490 P, o491 P, o492 P, o493 P, o494 P, o495 P, o496 P, o497 P, o498 P, o499 P, o500 P, o501 P, o502 P, o503 P, o504 P, o505 P, o506 P, o507 P, o508 P, o509 P, o510 P, o511 P, o512 P, o513 P, o514 P, o515 P, o516 P, o517 P, o518 P, o519 P, o520 P, o521 P, o522 P, o523 P, o524 P, o525 P, o526 P, o527 P, o528 P, o529 P, o530 P, o531 P, o532 P, o533 P, o534 P, o535 P, o536 P, o537 P, o538 P, o539 P, o540 P, o541 P, o542 P, o543 P, o544 P, o545 P, o546 P, o547 P, o548 P, o549 P, o550 P, o551 P, o552 P, o553 P, o554 P, o555 P, o556 P, o557 P, o558 P, o559 P, o560 P, o561 P, o562 P, o563 P, o564 P, o565 P, o566 P, o567 P, o568 P, o569 P, o570 P, o571 P, o572 P, o573 P, o574 P, o575 P, o576 P, o577 P, o578 P, o579 P, o580 P, o581 P, o582 P, o583 P, o584 P, o585 P, o586 P, o587 P, o588 P, o589 P, o590 P, o591 P, o592 P, o593 P, o594 P, o595 P, o596 P, o597 P, o598 P, o599 P, o600 P, o601 P, o602 P, o603 P, o604 P, o605 P, o606 P, o607 P, o608 P, o609 P, o610 P, o611 P, o612 P, o613 P, o614 P, o615 P, o616 P, o617 P, o618 P, o619 P, o620 P, o621 P, o622 P, o623 P, o624 P, o625 P, o626 P, o627 P, o628 P, o629 P, o630 P, o631 P, o632 P, o633 P, o634 P, o635 P, o636 P, o639 P, o640 P, o641 P, o642 P, o643 P, o644 P, o645 P, o646 P, o647 P, o648 P, o649 P, o650 P, o651 P, o652 P, o653 P, o654 P, o655 P, o656 P, o657 P, o658 P, o659 P, o660 P, o661 P, o662 P, o663 P, o664 P, o665 P, o666 P, o667 P, o668 P, o669 P, o670 P, o671 P, o672 P, o673 P, o674 P, o675 P, o676 P, o677 P, o678 P, o679 P, o680 P, o681 P, o682 P, o683 P, o684 P, o685 P, o686 P, o687 P, o688 P, o689 P, o690 P, o691 P, o692 P, o693 P, o694 P, o695 P, o696 P, o697 P, o698 P, o699 P, o700 P, o701 P, o702 P, o703 P, o704 P, o705 P, o706 P, o707 P, o708 P, o709 P, o710 P, o711 P, o712 P, o713 P, o714 P, o715 P, o716 P, o717 P, o718 P, o719 P, o720 P, o721 P, o722 P, o723 P, o724 P, o725 P, o726 P, o727 P, o728 P, o729 P, o730 P, o731 P, o732 P, o733 P, o734 P, o735 P, o736 P, o737 P, o738 P, o739 P, o740 P, o741 P, o742 P, o743 P, o744 P, o745 P, o746 P, o747 P, o748 P, o749 P, o750 P, o751 P, o752 P, o753 P, o754 P, o755 P, o756 P, o757 P, o758 P, o759 P, o760 P, o761 P, o762 P, o763 P, o764 P, o765 P, o766 P, o767 P, o768 P, o769 P, o770 P, o771 P, o772 P, o773 P, o774 P, o775 P, o776 P, o777 P, o778 P, o779 P, o780 P, o781 P, o782 P, o783 P, o784 P, o785 P, o786 P, o787 P, o788 P, o789 P, o790 P, o791 P, o792 P, o793 P, o794 P, o795 P, o796 P, o797 P, o798 P]
noncomputable def sts4 : List Stmt := (body0.drop 15).take 16
theorem piece4 (w : World) (os : OsState) : segRunT treeTable pw w 34 ann0 1 986 ⟨T4 w.params, 625, life0, #[], ⟨0, 0, 0, 0⟩, 1056, os⟩ (piecesOf sts4 env0 code0 ⟨221, 0, 425, 17⟩ B0) = some (.next, ⟨T5 w.params, 785, life0, #[], ⟨0, 0, 0, 0⟩, 1285, os⟩, code0, ⟨761, 0, 761, 8⟩) := by kernel_rfl
noncomputable def o799 (P : Params) : Obj := ⟨.type "dict", none, .dict #[ent P "__name__" 165 (.str "law_dn0059_08" 1283), ent P "__doc__" 166 (.none), ent P "__package__" 167 (.none), ent P "__loader__" 168 (.builtin "__main__.__loader__#opaque"), ent P "__spec__" 169 (.none), ent P "__annotations__" 170 (.ref 6), ent P "__builtins__" 171 (.ref 4), ent P "__file__" 173 (.str "/claim/cut.py" 172), ent P "__cached__" 174 (.none), ent P "_sre" 275 (.ref 12), ent P "deque" 317 (.type "collections.deque"), ent P "_wall" 330 (.ref 44), ent P "dict_replace_saxutils" 342 (.ref 51), ent P "escape" 350 (.ref 60), ent P "unescape" 358 (.ref 69), ent P "_twin_re_1" 398 (.ref 74), ent P "_whence" 408 (.ref 81), ent P "_index" 416 (.ref 88), ent P "UnsupportedOperation" 438 (.ref 98), ent P "IOBase" 470 (.ref 118), ent P "BufferedIOBase" 488 (.ref 133), ent P "TextIOBase" 506 (.ref 145), ent P "BytesIO" 768 (.ref 375), ent P "StringIO" 1055 (.ref 622), ent P "_kind" 1066 (.ref 631), ent P "_fspath" 1075 (.ref 638), ent P "_check_arg_types" 1085 (.ref 645), ent P "isabs" 1092 (.ref 652), ent P "join" 1103 (.ref 776), ent P "join_path" 1104 (.ref 659), ent P "dirname" 1114 (.ref 666), ent P "shlex" 1255 (.ref 757), ent P "split" 1265 (.ref 769), ent P "join_shlex" 1273 (.ref 776), ent P "_find_unsafe" 1275 (.ref 777), ent P "quote" 1282 (.ref 784), ent P "_law_digits" 1293 (.ref 791), ent P "_law_sign" 1300 (.ref 798), ent P "_law_words" 1309 (.ref 805), ent P "_law_is_bare" 1315 (.ref 810), ent P "law" 1321 (.ref 815)] 41, #[]⟩
noncomputable def o800 (P : Params) : Obj := ⟨.none, none, .fields #[.int 3 0, .int 0 0, .ref 43, .int 7 0, .int 0 0, .ref 50, .int 11 0, .int 0 0, .ref 59, .int 18 0, .int 0 0, .ref 68, .int 26 0, .int 0 0, .ref 80, .int 31 0, .int 0 0, .ref 87, .int 38 0, .int 0 0, .ref 94, .int 40 0, .int 0 0, .ref 107, .int 47 0, .int 0 0, .ref 129, .int 49 0, .int 0 0, .ref 141, .int 51 0, .int 0 0, .ref 153, .int 221 0, .int 0 0, .ref 383, .int 427 0, .int 0 0, .ref 630, .int 448 0, .int 0 0, .ref 637, .int 453 0, .int 0 0, .ref 644, .int 458 0, .int 0 0, .ref 651, .int 461 0, .int 0 0, .ref 658, .int 482 0, .int 0 0, .ref 665, .int 491 0, .int 0 0, .ref 672, .int 743 0, .int 0 0, .ref 768, .int 751 0, .int 0 0, .ref 775, .int 755 0, .int 0 0, .ref 783, .int 762 0, .int 0 0, .ref 790, .int 771 0, .int 0 0, .ref 797, .int 775 0, .int 0 0, .ref 804, .int 785 0, .int 0 0, .ref 809, .int 788 0, .int 0 0, .ref 814], #[]⟩
noncomputable def o801 (P : Params) : Obj := ⟨.type "tuple", none, .seq #[] 0, #[]⟩
noncomputable def o802 (P : Params) : Obj := ⟨.none, none, .fields #[], #[]⟩
noncomputable def o803 (P : Params) : Obj := ⟨.type "tuple", none, .seq #[.str "numbers" 1288, .str "digits" 1289, .str "x" 1290] 0, #[]⟩
noncomputable def o804 (P : Params) : Obj := ⟨.type "tuple", none, .seq #[] 0, #[]⟩
noncomputable def o805 (P : Params) : Obj := ⟨.none, none, .func (fnAt [33] "_law_digits" "_law_digits" 0 [] (.none) (.none) (.none) (.none) none (.none) (.none) 0), #[]⟩
noncomputable def o806 (P : Params) : Obj := ⟨.type "code", none, .fields #[.str "_law_digits" 1285, .str "_law_digits" 1286, .str "/claim/cut.py" 1287, .int 762 0, .int 1 0, .int 0 0, .int 0 0, .int 3 0, .ref 785, .bool true, .int 318 0, .ref 786, .none, .ref 787, .ref 788, .ref 789, .int 1291 0, .int 762 0, .str "/claim/cut.py" 1292], #[]⟩
noncomputable def o807 (P : Params) : Obj := ⟨.type "function", none, .func (fnAt [33] "_law_digits" "_law_digits" 3 [] (.none) (.none) (.none) (.str "law_dn0059_08" 1283) none (.ref 790) (.none) 0), #[]⟩
noncomputable def o808 (P : Params) : Obj := ⟨.type "tuple", none, .seq #[] 0, #[]⟩
noncomputable def o809 (P : Params) : Obj := ⟨.none, none, .fields #[], #[]⟩
noncomputable def o810 (P : Params) : Obj := ⟨.type "tuple", none, .seq #[.str "d" 1297] 0, #[]⟩
noncomputable def o811 (P : Params) : Obj := ⟨.type "tuple", none, .seq #[] 0, #[]⟩
noncomputable def o812 (P : Params) : Obj := ⟨.none, none, .func (fnAt [34] "_law_sign" "_law_sign" 0 [] (.none) (.none) (.none) (.none) none (.none) (.none) 0), #[]⟩
noncomputable def o813 (P : Params) : Obj := ⟨.type "code", none, .fields #[.str "_law_sign" 1294, .str "_law_sign" 1295, .str "/claim/cut.py" 1296, .int 771 0, .int 1 0, .int 0 0, .int 0 0, .int 3 0, .ref 792, .bool true, .int 318 0, .ref 793, .none, .ref 794, .ref 795, .ref 796, .int 1298 0, .int 771 0, .str "/claim/cut.py" 1299], #[]⟩
noncomputable def o814 (P : Params) : Obj := ⟨.type "function", none, .func (fnAt [34] "_law_sign" "_law_sign" 3 [] (.none) (.none) (.none) (.str "law_dn0059_08" 1283) none (.ref 797) (.none) 0), #[]⟩
noncomputable def o815 (P : Params) : Obj := ⟨.type "tuple", none, .seq #[] 0, #[]⟩
noncomputable def o816 (P : Params) : Obj := ⟨.none, none, .fields #[], #[]⟩
noncomputable def o817 (P : Params) : Obj := ⟨.type "tuple", none, .seq #[.str "digits" 1304, .str "words" 1305, .str "d" 1306] 0, #[]⟩
noncomputable def o818 (P : Params) : Obj := ⟨.type "tuple", none, .seq #[] 0, #[]⟩
noncomputable def o819 (P : Params) : Obj := ⟨.none, none, .func (fnAt [35] "_law_words" "_law_words" 0 [] (.none) (.none) (.none) (.none) none (.none) (.none) 0), #[]⟩
noncomputable def o820 (P : Params) : Obj := ⟨.type "code", none, .fields #[.str "_law_words" 1301, .str "_law_words" 1302, .str "/claim/cut.py" 1303, .int 775 0, .int 1 0, .int 0 0, .int 0 0, .int 3 0, .ref 799, .bool true, .int 318 0, .ref 800, .none, .ref 801, .ref 802, .ref 803, .int 1307 0, .int 775 0, .str "/claim/cut.py" 1308], #[]⟩
noncomputable def o821 (P : Params) : Obj := ⟨.type "function", none, .func (fnAt [35] "_law_words" "_law_words" 3 [] (.none) (.none) (.none) (.str "law_dn0059_08" 1283) none (.ref 804) (.none) 0), #[]⟩
noncomputable def o822 (P : Params) : Obj := ⟨.type "tuple", none, .seq #[] 0, #[]⟩
noncomputable def o823 (P : Params) : Obj := ⟨.none, none, .fields #[], #[]⟩
noncomputable def o824 (P : Params) : Obj := ⟨.none, none, .func (fnAt [36] "_law_is_bare" "_law_is_bare" 0 [] (.none) (.none) (.none) (.none) none (.none) (.none) 0), #[]⟩
noncomputable def o825 (P : Params) : Obj := ⟨.type "code", none, .fields #[.str "_law_is_bare" 1310, .str "_law_is_bare" 1311, .str "/claim/cut.py" 1312, .int 785 0, .int 1 0, .int 0 0, .int 0 0, .int 3 0, .ref 806, .bool true, .int 318 0, .ref 807, .none, .none, .none, .ref 808, .int 1313 0, .int 785 0, .str "/claim/cut.py" 1314], #[]⟩
noncomputable def o826 (P : Params) : Obj := ⟨.type "function", none, .func (fnAt [36] "_law_is_bare" "_law_is_bare" 3 [] (.none) (.none) (.none) (.str "law_dn0059_08" 1283) none (.ref 809) (.none) 0), #[]⟩
noncomputable def o827 (P : Params) : Obj := ⟨.type "tuple", none, .seq #[] 0, #[]⟩
noncomputable def o828 (P : Params) : Obj := ⟨.none, none, .fields #[], #[]⟩
noncomputable def o829 (P : Params) : Obj := ⟨.none, none, .func (fnAt [37] "law" "law" 0 [] (.none) (.none) (.none) (.none) none (.none) (.none) 0), #[]⟩
noncomputable def o830 (P : Params) : Obj := ⟨.type "code", none, .fields #[.str "law" 1316, .str "law" 1317, .str "/claim/cut.py" 1318, .int 788 0, .int 1 0, .int 0 0, .int 0 0, .int 3 0, .ref 811, .bool true, .int 318 0, .ref 812, .none, .none, .none, .ref 813, .int 1319 0, .int 788 0, .str "/claim/cut.py" 1320], #[]⟩
noncomputable def o831 (P : Params) : Obj := ⟨.type "function", none, .func (fnAt [37] "law" "law" 3 [] (.none) (.none) (.none) (.str "law_dn0059_08" 1283) none (.ref 814) (.none) 0), #[]⟩
noncomputable def T6 (P : Params) : BT := btOf [o0 P, o1 P, o38 P, o799 P, o4 P, o5 P, o6 P, o7 P, o8 P, o9 P, o10 P, o11 P, o12 P, o13 P, o14 P, o15 P, o16 P, o17 P, o18 P, o19 P, o20 P, o21 P, o22 P, o23 P, o24 P, o25 P, o26 P, o27 P, o28 P, o29 P, o30 P, o31 P, o32 P, o33 P, o34 P, o800 P, o36 P, o37 P, o41 P, o42 P, o43 P, o44 P, o45 P, o46 P, o47 P, o48 P, o49 P, o50 P, o51 P, o52 P, o53 P, o54 P, o55 P, o56 P, o57 P, o58 P, o59 P, o60 P, o61 P, o62 P, o63 P, o64 P, o65 P, o66 P, o67 P, o68 P, o69 P, o70 P, o71 P, o72 P, o73 P, o74 P, o75 P, o76 P, o77 P, o78 P, o79 P, o80 P, o81 P, o82 P, o83 P, o84 P, o85 P, o86 P, o87 P, o88 P, o89 P, o90 P, o91 P, o92 P, o93 P, o94 P, o95 P, o96 P, o97 P, o98 P, o99 P, o100 P, o101 P, o102 P, o103 P, o104 P, o105 P, o106 P, o107 P, o108 P, o109 P, o110 P, o111 P, o112 P, o113 P, o114 P, o115 P, o116 P, o117 P, o118 P, o119 P, o120 P, o141 P, o122 P, o123 P, o124 P, o125 P, o126 P, o127 P, o128 P, o129 P, o130 P, o131 P, o132 P, o133 P, o134 P, o135 P, o156 P, o137 P, o138 P, o142 P, o143 P, o144 P, o145 P, o146 P, o147 P, o148 P, o149 P, o150 P, o389 P, o152 P, o153 P, o157 P, o158 P, o159 P, o160 P, o161 P, o162 P, o163 P, o164 P, o165 P, o166 P, o167 P, o168 P, o169 P, o170 P, o171 P, o172 P, o173 P, o174 P, o175 P, o176 P, o177 P, o178 P, o179 P, o180 P, o181 P, o182 P, o183 P, o184 P, o185 P, o186 P, o187 P, o188 P, o189 P, o190 P, o191 P, o192 P, o193 P, o194 P, o195 P, o196 P, o197 P, o198 P, o199 P, o200 P, o201 P, o202 P, o203 P, o204 P, o205 P, o206 P, o207 P, o208 P, o209 P, o210 P, o211 P, o212 P, o213 P, o214 P, o215 P, o216 P, o217 P, o218 P, o219 P, o220 P, o221 P, o222 P, o223 P, o224 P, o225 P, o226 P, o227 P, o228 P, o229 P, o230 P, o231 P, o232 P, o233 P, o234 P, o235 P, o236 P, o237 P, o238 P, o239 P, o240 P, o241 P, o242 P, o243 P, o244 P, o245 P, o246 P, o247 P, o248 P, o249 P, o250 P, o251 P, o252 P, o253 P, o254 P, o255 P, o256 P, o257 P, o258 P, o259 P, o260 P, o261 P, o262 P, o263 P, o264 P, o265 P, o266 P, o267 P, o268 P, o269 P, o270 P, o271 P, o272 P, o273 P, o274 P, o275 P, o276 P, o277 P, o278 P, o279 P, o280 P, o281 P, o282 P, o283 P, o284 P, o285 P, o286 P, o287 P, o288 P, o289 P, o290 P, o291 P, o292 P, o293 P, o294 P, o295 P, o296 P, o297 P, o298 P, o299 P, o300 P, o301 P, o302 P, o303 P, o304 P, o305 P, o306 P, o307 P, o308 P, o309 P, o310 P, o311 P, o312 P, o313 P, o314 P, o315 P, o316 P, o317 P, o318 P, o319 P, o320 P, o321 P, o322 P, o323 P, o324 P, o325 P, o326 P, o327 P, o328 P, o329 P, o330 P, o331 P, o332 P, o333 P, o334 P, o335 P, o336 P, o337 P, o338 P, o339 P, o340 P, o341 P, o342 P, o343 P, o344 P, o345 P, o346 P, o347 P, o348 P, o349 P, o350 P, o351 P, o352 P, o353 P, o354 P, o355 P, o356 P, o357 P, o358 P, o359 P, o360 P, o361 P, o362 P, o363 P, o364 P, o365 P, o366 P, o367 P, o368 P, o369 P, o370 P, o371 P, o372 P, o373 P, o374 P, o375 P, o376 P, o377 P, o378 P, o379 P, o380 P, o381 P, o382 P, o383 P, o384 P, o385 P, o386 P, o390 P, o391 P, o392 P, o393 P, o394 P, o395 P, o396 P, o397 P, o398 P, o399 P, o400 P, o401 P, o402 P, o403 P, o404 P, o405 P, o406 P, o407 P, o408 P, o409 P, o410 P, o411 P, o412 P, o413 P, o414 P, o415 P, o416 P, o417 P, o418 P, o419 P, o420 P, o421 P, o422 P, o423 P, o424 P, o425 P, o426 P, o427 P, o428 P, o429 P, o430 P, o431 P, o432 P, o433 P, o434 P, o435 P, o436 P, o437 P, o438 P, o439 P, o440 P, o441 P, o442 P, o443 P, o444 P, o445 P, o446 P, o447 P, o448 P, o449 P, o450 P, o451 P, o452 P, o453 P, o454 P, o455 P, o456 P, o457 P, o458 P, o459 P, o460 P, o461 P, o462 P, o463 P, o464 P, o465 P, o466 P, o467 P, o468 P, o469 P, o470 P, o471 P, o472 P, o473 P, o474 P, o475 P, o476 P, o477 P, o478 P, o479 P, o480 P, o481 P, o482 P, o483 P, o484 P, o485 P, o486 P, o487 P, o488 P, o489 P, o490 P, o491 P, o492 P, o493 P, o494 P, o495 P, o496 P, o497 P, o498 P, o499 P, o500 P, o501 P, o502 P, o503 P, o504 P, o505 P, o506 P, o507 P, o508 P, o509 P, o510 P, o511 P, o512 P, o513 P, o514 P, o515 P, o516 P, o517 P, o518 P, o519 P, o520 P, o521 P, o522 P, o523 P, o524 P, o525 P, o526 P, o527 P, o528 P, o529 P, o530 P, o531 P, o532 P, o533 P, o534 P, o535 P, o536 P, o537 P, o538 P, o539 P, o540 P, o541 P, o542 P, o543 P, o544 P, o545 P, o546 P, o547 P, o548 P, o549 P, o550 P, o551 P, o552 P, o553 P, o554 P, o555 P, o556 P, o557 P, o558 P, o559 P, o560 P, o561 P, o562 P, o563 P, o564 P, o565 P, o566 P, o567 P, o568 P, o569 P, o570 P, o571 P, o572 P, o573 P, o574 P, o575 P, o576 P, o577 P, o578 P, o579 P, o580 P, o581 P, o582 P, o583 P, o584 P, o585 P, o586 P, o587 P, o588 P, o589 P, o590 P, o591 P, o592 P, o593 P, o594 P, o595 P, o596 P, o597 P, o598 P, o599 P, o600 P, o601 P, o602 P, o603 P, o604 P, o605 P, o606 P, o607 P, o608 P, o609 P, o610 P, o611 P, o612 P, o613 P, o614 P, o615 P, o616 P, o617 P, o618 P, o619 P, o620 P, o621 P, o622 P, o623 P, o624 P, o625 P, o626 P, o627 P, o628 P, o629 P, o630 P, o631 P, o632 P, o633 P, o634 P, o635 P, o636 P, o639 P, o640 P, o641 P, o642 P, o643 P, o644 P, o645 P, o646 P, o647 P, o648 P, o649 P, o650 P, o651 P, o652 P, o653 P, o654 P, o655 P, o656 P, o657 P, o658 P, o659 P, o660 P, o661 P, o662 P, o663 P, o664 P, o665 P, o666 P, o667 P, o668 P, o669 P, o670 P, o671 P, o672 P, o673 P, o674 P, o675 P, o676 P, o677 P, o678 P, o679 P, o680 P, o681 P, o682 P, o683 P, o684 P, o685 P, o686 P, o687 P, o688 P, o689 P, o690 P, o691 P, o692 P, o693 P, o694 P, o695 P, o696 P, o697 P, o698 P, o699 P, o700 P, o701 P, o702 P, o703 P, o704 P, o705 P, o706 P, o707 P, o708 P, o709 P, o710 P, o711 P, o712 P, o713 P, o714 P, o715 P, o716 P, o717 P, o718 P, o719 P, o720 P, o721 P, o722 P, o723 P, o724 P, o725 P, o726 P, o727 P, o728 P, o729 P, o730 P, o731 P, o732 P, o733 P, o734 P, o735 P, o736 P, o737 P, o738 P, o739 P, o740 P, o741 P, o742 P, o743 P, o744 P, o745 P, o746 P, o747 P, o748 P, o749 P, o750 P, o751 P, o752 P, o753 P, o754 P, o755 P, o756 P, o757 P, o758 P, o759 P, o760 P, o761 P, o762 P, o763 P, o764 P, o765 P, o766 P, o767 P, o768 P, o769 P, o770 P, o771 P, o772 P, o773 P, o774 P, o775 P, o776 P, o777 P, o778 P, o779 P, o780 P, o781 P, o782 P, o783 P, o784 P, o785 P, o786 P, o787 P, o788 P, o789 P, o790 P, o791 P, o792 P, o793 P, o794 P, o795 P, o796 P, o797 P, o798 P, o801 P, o802 P, o803 P, o804 P, o805 P, o806 P, o807 P, o808 P, o809 P, o810 P, o811 P, o812 P, o813 P, o814 P, o815 P, o816 P, o817 P, o818 P, o819 P, o820 P, o821 P, o822 P, o823 P, o824 P, o825 P, o826 P, o827 P, o828 P, o829 P, o830 P, o831 P]
noncomputable def sts5 : List Stmt := (body0.drop 31).take 5
theorem piece5 (w : World) (os : OsState) : segRunT treeTable pw w 34 ann0 1 144 ⟨T5 w.params, 785, life0, #[], ⟨0, 0, 0, 0⟩, 1285, os⟩ (piecesOf sts5 env0 code0 ⟨761, 0, 761, 8⟩ B0) = some (.next, ⟨T6 w.params, 816, life0, #[], ⟨0, 0, 0, 0⟩, 1322, os⟩, code0, ⟨788, 0, 817, 34⟩) := by kernel_rfl
noncomputable def H1 (P : Params) : Heap := ⟨⟨[o0 P, o1 P, o38 P, o799 P, o4 P, o5 P, o6 P, o7 P, o8 P, o9 P, o10 P, o11 P, o12 P, o13 P, o14 P, o15 P, o16 P, o17 P, o18 P, o19 P, o20 P, o21 P, o22 P, o23 P, o24 P, o25 P, o26 P, o27 P, o28 P, o29 P, o30 P, o31 P, o32 P, o33 P, o34 P, o800 P, o36 P, o37 P, o41 P, o42 P, o43 P, o44 P, o45 P, o46 P, o47 P, o48 P, o49 P, o50 P, o51 P, o52 P, o53 P, o54 P, o55 P, o56 P, o57 P, o58 P, o59 P, o60 P, o61 P, o62 P, o63 P, o64 P, o65 P, o66 P, o67 P, o68 P, o69 P, o70 P, o71 P, o72 P, o73 P, o74 P, o75 P, o76 P, o77 P, o78 P, o79 P, o80 P, o81 P, o82 P, o83 P, o84 P, o85 P, o86 P, o87 P, o88 P, o89 P, o90 P, o91 P, o92 P, o93 P, o94 P, o95 P, o96 P, o97 P, o98 P, o99 P, o100 P, o101 P, o102 P, o103 P, o104 P, o105 P, o106 P, o107 P, o108 P, o109 P, o110 P, o111 P, o112 P, o113 P, o114 P, o115 P, o116 P, o117 P, o118 P, o119 P, o120 P, o141 P, o122 P, o123 P, o124 P, o125 P, o126 P, o127 P, o128 P, o129 P, o130 P, o131 P, o132 P, o133 P, o134 P, o135 P, o156 P, o137 P, o138 P, o142 P, o143 P, o144 P, o145 P, o146 P, o147 P, o148 P, o149 P, o150 P, o389 P, o152 P, o153 P, o157 P, o158 P, o159 P, o160 P, o161 P, o162 P, o163 P, o164 P, o165 P, o166 P, o167 P, o168 P, o169 P, o170 P, o171 P, o172 P, o173 P, o174 P, o175 P, o176 P, o177 P, o178 P, o179 P, o180 P, o181 P, o182 P, o183 P, o184 P, o185 P, o186 P, o187 P, o188 P, o189 P, o190 P, o191 P, o192 P, o193 P, o194 P, o195 P, o196 P, o197 P, o198 P, o199 P, o200 P, o201 P, o202 P, o203 P, o204 P, o205 P, o206 P, o207 P, o208 P, o209 P, o210 P, o211 P, o212 P, o213 P, o214 P, o215 P, o216 P, o217 P, o218 P, o219 P, o220 P, o221 P, o222 P, o223 P, o224 P, o225 P, o226 P, o227 P, o228 P, o229 P, o230 P, o231 P, o232 P, o233 P, o234 P, o235 P, o236 P, o237 P, o238 P, o239 P, o240 P, o241 P, o242 P, o243 P, o244 P, o245 P, o246 P, o247 P, o248 P, o249 P, o250 P, o251 P, o252 P, o253 P, o254 P, o255 P, o256 P, o257 P, o258 P, o259 P, o260 P, o261 P, o262 P, o263 P, o264 P, o265 P, o266 P, o267 P, o268 P, o269 P, o270 P, o271 P, o272 P, o273 P, o274 P, o275 P, o276 P, o277 P, o278 P, o279 P, o280 P, o281 P, o282 P, o283 P, o284 P, o285 P, o286 P, o287 P, o288 P, o289 P, o290 P, o291 P, o292 P, o293 P, o294 P, o295 P, o296 P, o297 P, o298 P, o299 P, o300 P, o301 P, o302 P, o303 P, o304 P, o305 P, o306 P, o307 P, o308 P, o309 P, o310 P, o311 P, o312 P, o313 P, o314 P, o315 P, o316 P, o317 P, o318 P, o319 P, o320 P, o321 P, o322 P, o323 P, o324 P, o325 P, o326 P, o327 P, o328 P, o329 P, o330 P, o331 P, o332 P, o333 P, o334 P, o335 P, o336 P, o337 P, o338 P, o339 P, o340 P, o341 P, o342 P, o343 P, o344 P, o345 P, o346 P, o347 P, o348 P, o349 P, o350 P, o351 P, o352 P, o353 P, o354 P, o355 P, o356 P, o357 P, o358 P, o359 P, o360 P, o361 P, o362 P, o363 P, o364 P, o365 P, o366 P, o367 P, o368 P, o369 P, o370 P, o371 P, o372 P, o373 P, o374 P, o375 P, o376 P, o377 P, o378 P, o379 P, o380 P, o381 P, o382 P, o383 P, o384 P, o385 P, o386 P, o390 P, o391 P, o392 P, o393 P, o394 P, o395 P, o396 P, o397 P, o398 P, o399 P, o400 P, o401 P, o402 P, o403 P, o404 P, o405 P, o406 P, o407 P, o408 P, o409 P, o410 P, o411 P, o412 P, o413 P, o414 P, o415 P, o416 P, o417 P, o418 P, o419 P, o420 P, o421 P, o422 P, o423 P, o424 P, o425 P, o426 P, o427 P, o428 P, o429 P, o430 P, o431 P, o432 P, o433 P, o434 P, o435 P, o436 P, o437 P, o438 P, o439 P, o440 P, o441 P, o442 P, o443 P, o444 P, o445 P, o446 P, o447 P, o448 P, o449 P, o450 P, o451 P, o452 P, o453 P, o454 P, o455 P, o456 P, o457 P, o458 P, o459 P, o460 P, o461 P, o462 P, o463 P, o464 P, o465 P, o466 P, o467 P, o468 P, o469 P, o470 P, o471 P, o472 P, o473 P, o474 P, o475 P, o476 P, o477 P, o478 P, o479 P, o480 P, o481 P, o482 P, o483 P, o484 P, o485 P, o486 P, o487 P, o488 P, o489 P, o490 P, o491 P, o492 P, o493 P, o494 P, o495 P, o496 P, o497 P, o498 P, o499 P, o500 P, o501 P, o502 P, o503 P, o504 P, o505 P, o506 P, o507 P, o508 P, o509 P, o510 P, o511 P, o512 P, o513 P, o514 P, o515 P, o516 P, o517 P, o518 P, o519 P, o520 P, o521 P, o522 P, o523 P, o524 P, o525 P, o526 P, o527 P, o528 P, o529 P, o530 P, o531 P, o532 P, o533 P, o534 P, o535 P, o536 P, o537 P, o538 P, o539 P, o540 P, o541 P, o542 P, o543 P, o544 P, o545 P, o546 P, o547 P, o548 P, o549 P, o550 P, o551 P, o552 P, o553 P, o554 P, o555 P, o556 P, o557 P, o558 P, o559 P, o560 P, o561 P, o562 P, o563 P, o564 P, o565 P, o566 P, o567 P, o568 P, o569 P, o570 P, o571 P, o572 P, o573 P, o574 P, o575 P, o576 P, o577 P, o578 P, o579 P, o580 P, o581 P, o582 P, o583 P, o584 P, o585 P, o586 P, o587 P, o588 P, o589 P, o590 P, o591 P, o592 P, o593 P, o594 P, o595 P, o596 P, o597 P, o598 P, o599 P, o600 P, o601 P, o602 P, o603 P, o604 P, o605 P, o606 P, o607 P, o608 P, o609 P, o610 P, o611 P, o612 P, o613 P, o614 P, o615 P, o616 P, o617 P, o618 P, o619 P, o620 P, o621 P, o622 P, o623 P, o624 P, o625 P, o626 P, o627 P, o628 P, o629 P, o630 P, o631 P, o632 P, o633 P, o634 P, o635 P, o636 P, o639 P, o640 P, o641 P, o642 P, o643 P, o644 P, o645 P, o646 P, o647 P, o648 P, o649 P, o650 P, o651 P, o652 P, o653 P, o654 P, o655 P, o656 P, o657 P, o658 P, o659 P, o660 P, o661 P, o662 P, o663 P, o664 P, o665 P, o666 P, o667 P, o668 P, o669 P, o670 P, o671 P, o672 P, o673 P, o674 P, o675 P, o676 P, o677 P, o678 P, o679 P, o680 P, o681 P, o682 P, o683 P, o684 P, o685 P, o686 P, o687 P, o688 P, o689 P, o690 P, o691 P, o692 P, o693 P, o694 P, o695 P, o696 P, o697 P, o698 P, o699 P, o700 P, o701 P, o702 P, o703 P, o704 P, o705 P, o706 P, o707 P, o708 P, o709 P, o710 P, o711 P, o712 P, o713 P, o714 P, o715 P, o716 P, o717 P, o718 P, o719 P, o720 P, o721 P, o722 P, o723 P, o724 P, o725 P, o726 P, o727 P, o728 P, o729 P, o730 P, o731 P, o732 P, o733 P, o734 P, o735 P, o736 P, o737 P, o738 P, o739 P, o740 P, o741 P, o742 P, o743 P, o744 P, o745 P, o746 P, o747 P, o748 P, o749 P, o750 P, o751 P, o752 P, o753 P, o754 P, o755 P, o756 P, o757 P, o758 P, o759 P, o760 P, o761 P, o762 P, o763 P, o764 P, o765 P, o766 P, o767 P, o768 P, o769 P, o770 P, o771 P, o772 P, o773 P, o774 P, o775 P, o776 P, o777 P, o778 P, o779 P, o780 P, o781 P, o782 P, o783 P, o784 P, o785 P, o786 P, o787 P, o788 P, o789 P, o790 P, o791 P, o792 P, o793 P, o794 P, o795 P, o796 P, o797 P, o798 P, o801 P, o802 P, o803 P, o804 P, o805 P, o806 P, o807 P, o808 P, o809 P, o810 P, o811 P, o812 P, o813 P, o814 P, o815 P, o816 P, o817 P, o818 P, o819 P, o820 P, o821 P, o822 P, o823 P, o824 P, o825 P, o826 P, o827 P, o828 P, o829 P, o830 P, o831 P]⟩, { registered := [], finalised := [], alive := [], known := 0, ids := [], orphanDicts := [], counting := false, cnt := #[], zero := [], soft := 0, below := false, collecting := false, loading := false, debug := 0, thresholds := [2000, 10, 10], woke := false, asked := 0, gcEnabled := true, old := [], middle := [], young := 0, intoMiddle := false }⟩
theorem fin_runs (w : World) (os : OsState) : topRun treeTable pw w 34 ann0 2 (SharedT.abs ⟨T6 w.params, 816, life0, #[], ⟨0, 0, 0, 0⟩, 1322, os⟩) ⟨doneF .next, code0, ⟨788, 0, 817, 34⟩, B0⟩ = some ⟨H1 w.params, #[], ⟨0, 0, 0, 0⟩, 1322, os⟩ := by kernel_rfl
theorem body0_is : body0 = (sts0 ++ (sts1 ++ (sts2 ++ (sts3 ++ (sts4 ++ (sts5 ++ [])))))) := by kernel_rfl
theorem top_runs (w : World) (os : OsState) : topRun treeTable pw w 34 ann0 5184 ⟨H0 w.params, #[], ⟨0, 0, 0, 0⟩, 318, os⟩ (topStub pw) = some ⟨H1 w.params, #[], ⟨0, 0, 0, 0⟩, 1322, os⟩ := by
  have k := piece_block (block_runs w os) (show topRun treeTable pw w 34 ann0 (959 + (224 + (1278 + (1578 + (986 + (144 + 2)))))) (SharedT.abs ⟨T0 w.params, 38, life0, #[], ⟨0, 0, 0, 0⟩, 324, os⟩) (restOf body0 env0 code0 ⟨0, 0, 0, 0⟩ B0) = some ⟨H1 w.params, #[], ⟨0, 0, 0, 0⟩, 1322, os⟩ from by rw [body0_is]; exact (piece_app (l := sts0) (rest := (sts1 ++ (sts2 ++ (sts3 ++ (sts4 ++ (sts5 ++ [])))))) (segRun_of (piece0 w os)) (piece_app (l := sts1) (rest := (sts2 ++ (sts3 ++ (sts4 ++ (sts5 ++ []))))) (segRun_of (piece1 w os)) (piece_app (l := sts2) (rest := (sts3 ++ (sts4 ++ (sts5 ++ [])))) (segRun_of (piece2 w os)) (piece_app (l := sts3) (rest := (sts4 ++ (sts5 ++ []))) (segRun_of (piece3 w os)) (piece_app (l := sts4) (rest := (sts5 ++ [])) (segRun_of (piece4 w os)) (piece_app (l := sts5) (rest := []) (segRun_of (piece5 w os)) (fin_runs w os))))))))
  exact go_top (pre_runs w os) k

end Mine
end
section
open PySem PySem.W PyProof.Rows PySem.Calls
set_option Elab.async false
set_option maxRecDepth 100000
set_option maxHeartbeats 400000
set_option linter.unusedVariables false
namespace Mine
open PySem.W.X (Led)

/-! ### assoc lists of names -/
inductive MAt : List (Str × Value) → Str → Value → Prop
  | head {x v r} : MAt ((x, v) :: r) x v
  | tail {y u x v r} (h : (x == y) = false) : MAt r x v → MAt ((y, u) :: r) x v
theorem MAt.lookup {m x v} (h : MAt m x v) : m.lookup x = some v := by
  induction h with
  | head => rw [List.lookup_cons_self]
  | tail h _ ih => rw [List.lookup_cons, h]; exact ih
inductive MPut : List (Str × Value) → Str → Value → List (Str × Value) → Prop
  | nil {x v} : MPut [] x v [(x, v)]
  | head {x u v r} : MPut ((x, u) :: r) x v ((x, v) :: r)
  | tail {y u x v r r'} (h : (x == y) = false) : MPut r x v r' → MPut ((y, u) :: r) x v ((y, u) :: r')
theorem MPut.lookup {m x v m'} (h : MPut m x v m') : (fun y => if y = x then some v else m.lookup y) = fun y => m'.lookup y := by
  induction h with
  | nil =>
    funext y
    rename_i x v
    by_cases e : y = x
    · subst e; rw [if_pos rfl, List.lookup_cons_self]
    · rw [if_neg e, List.lookup_cons, beq_false_of_ne e]
  | head =>
    funext y
    rename_i x u v r
    by_cases e : y = x
    · subst e; rw [if_pos rfl, List.lookup_cons_self]
    · rw [if_neg e, List.lookup_cons, List.lookup_cons, beq_false_of_ne e]
  | tail h _ ih =>
    funext y
    rename_i z u x v r r' _
    have q : (if y = x then some v else r.lookup y) = r'.lookup y := congrFun ih y
    rw [List.lookup_cons, List.lookup_cons]
    by_cases e : y = x
    · subst e
      rw [if_pos rfl] at q
      rw [if_pos rfl, h]
      exact q
    · rw [if_neg e] at q
      rw [if_neg e, ← q]

/-! ### abstract objects -/
def FldsOk (P : Params) : List DictEntry → List (Str × Value) → Prop
  | [], [] => True
  | e :: es, f :: fs => (∃ t, e.key = .str f.1 t) ∧ e.hash = PyData.keyHash P f.1 ∧ e.val = f.2 ∧ FldsOk P es fs
  | _, _ => False
inductive AO where
  | list (vs : List Value)
  | tup (vs : List Value)
  | inst (C dx : Addr)
  | flds (fs : List (Str × Value))
  | cell (v : Option Value)
  | raw (o : Obj)
  | ints (ns : List Int)
  | strs (ws : List Str)
  | dat (T : String) (d : Data)
  | sdict (kvs : List (Str × Str))
  | nsp (m : List (Str × Value))
  | any (P : Obj → Prop)
def AO.Is (w : World) : AO → Obj → Prop
  | .list vs, o => ∃ n, o = listOf vs.toArray n
  | .tup vs, o => ∃ n, o = { cls := .type "tuple", data := .seq vs.toArray n }
  | .inst C dx, o => o = instObj C dx
  | .flds fs, o => ∃ es n, o = dictOf es n ∧ FldsOk w.params es fs
  | .cell v, o => o.data = .cell v
  | .raw o', o => o = o'
  | .ints ns, o => ∃ vs n, o = listOf (List.toArray vs) n ∧ IntsAre vs ns
  | .strs ws, o => ∃ vs n, o = listOf (List.toArray vs) n ∧ StrsAre vs ws
  | .nsp m, o => LCg.NsObj o (fun x => m.lookup x)
  | .any P, o => P o
  | .dat T d, o => o.cls = .type T ∧ o.data = d
  | .sdict kvs, o => ∃ kv : List (Str × Value), o.IsDictOf (strKind pw w) kv ∧ kv.map (·.1) = kvs.map (·.1) ∧ StrsAre (kv.map (·.2)) (kvs.map (·.2))
inductive Own (w : World) : List (Addr × Obj) → List (Addr × AO) → Prop
  | nil : Own w [] []
  | cons {a o ao news own} : ao.Is w o → Own w news own → Own w ((a, o) :: news) ((a, ao) :: own)
  | skip {p news own} : Own w news own → Own w (p :: news) own
inductive OAt : List (Addr × AO) → Addr → AO → Prop
  | head {a ao r} : OAt ((a, ao) :: r) a ao
  | tail {p a ao r} : OAt r a ao → OAt (p :: r) a ao
inductive OPut : List (Addr × AO) → Addr → AO → AO → List (Addr × AO) → Prop
  | head {a ao ao' r} : OPut ((a, ao) :: r) a ao ao' ((a, ao') :: r)
  | tail {p a ao ao' r r'} : OPut r a ao ao' r' → OPut (p :: r) a ao ao' (p :: r')
theorem OPut.at {own a ao ao' own'} (h : OPut own a ao ao' own') : OAt own a ao := by
  induction h with
  | head => exact .head
  | tail _ ih => exact .tail ih
theorem Own.at {w news own a ao} (h : Own w news own) (hm : OAt own a ao) : ∃ o, (a, o) ∈ news ∧ ao.Is w o := by
  induction h with
  | nil => cases hm
  | cons hi _ ih =>
    cases hm with
    | head => exact ⟨_, .head _, hi⟩
    | tail hm => obtain ⟨o, h1, h2⟩ := ih hm; exact ⟨o, .tail _ h1, h2⟩
  | skip _ ih => obtain ⟨o, h1, h2⟩ := ih hm; exact ⟨o, .tail _ h1, h2⟩
theorem Own.put {w news own a ao ao' own'} (h : Own w news own) (hp : OPut own a ao ao' own') : ∃ i o, news[i]? = some (a, o) ∧ ao.Is w o ∧ ∀ o', ao'.Is w o' → Own w (news.set i (a, o')) own' := by
  induction h generalizing own' with
  | nil => cases hp
  | cons hi hr ih =>
    cases hp with
    | head => exact ⟨0, _, rfl, hi, fun o' h' => .cons h' hr⟩
    | tail hp => obtain ⟨i, o, h1, h2, h3⟩ := ih hp; exact ⟨i + 1, o, h1, h2, fun o' h' => .cons hi (h3 o' h')⟩
  | skip _ ih => obtain ⟨i, o, h1, h2, h3⟩ := ih hp; exact ⟨i + 1, o, h1, h2, fun o' h' => .skip (h3 o' h')⟩
theorem Own.drop {w news p own} (h : Own w news (p :: own)) : Own w news own := by
  generalize e : p :: own = own' at h
  induction h with
  | nil => cases e
  | cons _ hr => cases e; exact .skip hr
  | skip _ ih => exact .skip (ih e)
theorem FldsOk.get {P es fs x v} (h : FldsOk P es fs) (hm : MAt fs x v) : getL x es = some (some v) := by
  have key : ∀ {fs x v}, MAt fs x v → ∀ {es}, FldsOk P es fs → ∃ e, es.find? (fun e => e.key.isStr x) = some e ∧ e.val = v := by
    intro fs x v hm
    induction hm with
    | head =>
      intro es h
      cases es with
      | nil => cases h
      | cons e es =>
        obtain ⟨⟨t, hk⟩, _, hv, _⟩ := h
        refine ⟨e, ?_, hv⟩
        rw [List.find?_cons, show e.key.isStr _ = true from by rw [hk]; exact beq_self_eq_true _]
    | tail hne hm' ih =>
      rename_i y u x' v' r
      intro es h
      cases es with
      | nil => cases h
      | cons e es =>
        obtain ⟨⟨t, hk⟩, _, _, hr⟩ := h
        obtain ⟨e', h1, h2⟩ := ih hr
        refine ⟨e', ?_, h2⟩
        rw [List.find?_cons]
        have : e.key.isStr x' = false := by
          rw [hk]
          show (y == x') = false
          exact beq_false_of_ne fun q => by rw [q] at hne; simp at hne
        simp only [this]
        exact h1
  obtain ⟨e, h1, h2⟩ := key hm h
  unfold getL
  rw [h1]
  exact congrArg (fun v => some (some v)) h2
theorem FldsOk.getNone {P es fs x} (h : FldsOk P es fs) (hm : (fs.all fun p => p.1 != x) = true) : getL x es = some none := by
  have key : ∀ {es fs}, FldsOk P es fs → (fs.all fun p => p.1 != x) = true → es.find? (fun e => e.key.isStr x) = none ∧ es.any (·.refKey) = false := by
    intro es
    induction es with
    | nil => intro fs h _; cases fs with
      | nil => exact ⟨rfl, rfl⟩
      | cons _ _ => cases h
    | cons e es ih =>
      intro fs h hm
      cases fs with
      | nil => cases h
      | cons f fs =>
        obtain ⟨⟨t, hk⟩, _, _, hr⟩ := h
        rw [List.all_cons, Bool.and_eq_true] at hm
        obtain ⟨i1, i2⟩ := ih hr hm.2
        refine ⟨?_, ?_⟩
        · rw [List.find?_cons, hk]
          have : (Value.str f.1 t).isStr x = false := by
            show (f.1 == x) = false
            simpa using hm.1
          simp only [this]; exact i1
        · rw [List.any_cons, i2, Bool.or_false]
          unfold DictEntry.refKey
          rw [hk]
  obtain ⟨h1, h2⟩ := key h hm
  unfold getL
  rw [h1, h2]
  rfl
theorem FldsOk.put {P es fs x v fs'} {t : Tok} (h : FldsOk P es fs) (hp : MPut fs x v fs') : FldsOk P (putL x (PyData.keyHash P x) (.str x t) v es) fs' := by
  induction hp generalizing es with
  | nil =>
    cases es with
    | nil => exact ⟨⟨t, rfl⟩, rfl, rfl, trivial⟩
    | cons _ _ => cases h
  | head =>
    cases es with
    | nil => cases h
    | cons e es =>
      obtain ⟨⟨t', hk⟩, hh, _, hr⟩ := h
      unfold putL
      rw [show e.key.isStr _ = true from by rw [hk]; exact beq_self_eq_true _, if_pos rfl]
      exact ⟨⟨t', hk⟩, hh, rfl, hr⟩
  | tail hne _ ih =>
    cases es with
    | nil => cases h
    | cons e es =>
      rename_i y u x' v' r r' hp'
      obtain ⟨⟨t', hk⟩, hh, hv, hr⟩ := h
      unfold putL
      have : e.key.isStr x' = false := by
        rw [hk]
        show (y == x') = false
        exact beq_false_of_ne fun q => by rw [q] at hne; simp at hne
      rw [this]
      exact ⟨⟨t', hk⟩, hh, hv, ih hr⟩

/-! ### the state -/
/-- the world's own side, and a bound that the tokens' counter has passed -/
structure Osb where
  os : OsState
  b : Nat
  dr : Drawn
abbrev GP := Array GenState → Prop
structure Sd (w : World) (h₀ : Heap) (L : Addr) (m : List (Str × Value)) (own : List (Addr × AO)) (g : GP) (os : Osb) (s : Shared) : Prop where
  led : ∃ news, Led h₀ L (fun x => m.lookup x) s.heap news ∧ Own w news own
  gens : g s.gens
  osq : s.os = os.os ∧ s.drawn = os.dr
  pos : os.b ≤ s.toks
section
variable {w : World} {h₀ : Heap} {L : Addr} {m : List (Str × Value)} {own : List (Addr × AO)} {g : GP} {os : Osb} {s : Shared}
theorem Sd.fr (D : Sd w h₀ L m own g os s) : Fr h₀ L s.heap (fun x => m.lookup x) := let ⟨_, l, _⟩ := D.led; l.fr
theorem Sd.tok (D : Sd w h₀ L m own g os s) (t : Nat) (ht : os.b ≤ t := by first | exact Sd.pos (by assumption) | exact Nat.le_succ_of_le (Sd.pos (by assumption)) | exact Nat.le_succ_of_le (Nat.le_succ_of_le (Sd.pos (by assumption))) | omega) : Sd w h₀ L m own g os { s with toks := t } := ⟨D.led, D.gens, D.osq, ht⟩
theorem Sd.drop {p} (D : Sd w h₀ L m (p :: own) g os s) : Sd w h₀ L m own g os s := let ⟨n, l, o⟩ := D.led; ⟨⟨n, l, o.drop⟩, D.gens, D.osq, D.pos⟩
theorem Sd.get {a ao} (D : Sd w h₀ L m own g os s) (hm : OAt own a ao) : ∃ o, s.heap.get? a = some o ∧ ao.Is w o := by
  obtain ⟨n, l, o⟩ := D.led
  obtain ⟨ob, h1, h2⟩ := o.at hm
  exact ⟨ob, l.nw.get h1, h2⟩
/-- a change of one object of the ledger, in place -/
theorem Sd.set {a ao ao' own'} (D : Sd w h₀ L m own g os s) (hp : OPut own a ao ao' own') {h' : Heap} {o' : Obj} {t : Nat} (hs : Heap.SameBut a s.heap h') (ho : h'.get? a = some o') (hi : ao'.Is w o') (ht : os.b ≤ t := by first | exact Sd.pos (by assumption) | exact Nat.le_succ_of_le (Sd.pos (by assumption)) | exact Nat.le_succ_of_le (Nat.le_succ_of_le (Sd.pos (by assumption))) | omega) :
    Sd w h₀ L m own' g os ⟨h', s.gens, s.drawn, t, s.os⟩ := by
  obtain ⟨n, l, ow⟩ := D.led
  obtain ⟨i, o, h1, _, h3⟩ := ow.put hp
  have z := l.nw (a, o) (List.mem_of_getElem? h1)
  have sp := PySem.W.X.pairwise_split h1
  have ord' := l.ord
  rw [sp, List.map_append, List.map_cons] at ord'
  have p1 : ∀ p ∈ n.take i, p.1 ≠ a := fun p hp => Nat.ne_of_gt ((List.pairwise_append.mp ord').2.2 p.1 (List.mem_map_of_mem hp) a (.head _))
  have p2 : ∀ p ∈ n.drop (i + 1), p.1 ≠ a := fun p hp => Nat.ne_of_lt ((List.pairwise_cons.mp (List.pairwise_append.mp ord').2.1).1 p.1 (List.mem_map_of_mem hp))
  have e : n.set i (a, o') = n.take i ++ (a, o') :: n.drop (i + 1) := by
    obtain ⟨hl, _⟩ := List.getElem?_eq_some_iff.mp h1
    exact List.set_eq_take_append_cons_drop.trans (if_pos hl)
  have N := l.nw
  rw [sp] at N
  refine ⟨⟨_, ⟨l.fr.change hs z.2.1 z.2.2, ?_, ?_⟩, h3 o' hi⟩, D.gens, D.osq, ht⟩
  · rw [e]; exact news_set N p1 p2 hs ho
  · rw [e, List.map_append, List.map_cons]; exact ord'
/-- a new object -/
theorem Sd.push {o : Obj} {ao : AO} (D : Sd w h₀ L m own g os s) (hf : o.isFreed = false) (hi : ao.Is w o) {t : Nat} (ht : os.b ≤ t := by first | exact Sd.pos (by assumption) | exact Nat.le_succ_of_le (Sd.pos (by assumption)) | exact Nat.le_succ_of_le (Nat.le_succ_of_le (Sd.pos (by assumption))) | omega) : Sd w h₀ L m ((s.heap.objs.size, ao) :: own) g os ⟨s.heap.push o, s.gens, s.drawn, t, s.os⟩ := by
  obtain ⟨n, l, ow⟩ := D.led
  refine ⟨⟨(s.heap.objs.size, o) :: n, ⟨l.fr.push o, l.nw.push l.fr o hf, ?_⟩, .cons hi ow⟩, D.gens, D.osq, ht⟩
  refine List.Pairwise.cons (fun b hb => ?_) l.ord
  obtain ⟨⟨b', ob⟩, hp, rfl⟩ := List.mem_map.mp hb
  exact Heap.lt_size (l.nw.get hp)
/-- a local name stored -/
theorem Sd.store {x v m'} (D : Sd w h₀ L m own g os s) (hp : MPut m x v m') {h' : Heap} {t : Nat} (hn : h'.Ns L (fun y => if y = x then some v else m.lookup y)) (hs : Heap.SameBut L s.heap h') (ht : os.b ≤ t := by first | exact Sd.pos (by assumption) | exact Nat.le_succ_of_le (Sd.pos (by assumption)) | exact Nat.le_succ_of_le (Nat.le_succ_of_le (Sd.pos (by assumption))) | omega) :
    Sd w h₀ L m' own g os ⟨h', s.gens, s.drawn, t, s.os⟩ := by
  obtain ⟨n, l, ow⟩ := D.led
  rw [hp.lookup] at hn
  exact ⟨⟨n, ⟨l.fr.set hn hs, l.nw.set hs, l.ord⟩, ow⟩, D.gens, D.osq, ht⟩
/-- all that stood stands, and more -/
theorem Sd.grow (D : Sd w h₀ L m own g os s) {h' : Heap} {t : Nat} (hk : ∀ b o, s.heap.get? b = some o → h'.get? b = some o) (ht : os.b ≤ t := by first | exact Sd.pos (by assumption) | exact Nat.le_succ_of_le (Sd.pos (by assumption)) | exact Nat.le_succ_of_le (Nat.le_succ_of_le (Sd.pos (by assumption))) | omega) : Sd w h₀ L m own g os ⟨h', s.gens, s.drawn, t, s.os⟩ := by
  obtain ⟨n, l, ow⟩ := D.led
  exact ⟨⟨n, ⟨⟨l.fr.ns.keeps hk, fun b o e => hk b o (l.fr.keep b o e), l.fr.above⟩, fun p hp => ⟨hk _ _ (l.nw p hp).1, (l.nw p hp).2⟩, l.ord⟩, ow⟩, D.gens, D.osq, ht⟩
end
end Mine
end
section
open PySem PySem.W PyProof.Rows PySem.Calls
set_option Elab.async false
set_option maxRecDepth 100000
set_option maxHeartbeats 400000
set_option linter.unusedVariables false
namespace Mine
open PySem.W.X (Led)
noncomputable def KK (P : Params) : Frag := [(0, o0 P), (1, o1 P), (2, o38 P), (3, o799 P), (4, o4 P), (50, o53 P), (51, o54 P), (52, o55 P), (53, o56 P), (59, o62 P), (60, o63 P), (61, o64 P), (62, o65 P), (68, o71 P), (69, o72 P), (73, o76 P), (74, o77 P), (87, o90 P), (88, o91 P), (114, o117 P), (115, o118 P), (117, o120 P), (118, o141 P), (119, o122 P), (144, o150 P), (145, o389 P), (375, o384 P), (385, o397 P), (391, o403 P), (392, o404 P), (398, o410 P), (399, o411 P), (405, o417 P), (406, o418 P), (561, o573 P), (567, o579 P), (568, o580 P), (621, o633 P), (622, o634 P), (674, o688 P), (680, o694 P), (681, o695 P), (687, o701 P), (688, o702 P), (689, o703 P), (717, o731 P), (718, o732 P), (724, o738 P), (725, o739 P), (746, o760 P), (747, o761 P), (753, o767 P), (754, o768 P), (756, o770 P), (757, o771 P), (762, o776 P), (768, o782 P), (769, o783 P), (775, o789 P), (776, o790 P), (777, o791 P), (783, o797 P), (784, o798 P), (790, o806 P), (791, o807 P), (797, o813 P), (798, o814 P), (804, o820 P), (805, o821 P), (809, o825 P), (810, o826 P), (814, o830 P), (815, o831 P)]
noncomputable def bodyAt (path : List Nat) : List Stmt := match stAt path pw.main.body with | some (PySem.Stmt.FunctionDef _ _ b _ _ _ _ _ _ _) => b | _ => []
noncomputable def scopeAt (path : List Nat) : Scope := match stAt path pw.main.body with | some (PySem.Stmt.FunctionDef _ _ _ _ _ _ sc _ _ _) => sc | _ => default
noncomputable def paramsAt (path : List Nat) : Arguments := match stAt path pw.main.body with | some (PySem.Stmt.FunctionDef _ a _ _ _ _ _ _ _ _) => a | _ => default
/-- the names of the module and of the builtins, as the top leaves them -/
abbrev GK (w : World) (h : Heap) : Prop := (KK w.params).In h
def strKeysB (es : Array DictEntry) : Bool := es.toList.all fun e => match e.key with | .str _ _ => true | _ => false
theorem strKeys_of {es : Array DictEntry} (h : strKeysB es = true) : StrKeys es := fun e he => by
  have := List.all_eq_true.mp h e (Array.mem_toList_iff.mpr he)
  cases hk : e.key <;> rw [hk] at this <;> first | exact ⟨_, _, rfl⟩ | cases this
def dictIn (K : Frag) (a : Addr) : Bool := match K.lookup a with | some ⟨_, _, .dict _ _, _⟩ => true | _ => false
def esIn (K : Frag) (a : Addr) : Array DictEntry := match K.lookup a with | some ⟨_, _, .dict es _, _⟩ => es | _ => #[]
theorem ns_in {K : Frag} {h : Heap} {a : Addr} (X : K.In h) (hd : dictIn K a = true) (hs : strKeysB (esIn K a) = true) : h.Ns a (fun x => nsFind (esIn K a) x) := by
  unfold dictIn at hd
  unfold esIn at hs ⊢
  split at hd
  · rename_i e
    rw [e] at hs
    dsimp only at hs
    exact ⟨_, _, _, X _ _ e, rfl, strKeys_of hs, fun _ => rfl⟩
  · cases hd
theorem gk_ns {w : World} {h : Heap} (k : GK w h) : h.Ns mainGlobals (fun x => nsFind (esIn (KK w.params) 3) x) := ns_in k (by kernel_rfl) (by kernel_rfl)
theorem gk_bn {w : World} {h : Heap} (k : GK w h) : h.Ns builtinsNs (fun x => nsFind (esIn (KK w.params) 0) x) := ns_in k (by kernel_rfl) (by kernel_rfl)
theorem gk_lim {w : World} {h : Heap} (k : GK w h) : h.NoLimit := ⟨_, ns_in (a := 2) k (by kernel_rfl) (by kernel_rfl), by kernel_rfl⟩

structure Fx (w : World) (n : Nat) (A : Around) (env : Env) (h₀ : Heap) (L : Addr) (path : List Nat) : Prop where
  scope : env.scope = scopeAt path
  frame : env.frame = some L
  kind : env.scope.kind = .function
  locals : env.locals = L
  globals : env.globals = mainGlobals
  builtins : env.builtins = builtinsNs
  gk : GK w h₀
  hand : A.handled = none
  dep : A.depth ≤ 310 + n
  uni : A.units ≤ 100 + 20 * n

/-- the frames around -/
def FxB (A : Around) (env : Env) (h₀ : Heap) : Prop := ∃ A₀ base outer, Below A₀ base outer h₀ ∧ A.frames = some (env :: outer)
section
variable {s : Shared} {h₀ : Heap} {L : Addr} {m : Str → Option Value} {news : List (Addr × Obj)} {R : Result → Shared → Prop} {env : Env}
theorem groundY (hf : env.frame = some L) (hke : env.scope.kind = .function) (F : Fr h₀ L s.heap m) (N : News h₀ L s.heap news) :
    Fr h₀ L (hideAll s.heap (news.map (·.1))) m ∧ h₀.StaysIn (hideAll s.heap (news.map (·.1))) ∧ ∀ v s', LeaveK h₀ L m (hideAll s.heap (news.map (·.1))) R v s' → R (.ok (.ret v)) s' :=
  let ⟨FG, _, st, lv⟩ := groundX (R := R) (A := { callerA with frames := some [env] }) (below_caller h₀) F N rfl hf hke
  ⟨FG, st, lv⟩
/-- a plain def called, whatever frames lie below -/
theorem callY {w : World} {A : Around} {name qual : Str} {params : Arguments} {body : List Stmt} {scope : Scope} {cl : List (Str × Addr)} {dV kV doc pm cdv ct : Value} {an : Option Addr} {fo : Obj} {f : Addr} {args : Args} {binds : List (Str × Value)}
    (hf : env.frame = some L) (hke : env.scope.kind = .function) (F : Fr h₀ L s.heap m) (N : News h₀ L s.heap news) (hlim : h₀.NoLimit)
    (ho : s.heap.get? f = some fo) (hd : fo.data = .func (fnX name qual params body scope cl dV kV doc pm an cdv ct)) (hcd : s.heap.CodeRec cdv qual) (hroom : A.depth < recursionLimit)
    (hbind : BindsTo s (fnX name qual params body scope cl dV kV doc pm an cdv ct) args binds) (hloc : ∀ y ∈ binds, scope.names.lookup y.1 = some .local)
    (h : ∀ g L' h₁, Fr h₀ L g m → Fr g L' h₁ (fun y => binds.reverse.lookup y) → News g L' h₁ news → h₀.StaysIn g → (∀ p ∈ news, p.1 < L') → g = hideAll s.heap (news.map (·.1)) →
      wpAny (model pw w) (A.deeper (envX qual scope L' f cdv cl)) (execs body (envX qual scope L' f cdv cl))
        (fun fl s' => LeaveK h₀ L m g R (match fl with | .ret v => v | _ => .none) s')
        (fun e s' => wpAny (model pw w) (A.deeper (envX qual scope L' f cdv cl)) (leaving (envX qual scope L' f cdv cl) e) (fun _ s'' => R (.error e) s'') (fun e' s'' => R (.error e') s'') s')
        { s with heap := h₁, toks := s.toks + binds.length })
    (hcell : ∀ x ∈ scope.names, x.2 ≠ .cell) (hco : scope.isCoroutine = false) (hgen : scope.isGenerator = false) (hk : scope.kind = .function) : codeAny (model pw w) A (.call (.ref f) args) R s := by
  obtain ⟨FG, st, lv⟩ := groundY (R := R) hf hke F N
  refine codeAny_call_def (fd := fnX name qual params body scope cl dV kV doc pm an cdv ct) (body := body) (binds := binds) hroom ho hd (hlim.keeps F.keep) hcd rfl hbind hcell hloc (fun h₁ hns hk₁ => ?_) hco hgen hk
  exact wpAny_mono (h _ s.heap.objs.size h₁ FG ⟨hns, fun b o e => hk₁ b o (of_hideAll _ e), Nat.le_of_eq (hideAll_size _ _)⟩
    (fun p hp => ⟨hk₁ _ _ (N p hp).1, Nat.ne_of_lt (Heap.lt_size (N p hp).1), hideAll_none _ (List.mem_map_of_mem hp)⟩) st (fun p hp => Heap.lt_size (N p hp).1) rfl) (fun fl s' hl => lv _ _ hl) fun _ _ y => y
end

/-- names of an env -/
structure Nv (env : Env) (sc : Scope) (cl : List (Str × Addr)) : Prop where
  scope : env.scope = sc
  kind : sc.kind = .function
  globals : env.globals = mainGlobals
  builtins : env.builtins = builtinsNs
  cells : env.cells = cl
theorem Nv.knd {env : Env} {sc : Scope} {cl : List (Str × Addr)} {x : Str} {k : NameKind} (V : Nv env sc cl) (hx : sc.names.lookup x = some k) : env.kindOf x = some k := by unfold Env.kindOf; rw [V.scope]; exact hx
theorem Nv.kf {env : Env} {sc : Scope} {cl : List (Str × Addr)} (V : Nv env sc cl) : env.scope.kind = .function := by rw [V.scope]; exact V.kind
/-- a def of the text that stands at f -/
structure FnIs (P : Params) (f : Addr) (path : List Nat) (name qual : Str) (dV pm cdv : Value) : Prop where
  here : (KK P).lookup f = some ⟨.type "function", none, .func (fnX name qual (paramsAt path) (bodyAt path) (scopeAt path) [] dV .none .none pm none cdv .none), #[]⟩
  code : codeIn (KK P) cdv qual = true
  co : (scopeAt path).isCoroutine = false
  gen : (scopeAt path).isGenerator = false
  kind : (scopeAt path).kind = .function
def IsGl (P : Params) (x : Str) (v : Value) : Prop := nsFind (esIn (KK P) 3) x = some v ∨ (nsFind (esIn (KK P) 3) x = none ∧ nsFind (esIn (KK P) 0) x = some v)
abbrev MM (w : World) : Model := model pw w
/-- a tree that ends in Q and raises nothing -/
structure WP {α : Type} (w : World) (A : Around) (t : Sem α) (Q : α → Shared → Prop) (s : Shared) : Prop where
  out : wpAny (model pw w) A t Q (fun _ _ => False) s
theorem WP.mono {α : Type} {w : World} {A : Around} {t : Sem α} {Q Q' : α → Shared → Prop} {s : Shared} (h : WP w A t Q s) (k : ∀ a s', Q a s' → Q' a s') : WP w A t Q' s := ⟨wpAny_mono h.out k fun _ _ x => x⟩
theorem WP.any {α : Type} {w : World} {A : Around} {t : Sem α} {Q : α → Shared → Prop} {E : Value → Shared → Prop} {s : Shared} (h : WP w A t Q s) : wpAny (model pw w) A t Q E s := wpAny_mono h.out (fun _ _ x => x) fun _ _ x => x.elim
theorem WP.of {α : Type} {w : World} {A : Around} {t : Sem α} {Q : α → Shared → Prop} {s : Shared} (h : wpAny (model pw w) A t Q (fun _ _ => False) s) : WP w A t Q s := ⟨h⟩
/-- the rule's inner trees stand as WP -/
theorem inn {α β : Type} {w : World} {A : Around} {t : Sem α} {k : α → Sem β} {Q : β → Shared → Prop} {s : Shared} (h : WP w A t (fun a s' => WP w A (k a) Q s') s) : wpAny (model pw w) A t (fun a s' => wpAny (model pw w) A (k a) Q (fun _ _ => False) s') (fun _ _ => False) s :=
  wpAny_mono h.out (fun _ _ x => x.out) fun _ _ x => x
/-- what a def's end wants -/
inductive Back (w : World) (h₀ : Heap) (L : Addr) (m : List (Str × Value)) (g₁ : Heap) (os : Osb) (Q : Value → Shared → Prop) (v : Value) (s : Shared) : Prop
  | mk (L' : Addr) (m' : List (Str × Value)) (own' : List (Addr × AO)) (g' : GP) (D : Sd w g₁ L' m' own' g' os s) (k : Sd w h₀ L m own' g' os s → Q v s) : Back w h₀ L m g₁ os Q v s
section
variable {w : World} {n : Nat} {A : Around} {env : Env} {h₀ : Heap} {L : Addr} {m : List (Str × Value)} {own : List (Addr × AO)} {g : GP} {os : Osb} {s : Shared} {Q : Value → Shared → Prop}
theorem enterD {f : Addr} {path : List Nat} {args : List Value} {kw : List (Str × Value)} {name qual : Str} {dV pm cdv : Value} {binds : List (Str × Value)} (mb : List (Str × Value))
    (F : FnIs w.params f path name qual dV pm cdv) {path₀ : List Nat} (C : Fx w n A env h₀ L path₀) (D : Sd w h₀ L m own g os s) (hn : n ≤ 400)
    (hbind : BindsTo s (fnX name qual (paramsAt path) (bodyAt path) (scopeAt path) [] dV .none .none pm none cdv .none) ⟨args, kw⟩ binds) (hmb : binds.reverse = mb)
    (hloc : (binds.all fun x => decide ((scopeAt path).names.lookup x.1 = some .local)) = true) (hcell : ((scopeAt path).names.all fun x => x.2 != .cell) = true)
    (h : ∀ g₁ L' s', Fx w (n + 1) (A.deeper (envX qual (scopeAt path) L' f cdv [])) (envX qual (scopeAt path) L' f cdv []) g₁ L' path → Sd w g₁ L' mb own g os s' → (FxB A env h₀ → FxB (A.deeper (envX qual (scopeAt path) L' f cdv [])) (envX qual (scopeAt path) L' f cdv []) g₁) →
      WP w (A.deeper (envX qual (scopeAt path) L' f cdv [])) (execs (bodyAt path) (envX qual (scopeAt path) L' f cdv [])) (fun fl s2 => Back w h₀ L m g₁ os Q (match fl with | .ret v => v | _ => .none) s2) s') :
    WP w A (call (.ref f) args kw) Q s := by
  refine ⟨wpAny_call ?_⟩
  obtain ⟨news, l, ow⟩ := D.led
  have X := C.gk.keeps l.fr.keep
  refine callY (binds := binds) C.frame C.kind l.fr l.nw (gk_lim C.gk) (X _ _ F.here) rfl (codeRec_of X F.code) (by have := C.dep; unfold recursionLimit; omega) hbind (locs hloc)
    (fun g₁ L' h₁ FG F' N' st lt eg => ?_) (fun x hx => by have := List.all_eq_true.mp hcell x hx; simpa using this) F.co F.gen F.kind
  have D' : Sd w g₁ L' mb own g os { s with heap := h₁, toks := s.toks + binds.length } := ⟨⟨news, ⟨hmb ▸ F', N', l.ord⟩, ow⟩, D.gens, D.osq, Nat.le_add_right_of_le D.pos⟩
  have C' : Fx w (n + 1) (A.deeper (envX qual (scopeAt path) L' f cdv [])) (envX qual (scopeAt path) L' f cdv []) g₁ L' path :=
    ⟨rfl, rfl, F.kind, rfl, rfl, rfl, C.gk.keeps st, C.hand, by have := C.dep; show A.depth + 1 ≤ _; omega, by have := C.uni; show A.units + 3 ≤ _; omega⟩
  have B' : FxB A env h₀ → FxB (A.deeper (envX qual (scopeAt path) L' f cdv [])) (envX qual (scopeAt path) L' f cdv []) g₁ := fun ⟨A₀, base, outer, B, hA⟩ => by
    obtain ⟨_, BG, _, _⟩ := groundX (R := fun _ _ => True) B l.fr l.nw hA C.frame C.kind
    rw [← eg] at BG
    exact ⟨A, base, env :: outer, BG, by show A.frames.map _ = _; rw [hA]; rfl⟩
  refine wpAny_mono (h g₁ L' _ C' D' B').out (fun fl s2 hb => ?_) fun _ _ x => x.elim
  obtain ⟨L2, m2, own2, g2, D2, k⟩ := hb
  obtain ⟨news2, l2, ow2⟩ := D2.led
  refine ⟨L2, _, news2, l2.fr, l2.nw, fun F0 N0 => ?_⟩
  exact k ⟨⟨news2, ⟨F0, N0, l2.ord⟩, ow2⟩, D2.gens, D2.osq, D2.pos⟩
theorem enter {f : Addr} {path : List Nat} {args : List Value} {kw : List (Str × Value)} {name qual : Str} {dV pm cdv : Value} {binds : List (Str × Value)} (mb : List (Str × Value))
    (F : FnIs w.params f path name qual dV pm cdv) {path₀ : List Nat} (C : Fx w n A env h₀ L path₀) (D : Sd w h₀ L m own g os s) (hn : n ≤ 400)
    (hbind : BindsTo s (fnX name qual (paramsAt path) (bodyAt path) (scopeAt path) [] dV .none .none pm none cdv .none) ⟨args, kw⟩ binds) (hmb : binds.reverse = mb)
    (hloc : (binds.all fun x => decide ((scopeAt path).names.lookup x.1 = some .local)) = true) (hcell : ((scopeAt path).names.all fun x => x.2 != .cell) = true)
    (h : ∀ g₁ L' env' s', Nv env' (scopeAt path) [] → Fx w (n + 1) (A.deeper env') env' g₁ L' path → Sd w g₁ L' mb own g os s' →
      WP w (A.deeper env') (execs (bodyAt path) env') (fun fl s2 => Back w h₀ L m g₁ os Q (match fl with | .ret v => v | _ => .none) s2) s') :
    WP w A (call (.ref f) args kw) Q s :=
  enterD mb F C D hn hbind hmb hloc hcell fun g₁ L' s' C' D' _ => h g₁ L' _ s' ⟨rfl, F.kind, rfl, rfl, rfl⟩ C' D'
/-- as enter, the end's word behind a letter -/
theorem enterQ {f : Addr} {path : List Nat} {args : List Value} {kw : List (Str × Value)} {name qual : Str} {dV pm cdv : Value} {binds : List (Str × Value)} (mb : List (Str × Value))
    (F : FnIs w.params f path name qual dV pm cdv) {path₀ : List Nat} (C : Fx w n A env h₀ L path₀) (D : Sd w h₀ L m own g os s) (hn : n ≤ 400)
    (hbind : BindsTo s (fnX name qual (paramsAt path) (bodyAt path) (scopeAt path) [] dV .none .none pm none cdv .none) ⟨args, kw⟩ binds) (hmb : binds.reverse = mb)
    (hloc : (binds.all fun x => decide ((scopeAt path).names.lookup x.1 = some .local)) = true) (hcell : ((scopeAt path).names.all fun x => x.2 != .cell) = true)
    (h : ∀ g₁ L' env' s' (Q' : Flow → Shared → Prop), (∀ fl s2, Back w h₀ L m g₁ os Q (match fl with | .ret v => v | _ => .none) s2 → Q' fl s2) → Nv env' (scopeAt path) [] → Fx w (n + 1) (A.deeper env') env' g₁ L' path → Sd w g₁ L' mb own g os s' →
      WP w (A.deeper env') (execs (bodyAt path) env') Q' s') :
    WP w A (call (.ref f) args kw) Q s :=
  enter mb F C D hn hbind hmb hloc hcell fun g₁ L' env' s' V C' D' => h g₁ L' env' s' _ (fun _ _ x => x) V C' D'
/-- a call from a heap of which nothing but the text's own part is known: all that stands is kept -/
theorem callE {f : Addr} {path : List Nat} {args : List Value} {name qual : Str} {dV pm cdv : Value} {binds : List (Str × Value)} {R : Value → Shared → Prop} (mb : List (Str × Value))
    (F : FnIs w.params f path name qual dV pm cdv) (X : GK w s.heap) (hh : A.handled = none) (hd : A.depth ≤ 310 + n) (hu : A.units ≤ 100 + 20 * n) (hn : n ≤ 400)
    (hbind : BindsTo s (fnX name qual (paramsAt path) (bodyAt path) (scopeAt path) [] dV .none .none pm none cdv .none) ⟨args, []⟩ binds) (hmb : binds.reverse = mb)
    (hloc : (binds.all fun x => decide ((scopeAt path).names.lookup x.1 = some .local)) = true) (hcell : ((scopeAt path).names.all fun x => x.2 != .cell) = true)
    (h : ∀ L' env' s', Nv env' (scopeAt path) [] → Fx w (n + 1) (A.deeper env') env' s.heap L' path → Sd w s.heap L' mb [] (fun a => a = s.gens) ⟨s.os, s.toks + binds.length, s.drawn⟩ s' →
      WP w (A.deeper env') (execs (bodyAt path) env') (fun fl s2 => ∃ L2 m2 own2, Sd w s.heap L2 m2 own2 (fun a => a = s.gens) ⟨s.os, s.toks + binds.length, s.drawn⟩ s2 ∧ R (match fl with | .ret v => v | _ => .none) s2) s') :
    WP w A (call (.ref f) args) (fun v s2 => R v s2 ∧ Keeps s s2) s := by
  refine ⟨wpAny_call ?_⟩
  refine codeAny_call_def (fd := fnX name qual (paramsAt path) (bodyAt path) (scopeAt path) [] dV .none .none pm none cdv .none) (body := bodyAt path) (binds := binds) (by unfold recursionLimit; omega) (X _ _ F.here) rfl (gk_lim X) (codeRec_of X F.code) rfl hbind
    (fun x hx => by have := List.all_eq_true.mp hcell x hx; simpa using this) (locs hloc) (fun h₁ hns hk₁ => ?_) F.co F.gen F.kind
  have D' : Sd w s.heap s.heap.objs.size mb [] (fun a => a = s.gens) ⟨s.os, s.toks + binds.length, s.drawn⟩ { s with heap := h₁, toks := s.toks + binds.length } :=
    ⟨⟨[], ⟨⟨hmb ▸ hns, fun b o e => hk₁ b o e, Nat.le_refl _⟩, fun _ hp => (nomatch hp), .nil⟩, .nil⟩, rfl, ⟨rfl, rfl⟩, Nat.le_refl _⟩
  have C' : Fx w (n + 1) (A.deeper (envX qual (scopeAt path) s.heap.objs.size f cdv [])) (envX qual (scopeAt path) s.heap.objs.size f cdv []) s.heap s.heap.objs.size path :=
    ⟨rfl, rfl, F.kind, rfl, rfl, rfl, X, hh, by show A.depth + 1 ≤ _; omega, by show A.units + 3 ≤ _; omega⟩
  refine wpAny_mono (h _ _ _ ⟨rfl, F.kind, rfl, rfl, rfl⟩ C' D').out (fun fl s2 hb => ?_) fun _ _ x => x.elim
  obtain ⟨L2, m2, own2, D2, hr⟩ := hb
  obtain ⟨news2, l2, _⟩ := D2.led
  obtain ⟨hp, gs, dr, tk, os2⟩ := s2
  have e1 : gs = s.gens := D2.gens
  have e2 : os2 = s.os := D2.osq.1
  have e3 : dr = s.drawn := D2.osq.2
  exact ⟨hr, hp, tk, by rw [e1, e2, e3], fun b o e => l2.fr.keep b o e⟩
theorem back_ {h₀ g₁ : Heap} {L L' : Addr} {m m' : List (Str × Value)} {own' : List (Addr × AO)} {g' : GP} {os : Osb} {v : Value} (D : Sd w g₁ L' m' own' g' os s) (h : Sd w h₀ L m own' g' os s → Q v s) : Back w h₀ L m g₁ os Q v s :=
  ⟨L', m', own', g', D, h⟩
end
theorem fn_51 (P : Params) : FnIs P 51 [4] "dict_replace_saxutils" "dict_replace_saxutils" (.none) (.str "cpy313.xml.sax.saxutils" 331) (.ref 50) := ⟨by kernel_rfl, by kernel_rfl, by kernel_rfl, by kernel_rfl, by kernel_rfl⟩
theorem fn_60 (P : Params) : FnIs P 60 [5] "escape" "escape" (.ref 53) (.str "cpy313.xml.sax.saxutils" 331) (.ref 59) := ⟨by kernel_rfl, by kernel_rfl, by kernel_rfl, by kernel_rfl, by kernel_rfl⟩
theorem fn_69 (P : Params) : FnIs P 69 [6] "unescape" "unescape" (.ref 62) (.str "cpy313.xml.sax.saxutils" 331) (.ref 68) := ⟨by kernel_rfl, by kernel_rfl, by kernel_rfl, by kernel_rfl, by kernel_rfl⟩
theorem fn_88 (P : Params) : FnIs P 88 [10] "_index" "_index" (.none) (.str "io" 399) (.ref 87) := ⟨by kernel_rfl, by kernel_rfl, by kernel_rfl, by kernel_rfl, by kernel_rfl⟩
theorem fn_392 (P : Params) : FnIs P 392 [16, 1] "__init__" "StringIO.__init__" (.ref 385) (.str "io" 399) (.ref 391) := ⟨by kernel_rfl, by kernel_rfl, by kernel_rfl, by kernel_rfl, by kernel_rfl⟩
theorem fn_399 (P : Params) : FnIs P 399 [16, 2] "__translated" "StringIO.__translated" (.none) (.str "io" 399) (.ref 398) := ⟨by kernel_rfl, by kernel_rfl, by kernel_rfl, by kernel_rfl, by kernel_rfl⟩
theorem fn_406 (P : Params) : FnIs P 406 [16, 3] "__check" "StringIO.__check" (.none) (.str "io" 399) (.ref 405) := ⟨by kernel_rfl, by kernel_rfl, by kernel_rfl, by kernel_rfl, by kernel_rfl⟩
theorem fn_568 (P : Params) : FnIs P 568 [16, 25] "read" "StringIO.read" (.ref 561) (.str "io" 399) (.ref 567) := ⟨by kernel_rfl, by kernel_rfl, by kernel_rfl, by kernel_rfl, by kernel_rfl⟩
theorem fn_681 (P : Params) : FnIs P 681 [26, 0] "__init__" "shlex.__init__" (.ref 674) (.str "cpy313.shlex" 1115) (.ref 680) := ⟨by kernel_rfl, by kernel_rfl, by kernel_rfl, by kernel_rfl, by kernel_rfl⟩
theorem fn_688 (P : Params) : FnIs P 688 [26, 1] "punctuation_chars" "shlex.punctuation_chars" (.none) (.str "cpy313.shlex" 1115) (.ref 687) := ⟨by kernel_rfl, by kernel_rfl, by kernel_rfl, by kernel_rfl, by kernel_rfl⟩
theorem fn_718 (P : Params) : FnIs P 718 [26, 5] "get_token" "shlex.get_token" (.none) (.str "cpy313.shlex" 1115) (.ref 717) := ⟨by kernel_rfl, by kernel_rfl, by kernel_rfl, by kernel_rfl, by kernel_rfl⟩
theorem fn_725 (P : Params) : FnIs P 725 [26, 6] "read_token" "shlex.read_token" (.none) (.str "cpy313.shlex" 1115) (.ref 724) := ⟨by kernel_rfl, by kernel_rfl, by kernel_rfl, by kernel_rfl, by kernel_rfl⟩
theorem fn_747 (P : Params) : FnIs P 747 [26, 9] "__iter__" "shlex.__iter__" (.none) (.str "cpy313.shlex" 1115) (.ref 746) := ⟨by kernel_rfl, by kernel_rfl, by kernel_rfl, by kernel_rfl, by kernel_rfl⟩
theorem fn_754 (P : Params) : FnIs P 754 [26, 10] "__next__" "shlex.__next__" (.none) (.str "cpy313.shlex" 1115) (.ref 753) := ⟨by kernel_rfl, by kernel_rfl, by kernel_rfl, by kernel_rfl, by kernel_rfl⟩
theorem fn_769 (P : Params) : FnIs P 769 [27] "split" "split" (.ref 762) (.str "cpy313.shlex" 1115) (.ref 768) := ⟨by kernel_rfl, by kernel_rfl, by kernel_rfl, by kernel_rfl, by kernel_rfl⟩
theorem fn_784 (P : Params) : FnIs P 784 [31] "quote" "quote" (.none) (.str "cpy313.shlex" 1115) (.ref 783) := ⟨by kernel_rfl, by kernel_rfl, by kernel_rfl, by kernel_rfl, by kernel_rfl⟩
theorem fn_791 (P : Params) : FnIs P 791 [33] "_law_digits" "_law_digits" (.none) (.str "law_dn0059_08" 1283) (.ref 790) := ⟨by kernel_rfl, by kernel_rfl, by kernel_rfl, by kernel_rfl, by kernel_rfl⟩
theorem fn_798 (P : Params) : FnIs P 798 [34] "_law_sign" "_law_sign" (.none) (.str "law_dn0059_08" 1283) (.ref 797) := ⟨by kernel_rfl, by kernel_rfl, by kernel_rfl, by kernel_rfl, by kernel_rfl⟩
theorem fn_805 (P : Params) : FnIs P 805 [35] "_law_words" "_law_words" (.none) (.str "law_dn0059_08" 1283) (.ref 804) := ⟨by kernel_rfl, by kernel_rfl, by kernel_rfl, by kernel_rfl, by kernel_rfl⟩
theorem fn_810 (P : Params) : FnIs P 810 [36] "_law_is_bare" "_law_is_bare" (.none) (.str "law_dn0059_08" 1283) (.ref 809) := ⟨by kernel_rfl, by kernel_rfl, by kernel_rfl, by kernel_rfl, by kernel_rfl⟩
theorem fn_815 (P : Params) : FnIs P 815 [37] "law" "law" (.none) (.str "law_dn0059_08" 1283) (.ref 814) := ⟨by kernel_rfl, by kernel_rfl, by kernel_rfl, by kernel_rfl, by kernel_rfl⟩
end Mine
end
section
open PySem PySem.W PyProof.Rows PySem.Calls
set_option Elab.async false
set_option maxRecDepth 100000
set_option maxHeartbeats 400000
set_option linter.unusedVariables false
namespace Mine
section
variable {w : World} {n : Nat} {A : Around} {env : Env} {h₀ : Heap} {L : Addr} {m m' : List (Str × Value)} {own : List (Addr × AO)} {g : GP} {os : Osb} {s : Shared} {pos : Pos} {k : Nat} {x : Str} {v : Value} {path : List Nat}
theorem Fx.knd {k : NameKind} (C : Fx w n A env h₀ L path) (hx : (scopeAt path).names.lookup x = some k) : env.kindOf x = some k := by unfold Env.kindOf; rw [C.scope]; exact hx
theorem r_ld {Q : Value → Shared → Prop} (C : Fx w n A env h₀ L path) (D : Sd w h₀ L m own g os s) (hx : (scopeAt path).names.lookup x = some .local) (hd : (x == ("__debug__" : Str)) = false) (hm : MAt m x v) (h : Q v s) :
    WP w A (eval (.Name x pos) env) Q s :=
  .of (wpAny_Name (wpAny_loadName_local C.kind (C.knd hx) (by rw [C.locals]; exact D.fr.ns) hm.lookup h) hd)
theorem r_gl {env₀ : Env} {sc : Scope} {cl : List (Str × Addr)} {Q : Value → Shared → Prop} (V : Nv env sc cl) (C : Fx w n A env₀ h₀ L path) (D : Sd w h₀ L m own g os s) (hx : sc.names.lookup x = some .globalImplicit) (hd : (x == ("__debug__" : Str)) = false) (hv : IsGl w.params x v) (h : Q v s) :
    WP w A (eval (.Name x pos) env) Q s := by
  rcases hv with hv | ⟨hn, hv⟩
  · exact .of (Name_function_global V.kf (V.knd hx) (loadGlobal_global (by rw [V.globals]; exact (gk_ns C.gk).keeps D.fr.keep) hv h) hd)
  · exact .of (Name_function_global V.kf (V.knd hx) (loadGlobal_builtin (by rw [V.globals]; exact (gk_ns C.gk).keeps D.fr.keep) hn (by rw [V.builtins]; exact (gk_bn C.gk).keeps D.fr.keep) hv h) hd)
theorem r_st {Q : Unit → Shared → Prop} (C : Fx w n A env h₀ L path) (D : Sd w h₀ L m own g os s) (hp : MPut m x v m') (hx : (scopeAt path).names.lookup x = some .local) (h : ∀ s', Sd w h₀ L m' own g os s' → Q () s') :
    WP w A (storeName env x v) Q s :=
  .of (wpAny_storeName_local (C.knd hx) (by rw [C.locals]; exact D.fr.ns) (fun h' hn hs => h _ (D.store hp (by rw [C.locals] at hn; exact hn) (by rw [C.locals] at hs; exact hs)))
    (by rw [C.kind]; rfl))
theorem r_int {i : Int} {Q : Value → Shared → Prop} (D : Sd w h₀ L m own g os s) (h : ∀ t s', Sd w h₀ L m own g os s' → Q (.int i t) s') : WP w A (eval (.Constant (.int i) k pos) env) Q s :=
  .of (wpAny_Constant_int (h _ _ (D.tok _)))
theorem r_str {x : Str} {Q : Value → Shared → Prop} (D : Sd w h₀ L m own g os s) (h : ∀ t s', Sd w h₀ L m own g os s' → Q (.str x t) s') : WP w A (eval (.Constant (.str x) k pos) env) Q s :=
  .of (wpAny_Constant_str (h _ _ (D.tok _)))
theorem r_sub {a b : Int} {t u : Tok} {Q : Value → Shared → Prop} (D : Sd w h₀ L m own g os s) (h : ∀ t s', Sd w h₀ L m own g os s' → Q (.int (a - b) t) s') : WP w A (binaryOp .Sub (.int a t) (.int b u)) Q s :=
  .of (P.sub_int (h _ _ (D.tok _)))
theorem r_add {a b : Int} {t u : Tok} {Q : Value → Shared → Prop} (D : Sd w h₀ L m own g os s) (h : ∀ t s', Sd w h₀ L m own g os s' → Q (.int (a + b) t) s') : WP w A (binaryOp .Add (.int a t) (.int b u)) Q s :=
  .of (P.add_int (h _ _ (D.tok _)))
theorem r_lt {a b : Int} {t u : Tok} {Q : Value → Shared → Prop} (h : Q (.bool (decide (a < b))) s) : WP w A (compareOp .Lt (.int a t) (.int b u)) Q s := .of (P.lt_int h)
theorem r_chr {i : Int} {u : Tok} {Q : Value → Shared → Prop} (D : Sd w h₀ L m own g os s) (h0 : 0 ≤ i) (h1 : i ≤ 0x10FFFF) (h : ∀ t s', Sd w h₀ L m own g os s' → Q (.str ⟨#[i.toNat]⟩ t) s') :
    WP w A (call (.builtin "chr") [.int i u]) Q s := .of (P.chr_of_int (by simp; omega) (h _ _ (D.tok _)))
theorem r_sitem {x : Str} {t u : Tok} {i : Int} (c : Nat) {Q : Value → Shared → Prop} (D : Sd w h₀ L m own g os s) (h0 : 0 ≤ i) (h1 : i < 2 ^ 63) (hc : x.cps[i.toNat]? = some c) (h : ∀ t s', Sd w h₀ L m own g os s' → Q (.str ⟨#[c]⟩ t) s') :
    WP w A (getItem (.str x t) (.int i u)) Q s := by
  refine .of (P.getItem_str (c := c) (by simp; omega) ?_ (h _ _ (D.tok _)))
  have hl : i.toNat < x.cps.size := (Array.getElem?_eq_some_iff.mp hc).1
  have : seqIndex? i x.length = some i.toNat := by
    have hj : (if i < 0 then i + (x.length : Int) else i) = i := if_neg (by omega)
    simp only [seqIndex?, hj]
    rw [if_pos]
    simp only [Bool.and_eq_true, decide_eq_true_eq]
    exact ⟨h0, by show i < (x.cps.size : Int); omega⟩
  rw [this]; exact hc
theorem r_sitemT {value slice : PySem.Expr} {x : Str} {t u : Tok} {i : Int} (c : Nat) {Q : Value → Shared → Prop} (D : Sd w h₀ L m own g os s) (h0 : 0 ≤ i) (h1 : i < 2 ^ 63) (hc : x.cps[i.toNat]? = some c)
    (hs : subscripted slice false (.str x t) (.int i u) = operate [.str x t, .int i u] (getItem (.str x t) (.int i u))) (h : ∀ t s', Sd w h₀ L m own g os s' → Q (.str ⟨#[c]⟩ t) s') :
    WP w A (subscriptTail value slice (.str x t) (.int i u)) Q s :=
  .of (tail_any (T := "str") (id := "str.__getitem__") (typeIs_str s x t) (by rw [typeLookup_type, builtinLookup_eq_fast]; kernel_rfl) (r_sitem c D h0 h1 hc h).out hs)
/-! the text's own nodes -/
theorem x_nil {Q : Flow → Shared → Prop} (h : Q .next s) : WP w A (execs [] env) Q s := .of (wpAny_execs_nil h)
theorem x_consK {st : Stmt} {rest : List Stmt} {Q : Flow → Shared → Prop} (h : WP w A (exec st env) (fun f s' => match f with | .next => WP w A (execs rest env) Q s' | f => Q f s') s) : WP w A (execs (st :: rest) env) Q s :=
  .of (wpAny_execs_cons (wpAny_mono h.out (fun f s' x => by cases f <;> first | exact x.out | exact x) fun _ _ x => x))
/-- what stands behind a statement -/
abbrev KSeq (w : World) (A : Around) (env : Env) (rest : List Stmt) (Q : Flow → Shared → Prop) : Flow → Shared → Prop := fun f s' => match f with | .next => WP w A (execs rest env) Q s' | f => Q f s'
theorem x_cons {st : Stmt} {rest : List Stmt} {Q : Flow → Shared → Prop} (h : WP w A (exec st env) (KSeq w A env rest Q) s) : WP w A (execs (st :: rest) env) Q s := x_consK h
theorem x_one {st : Stmt} {Q : Flow → Shared → Prop} (h : WP w A (exec st env) Q s) : WP w A (execs [st] env) Q s :=
  x_consK (h.mono fun f s' x => by cases f <;> first | exact x_nil x | exact x)
/-- the end's word behind a letter -/
theorem genQ {α : Type} {t : Sem α} {P : α → Shared → Prop} (h : ∀ Q : α → Shared → Prop, (∀ a s', P a s' → Q a s') → WP w A t Q s) : WP w A t P s := h P fun _ _ x => x
theorem x_ifL {test : PySem.Expr} {body orelse : List Stmt} {Q : Flow → Shared → Prop} (h : WP w A (isTrue test env (eval test env)) (fun b s₂ => if b = true then WP w A (execs body env) Q s₂ else WP w A (execs orelse env) Q s₂) s) : WP w A (exec (.If test body orelse pos) env) Q s :=
  .of (wpAny_If (wpAny_mono h.out (fun b s' x => by cases b <;> simp only [Bool.false_eq_true, if_true, if_false] at x ⊢ <;> exact x.out) fun _ _ x => x))
theorem x_retL {e : PySem.Expr} {Q : Flow → Shared → Prop} (h : WP w A (eval e env) (fun v s' => Q (.ret v) s') s) : WP w A (exec (.Return (some e) pos) env) Q s := .of (wpAny_Return_some h.out)
theorem x_brk {Q : Flow → Shared → Prop} (h : Q .brk s) : WP w A (exec (.Break pos) env) Q s := .of (wpAny_Break h)
theorem x_cont {Q : Flow → Shared → Prop} (h : Q .cont s) : WP w A (exec (.Continue pos) env) Q s := .of (wpAny_Continue h)
theorem x_asgL {p' : Pos} {value : PySem.Expr} {Q : Flow → Shared → Prop} (h : WP w A (eval value env) (fun v s₁ => WP w A (storeName env x v) (fun _ s' => Q .next s') s₁) s) (hs : swapsWith value (some (.Name x p')) pos.line env = pure false) :
    WP w A (exec (.Assign [.Name x p'] value pos) env) Q s := .of (wpAny_Assign_Name (wpAny_mono h.out (fun _ _ x => x.out) fun _ _ x => x) hs)
theorem x_cmpTL {l r : PySem.Expr} {op : CmpOp} {whole : Sem Value} {Q : Bool → Shared → Prop} (h : WP w A (eval l env) (fun a s₁ => WP w A (eval r env) (fun b s₂ => WP w A (compareOp op a b) (fun c s₃ => WP w A (truthy c) Q s₃) s₂) s₁) s) (hm : behindInMarks op r = false) :
    WP w A (isTrue (.Compare l [op] [r] pos) env whole) Q s :=
  .of (wpAny_isTrue_Compare1 (wpAny_mono h.out (fun _ _ x => wpAny_mono x.out (fun _ _ x => wpAny_mono x.out (fun _ _ x => x.out) fun _ _ x => x) fun _ _ x => x) fun _ _ x => x) hm)
theorem x_cmpL {l r : PySem.Expr} {op : CmpOp} {Q : Value → Shared → Prop} (h : WP w A (eval l env) (fun a s₁ => WP w A (eval r env) (fun b s₂ => WP w A (compareOp op a b) Q s₂) s₁) s) (hm : behindInMarks op r = false) :
    WP w A (eval (.Compare l [op] [r] pos) env) Q s := .of (wpAny_Compare1 (wpAny_mono h.out (fun _ _ x => wpAny_mono x.out (fun _ _ x => x.out) fun _ _ x => x) fun _ _ x => x) hm)
theorem x_binL {l r : PySem.Expr} {op : Operator} {Q : Value → Shared → Prop} (h : WP w A (eval l env) (fun a s₁ => WP w A (eval r env) (fun b s₂ => WP w A (binaryOp op a b) Q s₂) s₁) s) :
    WP w A (eval (.BinOp l op r pos) env) Q s := .of (wpAny_BinOp (wpAny_mono h.out (fun _ _ x => wpAny_mono x.out (fun _ _ x => x.out) fun _ _ x => x) fun _ _ x => x))
theorem x_subL {value slice : PySem.Expr} {Q : Value → Shared → Prop} (h : WP w A (eval value env) (fun o s₁ => WP w A (eval slice env) (fun i s₂ => WP w A (subscriptTail value slice o i) Q s₂) s₁) s) :
    WP w A (eval (.Subscript value slice pos) env) Q s := .of (Subscript_ (wpAny_mono h.out (fun _ _ x => wpAny_mono x.out (fun _ _ x => x.out) fun _ _ x => x) fun _ _ x => x))
theorem x_call {func : PySem.Expr} {args : List PySem.Expr} {Q : Value → Shared → Prop} (h : WP w A (eval func env) (fun f s₁ => WP w A (callWith pos f [] (backTo pos (starEach args env)) []) Q s₁) s)
    (he : eval (.Call func args [] pos) env = (do callWith pos (← eval func env) [] (backTo pos (starEach args env)) (backToKw pos (keywordEach [] env)))) : WP w A (eval (.Call func args [] pos) env) Q s :=
  .of (Call_ (wpAny_mono h.out (fun _ _ x => x.out) fun _ _ x => x) he)
theorem x_meth {o : PySem.Expr} {name : Str} {apos : Pos} {args : List PySem.Expr} {pl : Sem Bool} {Q : Value → Shared → Prop}
    (h : WP w A (eval o env) (fun ov s₁ => WP w A (getMethod ov name pl) (fun fx s₂ => WP w A (callWith pos fx.1 fx.2 (backTo pos (starEach args env)) []) Q s₂) s₁) s)
    (he : eval (.Call (.Attribute o name apos) args [] pos) env = (do
      let ov ← eval o env
      standAt apos.atName
      let (f, first) ← holding [ov] (getMethod ov name pl)
      callWith pos f first (backTo pos (starEach args env)) [])) : WP w A (eval (.Call (.Attribute o name apos) args [] pos) env) Q s :=
  .of (MethodCall_ (wpAny_mono h.out (fun _ _ x => wpAny_mono x.out (fun _ _ x => x.out) fun _ _ x => x) fun _ _ x => x) he)
theorem x_args0 {Q : List Value → Shared → Prop} (h : Q [] s) : WP w A (spliced (backTo pos (starEach [] env))) Q s := .of (args_nil h)
theorem x_argsL {e : PySem.Expr} {rest : List PySem.Expr} {Q : List Value → Shared → Prop} (h : WP w A (eval e env) (fun v s₁ => WP w A (spliced (backTo pos (starEach rest env))) (fun vs s₂ => Q (v :: vs) s₂) s₁) s)
    (he : starEach (e :: rest) env = (false, eval e env) :: starEach rest env) : WP w A (spliced (backTo pos (starEach (e :: rest) env))) Q s := .of (args_cons (wpAny_mono h.out (fun _ _ x => x.out) fun _ _ x => x) he)
theorem x_attrL {a attr : Str} {np : Pos} {Q : Value → Shared → Prop} (h : WP w A (eval (.Name a np) env) (fun o s₁ => WP w A (getAttr o attr true) Q s₁) s) : WP w A (eval (.Attribute (.Name a np) attr pos) env) Q s :=
  .of (Attribute_name (wpAny_mono h.out (fun _ _ x => x.out) fun _ _ x => x))
theorem x_asgAL {o : PySem.Expr} {attr : Str} {p' : Pos} {value : PySem.Expr} {Q : Flow → Shared → Prop} (h : WP w A (eval value env) (fun v s₁ => WP w A (eval o env) (fun ov s₂ => WP w A (setAttr ov attr v) (fun _ s' => Q .next s') s₂) s₁) s)
    (hs : swapsWith value (some (.Attribute o attr p')) pos.line env = pure false) : WP w A (exec (.Assign [.Attribute o attr p'] value pos) env) Q s :=
  .of (plainObj_wpAny_Assign_Attribute (wpAny_mono h.out (fun _ _ x => wpAny_mono x.out (fun _ _ x => x.out) fun _ _ x => x) fun _ _ x => x) hs)
theorem x_notTL {e : PySem.Expr} {whole : Sem Value} {Q : Bool → Shared → Prop} (h : WP w A (isTrue e env (eval e env)) (fun b s₁ => Q (!b) s₁) s) : WP w A (isTrue (.UnaryOp .Not e pos) env whole) Q s := .of (wpAny_isTrue_Not h.out)
theorem x_valTL {e : PySem.Expr} {whole : Sem Value} {Q : Bool → Shared → Prop} (h : WP w A whole (fun v s₁ => WP w A (truthy v) Q s₁) s) (he : isTrue e env whole = (do let v ← whole; standAt e.pos; holding [v] (truthy v))) : WP w A (isTrue e env whole) Q s :=
  .of (wpAny_isTrue_value (wpAny_mono h.out (fun _ _ x => x.out) fun _ _ x => x) he)
theorem x_boolT {op : BoolOp} {values : List PySem.Expr} {whole : Sem Value} {Q : Bool → Shared → Prop} (h : WP w A (allTrue op values env) Q s) : WP w A (isTrue (.BoolOp op values pos) env whole) Q s := .of (wpAny_isTrue_BoolOp h.out)
theorem x_and0 {Q : Bool → Shared → Prop} (h : Q true s) : WP w A (allTrue .And [] env) Q s := .of (wpAny_allTrue_And_nil h)
theorem x_or0 {Q : Bool → Shared → Prop} (h : Q false s) : WP w A (allTrue .Or [] env) Q s := .of (wpAny_allTrue_Or_nil h)
theorem x_andL {e : PySem.Expr} {rest : List PySem.Expr} {Q : Bool → Shared → Prop} (h : WP w A (isTrue e env (eval e env)) (fun b s₁ => if b = true then WP w A (allTrue .And rest env) Q s₁ else Q false s₁) s) : WP w A (allTrue .And (e :: rest) env) Q s :=
  .of (wpAny_allTrue_And_cons (wpAny_mono h.out (fun b s' x => by cases b <;> simp only [Bool.false_eq_true, if_true, if_false] at x ⊢ <;> first | exact x.out | exact x) fun _ _ x => x))
theorem x_orL {e : PySem.Expr} {rest : List PySem.Expr} {Q : Bool → Shared → Prop} (h : WP w A (isTrue e env (eval e env)) (fun b s₁ => if b = true then Q true s₁ else WP w A (allTrue .Or rest env) Q s₁) s) : WP w A (allTrue .Or (e :: rest) env) Q s :=
  .of (wpAny_allTrue_Or_cons (wpAny_mono h.out (fun b s' x => by cases b <;> simp only [Bool.false_eq_true, if_true, if_false] at x ⊢ <;> first | exact x.out | exact x) fun _ _ x => x))
theorem x_ifexpL {test body orelse : PySem.Expr} {Q : Value → Shared → Prop} (h : WP w A (isTrue test env (eval test env)) (fun b s₁ => if b = true then WP w A (eval body env) Q s₁ else WP w A (eval orelse env) Q s₁) s) : WP w A (eval (.IfExp test body orelse pos) env) Q s :=
  .of (wpAny_IfExp (wpAny_mono h.out (fun b s' x => by cases b <;> simp only [Bool.false_eq_true, if_true, if_false] at x ⊢ <;> exact x.out) fun _ _ x => x))
theorem x_none {Q : Value → Shared → Prop} (h : Q .none s) : WP w A (eval (.Constant .none k pos) env) Q s := .of (wpAny_Constant_none h)
theorem x_bool {b : Bool} {Q : Value → Shared → Prop} (h : Q (.bool b) s) : WP w A (eval (.Constant (.bool b) k pos) env) Q s := .of (wpAny_Constant_bool h)
theorem t_bool {b : Bool} {Q : Bool → Shared → Prop} (h : Q b s) : WP w A (truthy (.bool b)) Q s := .of (wpAny_truthy_bool h)
/-! what stands behind a node, under a name -/
abbrev KIf (w : World) (A : Around) (env : Env) (body orelse : List Stmt) (Q : Flow → Shared → Prop) : Bool → Shared → Prop := fun b s₂ => if b = true then WP w A (execs body env) Q s₂ else WP w A (execs orelse env) Q s₂
abbrev KIx (w : World) (A : Around) (env : Env) (body orelse : PySem.Expr) (Q : Value → Shared → Prop) : Bool → Shared → Prop := fun b s₂ => if b = true then WP w A (eval body env) Q s₂ else WP w A (eval orelse env) Q s₂
abbrev KNx {α : Type} (Q : Flow → Shared → Prop) : α → Shared → Prop := fun _ s' => Q .next s'
abbrev KSt (w : World) (A : Around) (env : Env) (x : Str) (Q : Flow → Shared → Prop) : Value → Shared → Prop := fun v s₁ => WP w A (storeName env x v) (KNx Q) s₁
abbrev KRet (Q : Flow → Shared → Prop) : Value → Shared → Prop := fun v s' => Q (.ret v) s'
abbrev KTr (w : World) (A : Around) (Q : Bool → Shared → Prop) : Value → Shared → Prop := fun v s₁ => WP w A (truthy v) Q s₁
abbrev KCm (w : World) (A : Around) (op : CmpOp) (a : Value) (Q : Value → Shared → Prop) : Value → Shared → Prop := fun b s₂ => WP w A (compareOp op a b) Q s₂
abbrev KCl (w : World) (A : Around) (env : Env) (op : CmpOp) (r : PySem.Expr) (Q : Value → Shared → Prop) : Value → Shared → Prop := fun a s₁ => WP w A (eval r env) (KCm w A op a Q) s₁
abbrev KBi (w : World) (A : Around) (op : Operator) (a : Value) (Q : Value → Shared → Prop) : Value → Shared → Prop := fun b s₂ => WP w A (binaryOp op a b) Q s₂
abbrev KBl (w : World) (A : Around) (env : Env) (op : Operator) (r : PySem.Expr) (Q : Value → Shared → Prop) : Value → Shared → Prop := fun a s₁ => WP w A (eval r env) (KBi w A op a Q) s₁
abbrev KSu (w : World) (A : Around) (value slice : PySem.Expr) (o : Value) (Q : Value → Shared → Prop) : Value → Shared → Prop := fun i s₂ => WP w A (subscriptTail value slice o i) Q s₂
abbrev KSl (w : World) (A : Around) (env : Env) (value slice : PySem.Expr) (Q : Value → Shared → Prop) : Value → Shared → Prop := fun o s₁ => WP w A (eval slice env) (KSu w A value slice o Q) s₁
abbrev KAt (w : World) (A : Around) (attr : Str) (Q : Value → Shared → Prop) : Value → Shared → Prop := fun o s₁ => WP w A (getAttr o attr true) Q s₁
abbrev KSa (w : World) (A : Around) (attr : Str) (v : Value) (Q : Flow → Shared → Prop) : Value → Shared → Prop := fun ov s₂ => WP w A (setAttr ov attr v) (KNx Q) s₂
abbrev KSo (w : World) (A : Around) (env : Env) (o : PySem.Expr) (attr : Str) (Q : Flow → Shared → Prop) : Value → Shared → Prop := fun v s₁ => WP w A (eval o env) (KSa w A attr v Q) s₁
abbrev KNo (Q : Bool → Shared → Prop) : Bool → Shared → Prop := fun b s₁ => Q (!b) s₁
abbrev KAn (w : World) (A : Around) (env : Env) (rest : List PySem.Expr) (Q : Bool → Shared → Prop) : Bool → Shared → Prop := fun b s₁ => if b = true then WP w A (allTrue .And rest env) Q s₁ else Q false s₁
abbrev KOr (w : World) (A : Around) (env : Env) (rest : List PySem.Expr) (Q : Bool → Shared → Prop) : Bool → Shared → Prop := fun b s₁ => if b = true then Q true s₁ else WP w A (allTrue .Or rest env) Q s₁
abbrev KAv (Q : List Value → Shared → Prop) (v : Value) : List Value → Shared → Prop := fun vs s₂ => Q (v :: vs) s₂
abbrev KAr (w : World) (A : Around) (env : Env) (pos : Pos) (rest : List PySem.Expr) (Q : List Value → Shared → Prop) : Value → Shared → Prop := fun v s₁ => WP w A (spliced (backTo pos (starEach rest env))) (KAv Q v) s₁
theorem x_if {test : PySem.Expr} {body orelse : List Stmt} {Q : Flow → Shared → Prop} (h : WP w A (isTrue test env (eval test env)) (KIf w A env body orelse Q) s) : WP w A (exec (.If test body orelse pos) env) Q s := x_ifL h
theorem x_ret {e : PySem.Expr} {Q : Flow → Shared → Prop} (h : WP w A (eval e env) (KRet Q) s) : WP w A (exec (.Return (some e) pos) env) Q s := x_retL h
theorem x_asg {p' : Pos} {value : PySem.Expr} {Q : Flow → Shared → Prop} (h : WP w A (eval value env) (KSt w A env x Q) s) (hs : swapsWith value (some (.Name x p')) pos.line env = pure false) : WP w A (exec (.Assign [.Name x p'] value pos) env) Q s := x_asgL h hs
theorem x_cmpT {l r : PySem.Expr} {op : CmpOp} {whole : Sem Value} {Q : Bool → Shared → Prop} (h : WP w A (eval l env) (KCl w A env op r (KTr w A Q)) s) (hm : behindInMarks op r = false) : WP w A (isTrue (.Compare l [op] [r] pos) env whole) Q s := x_cmpTL h hm
theorem x_cmp {l r : PySem.Expr} {op : CmpOp} {Q : Value → Shared → Prop} (h : WP w A (eval l env) (KCl w A env op r Q) s) (hm : behindInMarks op r = false) : WP w A (eval (.Compare l [op] [r] pos) env) Q s := x_cmpL h hm
theorem x_bin {l r : PySem.Expr} {op : Operator} {Q : Value → Shared → Prop} (h : WP w A (eval l env) (KBl w A env op r Q) s) : WP w A (eval (.BinOp l op r pos) env) Q s := x_binL h
theorem x_sub {value slice : PySem.Expr} {Q : Value → Shared → Prop} (h : WP w A (eval value env) (KSl w A env value slice Q) s) : WP w A (eval (.Subscript value slice pos) env) Q s := x_subL h
theorem x_attr {a attr : Str} {np : Pos} {Q : Value → Shared → Prop} (h : WP w A (eval (.Name a np) env) (KAt w A attr Q) s) : WP w A (eval (.Attribute (.Name a np) attr pos) env) Q s := x_attrL h
theorem x_asgA {o : PySem.Expr} {attr : Str} {p' : Pos} {value : PySem.Expr} {Q : Flow → Shared → Prop} (h : WP w A (eval value env) (KSo w A env o attr Q) s) (hs : swapsWith value (some (.Attribute o attr p')) pos.line env = pure false) : WP w A (exec (.Assign [.Attribute o attr p'] value pos) env) Q s := x_asgAL h hs
theorem x_notT {e : PySem.Expr} {whole : Sem Value} {Q : Bool → Shared → Prop} (h : WP w A (isTrue e env (eval e env)) (KNo Q) s) : WP w A (isTrue (.UnaryOp .Not e pos) env whole) Q s := x_notTL h
theorem x_valT {e : PySem.Expr} {whole : Sem Value} {Q : Bool → Shared → Prop} (h : WP w A whole (KTr w A Q) s) (he : isTrue e env whole = (do let v ← whole; standAt e.pos; holding [v] (truthy v))) : WP w A (isTrue e env whole) Q s := x_valTL h he
theorem x_and {e : PySem.Expr} {rest : List PySem.Expr} {Q : Bool → Shared → Prop} (h : WP w A (isTrue e env (eval e env)) (KAn w A env rest Q) s) : WP w A (allTrue .And (e :: rest) env) Q s := x_andL h
theorem x_or {e : PySem.Expr} {rest : List PySem.Expr} {Q : Bool → Shared → Prop} (h : WP w A (isTrue e env (eval e env)) (KOr w A env rest Q) s) : WP w A (allTrue .Or (e :: rest) env) Q s := x_orL h
theorem x_ifexp {test body orelse : PySem.Expr} {Q : Value → Shared → Prop} (h : WP w A (isTrue test env (eval test env)) (KIx w A env body orelse Q) s) : WP w A (eval (.IfExp test body orelse pos) env) Q s := x_ifexpL h
theorem x_args {e : PySem.Expr} {rest : List PySem.Expr} {Q : List Value → Shared → Prop} (h : WP w A (eval e env) (KAr w A env pos rest Q) s) (he : starEach (e :: rest) env = (false, eval e env) :: starEach rest env) : WP w A (spliced (backTo pos (starEach (e :: rest) env))) Q s := x_argsL h he
end
end Mine
end
section
open PySem PySem.W PyProof.Rows PySem.Calls
set_option Elab.async false
set_option maxRecDepth 100000
set_option maxHeartbeats 400000
set_option linter.unusedVariables false
namespace Mine
open PySem.W.X (Led)
/-- what is asked of a class and an attribute's name that stands in the instance's own dict -/
noncomputable def fldOk (K : Frag) (C : Addr) (name : Str) : Bool := plainGet K C name && hasDictIn K C && findIn K (.ref C) name == some none
noncomputable def setOk (K : Frag) (C : Addr) (name : Str) : Bool := findIn K (.ref C) "__setattr__" == some (some (.builtin "object.__setattr__")) && plainOver K C && takerIn K C name == some none && hasDictIn K C
noncomputable def methOk (K : Frag) (C : Addr) (name : Str) (f : Addr) : Bool := plainGet K C name && findIn K (.ref C) name == some (some (.ref f)) && isFn K (.ref f)
theorem upd_set {a : Addr} {o o' : Obj} : ∀ {news : List (Addr × Obj)} {i : Nat}, (news.map (·.1)).Pairwise (· > ·) → news[i]? = some (a, o) → Upd a o o' news (news.set i (a, o'))
  | [], _, _, h => by cases h
  | p :: r, 0, hp, h => by
    cases h
    refine Upd.head fun q hq => ?_
    rw [List.map_cons, List.pairwise_cons] at hp
    exact Nat.ne_of_lt (hp.1 q.1 (List.mem_map_of_mem hq))
  | p :: r, i + 1, hp, h => by
    rw [List.map_cons, List.pairwise_cons] at hp
    have h' : r[i]? = some (a, o) := by simpa using h
    refine Upd.tail (Nat.ne_of_gt (hp.1 a ?_)) (upd_set hp.2 h')
    exact List.mem_map_of_mem (f := (·.1)) (List.mem_of_getElem? h')
theorem FldsOk.length {P : Params} : ∀ {es : List DictEntry} {fs : List (Str × Value)}, FldsOk P es fs → es.length = fs.length
  | [], [], _ => rfl
  | _ :: es, _ :: fs, h => congrArg Nat.succ (FldsOk.length h.2.2.2)
  | [], _ :: _, h => by cases h
  | _ :: _, [], h => by cases h
theorem keys_set {a : Addr} {o o' : Obj} {news : List (Addr × Obj)} {i : Nat} (h : news[i]? = some (a, o)) : (news.set i (a, o')).map (·.1) = news.map (·.1) := by
  rw [List.map_set]
  obtain ⟨hl, he⟩ := List.getElem?_eq_some_iff.mp h
  apply List.ext_getElem? 
  intro j
  rw [List.getElem?_set]
  split
  · rename_i e
    subst e
    simp [he, hl]
  · rfl
theorem Own.getI {w} {news : List (Addr × Obj)} {own a ao} (h : Own w news own) (hm : OAt own a ao) : ∃ (i : Nat) (o : Obj), news[i]? = some (a, o) ∧ ao.Is w o := by
  obtain ⟨o, h1, h2⟩ := h.at hm
  obtain ⟨i, hi⟩ := List.getElem?_of_mem h1
  exact ⟨i, o, hi, h2⟩
section
variable {w : World} {n : Nat} {A : Around} {env : Env} {h₀ : Heap} {L : Addr} {m m' : List (Str × Value)} {own own' : List (Addr × AO)} {g : GP} {os : Osb} {s : Shared} {pos : Pos} {x dx c f : Addr} {v : Value} {name : Str} {fs fs' : List (Str × Value)} {path₀ : List Nat}
theorem Sd.inst (D : Sd w h₀ L m own g os s) (hx : OAt own x (.inst c dx)) (hd : OAt own dx (.flds fs)) : ∃ es k, W.InstAt s.heap x (instObj c dx) c (some (dictOf es k)) ∧ FldsOk w.params es fs := by
  obtain ⟨ox, h1, h2⟩ := D.get hx
  obtain ⟨od, h3, es, k, h4, h5⟩ := D.get hd
  subst h4
  have h2' : ox = instObj c dx := h2
  subst h2'
  exact ⟨es, k, ⟨h1, rfl, rfl, h3⟩, h5⟩
theorem r_getf {Q : Value → Shared → Prop} {e : Bool} (C : Fx w n A env h₀ L path₀) (D : Sd w h₀ L m own g os s) (hx : OAt own x (.inst c dx)) (hd : OAt own dx (.flds fs)) (hm : MAt fs name v) (hk : fldOk (KK w.params) c name = true) (hv : handedIn v = true)
    (h : ∀ s', Sd w h₀ L m own g os s' → Q v s') : WP w A (getAttr (.ref x) name e) Q s := by
  obtain ⟨es, k, I, ok⟩ := D.inst hx hd
  unfold fldOk at hk
  simp only [Bool.and_eq_true, beq_iff_eq] at hk
  exact .of (get_own D.fr C.gk I hk.1.1 hk.1.2 hk.2 rfl (ok.get hm) hv (h _ (D.tok _)))
theorem r_setf {Q : Unit → Shared → Prop} (C : Fx w n A env h₀ L path₀) (D : Sd w h₀ L m own g os s) (hx : OAt own x (.inst c dx)) (hd : OPut own dx (.flds fs) (.flds fs') own') (hp : MPut fs name v fs') (hk : setOk (KK w.params) c name = true) (hz : fs'.length ≤ 1000)
    (h : ∀ s', Sd w h₀ L m own' g os s' → Q () s') : WP w A (setAttr (.ref x) name v) Q s := by
  obtain ⟨news, l, ow⟩ := D.led
  obtain ⟨i, o, h1, h2, h3⟩ := ow.put hd
  obtain ⟨es, k, rfl, ok⟩ := h2
  obtain ⟨j, ox, g1, g2⟩ := ow.getI hx
  have g2' : ox = instObj c dx := g2
  subst g2'
  unfold setOk at hk
  simp only [Bool.and_eq_true, beq_iff_eq] at hk
  have ok' := ok.put (t := s.toks + 1) hp
  have hl : (getL name es).isSome = true := by
    unfold getL
    split
    · rfl
    · rename_i hno
      have : es.any (·.refKey) = false := by
        clear h hp ok' h3 hd h1 hx g1 hno D l ow
        induction es generalizing fs with
        | nil => rfl
        | cons e es ih =>
          cases fs with
          | nil => cases ok
          | cons f fs =>
            obtain ⟨⟨t, hk⟩, _, _, hr⟩ := ok
            rw [List.any_cons, ih hr, Bool.or_false]
            unfold DictEntry.refKey
            rw [hk]
      rw [this]; rfl
  refine .of (set_dict l.fr C.gk l.nw (x := x) (dx := dx) (es := es) (n := k) (ox := instObj c dx) ⟨l.nw.get (List.mem_of_getElem? g1), rfl, rfl, l.nw.get (List.mem_of_getElem? h1)⟩ rfl hk.1.1.1 hk.1.1.2 hk.1.2 hk.2 hl rfl (upd_set l.ord h1) (by rw [ok'.length]; exact hz) (fun h' F' N' => h _ ?_))
  exact ⟨⟨_, ⟨F', N', by rw [keys_set h1]; exact l.ord⟩, h3 _ ⟨_, _, rfl, ok'⟩⟩, D.gens, D.osq, by first | exact D.pos | exact Nat.le_succ_of_le D.pos | exact Nat.le_succ_of_le (Nat.le_succ_of_le D.pos)⟩
/-- a def of the text stands there -/
noncomputable def fnObj (path : List Nat) (nm qual : Str) (dV pm cdv : Value) : Obj := ⟨.type "function", none, .func (fnX nm qual (paramsAt path) (bodyAt path) (scopeAt path) [] dV .none .none pm none cdv .none), #[]⟩
theorem Sd.fn {path : List Nat} {nm qual : Str} {dV pm cdv : Value} (D : Sd w h₀ L m own g os s) (C : Fx w n A env h₀ L path₀) (F : FnIs w.params f path nm qual dV pm cdv) : s.heap.get? f = some (fnObj path nm qual dV pm cdv) :=
  D.fr.keep _ _ (C.gk _ _ F.here)
end
end Mine
end
section
open PySem PySem.W PyProof.Rows PySem.Calls
set_option Elab.async false
set_option maxRecDepth 100000
set_option maxHeartbeats 400000
set_option linter.unusedVariables false
namespace Mine
open PySem.W.X (Led)
inductive ODel : List (Addr × AO) → Addr → AO → List (Addr × AO) → Prop
  | head {a ao r} : ODel ((a, ao) :: r) a ao r
  | tail {p a ao r r'} : ODel r a ao r' → ODel (p :: r) a ao (p :: r')
theorem Own.del {w news own a ao own'} (h : Own w news own) (hd : ODel own a ao own') : ∃ pre o post, news = pre ++ (a, o) :: post ∧ ao.Is w o ∧ Own w (pre ++ post) own' := by
  induction h generalizing own' with
  | nil => cases hd
  | @cons b o bo news own hi hr ih =>
    cases hd with
    | head => exact ⟨[], o, news, rfl, hi, hr⟩
    | tail hd =>
      obtain ⟨pre, o', post, rfl, h1, h2⟩ := ih hd
      exact ⟨(b, o) :: pre, o', post, rfl, h1, .cons hi h2⟩
  | @skip p news own hr ih =>
    obtain ⟨pre, o', post, rfl, h1, h2⟩ := ih hd
    exact ⟨p :: pre, o', post, rfl, h1, .skip h2⟩
theorem Own.re {w news own a ao ao' own'} (h : Own w news own) (hp : OPut own a ao ao' own') (k : ∀ o, ao.Is w o → ao'.Is w o) : Own w news own' := by
  induction h generalizing own' with
  | nil => cases hp
  | cons hi hr ih =>
    cases hp with
    | head => exact .cons (k _ hi) hr
    | tail hp => exact .cons hi (ih hp)
  | skip _ ih => exact .skip (ih hp)
section
variable {w : World} {n : Nat} {A : Around} {env : Env} {h₀ : Heap} {L : Addr} {m m' : List (Str × Value)} {own own' : List (Addr × AO)} {g : GP} {os : Osb} {s : Shared} {pos : Pos} {a l : Addr} {ao ao' : AO} {v : Value} {ns : List Int} {ws : List Str} {vs : List Value}
theorem Sd.re (D : Sd w h₀ L m own g os s) (hp : OPut own a ao ao' own') (k : ∀ o, ao.Is w o → ao'.Is w o) : Sd w h₀ L m own' g os s :=
  let ⟨n, l, o⟩ := D.led; ⟨⟨n, l, o.re hp k⟩, D.gens, D.osq, by first | exact D.pos | exact Nat.le_succ_of_le D.pos | exact Nat.le_succ_of_le (Nat.le_succ_of_le D.pos)⟩
theorem Sd.lose (D : Sd w h₀ L m own g os s) (hd : ODel own a ao own') {h' : Heap} {t : Nat} (he : Heap.ExtBut a s.heap h') (ht : os.b ≤ t := by first | exact Sd.pos (by assumption) | exact Nat.le_succ_of_le (Sd.pos (by assumption)) | exact Nat.le_succ_of_le (Nat.le_succ_of_le (Sd.pos (by assumption))) | omega) : Sd w h₀ L m own' g os ⟨h', s.gens, s.drawn, t, s.os⟩ := by
  obtain ⟨n, l, ow⟩ := D.led
  obtain ⟨pre, o, post, rfl, _, h2⟩ := ow.del hd
  have hk : ∀ b o, b ∉ [a] → s.heap.get? b = some o → h'.get? b = some o := fun b o hb e => he b o (by simpa using hb) e
  have z := l.nw (a, o) (List.mem_append_right _ (.head _))
  have ord := l.ord
  rw [List.map_append, List.map_cons] at ord
  have p1 : ∀ p ∈ pre, p.1 ≠ a := fun p hp => Nat.ne_of_gt ((List.pairwise_append.mp ord).2.2 p.1 (List.mem_map_of_mem hp) a (.head _))
  have p2 : ∀ p ∈ post, p.1 ≠ a := fun p hp => Nat.ne_of_lt ((List.pairwise_cons.mp (List.pairwise_append.mp ord).2.1).1 p.1 (List.mem_map_of_mem hp))
  refine ⟨⟨pre ++ post, ⟨LCg.fr_but l.fr hk (Ne.symm z.2.1) z.2.2, fun p hp => ?_, ?_⟩, h2⟩, D.gens, D.osq, ht⟩
  · rcases List.mem_append.mp hp with q | q
    · have y := l.nw p (List.mem_append_left _ q)
      exact ⟨he _ _ (p1 p q) y.1, y.2⟩
    · have y := l.nw p (List.mem_append_right _ (.tail _ q))
      exact ⟨he _ _ (p2 p q) y.1, y.2⟩
  · rw [List.map_append]
    refine List.pairwise_append.mpr ⟨(List.pairwise_append.mp ord).1, (List.pairwise_cons.mp (List.pairwise_append.mp ord).2.1).2, fun x hx y hy => (List.pairwise_append.mp ord).2.2 x hx y (.tail _ hy)⟩
/-- a library rule's new object, put into the ledger -/
theorem Sd.new {news : List (Addr × Obj)} {o : Obj} (l : Led h₀ L (fun x => m.lookup x) s.heap news) (ow : Own w news own) (hg : g s.gens) (ho : s.os = os.os ∧ s.drawn = os.dr) {h' : Heap} {t : Nat} (F : Fr h₀ L h' (fun x => m.lookup x)) (N : News h₀ L h' ((a, o) :: news)) (lt : ∀ p ∈ news, p.1 < a)
    (hi : ao.Is w o) (ht : os.b ≤ t := by first | exact Sd.pos (by assumption) | exact Nat.le_succ_of_le (Sd.pos (by assumption)) | exact Nat.le_succ_of_le (Nat.le_succ_of_le (Sd.pos (by assumption))) | omega) : Sd w h₀ L m ((a, ao) :: own) g os ⟨h', s.gens, s.drawn, t, s.os⟩ := by
  refine ⟨⟨(a, o) :: news, ⟨F, N, ?_⟩, .cons hi ow⟩, hg, ho, ht⟩
  refine List.Pairwise.cons (fun b hb => ?_) l.ord
  obtain ⟨p, hp, rfl⟩ := List.mem_map.mp hb
  exact lt p hp
/-! lists -/
def ListAs (w : World) (ao : AO) (P : List Value → Prop) : Prop := ∀ o, ao.Is w o → ∃ vs n, o = listOf (List.toArray vs) n ∧ P vs
theorem las_ints {ns : List Int} : ListAs w (.ints ns) (fun vs => IntsAre vs ns) := fun o h => h
theorem las_strs {ws : List Str} : ListAs w (.strs ws) (fun vs => StrsAre vs ws) := fun o h => h
theorem las_list {vs : List Value} : ListAs w (.list vs) (fun us => us = vs) := fun o h => let ⟨n, e⟩ := h; ⟨vs, n, e, rfl⟩
theorem Sd.isList {P : List Value → Prop} (D : Sd w h₀ L m own g os s) (hm : OAt own l ao) (hl : ListAs w ao P) : ∃ vs n, s.heap.get? l = some (listOf (List.toArray vs) n) ∧ s.heap.IsList l vs.toArray ∧ P vs := by
  obtain ⟨o, h1, h2⟩ := D.get hm
  obtain ⟨vs, n, rfl, hp⟩ := hl o h2
  exact ⟨vs, n, h1, ⟨_, h1, rfl, n, rfl⟩, hp⟩
/-- the list with one more at its end -/
def Pushes (w : World) (ao : AO) (v : Value) (ao' : AO) : Prop := ∀ o, ao.Is w o → ∃ its n, o = listOf its n ∧ its.size ≤ sizeLine ∧ ao'.Is w (listOf (its.push v) (n + 1))
theorem psh_ints {i : Int} {t : Tok} (hz : ns.length ≤ 100000) : Pushes w (.ints ns) (.int i t) (.ints (ns ++ [i])) := by
  rintro o ⟨vs, n, rfl, hi⟩
  exact ⟨vs.toArray, n, rfl, by rw [List.size_toArray, hi.length]; unfold sizeLine; omega, vs ++ [.int i t], n + 1, by simp, intsAre_append hi (.cons _ _ .nil)⟩
theorem psh_strs {x : Str} {t : Tok} (hz : ws.length ≤ 100000) : Pushes w (.strs ws) (.str x t) (.strs (ws ++ [x])) := by
  rintro o ⟨vs, n, rfl, hi⟩
  exact ⟨vs.toArray, n, rfl, by rw [List.size_toArray, hi.length]; unfold sizeLine; omega, vs ++ [.str x t], n + 1, by simp, strsAre_append hi (.cons _ _ .nil)⟩
theorem psh_list (hz : vs.length ≤ 100000) : Pushes w (.list vs) v (.list (vs ++ [v])) := by
  rintro o ⟨n, rfl⟩
  exact ⟨vs.toArray, n, rfl, by rw [List.size_toArray]; unfold sizeLine; omega, n + 1, by simp⟩
theorem r_append {Q : Value → Shared → Prop} (D : Sd w h₀ L m own g os s) (hp : OPut own l ao ao' own') (hq : Pushes w ao v ao') (h : ∀ s', Sd w h₀ L m own' g os s' → Q .none s') : WP w A (call (.builtin "list.append") [.ref l, v]) Q s := by
  obtain ⟨o, h1, h2⟩ := D.get hp.at
  obtain ⟨its, n, rfl, hz, h3⟩ := hq o h2
  exact .of (append_at (hsz := hz) h1 fun h' hs ho => h _ (D.set hp hs ho h3))
theorem r_mappend {Q : Value × List Value → Shared → Prop} {pl : Sem Bool} {P : List Value → Prop} (D : Sd w h₀ L m own g os s) (hm : OAt own l ao) (hl : ListAs w ao P) (h : Q (.builtin "list.append", [.ref l]) s) : WP w A (getMethod (.ref l) "append" pl) Q s := by
  obtain ⟨vs, n, h1, h2, h3⟩ := D.isList hm hl
  exact .of (getMethod_list_append h1 rfl rfl h)
theorem r_newlist {Q : Value → Shared → Prop} (D : Sd w h₀ L m own g os s) (hz : vs.length ≤ 100000) (h : ∀ l s', Sd w h₀ L m ((l, .list vs) :: own) g os s' → Q (.ref l) s') : WP w A (newList vs) Q s := by
  obtain ⟨news, l, ow⟩ := D.led
  exact .of (newList_K l.fr l.nw (fun D' h' F N lt => h _ _ (Sd.new l ow D.gens D.osq F N lt ⟨0, rfl⟩)) (by unfold sizeLine; omega))
theorem x_list {elts : List PySem.Expr} {Q : Value → Shared → Prop} (h : WP w A (spliced (backTo pos (starEach elts env))) (fun vs s₁ => WP w A (newList vs) Q s₁) s) : WP w A (eval (.List elts pos) env) Q s :=
  .of (List_ (wpAny_mono h.out (fun _ _ x => x.out) fun _ _ x => x))
theorem r_len {P : List Value → Prop} {Q : Value → Shared → Prop} (D : Sd w h₀ L m own g os s) (hm : OAt own l ao) (hl : ListAs w ao P) (k : Nat) (hk : ∀ vs, P vs → vs.length = k) (hz : k < 2 ^ 60) (h : ∀ t s', Sd w h₀ L m own g os s' → Q (.int k t) s') : WP w A (call (.builtin "len") [.ref l]) Q s := by
  obtain ⟨vs, n, h1, h2, h3⟩ := D.isList hm hl
  have e := hk vs h3
  refine .of (call_len_list h2 (by rw [List.size_toArray, e]; omega) ?_)
  rw [List.size_toArray, e]
  exact h _ _ (D.tok _)
theorem r_item {P : List Value → Prop} {i : Int} {u : Tok} {Q : Value → Shared → Prop} (D : Sd w h₀ L m own g os s) (hm : OAt own l ao) (hl : ListAs w ao P) (h0 : 0 ≤ i) (h1 : i < 2 ^ 60) (h : ∀ vs, P vs → ∃ v, vs[i.toNat]? = some v ∧ Q v s) : WP w A (getItem (.ref l) (.int i u)) Q s := by
  obtain ⟨vs, n, e1, e2, e3⟩ := D.isList hm hl
  obtain ⟨v, e4, e5⟩ := h vs e3
  exact .of (getItem_listL e2 h0 (by omega) e4 e5)
theorem r_last {P : List Value → Prop} {u : Tok} {Q : Value → Shared → Prop} (D : Sd w h₀ L m own g os s) (hm : OAt own l ao) (hl : ListAs w ao P) (h : ∀ vs, P vs → ∃ us v, vs = us ++ [v] ∧ Q v s) : WP w A (getItem (.ref l) (.int (-1) u)) Q s := by
  obtain ⟨vs, n, e1, e2, e3⟩ := D.isList hm hl
  obtain ⟨us, v, rfl, e5⟩ := h vs e3
  refine .of (kde_getNeg (j := us.length) e2 (by decide) (by decide) ?_ (by simp) e5)
  have hj : (-1 : Int) + ((us ++ [v]).length : Int) = us.length := by rw [List.length_append]; simp; omega
  unfold seqIndex?
  rw [if_pos (by decide : (-1 : Int) < 0)]
  simp only [hj]
  rw [if_pos]
  · simp
  · simp
    omega
theorem r_setlast {P : List Value → Prop} {u : Tok} {Q : Unit → Shared → Prop} (D : Sd w h₀ L m own g os s) (hp : OPut own l ao ao' own') (hl : ∀ o, ao.Is w o → ∃ us v₀ n, o = listOf (List.toArray (us ++ [v₀])) n ∧ ao'.Is w (listOf (List.toArray (us ++ [v])) n)) (h : ∀ s', Sd w h₀ L m own' g os s' → Q () s') : WP w A (setItem (.ref l) (.int (-1) u) v) Q s := by
  obtain ⟨news, ld, ow⟩ := D.led
  obtain ⟨i, o, h1, h2, h3⟩ := ow.put hp
  obtain ⟨us, v₀, n, rfl, h4⟩ := hl o h2
  have hj : seqIndex? (-1) (List.toArray (us ++ [v₀])).size = some us.length := by
    have hj : (-1 : Int) + ((us ++ [v₀]).length : Int) = us.length := by rw [List.length_append]; simp; omega
    unfold seqIndex?
    rw [if_pos (by decide : (-1 : Int) < 0), List.size_toArray]
    simp only [hj]
    rw [if_pos]
    · simp
    · simp
      omega
  have hq : ki_setL (List.toArray (us ++ [v₀])).toList us.length v = some (us ++ [v]) := by
    show ki_setL (us ++ [v₀]) us.length v = some (us ++ [v])
    clear hj h1 h2 h3 h4 hl D ld ow h hp
    induction us with
    | nil => rfl
    | cons a r ih => show ki_setL (a :: (r ++ [v₀])) (r.length + 1) v = _; rw [ki_setL, ih]; rfl
  refine .of (ki_setNeg ld.fr ld.nw (by decide) (by decide) hj hq (upd_set ld.ord h1) fun h' F N => h _ ?_)
  exact ⟨⟨_, ⟨F, N, by rw [keys_set h1]; exact ld.ord⟩, h3 _ h4⟩, D.gens, D.osq, by first | exact D.pos | exact Nat.le_succ_of_le D.pos | exact Nat.le_succ_of_le (Nat.le_succ_of_le D.pos)⟩
end
end Mine
end
section
open PySem PySem.W PyProof.Rows PySem.Calls
set_option Elab.async false
set_option maxRecDepth 100000
set_option maxHeartbeats 400000
set_option linter.unusedVariables false
namespace Mine
open PySem.W.X (Led)
/-- an iterator that stands in the ledger -/
structure It (w : World) (A : Around) (I : Addr) (n : Nat) (val : Nat → Value → Prop) (st : Nat → AO) (need : List (Addr × AO) → Prop) : Prop where
  up : ∀ {own p}, need own → need (p :: own)
  item : ∀ {i h₀ L m own own' g os s Q}, i < n → Sd w h₀ L m own g os s → need own → OPut own I (st i) (st (i + 1)) own' → (∀ v s', val i v → Sd w h₀ L m own' g os s' → Q (some v) s') → WP w A (pyNext (.ref I)) Q s
  done : ∀ {h₀ L m own own' g os s Q}, Sd w h₀ L m own g os s → need own → ODel own I (st n) own' → (∀ s', Sd w h₀ L m own' g os s' → Q none s') → WP w A (pyNext (.ref I)) Q s
  self : ∀ {i h₀ L m own g os s Q}, Sd w h₀ L m own g os s → OAt own I (st i) → Q (.ref I) s → WP w A (pyIter (.ref I)) Q s
def liter (l : Addr) (i : Nat) : AO := .dat "list_iterator" (.fields #[.ref l, .int i 0])
def siter (x : Str) (t : Tok) (i : Nat) : AO := .dat (strIterType x) (.fields #[.str x t, .int i 0])
def riter (a n : Int) (i : Nat) : AO := .raw { cls := .type "range_iterator", data := .fields #[rawInt (a + i), rawInt (n - i), rawInt 1] }
theorem ODel.at {own a ao own'} (hd : ODel own a ao own') : OAt own a ao := by
  induction hd with
  | head => exact .head
  | tail _ ih => exact .tail ih
section
variable {w : World} {n : Nat} {A : Around} {env : Env} {h₀ : Heap} {L : Addr} {m m' : List (Str × Value)} {own own' : List (Addr × AO)} {g : GP} {os : Osb} {s : Shared} {pos : Pos} {a l I : Addr} {ao ao' : AO} {v : Value} {path : List Nat}
theorem Sd.listIter {i : Nat} (D : Sd w h₀ L m own g os s) (hm : OAt own I (liter l i)) : s.heap.IsListIter I l i := by
  obtain ⟨o, h1, h2, h3⟩ := D.get hm
  exact ⟨o, h1, h2, h3⟩
theorem it_list {P : List Value → Prop} {k : Nat} (hh : A.handled = none) (hl : ListAs w ao P) (hk : ∀ vs, P vs → vs.length = k) :
    It w A I k (fun i v => ∃ vs, P vs ∧ vs[i]? = some v) (liter l) (fun own => OAt own l ao) where
  up := .tail
  item := by
    intro i h₀ L m own own' g os s Q hi D hn hp h
    obtain ⟨vs, n, e1, e2, e3⟩ := D.isList hn hl
    have hlt : i < vs.length := by rw [hk vs e3]; exact hi
    refine .of (wpAny_pyNext_list_item (D.listIter hp.at) e2 (x := vs[i]) (by simp [hlt]) fun h' hit hs => ?_)
    obtain ⟨o, e4, e5, e6⟩ := hit
    exact h _ _ ⟨vs, e3, by simp [hlt]⟩ (D.set hp hs e4 ⟨e5, e6⟩)
  done := by
    intro h₀ L m own own' g os s Q D hn hd h
    obtain ⟨vs, n, e1, e2, e3⟩ := D.isList hn hl
    refine .of (wpAny_pyNext_list_end hh (D.listIter hd.at) e2 (by simp [hk vs e3]) fun h' he => h _ (D.lose hd he))
  self := by
    intro i h₀ L m own g os s Q D hm h
    exact .of (wpAny_pyIter_listiter (D.listIter hm) h)
theorem r_iter {P : List Value → Prop} {Q : Value → Shared → Prop} (D : Sd w h₀ L m own g os s) (hm : OAt own l ao) (hl : ListAs w ao P) (h : ∀ I s', Sd w h₀ L m ((I, liter l 0) :: own) g os s' → Q (.ref I) s') : WP w A (pyIter (.ref l)) Q s := by
  obtain ⟨vs, n, e1, e2, e3⟩ := D.isList hm hl
  exact .of (wpAny_pyIter_list e2 (h _ _ (D.push (ao := liter l 0) rfl ⟨rfl, rfl⟩)))
theorem it_str {x : Str} {t : Tok} (hh : A.handled = none) : It w A I x.cps.size (fun i v => ∃ c u, x.cps[i]? = some c ∧ v = .str ⟨#[c]⟩ u) (siter x t) (fun _ => True) where
  up := fun _ => trivial
  item := by
    intro i h₀ L m own own' g os s Q hi D hn hp h
    obtain ⟨o, h1, h2, h3⟩ := D.get hp.at
    have hx : x.cps[i]? = some x.cps[i] := by simp [hi]
    unfold strIterType at h2
    by_cases ha : x.cps.all (· < 128) = true
    · rw [if_pos ha] at h2
      refine .of (wpAny_pyNext_ascii_item ⟨o, h1, h2, h3⟩ hx fun h' hit hs => ?_)
      obtain ⟨o', e4, e5, e6⟩ := hit
      exact h _ _ ⟨_, _, hx, rfl⟩ (D.set hp hs e4 ⟨by rw [e5]; unfold strIterType; rw [if_pos ha], e6⟩)
    · rw [if_neg ha] at h2
      refine .of (wpAny_pyNext_wide_item ⟨o, h1, h2, h3⟩ hx fun h' hit hs => ?_)
      obtain ⟨o', e4, e5, e6⟩ := hit
      exact h _ _ ⟨_, _, hx, rfl⟩ (D.set hp hs e4 ⟨by rw [e5]; unfold strIterType; rw [if_neg ha], e6⟩)
  done := by
    intro h₀ L m own own' g os s Q D hn hd h
    obtain ⟨o, h1, h2, h3⟩ := D.get hd.at
    unfold strIterType at h2
    by_cases ha : x.cps.all (· < 128) = true
    · rw [if_pos ha] at h2
      exact .of (wpAny_pyNext_ascii_end hh ⟨o, h1, h2, h3⟩ (by simp) fun h' he => h _ (D.lose hd he))
    · rw [if_neg ha] at h2
      exact .of (wpAny_pyNext_wide_end hh ⟨o, h1, h2, h3⟩ (by simp) fun h' he => h _ (D.lose hd he))
  self := by
    intro i h₀ L m own g os s Q D hm h
    obtain ⟨o, h1, h2, h3⟩ := D.get hm
    unfold strIterType at h2
    by_cases ha : x.cps.all (· < 128) = true
    · rw [if_pos ha] at h2
      exact .of (wpAny_pyIter_striter_ascii ⟨o, h1, h2, h3⟩ h)
    · rw [if_neg ha] at h2
      exact .of (wpAny_pyIter_striter_wide ⟨o, h1, h2, h3⟩ h)
theorem r_iterS {x : Str} {t : Tok} {Q : Value → Shared → Prop} (D : Sd w h₀ L m own g os s) (h : ∀ I s', Sd w h₀ L m ((I, siter x t 0) :: own) g os s' → Q (.ref I) s') : WP w A (pyIter (.str x t)) Q s :=
  .of (wpAny_pyIter_strU (h _ _ (D.push (ao := siter x t 0) rfl ⟨rfl, rfl⟩)))
theorem it_range {b : Int} {k : Nat} (hh : A.handled = none) : It w A I k (fun i v => ∃ u, v = .int (b + i) u) (riter b k) (fun _ => True) where
  up := fun _ => trivial
  item := by
    intro i h₀ L m own own' g os s Q hi D hn hp h
    obtain ⟨o, h1, h2⟩ := D.get hp.at
    have h2 : o = _ := h2
    subst h2
    refine .of (wpAny_pyNext_range_item (x := b + i) (left := (k : Int) - i) (step := 1) h1 (by omega) fun h' hit hs => ?_)
    refine h _ _ ⟨_, rfl⟩ (D.set hp hs hit ?_)
    have q1 : b + (i : Int) + 1 = b + ((i + 1 : Nat) : Int) := by omega
    have q2 : (k : Int) - (i : Int) - 1 = (k : Int) - ((i + 1 : Nat) : Int) := by omega
    rw [q1, q2]
    rfl
  done := by
    intro h₀ L m own own' g os s Q D hn hd h
    obtain ⟨o, h1, h2⟩ := D.get hd.at
    have h2 : o = _ := h2
    subst h2
    exact .of (wpAny_pyNext_range_end hh h1 (by omega) fun h' he => h _ (D.lose hd he))
  self := by
    intro i h₀ L m own g os s Q D hm h
    obtain ⟨o, h1, h2⟩ := D.get hm
    have h2 : o = _ := h2
    subst h2
    exact .of (wpAny_pyIter_rangeiter h1 h)
/-- for x in an iterable -/
inductive ForAt (w : World) (A : Around) (h₀ : Heap) (L : Addr) (g : GP) (os : Osb) (env : Env) (x : Str) (body : List Stmt) (Q : Flow → Shared → Prop) (it : Value) (s₂ : Shared) : Prop
  | mk (I : Addr) (n : Nat) (val : Nat → Value → Prop) (st : Nat → AO) (need : List (Addr × AO) → Prop) (J : Nat → List (Str × Value) → List (Addr × AO) → Prop) (m : List (Str × Value)) (own : List (Addr × AO))
    (e : it = .ref I) (T : It w A I n val st need) (D : Sd w h₀ L m ((I, st 0) :: own) g os s₂) (h0 : J 0 m own) (hneed : ∀ i m own, J i m own → need own)
    (step : ∀ i v m own s, i < n → val i v → J i m own → Sd w h₀ L m ((I, st (i + 1)) :: own) g os s →
      WP w A (storeName env x v) (fun _ s' => WP w A (execs body env) (fun fl s'' => match fl with
        | .next | .cont => ∃ m' own', J (i + 1) m' own' ∧ Sd w h₀ L m' ((I, st (i + 1)) :: own') g os s''
        | .brk => Q .next s''
        | .ret v => Q (.ret v) s'') s') s)
    (fin : ∀ m own s, J n m own → Sd w h₀ L m own g os s → Q .next s) : ForAt w A h₀ L g os env x body Q it s₂
theorem x_for {x : Str} {px : Pos} {iter : PySem.Expr} {body : List Stmt} {Q : Flow → Shared → Prop} (_D : Sd w h₀ L m own g os s)
    (h : WP w A (eval iter env) (fun xv s₁ => WP w A (pyIter xv) (fun it s₂ => ForAt w A h₀ L g os env x body Q it s₂) s₁) s)
    (hs : ∀ v, foldedSetIterable iter env v = pure v) : WP w A (exec (.For (.Name x px) iter body [] pos) env) Q s := by
  refine .of (wpAny_For (wpAny_mono h.out (fun xv s₁ h₁ => wpAny_mono h₁.out (fun it s₂ h₂ => ?_) fun _ _ e => e.elim) fun _ _ e => e.elim) hs)
  obtain ⟨I, n, val, st, need, J, m, own, rfl, T, D, h0, hneed, step, fin⟩ := h₂
  refine codeAny_forLoop_any (fun k s' => ∃ i m own, i ≤ n ∧ k = n - i ∧ J i m own ∧ Sd w h₀ L m ((I, st i) :: own) g os s') ?_ n ⟨0, m, own, Nat.zero_le _, rfl, h0, D⟩
  rintro k s' ⟨i, m, own, hi, rfl, hJ, D⟩
  by_cases hlt : i < n
  · have z : WP w A (pyNext (.ref I)) (fun r s₁ => ∃ v, r = some v ∧ WP w A (storeName env x v) (fun _ s' => WP w A (execs body env) (fun fl s'' => match fl with
        | .next | .cont => ∃ m' own', J (i + 1) m' own' ∧ Sd w h₀ L m' ((I, st (i + 1)) :: own') g os s''
        | .brk => Q .next s''
        | .ret v => Q (.ret v) s'') s') s₁) s' := T.item hlt D (T.up (hneed _ _ _ hJ)) .head fun v s₁ hv D₁ => ⟨v, rfl, step i v m own s₁ hlt hv hJ D₁⟩
    refine wpAny_mono z.any (fun r s₁ hr => ?_) fun _ _ e => e
    obtain ⟨v, rfl, hr⟩ := hr
    refine wpAny_pure ?_
    refine wpAny_assign_Name (wpAny_mono hr.any (fun _ s₃ h₃ => wpAny_mono h₃.any (fun fl s₄ h₄ => ?_) fun _ _ e => e) fun _ _ e => e)
    cases fl with
    | next => obtain ⟨m', own', j, D'⟩ := h₄; exact ⟨n - (i + 1), by omega, i + 1, m', own', hlt, rfl, j, D'⟩
    | cont => obtain ⟨m', own', j, D'⟩ := h₄; exact ⟨n - (i + 1), by omega, i + 1, m', own', hlt, rfl, j, D'⟩
    | brk => exact h₄
    | ret v => exact h₄
  · have hin : i = n := by omega
    subst hin
    refine wpAny_mono (T.done (Q := fun r s₁ => r = none ∧ Q .next s₁) D (T.up (hneed _ _ _ hJ)) .head fun s₁ D₁ => ⟨rfl, fin m own s₁ hJ D₁⟩).any (fun r s₁ hr => ?_) fun _ _ e => e
    obtain ⟨rfl, hr⟩ := hr
    exact wpAny_execs_nil hr
end
end Mine
end
section
open PySem PySem.W PyProof.Rows PySem.Calls
set_option Elab.async false
set_option maxRecDepth 100000
set_option maxHeartbeats 400000
set_option linter.unusedVariables false
namespace Mine
open PySem.W.X (Led)
def relS (sc outer : Scope) : Scope := { sc with names := sc.names.map fun (n, k) => if (k == .free && outer.kind == .function && outer.names.lookup n == some .cell) then (n, .cell) else (n, k) }
def closL : List (Str × NameKind) → List (Str × Addr) → List (Str × Addr) → Option (List (Str × Addr))
  | [], _, acc => some acc
  | (x, k) :: r, cl, acc => if k == .free then (match cl.lookup x with | some a => closL r cl ((x, a) :: acc) | none => none) else closL r cl acc
theorem closureFor_of {sc : Scope} {env : Env} {cl : List (Str × Addr)} (h : closL sc.names env.cells [] = some cl) : closureFor sc env = pure cl := by
  have key : ∀ (l : List (Str × NameKind)) (acc cl : List (Str × Addr)), closL l env.cells acc = some cl →
      (forIn l acc fun (p : Str × NameKind) (cs : List (Str × Addr)) => (do
        if p.2 == .free then do
          let a ← cellOf env p.1
          pure (ForInStep.yield ((p.1, a) :: cs))
        else pure (ForInStep.yield cs) : Sem (ForInStep (List (Str × Addr))))) = (pure cl : Sem (List (Str × Addr))) := by
    intro l
    induction l with
    | nil => intro acc cl h; simp only [closL, Option.some.injEq] at h; subst h; rfl
    | cons p r ih =>
      intro acc cl h
      obtain ⟨x, k⟩ := p
      rw [List.forIn_cons]
      simp only [closL] at h
      by_cases hk : (k == NameKind.free) = true
      · rw [if_pos hk] at h
        dsimp only
        rw [if_pos hk]
        unfold cellOf
        cases e : env.cells.lookup x with
        | none => rw [e] at h; cases h
        | some a =>
          rw [e] at h
          exact ih _ _ h
      · rw [if_neg hk] at h
        dsimp only
        rw [if_neg hk]
        exact ih _ _ h
  unfold closureFor
  have := key sc.names [] cl h
  simp only [bind_pure]
  exact this
inductive CAt : List (Str × Addr) → Str → Addr → Prop
  | head {x v r} : CAt ((x, v) :: r) x v
  | tail {y u x v r} (h : (x == y) = false) : CAt r x v → CAt ((y, u) :: r) x v
theorem CAt.lookup {m x v} (h : CAt m x v) : m.lookup x = some v := by
  induction h with
  | head => rw [List.lookup_cons_self]
  | tail h _ ih => rw [List.lookup_cons, h]; exact ih
section
variable {w : World} {n : Nat} {A : Around} {env env₀ : Env} {h₀ : Heap} {L : Addr} {m m' : List (Str × Value)} {own own' : List (Addr × AO)} {g : GP} {os : Osb} {s : Shared} {pos : Pos} {a l I C : Addr} {ao ao' : AO} {v : Value} {path : List Nat} {sc : Scope} {cl : List (Str × Addr)} {x : Str}
/-- a name that the namespace of a comprehension holds -/
theorem r_ldc {mC : List (Str × Value)} {Q : Value → Shared → Prop} (V : Nv env sc cl) (D : Sd w h₀ L m own g os s) (hx : sc.names.lookup x = some .local) (hd : (x == ("__debug__" : Str)) = false) (hC : OAt own env.locals (.nsp mC)) (hm : MAt mC x v) (h : Q v s) :
    WP w A (eval (.Name x pos) env) Q s := by
  obtain ⟨o, h1, h2⟩ := D.get hC
  have h2 : LCg.NsObj o (fun x => mC.lookup x) := h2
  exact .of (wpAny_Name (wpAny_loadName_local V.kf (V.knd hx) (h2.ns h1) hm.lookup h) hd)
theorem r_ldk {c : Addr} {Q : Value → Shared → Prop} (V : Nv env sc cl) (D : Sd w h₀ L m own g os s) (hx : sc.names.lookup x = some .cell) (hc : CAt cl x c) (hC : OAt own c (.cell (some v))) (hd : (x == ("__debug__" : Str)) = false) (h : Q v s) :
    WP w A (eval (.Name x pos) env) Q s := by
  obtain ⟨o, h1, h2⟩ := D.get hC
  have h2 : o.data = .cell (some v) := h2
  exact .of (wpAny_Name (wpAny_loadName_cell V.kf (V.knd hx) (by rw [V.cells]; exact hc.lookup) ⟨o, h1, h2⟩ h) hd)
theorem r_stk {c : Addr} {v₀ : Option Value} {Q : Unit → Shared → Prop} (V : Nv env sc cl) (D : Sd w h₀ L m own g os s) (hc : CAt cl x c) (hp : OPut own c (.cell v₀) (.cell (some v)) own') (hx : sc.names.lookup x = some .cell) (h : ∀ s', Sd w h₀ L m own' g os s' → Q () s') :
    WP w A (storeName env x v) Q s := by
  obtain ⟨o, h1, h2⟩ := D.get hp.at
  have h2 : o.data = .cell v₀ := h2
  refine .of (wpAny_storeName_cell V.kf (V.knd hx) (by rw [V.cells]; exact hc.lookup) ⟨o, h1, h2⟩ fun h' hv hs => ?_)
  obtain ⟨o', e1, e2⟩ := hv
  exact h _ (D.set hp hs e1 e2)
def Tests (env : Env) (ifs : List PySem.Expr) : Sem Bool := forIn ifs true fun c r => if r = true then do let ok ← isTrue c env (eval c env); pure (ForInStep.yield ok) else pure (ForInStep.yield r)
theorem x_tests0 {Q : Bool → Shared → Prop} (h : Q true s) : WP w A (Tests env []) Q s := .of (wpAny_tests_nil h)
theorem x_tests1 {c : PySem.Expr} {Q : Bool → Shared → Prop} (h : WP w A (isTrue c env (eval c env)) Q s) : WP w A (Tests env [c]) Q s := .of (wpAny_tests_one h.out)
/-- a comprehension's loop -/
inductive CompAt (w : World) (A : Around) (h₀ : Heap) (L : Addr) (m : List (Str × Value)) (g : GP) (os : Osb) (sc₀ : Scope) (elt : PySem.Expr) (x : Str) (ifs : List PySem.Expr) (sc : Scope) (cl : List (Str × Addr)) (Q : Value → Addr → List (Str × Value) → List (Addr × AO) → Shared → Prop) (it : Value) (s₂ : Shared) : Prop
  | mk (I : Addr) (n : Nat) (val : Nat → Value → Prop) (st : Nat → AO) (need : List (Addr × AO) → Prop) (J : Nat → List Value → Prop) (own : List (Addr × AO))
    (e : it = .ref I) (T : It w A I n val st need) (D : Sd w h₀ L m ((I, st 0) :: own) g os s₂) (hn : need own) (h0 : J 0 []) (hz : n ≤ 100000)
    (step : ∀ i v ys cenv D s, i < n → val i v → J i ys → Nv cenv (relS sc sc₀) cl → Sd w h₀ L m ((cenv.locals, .nsp [(x, v)]) :: (D, .list ys) :: (I, st (i + 1)) :: own) g os s →
      WP w A (Tests cenv ifs) (fun ok s' => if ok = true then WP w A (eval elt cenv) (fun y s'' => J (i + 1) (ys ++ [y]) ∧ Sd w h₀ L m ((cenv.locals, .nsp [(x, v)]) :: (D, .list ys) :: (I, st (i + 1)) :: own) g os s'') s'
        else J (i + 1) ys ∧ Sd w h₀ L m ((cenv.locals, .nsp [(x, v)]) :: (D, .list ys) :: (I, st (i + 1)) :: own) g os s') s)
    (fin : ∀ D ys C mC s, J n ys → Sd w h₀ L m ((C, .nsp mC) :: (D, .list ys) :: own) g os s → Q (.ref D) C mC ((D, .list ys) :: own) s) : CompAt w A h₀ L m g os sc₀ elt x ifs sc cl Q it s₂
theorem comp_blk {elt iter : PySem.Expr} {px : Pos} {ifs : List PySem.Expr} {RR : Value → Addr → Result → Shared → Prop} {Q : Value → Addr → List (Str × Value) → List (Addr × AO) → Shared → Prop} {it : Value} {E : Value → Shared → Prop} {sc₀ : Scope} (hsc : env.scope = sc₀)
    (hg : env.globals = mainGlobals) (hb : env.builtins = builtinsNs) (hcell : ∀ y ∈ sc.names, y.2 ≠ .cell) (hkind : sc.kind = .function) (hx : sc.names.lookup x = some .local)
    (h : CompAt w A h₀ L m g os sc₀ elt x ifs sc cl Q it s)
    (hRR : ∀ D C mC own s, Q (.ref D) C mC own s → RR (.ref D) C (.ok .next) s) :
    wpAny (model pw w) A (newList []) (fun acc s₃ => wpAny (model pw w) A (newFunctionEnv sc env.globals cl [] env.qual none .none (some env)) (fun cenv s₄ =>
      codeAny (model pw w) A (.compStart (.ListComp elt [⟨.Name x px, iter, ifs, 0⟩] sc pos) 0 it acc { cenv with scope := relabel sc env }) (RR acc cenv.locals) s₄) E s₃) E s := by
  obtain ⟨I, n, val, st, need, J, own, rfl, T, D, hneed, hJ, hn, turn, fin⟩ := h
  refine (r_newlist (Q := fun acc s₃ => wpAny (model pw w) A (newFunctionEnv sc env.globals cl [] env.qual none .none (some env)) (fun cenv s₄ =>
      codeAny (model pw w) A (.compStart (.ListComp elt [⟨.Name x px, iter, ifs, 0⟩] sc pos) 0 (.ref I) acc { cenv with scope := relabel sc env }) (RR acc cenv.locals) s₄) E s₃) D (vs := []) (by simp) fun l s₁ D₁ => ?_).any
  refine wpAny_newFunctionEnv hcell (by intro y hy; simp at hy) (fun h₁ hns₁ hsb₁ => ?_) hkind
  have D₂ : Sd w h₀ L m ((s₁.heap.objs.size, .nsp []) :: (l, .list []) :: (I, st 0) :: own) g os { s₁ with heap := h₁, toks := s₁.toks + ([] : List (Str × Value)).length } := by
    have DD := D₁.push (o := { cls := .type "dict", data := .dict #[] }) (ao := .nsp []) rfl ⟨#[], 0, rfl, (fun e he => by simp at he), fun _ => rfl⟩ (t := s₁.toks)
    obtain ⟨o, e1, e2⟩ := LCg.ns_obj hns₁
    exact DD.set .head hsb₁ e1 e2
  generalize s₁.heap.objs.size = C at D₂
  have V : Nv (compEnvC sc cl C env) (relS sc sc₀) cl := ⟨by rw [← hsc]; rfl, hkind, hg, hb, rfl⟩
  have loop : codeAny (model pw w) A (.compLoop (.ListComp elt [⟨.Name x px, iter, ifs, 0⟩] sc pos) 0 (.ref I) (.ref l) (compEnvC sc cl C env)) (RR (.ref l) C) { s₁ with heap := h₁, toks := s₁.toks + ([] : List (Str × Value)).length } := by
    generalize { s₁ with heap := h₁, toks := s₁.toks + ([] : List (Str × Value)).length } = s₂ at D₂
    refine codeAny_compLoop_tests (fun k s' => ∃ i ys mC, i ≤ n ∧ k = n - i ∧ (mC = [] ∨ ∃ u, mC = [(x, u)]) ∧ J i ys ∧ ys.length ≤ i ∧ Sd w h₀ L m ((C, .nsp mC) :: (l, .list ys) :: (I, st i) :: own) g os s') ?_ n ⟨0, [], [], Nat.zero_le _, rfl, .inl rfl, hJ, by simp, D₂⟩ (fun _ => rfl)
    rintro k s' ⟨i, ys, mC, hi, rfl, hmC, hJ, hys, D⟩
    by_cases hlt : i < n
    · have z : WP w A (pyNext (.ref I)) (fun r s₁ => ∃ v, r = some v ∧ val i v ∧ Sd w h₀ L m ((C, .nsp mC) :: (l, .list ys) :: (I, st (i + 1)) :: own) g os s₁) s' :=
        T.item hlt D (T.up (T.up (T.up hneed))) (.tail (.tail .head)) fun v s₁ hv D₁ => ⟨v, rfl, hv, D₁⟩
      refine wpAny_mono z.any (fun r s₁ hr => ?_) fun _ _ e => e
      obtain ⟨v, rfl, hv, D₁⟩ := hr
      obtain ⟨oC, e1, e2⟩ := D₁.get .head
      have e2 : LCg.NsObj oC (fun x => mC.lookup x) := e2
      refine wpAny_assign_Name (wpAny_storeName_local (lookup_relabel_local hx) (e2.ns e1) (fun h₃ hn₃ hs₃ => ?_) (by simp [compEnvC, relabel, hkind]))
      have D₃ : Sd w h₀ L m ((C, .nsp [(x, v)]) :: (l, .list ys) :: (I, st (i + 1)) :: own) g os { s₁ with heap := h₃, toks := s₁.toks + 1 } := by
        obtain ⟨o', f1, f2⟩ := LCg.ns_obj hn₃
        refine D₁.set .head hs₃ f1 ?_
        have hp : MPut mC x v [(x, v)] := by
          rcases hmC with rfl | ⟨u, rfl⟩
          · exact .nil
          · exact .head
        show LCg.NsObj o' _
        have := hp.lookup
        rw [← this]
        exact f2
      refine wpAny_mono (turn i v ys (compEnvC sc cl C env) l _ hlt hv hJ V D₃).any (fun ok s₄ h₄ => ?_) fun _ _ e => e
      cases ok with
      | false =>
        simp only [Bool.false_eq_true, if_false] at h₄ ⊢
        exact ⟨n - (i + 1), by omega, i + 1, ys, _, hlt, rfl, .inr ⟨v, rfl⟩, h₄.1, by omega, h₄.2⟩
      | true =>
        simp only [if_true] at h₄ ⊢
        refine wpAny_mono h₄.any (fun y s₅ h₅ => ?_) fun _ _ e => e
        refine (r_append h₅.2 (.tail .head) (psh_list (by omega)) fun s₆ D₆ => ?_).any
        exact ⟨n - (i + 1), by omega, i + 1, ys ++ [y], _, hlt, rfl, .inr ⟨v, rfl⟩, h₅.1, by rw [List.length_append]; simp; exact hys, D₆⟩
    · have hin : i = n := by omega
      subst hin
      refine wpAny_mono (T.done (Q := fun r s₁ => r = none ∧ Sd w h₀ L m ((C, .nsp mC) :: (l, .list ys) :: own) g os s₁) D (T.up (T.up (T.up hneed))) (.tail (.tail .head)) fun s₁ D₁ => ⟨rfl, D₁⟩).any (fun r s₁ hr => ?_) fun _ _ e => e
      obtain ⟨rfl, D₁⟩ := hr
      exact hRR _ _ _ _ _ (fin l ys C mC s₁ hJ D₁)
  exact codeAny_compStart_list loop (T.self (Q := fun it' s' => codeAny (model pw w) A (.compLoop (.ListComp elt [⟨.Name x px, iter, ifs, 0⟩] sc pos) 0 it' (.ref l) (compEnvC sc cl C env)) (RR (.ref l) C) s') D₂ (.tail (.tail .head)) loop).any
theorem x_comp {elt iter : PySem.Expr} {px : Pos} {ifs : List PySem.Expr} {Q : Value → Shared → Prop} (cl : List (Str × Addr)) {sc₀ : Scope} {cl₀ : List (Str × Addr)} (V : Nv env sc₀ cl₀) (_D : Sd w h₀ L m own g os s)
    (h : WP w A (eval iter env) (fun xv s₁ => WP w A (pyIter xv) (fun it s₂ => CompAt w A h₀ L m g os sc₀ elt x ifs sc cl (fun v C mC own s => ∀ s', Sd w h₀ L m own g os s' → Q v s') it s₂) s₁) s)
    (hclos : closL sc.names cl₀ [] = some cl) (hcell : (sc.names.all fun y => y.2 != .cell) = true) (hkind : sc.kind = .function) (hnames : (sc.names.all fun y => y.2 != .local || sc.names.lookup y.1 == some .local) = true) (hx : sc.names.lookup x = some .local)
    (hs : ∀ v, foldedSetIterable iter env v = pure v) : WP w A (eval (.ListComp elt [⟨.Name x px, iter, ifs, 0⟩] sc pos) env) Q s := by
  have hcell' : ∀ y ∈ sc.names, y.2 ≠ .cell := fun y hy => by have := List.all_eq_true.mp hcell y hy; simpa using this
  have hnames' : ∀ y ∈ sc.names, y.2 = .local → sc.names.lookup y.1 = some .local := fun y hy e => by have := List.all_eq_true.mp hnames y hy; simpa [e] using this
  refine .of ?_
  rw [eval_ListComp]
  refine wpAny_comprehension_free (use := none) rfl hs (closureFor_of (by rw [V.cells]; exact hclos)) hkind hnames' (wpAny_mono h.out (fun xv s₁ h₁ => wpAny_mono h₁.out (fun it s₂ h₂ => ?_) fun _ _ e => e) fun _ _ e => e)
  obtain ⟨I, n, val, st, need, J, own, rfl, T, D, hneed, hJ, hn, turn, fin⟩ := h₂
  refine comp_blk (Q := fun v C mC own s => Sd w h₀ L m ((C, .nsp mC) :: own) g os s ∧ ∀ s', Sd w h₀ L m own g os s' → Q v s') V.scope V.globals V.builtins hcell' hkind hx ⟨I, n, val, st, need, J, own, rfl, T, D, hneed, hJ, hn, turn, fun D ys C mC s hj Ds => ⟨Ds, fin D ys C mC s hj Ds⟩⟩ fun D C mC own s hq => ?_
  obtain ⟨Ds, hq⟩ := hq
  obtain ⟨oC, e1, e2⟩ := Ds.get .head
  have e2 : LCg.NsObj oC (fun x => mC.lookup x) := e2
  exact ⟨_, e2.ns e1, fun h' hs' => hq _ (Ds.lose .head hs'.extBut)⟩
theorem x_compA {elt iter : PySem.Expr} {px py spos : Pos} {y : Str} {ifs : List PySem.Expr} {Q : Flow → Shared → Prop} (cl : List (Str × Addr)) {sc₀ : Scope} {cl₀ : List (Str × Addr)} (V : Nv env sc₀ cl₀) (_D : Sd w h₀ L m own g os s)
    (h : WP w A (eval iter env) (fun xv s₁ => WP w A (pyIter xv) (fun it s₂ => CompAt w A h₀ L m g os sc₀ elt x ifs sc cl (fun v C mC own s => Sd w h₀ L m ((C, .nsp mC) :: own) g os s → WP w A (storeName env y v) (fun _ s' => ∃ m' own', Sd w h₀ L m' ((C, .nsp mC) :: own') g os s' ∧ ∀ s', Sd w h₀ L m' own' g os s' → Q .next s') s) it s₂) s₁) s)
    (hsw : swapsWith (.ListComp elt [⟨.Name x px, iter, ifs, 0⟩] sc pos) (some (.Name y py)) spos.line env = pure true)
    (hclos : closL sc.names cl₀ [] = some cl) (hcell : (sc.names.all fun y => y.2 != .cell) = true) (hkind : sc.kind = .function) (hnames : (sc.names.all fun y => y.2 != .local || sc.names.lookup y.1 == some .local) = true) (hx : sc.names.lookup x = some .local)
    (hs : ∀ v, foldedSetIterable iter env v = pure v) : WP w A (exec (.Assign [.Name y py] (.ListComp elt [⟨.Name x px, iter, ifs, 0⟩] sc pos) spos) env) Q s := by
  have hcell' : ∀ y ∈ sc.names, y.2 ≠ .cell := fun y hy => by have := List.all_eq_true.mp hcell y hy; simpa using this
  have hnames' : ∀ y ∈ sc.names, y.2 = .local → sc.names.lookup y.1 = some .local := fun y hy e => by have := List.all_eq_true.mp hnames y hy; simpa [e] using this
  refine .of ?_
  rw [exec_Assign_Name_used _ _ _ _ hsw]
  refine wpAny_bind (wpAny_standAt (wpAny_bind ?_))
  show wpAny _ A (do let _ ← comprehension (.ListComp elt [⟨.Name x px, iter, ifs, 0⟩] sc pos) sc env _ (newList []) false (eval iter env) (some (assign (.Name y py) env))) _ _ s
  refine wpAny_bind (wpAny_mono (wpAny_comprehension_free (use := some (assign (.Name y py) env)) (Q := fun _ s' => Q .next s') rfl hs (closureFor_of (by rw [V.cells]; exact hclos)) hkind hnames'
    (wpAny_mono h.out (fun xv s₁ h₁ => wpAny_mono h₁.out (fun it s₂ h₂ => ?_) fun _ _ e => e) fun _ _ e => e)) (fun _ s' hq => wpAny_pure (wpAny_pure hq)) fun _ _ e => e)
  obtain ⟨I, n, val, st, need, J, own, rfl, T, D, hneed, hJ, hn, turn, fin⟩ := h₂
  refine comp_blk (Q := fun v C mC own s => WP w A (storeName env y v) (fun _ s' => ∃ m' own', Sd w h₀ L m' ((C, .nsp mC) :: own') g os s' ∧ ∀ s', Sd w h₀ L m' own' g os s' → Q .next s') s) V.scope V.globals V.builtins hcell' hkind hx
    ⟨I, n, val, st, need, J, own, rfl, T, D, hneed, hJ, hn, turn, fun D ys C mC s hj Ds => fin D ys C mC s hj Ds Ds⟩ fun D C mC own s hq => ?_
  show wpAny _ A (assign (.Name y py) env (.ref D)) _ _ _
  refine wpAny_assign_Name (wpAny_mono hq.any (fun _ s' hh => ?_) fun _ _ e => e)
  obtain ⟨m', own', Ds, k⟩ := hh
  obtain ⟨oC, e1, e2⟩ := Ds.get .head
  have e2 : LCg.NsObj oC (fun x => mC.lookup x) := e2
  exact ⟨_, e2.ns e1, fun h' hs' => k _ (Ds.lose .head hs'.extBut)⟩
end
end Mine
end
section
open PySem PySem.W PyProof.Rows PySem.Calls
set_option maxRecDepth 100000
namespace Mine
inductive Gl : Str → Value → Prop
  | deque : Gl "deque" (.type "collections.deque")
  | g_index : Gl "_index" (.ref 88)
  | StringIO : Gl "StringIO" (.ref 622)
  | shlex : Gl "shlex" (.ref 757)
  | quote : Gl "quote" (.ref 784)
  | g_find_unsafe : Gl "_find_unsafe" (.ref 777)
  | escape : Gl "escape" (.ref 60)
  | unescape : Gl "unescape" (.ref 69)
  | dict_replace_saxutils : Gl "dict_replace_saxutils" (.ref 51)
  | split : Gl "split" (.ref 769)
  | join_shlex : Gl "join_shlex" (.ref 776)
  | g_law_digits : Gl "_law_digits" (.ref 791)
  | g_law_sign : Gl "_law_sign" (.ref 798)
  | g_law_words : Gl "_law_words" (.ref 805)
  | g_law_is_bare : Gl "_law_is_bare" (.ref 810)
  | len : Gl "len" (.builtin "len")
  | chr : Gl "chr" (.builtin "chr")
  | ord : Gl "ord" (.builtin "ord")
  | isinstance : Gl "isinstance" (.builtin "isinstance")
  | str0 : Gl "str" (.type "str")
  | int0 : Gl "int" (.type "int")
  | bool : Gl "bool" (.type "bool")
  | type0 : Gl "type" (.type "type")
  | range : Gl "range" (.type "range")
  | list : Gl "list" (.type "list")
  | StopIteration : Gl "StopIteration" (.type "StopIteration")
  | BytesIO : Gl "BytesIO" (.ref 375)
  | object : Gl "object" (.type "object")
theorem Gl.is {P : Params} {x : Str} {v : Value} (h : Gl x v) : IsGl P x v := by
  cases h <;> first | exact .inl (by kernel_rfl!) | exact .inr ⟨by kernel_rfl, by kernel_rfl⟩
end Mine
end
section
open PySem PySem.W PyProof.Rows PySem.Calls
set_option Elab.async false
set_option maxRecDepth 100000
set_option maxHeartbeats 400000
set_option linter.unusedVariables false
namespace Mine
abbrev Ls := List (Str × Value)
abbrev Os := List (Addr × AO)
open PySem.W.X (Led)
section
variable {w : World} {n : Nat} {A : Around} {env : Env} {h₀ : Heap} {L : Addr} {m m' : List (Str × Value)} {own own' : List (Addr × AO)} {g : GP} {os : Osb} {s : Shared} {pos : Pos} {l : Addr} {ao : AO} {v : Value} {a b : Int} {t u : Tok} {x y : Str}
theorem r_mod {Q : Value → Shared → Prop} (D : Sd w h₀ L m own g os s) (hb : b ≠ 0) (h : ∀ t s', Sd w h₀ L m own g os s' → Q (.int (a.fmod b) t) s') : WP w A (binaryOp .Mod (.int a t) (.int b u)) Q s :=
  .of (PyProof.Rows.mod_int hb (h _ _ (D.tok _)))
theorem r_fdiv {Q : Value → Shared → Prop} (D : Sd w h₀ L m own g os s) (hb : b ≠ 0) (hz : b.natAbs < 1073741824) (h : ∀ t s', Sd w h₀ L m own g os s' → Q (.int (a.fdiv b) t) s') : WP w A (binaryOp .FloorDiv (.int a t) (.int b u)) Q s :=
  .of (PyProof.Rows.floordiv_int hb (h _ _ (D.tok _)) (.inl (PyProof.noPylong_small hz)))
theorem r_pow {Q : Value → Shared → Prop} (D : Sd w h₀ L m own g os s) (hn : 0 ≤ b) (hz : (Builtin.Int.intBits a : Int) * b ≤ 2 ^ 27) (h : ∀ t s', Sd w h₀ L m own g os s' → Q (.int (a ^ b.toNat) t) s') : WP w A (binaryOp .Pow (.int a t) (.int b u)) Q s :=
  .of (PyProof.Rows.pow_int hn hz (h _ _ (D.tok _)))
theorem r_ge {Q : Value → Shared → Prop} (h : Q (.bool (decide (b ≤ a))) s) : WP w A (compareOp .GtE (.int a t) (.int b u)) Q s := .of (PyProof.Rows.ge_int h)
theorem r_gt {Q : Value → Shared → Prop} (h : Q (.bool (decide (b < a))) s) : WP w A (compareOp .Gt (.int a t) (.int b u)) Q s := .of (PyProof.Rows.gt_int h)
theorem r_eqi {Q : Value → Shared → Prop} (h : Q (.bool (decide (a = b))) s) : WP w A (compareOp .Eq (.int a t) (.int b u)) Q s := .of (PyProof.Rows.eq_int (by rw [show (a == b) = decide (a = b) from rfl]; exact h))
theorem r_eqs {Q : Value → Shared → Prop} (h : Q (.bool (decide (x = y))) s) : WP w A (compareOp .Eq (.str x t) (.str y u)) Q s := .of (PyProof.Rows.eq_str (by rw [show (x == y) = decide (x = y) from rfl]; exact h))
theorem r_nes {Q : Value → Shared → Prop} (h : Q (.bool (decide (x ≠ y))) s) : WP w A (compareOp .NotEq (.str x t) (.str y u)) Q s :=
  .of (PyProof.Rows.ne_str (by rw [show (x != y) = decide (x ≠ y) from by by_cases h : x = y <;> simp [h]]; exact h))
theorem r_adds {Q : Value → Shared → Prop} (D : Sd w h₀ L m own g os s) (hz : x.length + y.length ≤ sizeLine) (h : ∀ t s', Sd w h₀ L m own g os s' → Q (.str (x ++ y) t) s') : WP w A (binaryOp .Add (.str x t) (.str y u)) Q s :=
  .of (wpAny_with_toks (Nat.le_refl _) (PyProof.Rows.add_str (fun _ k hle => h _ _ (D.tok k (Nat.le_trans D.pos hle))) hz))
theorem t_str {Q : Bool → Shared → Prop} (D : Sd w h₀ L m own g os s) (hz : x.length ≤ sizeLine) (h : ∀ s', Sd w h₀ L m own g os s' → Q (decide (x.length ≠ 0)) s') : WP w A (truthy (.str x t)) Q s := by
  refine .of (PySem.P.truthy_str (by unfold sizeLine at hz; omega) ?_)
  rw [show (((x.length : Nat) : Int) != 0) = decide (x.length ≠ 0) from by by_cases h : x.length = 0 <;> simp [h]]
  exact h _ (D.tok _)
theorem x_while {test : PySem.Expr} {body : List Stmt} {Q : Flow → Shared → Prop} (I : Nat → Shared → Prop) (k : Nat) (h : I k s)
    (turn : ∀ k s, I k s → WP w A (isTrue test env (eval test env)) (fun b s₂ => if b = true then WP w A (execs body env) (fun f s₃ => match f with | .next | .cont => ∃ j, j < k ∧ I j s₃ | .brk => Q .next s₃ | .ret v => Q (.ret v) s₃) s₂ else Q .next s₂) s) :
    WP w A (exec (.While test body [] pos) env) Q s := by
  refine .of (wpAny_While (codeAny_whileLoop I (fun k s hI => ?_) k h))
  refine wpAny_mono (turn k s hI).any (fun b s₂ h₂ => ?_) fun _ _ e => e
  cases b with
  | false =>
    simp only [Bool.false_eq_true, if_false] at h₂ ⊢
    exact wpAny_execs_nil h₂
  | true =>
    simp only [if_true] at h₂ ⊢
    exact wpAny_mono h₂.any (fun f s₃ h₃ => h₃) fun _ _ e => e
theorem Sd.del {own' : List (Addr × AO)} {a : Addr} (D : Sd w h₀ L m own g os s) (hd : ODel own a ao own') : Sd w h₀ L m own' g os s := by
  obtain ⟨news, l, ow⟩ := D.led
  refine ⟨⟨news, l, ?_⟩, D.gens, D.osq, by first | exact D.pos | exact Nat.le_succ_of_le D.pos | exact Nat.le_succ_of_le (Nat.le_succ_of_le D.pos)⟩
  have key : ∀ {news own own'}, Own w news own → ODel own a ao own' → Own w news own' := by
    intro news own own' ow
    induction ow generalizing own' with
    | nil => intro hd; cases hd
    | cons hi hr ih =>
      intro hd
      cases hd with
      | head => exact .skip hr
      | tail hd => exact .cons hi (ih hd)
    | skip _ ih => intro hd; exact .skip (ih hd)
  exact key ow hd
theorem mput_end {mb : List (Str × Value)} (hf : (mb.all fun p => p.1 != x) = true) : MPut mb x v (mb ++ [(x, v)]) := by
  induction mb with
  | nil => exact .nil
  | cons p r ih =>
    rw [List.all_cons, Bool.and_eq_true] at hf
    refine .tail ?_ (ih hf.2)
    have := hf.1
    have h2 : p.1 ≠ x := by simpa using this
    exact beq_false_of_ne (Ne.symm h2)
theorem mput_end2 {mb : List (Str × Value)} {u : Value} (hf : (mb.all fun p => p.1 != x) = true) : MPut (mb ++ [(x, u)]) x v (mb ++ [(x, v)]) := by
  induction mb with
  | nil => exact .head
  | cons p r ih =>
    rw [List.all_cons, Bool.and_eq_true] at hf
    refine .tail ?_ (ih hf.2)
    have := hf.1
    have h2 : p.1 ≠ x := by simpa using this
    exact beq_false_of_ne (Ne.symm h2)
inductive ForL (w : World) (A : Around) (h₀ : Heap) (L : Addr) (g : GP) (os : Osb) (env : Env) (x : Str) (body : List Stmt) (Q : Flow → Shared → Prop) (l : Addr) (ao : AO) (P : List Value → Prop) (k : Nat) (J : Nat → List (Str × Value) → List (Addr × AO) → Prop) : Prop
  | mk (hneed : ∀ i m own, J i m own → OAt own l ao ∧ (m.all fun p => p.1 != x) = true)
    (step : ∀ i vs v mb own s I, i < k → P vs → vs[i]? = some v → J i mb own → Sd w h₀ L (mb ++ [(x, v)]) ((I, liter l (i + 1)) :: own) g os s →
    WP w A (execs body env) (fun fl s'' => match fl with
      | .next | .cont => ∃ mb' v' own', J (i + 1) mb' own' ∧ Sd w h₀ L (mb' ++ [(x, v')]) ((I, liter l (i + 1)) :: own') g os s''
      | .brk => False
      | .ret v => Q (.ret v) s'') s)
    (fin : ∀ mb me own s, J k mb own → Sd w h₀ L (mb ++ me) own g os s → Q .next s) : ForL w A h₀ L g os env x body Q l ao P k J
theorem for_list {path : List Nat} {body : List Stmt} {Q : Flow → Shared → Prop} {P : List Value → Prop} (k : Nat) (J : Nat → List (Str × Value) → List (Addr × AO) → Prop) (C : Fx w n A env h₀ L path) (D : Sd w h₀ L m own g os s)
    (hl : ListAs w ao P) (hm : OAt own l ao) (hx : (scopeAt path).names.lookup x = some .local) (hk : ∀ vs, P vs → vs.length = k) (h0 : J 0 m own) (h : ForL w A h₀ L g os env x body Q l ao P k J) :
    WP w A (pyIter (.ref l)) (fun it s₂ => ForAt w A h₀ L g os env x body Q it s₂) s := by
  obtain ⟨hneed, step, fin⟩ := h
  refine r_iter D hm hl fun I s D => ?_
  refine ⟨I, k, _, _, _, fun i m own => ∃ mb, J i mb own ∧ (m = mb ∨ ∃ u, m = mb ++ [(x, u)]), m, own, rfl, it_list C.hand hl hk, D, ⟨m, h0, .inl rfl⟩, ?_, ?_, ?_⟩
  · rintro i m own ⟨mb, hJ, _⟩
    exact (hneed i mb own hJ).1
  · rintro i v m own s hi ⟨vs, hp, hv⟩ ⟨mb, hJ, hmb⟩ D
    have hp' : MPut m x v (mb ++ [(x, v)]) := by
      rcases hmb with rfl | ⟨u, rfl⟩
      · exact mput_end (hneed i _ own hJ).2
      · exact mput_end2 (hneed i _ own hJ).2
    refine r_st C D hp' hx fun s D => ?_
    refine (step i vs v mb own s I hi hp hv hJ D).mono fun fl s'' hh => ?_
    cases fl with
    | next => obtain ⟨mb', v', own', j, D'⟩ := hh; exact ⟨_, own', ⟨mb', j, .inr ⟨v', rfl⟩⟩, D'⟩
    | cont => obtain ⟨mb', v', own', j, D'⟩ := hh; exact ⟨_, own', ⟨mb', j, .inr ⟨v', rfl⟩⟩, D'⟩
    | brk => exact hh.elim
    | ret v => exact hh
  · rintro m own s ⟨mb, hJ, hmb⟩ D
    rcases hmb with rfl | ⟨u, rfl⟩
    · exact fin m [] own s hJ (by rw [List.append_nil]; exact D)
    · exact fin mb _ own s hJ D
theorem x_expr {e : PySem.Expr} {sc : Scope} {cl : List (Str × Addr)} {Q : Flow → Shared → Prop} (V : Nv env sc cl) (h : WP w A (eval e env) (fun _ s' => Q .next s') s) (hs : swapsWith e none pos.line env = pure false) : WP w A (exec (.Expr e pos) env) Q s :=
  .of (wpAny_Expr_any h.out (by unfold interactive; rw [V.kf]; rfl) hs)
theorem x_asgS {o i : PySem.Expr} {p' : Pos} {value : PySem.Expr} {Q : Flow → Shared → Prop} (h : WP w A (eval value env) (fun v s₁ => WP w A (eval o env) (fun ov s₂ => WP w A (eval i env) (fun iv s₃ => WP w A (setItem ov iv v) (fun _ s' => Q .next s') s₃) s₂) s₁) s)
    (hs : swapsWith value (some (.Subscript o i p')) pos.line env = pure false) : WP w A (exec (.Assign [.Subscript o i p'] value pos) env) Q s :=
  .of (wpAny_Assign_Subscript (wpAny_mono h.out (fun _ _ x => wpAny_mono x.out (fun _ _ x => wpAny_mono x.out (fun _ _ x => x.out) fun _ _ x => x) fun _ _ x => x) fun _ _ x => x) hs)
theorem x_part0 {Q : Value → Shared → Prop} (h : Q .none s) : WP w A (evalPart none env) Q s := .of (wpAny_pure h)
theorem x_part1 {e : PySem.Expr} {Q : Value → Shared → Prop} (h : WP w A (eval e env) Q s) : WP w A (evalPart (some e) env) Q s := h
inductive SliceAt (w : World) (h₀ : Heap) (L : Addr) (m : List (Str × Value)) (g : GP) (os : Osb) (Q : Value → Shared → Prop) (o lo hi : Value) (s : Shared) : Prop
  | mk (l : Addr) (own : List (Addr × AO)) (ao : AO) (P : List Value → Prop) (lo' hi' : Option Int) (e : o = .ref l) (D : Sd w h₀ L m own g os s) (hm : OAt own l ao) (hl : ListAs w ao P) (hz : ∀ vs, P vs → vs.length ≤ 100000) (p1 : IsPart lo lo') (p2 : IsPart hi hi')
    (k : ∀ vs D s', P vs → Sd w h₀ L m ((D, .list (slicePick (List.toArray vs) lo' hi' none).toList) :: own) g os s' → Q (.ref D) s') : SliceAt w h₀ L m g os Q o lo hi s
theorem x_slice {value : PySem.Expr} {lower upper : Option PySem.Expr} {p : Pos} {Q : Value → Shared → Prop} (_D : Sd w h₀ L m own g os s)
    (h : WP w A (eval value env) (fun o s₁ => WP w A (evalPart lower env) (fun lo s₂ => WP w A (evalPart upper env) (fun hi s₃ => SliceAt w h₀ L m g os Q o lo hi s₃) s₂) s₁) s)
    (ht : ∀ o r, letTemporaryGo value o r = pure ()) : WP w A (eval (.Subscript value (.Slice lower upper none p) pos) env) Q s := by
  refine .of (wpAny_Subscript_Slice (T := "list") list_getitem_lookup (wpAny_mono h.out (fun o s₁ h₁ => ?_) fun _ _ e => e) ht)
  refine wpAny_Slice (wpAny_mono h₁.out (fun lo s₂ h₂ => wpAny_mono h₂.out (fun hi s₃ h₃ => wpAny_pure ?_) fun _ _ e => e) fun _ _ e => e)
  obtain ⟨l, own, ao, P, lo', hi', rfl, D, hm, hl, hz, p1, p2, k⟩ := h₃
  obtain ⟨vs, n, e1, e2, e3⟩ := D.isList hm hl
  have D1 := D.push (o := { cls := .type "slice", data := .fields #[lo, hi, .none] }) (ao := .raw { cls := .type "slice", data := .fields #[lo, hi, .none] }) rfl rfl (t := s₃.toks)
  obtain ⟨o2, f1, f2⟩ := D1.get (.tail hm)
  refine ⟨⟨_, (show (s₃.heap.push _).get? l = some _ from Heap.get?_push_of_some _ e1), rfl⟩, ?_⟩
  refine wpAny_getItem_list_slice (e2.at fun o e => Heap.get?_push_of_some _ e) (Heap.IsSliceOf.new ..) p1 p2 .none (by simp) ?_ (by rw [List.size_toArray]; have := hz vs e3; unfold sizeLine; omega)
  exact k vs _ _ e3 ((D1.drop).push (ao := .list (slicePick (List.toArray vs) lo' hi' none).toList) rfl ⟨0, by simp⟩)
end
end Mine
end
section
open PySem PySem.W PyProof.Rows PySem.Calls
set_option Elab.async false
set_option maxRecDepth 100000
set_option maxHeartbeats 400000
set_option linter.unusedVariables false
namespace Mine
def KS (w : World) (h₀ : Heap) (s : Shared) : Prop := ∃ L m own g os, Sd w h₀ L m own g os s
section
variable {w : World} {n : Nat} {A : Around} {env env₀ : Env} {h₀ : Heap} {L : Addr} {m m' : List (Str × Value)} {own own' : List (Addr × AO)} {g : GP} {os : Osb} {s : Shared} {pos : Pos} {a f : Addr} {v b : Value} {path : List Nat} {e e1 e2 e3 : PySem.Expr} {id T : String} {Q : Value → Shared → Prop}
theorem KS.mk {P : Prop} (D : Sd w h₀ L m own g os s) (h : P) : KS w h₀ s ∧ P := ⟨⟨_, _, _, _, _, D⟩, h⟩
theorem KS.gk (C : Fx w n A env₀ h₀ L path) (k : KS w h₀ s) : (KK w.params).In s.heap := let ⟨_, _, _, _, _, D⟩ := k; C.gk.keeps D.fr.keep
theorem x_t0 (h : WP w A (call (.type T) []) Q s)  : WP w A (callWith pos (.type T) [] (backTo pos (starEach [] env)) []) Q s :=
  .of (PyProof.Rows.callWith_type0 h.out)
theorem x_k01 (C : Fx w n A env₀ h₀ L path) (hk : keepIn (KK w.params) (.ref f) = true) (h : WP w A (eval e1 env) (fun v1 s1 => KS w h₀ s1 ∧ WP w A (call (.ref f) [v1]) Q s1) s) (q1 : starEach [e1] env = (false, eval e1 env) :: starEach [] env) : WP w A (callWith pos (.ref f) [] (backTo pos (starEach [e1] env)) []) Q s :=
  .of (callWith_K C.gk hk (args_cons (wpAny_mono h.out (fun v1 s1 h1 => args_nil ⟨KS.gk C h1.1, by exact h1.2.out⟩) fun _ _ x => x) q1) q1 (rfl))
theorem x_b01 (h : WP w A (eval e1 env) (fun v1 s1 => WP w A (call (.builtin id) [v1]) Q s1) s) (q1 : starEach [e1] env = (false, eval e1 env) :: starEach [] env) : WP w A (callWith pos (.builtin id) [] (backTo pos (starEach [e1] env)) []) Q s :=
  .of (callWith_method1 (args_cons (wpAny_mono h.out (fun v1 s1 h1 => args_nil (by exact h1.out)) fun _ _ x => x) q1) q1 (rfl))
theorem x_t1 (h : WP w A (eval e1 env) (fun v1 s1 => WP w A (call (.type T) [v1]) Q s1) s) (q1 : starEach [e1] env = (false, eval e1 env) :: starEach [] env) : WP w A (callWith pos (.type T) [] (backTo pos (starEach [e1] env)) []) Q s :=
  .of (PyProof.Rows.callWith_type1 (args_cons (wpAny_mono h.out (fun v1 s1 h1 => args_nil (by exact h1.out)) fun _ _ x => x) q1) q1 (rfl))
theorem x_k02 (C : Fx w n A env₀ h₀ L path) (hk : keepIn (KK w.params) (.ref f) = true) (h : WP w A (eval e1 env) (fun v1 s1 => WP w A (eval e2 env) (fun v2 s2 => KS w h₀ s2 ∧ WP w A (call (.ref f) [v1, v2]) Q s2) s1) s) (q1 : starEach [e1, e2] env = (false, eval e1 env) :: starEach [e2] env) (q2 : starEach [e2] env = (false, eval e2 env) :: starEach [] env) : WP w A (callWith pos (.ref f) [] (backTo pos (starEach [e1, e2] env)) []) Q s :=
  .of (callWith_K C.gk hk (args_cons (wpAny_mono h.out (fun v1 s1 h1 => args_cons (wpAny_mono h1.out (fun v2 s2 h2 => args_nil ⟨KS.gk C h2.1, by exact h2.2.out⟩) fun _ _ x => x) q2) fun _ _ x => x) q1) q1 (by rw [q2]; rfl))
theorem x_b02 (h : WP w A (eval e1 env) (fun v1 s1 => WP w A (eval e2 env) (fun v2 s2 => WP w A (call (.builtin id) [v1, v2]) Q s2) s1) s) (q1 : starEach [e1, e2] env = (false, eval e1 env) :: starEach [e2] env) (q2 : starEach [e2] env = (false, eval e2 env) :: starEach [] env) : WP w A (callWith pos (.builtin id) [] (backTo pos (starEach [e1, e2] env)) []) Q s :=
  .of (callWith_method1 (args_cons (wpAny_mono h.out (fun v1 s1 h1 => args_cons (wpAny_mono h1.out (fun v2 s2 h2 => args_nil (by exact h2.out)) fun _ _ x => x) q2) fun _ _ x => x) q1) q1 (by rw [q2]; rfl))
theorem x_k10 (C : Fx w n A env₀ h₀ L path) (hk : keepIn (KK w.params) (.ref f) = true) (h : KS w h₀ s ∧ WP w A (call (.ref f) [b]) Q s)  : WP w A (callWith pos (.ref f) [b] (backTo pos (starEach [] env)) []) Q s :=
  .of (callWith_K0 (KS.gk C h.1) hk (by exact h.2.out))
theorem x_b10 (h : WP w A (call (.builtin id) [b]) Q s)  : WP w A (callWith pos (.builtin id) [b] (backTo pos (starEach [] env)) []) Q s :=
  .of (callWith_method0 h.out)
theorem x_k11 (C : Fx w n A env₀ h₀ L path) (hk : keepIn (KK w.params) (.ref f) = true) (h : WP w A (eval e1 env) (fun v1 s1 => KS w h₀ s1 ∧ WP w A (call (.ref f) [b, v1]) Q s1) s) (q1 : starEach [e1] env = (false, eval e1 env) :: starEach [] env) : WP w A (callWith pos (.ref f) [b] (backTo pos (starEach [e1] env)) []) Q s :=
  .of (callWith_K C.gk hk (args_cons (wpAny_mono h.out (fun v1 s1 h1 => args_nil ⟨KS.gk C h1.1, by exact h1.2.out⟩) fun _ _ x => x) q1) q1 (rfl))
theorem x_b11 (h : WP w A (eval e1 env) (fun v1 s1 => WP w A (call (.builtin id) [b, v1]) Q s1) s) (q1 : starEach [e1] env = (false, eval e1 env) :: starEach [] env) : WP w A (callWith pos (.builtin id) [b] (backTo pos (starEach [e1] env)) []) Q s :=
  .of (callWith_method1 (args_cons (wpAny_mono h.out (fun v1 s1 h1 => args_nil (by exact h1.out)) fun _ _ x => x) q1) q1 (rfl))
theorem x_b12 (h : WP w A (eval e1 env) (fun v1 s1 => WP w A (eval e2 env) (fun v2 s2 => WP w A (call (.builtin id) [b, v1, v2]) Q s2) s1) s) (q1 : starEach [e1, e2] env = (false, eval e1 env) :: starEach [e2] env) (q2 : starEach [e2] env = (false, eval e2 env) :: starEach [] env) : WP w A (callWith pos (.builtin id) [b] (backTo pos (starEach [e1, e2] env)) []) Q s :=
  .of (callWith_method1 (args_cons (wpAny_mono h.out (fun v1 s1 h1 => args_cons (wpAny_mono h1.out (fun v2 s2 h2 => args_nil (by exact h2.out)) fun _ _ x => x) q2) fun _ _ x => x) q1) q1 (by rw [q2]; rfl))
end
end Mine
end
section
open PySem PySem.W PyProof.Rows PySem.Calls PySem.Spec PySem.SeqAt PyProof.V
set_option Elab.async false
set_option maxRecDepth 100000
set_option maxHeartbeats 400000
set_option linter.unusedVariables false
namespace Mine
theorem reads_of_strs {h : Heap} {a : Addr} {vs : List Value} {ns : List Str} (hl : h.IsList a vs.toArray) (hi : StrsAre vs ns) : Reads h (.ref a) (.list (ns.map PyData.str)) [a] := by
  obtain ⟨o, ho, hc, n, hd⟩ := hl
  exact Reads.list ho hc hd (by simpa using strs_readAll h hi)
theorem canLayAll0_strs : ∀ ns : List Str, ns.all PyData.strOk = true → PyData.canLayAll0 (ns.map PyData.str) = true
  | [], _ => by simp [PyData.canLayAll0]
  | n :: r, h => by
    rw [List.all_cons, Bool.and_eq_true] at h
    simp [PyData.canLayAll0, PyData.canLay0, canLayAll0_strs r h.2, h.1]
theorem depthAll_strs : ∀ ns : List Str, PyData.depthAll (ns.map PyData.str) ≤ 1
  | [] => by simp [PyData.depthAll]
  | n :: r => by
    have := depthAll_strs r
    simp only [List.map_cons, PyData.depthAll, PyData.depth]
    omega
theorem shaped_strs (ns : List Str) (hk : ns.all PyData.strOk = true) : shaped (.list (ns.map PyData.str)) = true := by
  have h1 := depthAll_strs ns
  have h2 : PyData.depth (.list (ns.map PyData.str)) ≤ 64 := by simp only [PyData.depth]; omega
  show (PyData.canLay0 (.list (ns.map PyData.str)) && decide (PyData.depth (.list (ns.map PyData.str)) ≤ 64)) = true
  rw [Bool.and_eq_true]
  exact ⟨by simp only [PyData.canLay0]; exact canLayAll0_strs ns hk, decide_eq_true h2⟩
theorem noMix_strs : ∀ ns ms : List Str, noMixAll (ns.map PyData.str) (ms.map PyData.str) = true
  | [], [] => by simp [noMixAll]
  | [], _ :: _ => by simp [noMixAll]
  | _ :: _, [] => by simp [noMixAll]
  | _ :: r, _ :: q => by simp [noMixAll, noMix, noMix_strs r q]
theorem same_strs : ∀ ns ms : List Str, PySem.Spec.sameAll (ns.map PyData.str) (ms.map PyData.str) = decide (ns = ms)
  | [], [] => by simp [PySem.Spec.sameAll]
  | [], _ :: _ => by simp [PySem.Spec.sameAll]
  | _ :: _, [] => by simp [PySem.Spec.sameAll]
  | n :: r, k :: q => by
    simp only [List.map_cons, PySem.Spec.sameAll, PySem.Spec.same, same_strs r q]
    by_cases h : n = k <;> simp [h]
theorem las_strs0 {w : World} : ListAs w (.list []) (fun vs => StrsAre vs []) := fun o h => let ⟨n, e⟩ := h; ⟨[], n, e, .nil⟩
section
variable {w : World} {n : Nat} {A : Around} {env env₀ : Env} {h₀ : Heap} {L : Addr} {m m' : List (Str × Value)} {own own' : List (Addr × AO)} {g : GP} {os : Osb} {s : Shared} {pos : Pos} {a b l : Addr} {ao ao' : AO} {v : Value} {path : List Nat} {ws us : List Str} {Q : Value → Shared → Prop}
theorem r_eqSS (C : Fx w n A env₀ h₀ L path) (D : Sd w h₀ L m own g os s) (hn : n ≤ 400) (k1 : ws.all PyData.strOk = true) (k2 : us.all PyData.strOk = true) (ha : OAt own a ao) (hla : ListAs w ao (fun vs => StrsAre vs ws)) (hb : OAt own b ao') (hlb : ListAs w ao' (fun vs => StrsAre vs us)) (h : Q (.bool (decide (ws = us))) s) :
    WP w A (compareOp .Eq (.ref a) (.ref b)) Q s := by
  obtain ⟨vs, _, _, i1, i2⟩ := D.isList ha hla
  obtain ⟨xs, _, _, j1, j2⟩ := D.isList hb hlb
  have hu := C.uni
  exact .of (eq_dataH_same (reads_of_strs i1 i2) (reads_of_strs j1 j2) (shaped_strs ws k1) (shaped_strs us k2) (by unfold cLine; omega) (by simp only [noMix]; exact noMix_strs ws us) (by simp only [PySem.Spec.same]; rw [same_strs]; exact h))
theorem r_neSS (C : Fx w n A env₀ h₀ L path) (D : Sd w h₀ L m own g os s) (hn : n ≤ 400) (k1 : ws.all PyData.strOk = true) (k2 : us.all PyData.strOk = true) (ha : OAt own a ao) (hla : ListAs w ao (fun vs => StrsAre vs ws)) (hb : OAt own b ao') (hlb : ListAs w ao' (fun vs => StrsAre vs us)) (h : Q (.bool (decide (ws ≠ us))) s) :
    WP w A (compareOp .NotEq (.ref a) (.ref b)) Q s := by
  obtain ⟨vs, _, _, i1, i2⟩ := D.isList ha hla
  obtain ⟨xs, _, _, j1, j2⟩ := D.isList hb hlb
  have hu := C.uni
  exact .of (ne_dataH_same (reads_of_strs i1 i2) (reads_of_strs j1 j2) (shaped_strs ws k1) (shaped_strs us k2) (by unfold cLine; omega) (by simp only [noMix]; exact noMix_strs ws us) (by simp only [PySem.Spec.same]; rw [same_strs]; simpa using h))
theorem r_itemT {value slice : PySem.Expr} {P : List Value → Prop} {i : Int} {u : Tok} (D : Sd w h₀ L m own g os s) (hm : OAt own l ao) (hl : ListAs w ao P) (h0 : 0 ≤ i) (h1 : i < 2 ^ 60) (h : ∀ vs, P vs → ∃ v, vs[i.toNat]? = some v ∧ Q v s)
    (hs : subscripted slice false (.ref l) (.int i u) = operate [.ref l, .int i u] (getItem (.ref l) (.int i u))) : WP w A (subscriptTail value slice (.ref l) (.int i u)) Q s := by
  obtain ⟨vs, n, e1, e2, e3⟩ := D.isList hm hl
  exact .of (tail_any e2.typeIs list_getitem_lookup (r_item D hm hl h0 h1 h).out hs)
theorem r_lastT {value slice : PySem.Expr} {P : List Value → Prop} {u : Tok} (D : Sd w h₀ L m own g os s) (hm : OAt own l ao) (hl : ListAs w ao P) (h : ∀ vs, P vs → ∃ us v, vs = us ++ [v] ∧ Q v s)
    (hs : subscripted slice false (.ref l) (.int (-1) u) = operate [.ref l, .int (-1) u] (getItem (.ref l) (.int (-1) u))) : WP w A (subscriptTail value slice (.ref l) (.int (-1) u)) Q s := by
  obtain ⟨vs, n, e1, e2, e3⟩ := D.isList hm hl
  exact .of (tail_any e2.typeIs list_getitem_lookup (r_last D hm hl h).out hs)
theorem x_un {op : PySem.UnaryOp} {e : PySem.Expr} (h : WP w A (eval e env) (fun v s₁ => WP w A (unaryOp op v) Q s₁) s) : WP w A (eval (.UnaryOp op e pos) env) Q s :=
  .of (wpAny_UnaryOp (wpAny_mono h.out (fun _ _ x => x.out) fun _ _ x => x))
theorem r_neg {i : Int} {t : Tok} (D : Sd w h₀ L m own g os s) (h : ∀ t s', Sd w h₀ L m own g os s' → Q (.int (-i) t) s') : WP w A (unaryOp .USub (.int i t)) Q s := .of (PyProof.Rows.neg_int (h _ _ (D.tok _)))
theorem strs_snoc_inv : ∀ {vs : List Value} {ws : List Str} {x : Str}, StrsAre vs (ws ++ [x]) → ∃ us t, vs = us ++ [.str x t] ∧ StrsAre us ws
  | _, [], x, .cons _ t .nil => ⟨[], t, rfl, .nil⟩
  | _, w :: r, x, .cons _ t h => by
    obtain ⟨us, t', rfl, h'⟩ := strs_snoc_inv h
    exact ⟨_ :: us, t', rfl, .cons _ _ h'⟩
/-- the last of a list of texts is set -/
theorem r_setlastS {x y : Str} {t u : Tok} {Q : Unit → Shared → Prop} (D : Sd w h₀ L m own g os s) (hp : OPut own l (.strs (ws ++ [x])) (.strs (ws ++ [y])) own') (h : ∀ s', Sd w h₀ L m own' g os s' → Q () s') : WP w A (setItem (.ref l) (.int (-1) u) (.str y t)) Q s := by
  refine r_setlast (P := fun _ => True) D hp (fun o ⟨vs, n, e, hv⟩ => ?_) h
  obtain ⟨us, t', rfl, h'⟩ := strs_snoc_inv hv
  exact ⟨us, _, n, e, us ++ [.str y t], n, rfl, strsAre_append h' (.cons _ _ .nil)⟩
end
end Mine
end
section
open PySem PySem.W PyProof.Rows PySem.Calls
set_option Elab.async false
set_option maxRecDepth 100000
set_option maxHeartbeats 400000
set_option linter.unusedVariables false
namespace Mine
section
variable {w : World} {n : Nat} {A : Around} {env env₀ : Env} {h₀ : Heap} {L : Addr} {m m' : List (Str × Value)} {own own' : List (Addr × AO)} {g : GP} {os : Osb} {s : Shared} {pos : Pos} {a b l : Addr} {ao ao' : AO} {v : Value} {path : List Nat} {Q : Value → Shared → Prop} {x y : Str} {t u : Tok} {i : Int} {X Y : String}
theorem r_typeI (h : Q (.type "int") s) : WP w A (call (.type "type") [.int i t]) Q s := .of (call_type_of (typeIs_int s i t) (by decide +kernel) h)
theorem r_typeS (h : Q (.type "str") s) : WP w A (call (.type "type") [.str x t]) Q s := .of (call_type_of (typeIs_str s x t) (by decide +kernel) h)
theorem r_intI (h : Q (.int i t) s) : WP w A (call (.type "int") [.int i t]) Q s := .of (call_int_int h)
theorem r_isnTs (h : Q (.bool false) s) : WP w A (compareOp .IsNot (.type X) (.type X)) Q s := .of (isnot_type_same h)
theorem r_isIN (h : Q (.bool false) s) : WP w A (compareOp .Is (.int i t) .none) Q s := .of (is_int_none h)
theorem r_isSN (h : Q (.bool false) s) : WP w A (compareOp .Is (.str x t) .none) Q s := .of (is_str_none h)
theorem r_isnSN (h : Q (.bool true) s) : WP w A (compareOp .IsNot (.str x t) .none) Q s := .of (isnot_str_none h)
theorem r_isRN (h : Q (.bool false) s) : WP w A (compareOp .Is (.ref a) .none) Q s := .of (is_ref_none h)
theorem r_isnRN (h : Q (.bool true) s) : WP w A (compareOp .IsNot (.ref a) .none) Q s := .of (isnot_ref_none h)
theorem r_isNN (h : Q (.bool true) s) : WP w A (compareOp .Is .none .none) Q s := .of (PySem.is_none h)
theorem r_isnNN (h : Q (.bool false) s) : WP w A (compareOp .IsNot .none .none) Q s := .of (PySem.isNot_none h)
/-- a ledger with a place in it -/
structure Ctx (f : AO → Os) (d : Addr) : Prop where
  put : ∀ a b, OPut (f a) d a b (f b)
theorem Ctx.at {f : AO → Os} {d : Addr} {a : AO} (F : Ctx f d) : OAt (f a) d a := (F.put a a).at
theorem Ctx.head {d : Addr} {r : Os} : Ctx (fun a => (d, a) :: r) d := ⟨fun _ _ => .head⟩
theorem Ctx.tail {f : AO → Os} {d : Addr} {p : Addr × AO} (F : Ctx f d) : Ctx (fun a => p :: f a) d := ⟨fun a b => .tail (F.put a b)⟩
theorem Sd.open {f : AO → Os} {d : Addr} {P : Obj → Prop} (F : Ctx f d) (D : Sd w h₀ L m (f (.any P)) g os s) : ∃ o, P o ∧ ∀ ao : AO, ao.Is w o → Sd w h₀ L m (f ao) g os s := by
  obtain ⟨o, e1, e2⟩ := D.get F.at
  refine ⟨o, e2, fun ao hi => ?_⟩
  obtain ⟨news, l, ow⟩ := D.led
  obtain ⟨i', o', h1', h2', h3'⟩ := ow.put (F.put (.any P) ao)
  have z := l.nw.get (List.mem_of_getElem? h1')
  have : o' = o := by rw [e1] at z; exact (Option.some.inj z).symm
  subst this
  have q := h3' o' hi
  have e : news.set i' (d, o') = news := by
    obtain ⟨hl, he⟩ := List.getElem?_eq_some_iff.mp h1'
    rw [← he]
    exact List.set_getElem_self hl
  rw [e] at q
  exact ⟨⟨news, l, q⟩, D.gens, D.osq, by first | exact D.pos | exact Nat.le_succ_of_le D.pos | exact Nat.le_succ_of_le (Nat.le_succ_of_le D.pos)⟩
theorem Sd.shut {f : AO → Os} {d : Addr} {ao : AO} {P : Obj → Prop} (F : Ctx f d) (D : Sd w h₀ L m (f ao) g os s) (h : ∀ o, ao.Is w o → P o) : Sd w h₀ L m (f (.any P)) g os s := D.re (F.put ao (.any P)) h
/-- a text stream: what stands at its fields -/
abbrev sioF (x : Str) (p : Nat) (tn tx tp : Tok) : Ls := [("_StringIO__newline", .str "\n" tn), ("_StringIO__buf", .str x tx), ("_StringIO__pos", .int p tp)]
def sioA (w : World) (x : Str) (p : Nat) : AO := .any fun o => ∃ tn tx tp, (AO.flds (sioF x p tn tx tp)).Is w o
theorem ite_kt {c : Bool} {P R : Prop} (e : c = true) (h : P) : if c = true then P else R := by rw [if_pos e]; exact h
theorem ite_kf {c : Bool} {P R : Prop} (e : c = false) (h : R) : if c = true then P else R := by rw [e, if_neg Bool.false_ne_true]; exact h
theorem ite_dt {c P R : Prop} [Decidable c] (e : c) (h : P) : if decide c = true then P else R := by rw [decide_eq_true e, if_pos rfl]; exact h
theorem ite_df {c P R : Prop} [Decidable c] (e : ¬ c) (h : R) : if decide c = true then P else R := by rw [decide_eq_false e, if_neg Bool.false_ne_true]; exact h
theorem ite_t {P R : Prop} (h : P) : if true = true then P else R := by rw [if_pos rfl]; exact h
theorem ite_f {P R : Prop} (h : R) : if false = true then P else R := by rw [if_neg Bool.false_ne_true]; exact h
end
end Mine
end
section
open PySem PySem.W PyProof.Rows PySem.Calls
set_option Elab.async false
set_option maxRecDepth 100000
set_option maxHeartbeats 400000
set_option linter.unusedVariables false
namespace Mine
/-- no field of that name stands in the instance's dict -/
def NoFld (w : World) (ao : AO) (name : Str) : Prop := ∀ o, ao.Is w o → ∃ es n, o = dictOf es n ∧ getL name es = some none
theorem nofld_flds {w : World} {fs : Ls} {name : Str} (hm : (fs.all fun p => p.1 != name) = true) : NoFld w (.flds fs) name := fun o ⟨es, n, e, h⟩ => ⟨es, n, e, h.getNone hm⟩
theorem nofld_sio {w : World} {x : Str} {p : Nat} {name : Str} (hm : ((["_StringIO__newline", "_StringIO__buf", "_StringIO__pos"] : List Str).all fun y => y != name) = true) : NoFld w (sioA w x p) name := by
  rintro o ⟨tn, tx, tp, es, n, e, h⟩
  exact ⟨es, n, e, h.getNone (by simpa using hm)⟩
section
variable {w : World} {n : Nat} {A : Around} {env env₀ : Env} {h₀ : Heap} {L : Addr} {m m' : List (Str × Value)} {own own' : List (Addr × AO)} {g : GP} {os : Osb} {s : Shared} {pos : Pos} {a b l i c dx : Addr} {ao ao' : AO} {v : Value} {path : List Nat} {x y name : Str} {t u : Tok}
theorem r_methG {Q : Value × List Value → Shared → Prop} {pl : Sem Bool} {f : Addr} (hk : methOk (KK w.params) c name f = true) (C : Fx w n A env₀ h₀ L path) (D : Sd w h₀ L m own g os s) (hx : OAt own i (.inst c dx)) (hd : OAt own dx ao) (hno : NoFld w ao name)
    (h : Q (.ref f, [.ref i]) s) : WP w A (getMethod (.ref i) name pl) Q s := by
  obtain ⟨ox, h1, h2⟩ := D.get hx
  obtain ⟨od, h3, h4⟩ := D.get hd
  obtain ⟨es, k, rfl, hg⟩ := hno od h4
  have h2' : ox = instObj c dx := h2
  subst h2'
  unfold methOk at hk
  simp only [Bool.and_eq_true, beq_iff_eq] at hk
  exact .of (method_inst D.fr C.gk ⟨h1, rfl, rfl, h3⟩ hk.1.1 hk.1.2 hk.2 hg h)
theorem r_lenS {Q : Value → Shared → Prop} (D : Sd w h₀ L m own g os s) (hz : x.length ≤ sizeLine) (h : ∀ t s', Sd w h₀ L m own g os s' → Q (.int (x.length : Nat) t) s') : WP w A (call (.builtin "len") [.str x t]) Q s :=
  .of (PyProof.Rows.len_str (by unfold sizeLine at hz; omega) (h _ _ (D.tok _)))
abbrev slObj (lo hi : Value) : Obj := { cls := .type "slice", data := .fields #[lo, hi, .none] }
theorem r_evslice {lower upper : Option PySem.Expr} {p : Pos} {Q : Value → Shared → Prop} (_D : Sd w h₀ L m own g os s)
    (h : WP w A (evalPart lower env) (fun lo s₁ => WP w A (evalPart upper env) (fun hi s₂ => ∃ own, Sd w h₀ L m own g os s₂ ∧ ∀ b s', Sd w h₀ L m ((b, .raw (slObj lo hi)) :: own) g os s' → Q (.ref b) s') s₁) s) :
    WP w A (eval (.Slice lower upper none p) env) Q s := by
  refine .of (wpAny_Slice (wpAny_mono h.out (fun lo s₂ h₂ => wpAny_mono h₂.out (fun hi s₃ h₃ => wpAny_pure ?_) fun _ _ e => e) fun _ _ e => e))
  obtain ⟨own, D, k⟩ := h₃
  exact k _ _ (D.push (ao := .raw (slObj lo hi)) rfl rfl)
theorem r_sliceTT {value slice : PySem.Expr} {Q : Value → Shared → Prop} {i j : Option (Int × Tok)} (D : Sd w h₀ L m own g os s) (hb : OAt own b (.raw (slObj (partValue i) (partValue j)))) (hz : x.length ≤ sizeLine)
    (h : ∀ t' s', Sd w h₀ L m own g os s' → Q (.str (Txt.slice x (i.map (·.1)) (j.map (·.1))) t') s')
    (hs : subscripted slice false (.str x t) (.ref b) = operate [.ref b, .str x t] (getItem (.str x t) (.ref b))) : WP w A (subscriptTail value slice (.str x t) (.ref b)) Q s := by
  obtain ⟨o, e1, e2⟩ := D.get hb
  have e2 : o = _ := e2
  subst e2
  refine .of (wpAny_with_toks (Nat.le_refl _) (tail_any (typeIs_str s x t) F.slot_str_getitem.lookup (wpAny_getItem_str_slice (l := i) (u := j) (st := none) ⟨_, e1, rfl, rfl⟩ rfl ?_) hs))
  exact post_val_or_str ⟨Nat.le_trans (Txt.slice_le x (i.map (·.1)) (j.map (·.1))) hz, fun t' kk hle => h t' _ (D.tok kk (Nat.le_trans D.pos hle))⟩
end
theorem slice_nat {x : Str} {p q : Nat} (h1 : p ≤ q) (h2 : q ≤ x.length) : Txt.slice x (some (p : Int)) (some (q : Int)) = ⟨x.cps.extract p q⟩ := by
  have := slice_closesL (x := x) (i := (p : Int)) (j := (q : Int)) (by omega) (by omega) (by omega)
  rw [eq_of_beq this]
  congr 1
  apply Array.ext'
  have e : ((q : Int) - (p : Int)).toNat = q - p := by omega
  rw [e, Int.toNat_natCast]
  simp [Array.toList_extract]
theorem mt_406 (P : Params) : methOk (KK P) 622 "_StringIO__check" 406 = true := by kernel_rfl
theorem mt_399 (P : Params) : methOk (KK P) 622 "_StringIO__translated" 399 = true := by kernel_rfl
theorem mt_568 (P : Params) : methOk (KK P) 622 "read" 568 = true := by kernel_rfl
theorem mt_725 (P : Params) : methOk (KK P) 757 "read_token" 725 = true := by kernel_rfl
theorem mt_718 (P : Params) : methOk (KK P) 757 "get_token" 718 = true := by kernel_rfl
end Mine
end
section
open PySem PySem.W PyProof.Rows PySem.Calls
set_option Elab.async false
set_option maxRecDepth 100000
set_option maxHeartbeats 400000
set_option linter.unusedVariables false
namespace Mine
open PySem.W.X (Led)
theorem cells_addr {cm : Str → Option Value} {cl : List (Str × Addr)} {cells : List (Addr × Obj)} (h : CellsAre cm cl cells) : cells.map (·.1) = cl.map (·.2) := by
  induction h with
  | nil => rfl
  | cons _ _ ih => simp only [List.map_cons, ih]
theorem own_cells {w : World} {cm : Str → Option Value} {cl : List (Str × Addr)} {cells news : List (Addr × Obj)} {own : Os} (h : CellsAre cm cl cells) (hn : ∀ n, cm n = none) (ow : Own w news own) : Own w (cells ++ news) (cl.map (fun p => (p.2, AO.cell none)) ++ own) := by
  induction h with
  | nil => exact ow
  | @cons n c o cs cells hd _ ih => exact .cons (by show o.data = .cell none; rw [hd, hn]) ih
section
variable {w : World} {n : Nat} {A : Around} {env : Env} {h₀ : Heap} {L : Addr} {m : List (Str × Value)} {own : List (Addr × AO)} {g : GP} {os : Osb} {s : Shared} {Q : Value → Shared → Prop}
theorem enterC {f : Addr} {path : List Nat} {name qual : Str} {dV pm cdv v : Value} {x : Str} {path₀ : List Nat} (clf : Addr → List (Str × Addr))
    (F : FnIs w.params f path name qual dV pm cdv) (C : Fx w n A env h₀ L path₀) (D : Sd w h₀ L m own g os s) (hn : n ≤ 400)
    (hbind : BindsTo s (fnX name qual (paramsAt path) (bodyAt path) (scopeAt path) [] dV .none .none pm none cdv .none) ⟨[v], []⟩ [(x, v)])
    (hx : (scopeAt path).names.lookup x = some .local) (hcl : ∀ n, cellsFrom n (scopeAt path).names [] = clf n) (hnd : ((clf 0).map (·.1)).Nodup) (hord : ∀ n, ((clf n).map (·.2)).Pairwise (· > ·) ∧ ∀ a ∈ (clf n).map (·.2), n ≤ a)
    (h : ∀ g₁ L' env' s', Nv env' (scopeAt path) (clf (L' + 1)) → Fx w (n + 1) (A.deeper env') env' g₁ L' path → Sd w g₁ L' [(x, v)] ((clf (L' + 1)).map (fun p => (p.2, AO.cell none)) ++ own) g os s' →
      WP w (A.deeper env') (execs (bodyAt path) env') (fun fl s2 => Back w h₀ L m g₁ os Q (match fl with | .ret v => v | _ => .none) s2) s') :
    WP w A (call (.ref f) [v]) Q s := by
  refine ⟨wpAny_call ?_⟩
  obtain ⟨news, l, ow⟩ := D.led
  have X := C.gk.keeps l.fr.keep
  obtain ⟨FG, st, lv⟩ := groundY (R := fun r s' => match r with | .ok (.ret v) => Q v s' | _ => False) C.frame C.kind l.fr l.nw
  have hroom : A.depth < recursionLimit := by have := C.dep; unfold recursionLimit; omega
  refine codeAny_mono (codeAny_call_function (R := fun r s' => match r with | .ok (.ret v) => Q v s' | _ => False) hroom (X _ _ F.here) rfl F.co F.gen rfl (codeRec_of X F.code) (hbind _ _ _ _ ?_)) fun r s' z => by
    rcases r with e | (v | _ | _ | _) <;> first | exact z | exact z.elim
  refine wpAny_with_toks (n := s.toks) (Nat.le_refl _) (wpAny_newFunctionEnv_cells F.kind (fun y hy => by rw [List.mem_singleton.mp hy]; exact .inl hx) fun env' he s' xx hle => ?_)
  subst he
  refine ⟨((gk_lim C.gk).keeps l.fr.keep).keeps xx.toInCall.keep, codeAny_func ?_⟩
  obtain ⟨h₁, tk, rfl, _⟩ := xx.done
  have hk₁ := xx.toInCall.keep
  have hnd0 : ((cellsFrom 0 (scopeAt path).names []).map (·.1)).Nodup := by rw [hcl]; exact hnd
  have hnd1 : ((cellsFrom (s.heap.objs.size + 1) (scopeAt path).names []).map (·.1)).Nodup := cellsFrom_names (scopeAt path).names 0 (s.heap.objs.size + 1) [] [] rfl ▸ hnd0
  obtain ⟨cells, NC, Y⟩ := Cl.news (h₀ := s.heap) (Nat.le_refl _) fun n c hm => ⟨xx.cell n c (lookup_of_mem_nodup hnd1 hm), xx.above n c hm⟩
  have F' : Fr (hideAll s.heap (news.map (·.1))) s.heap.objs.size h₁ (bindL (envOfC qual (scopeAt path) s.heap.objs.size f cdv).kindOf [(x, v)] fun _ => none) := ⟨xx.toInCall.ns, fun b o e => hk₁ b o (of_hideAll _ e), Nat.le_of_eq (hideAll_size _ _)⟩
  have N' : News (hideAll s.heap (news.map (·.1))) s.heap.objs.size h₁ (cells ++ news) := fun p hp => by
    rcases List.mem_append.mp hp with hp | hp
    · refine ⟨(NC p hp).1, (NC p hp).2.1, ?_⟩
      cases q : (hideAll s.heap (news.map (·.1))).get? p.1 with
      | none => rfl
      | some o => have := of_hideAll _ q; rw [(NC p hp).2.2] at this; cases this
    · exact ⟨hk₁ _ _ (l.nw p hp).1, Nat.ne_of_lt (Heap.lt_size (l.nw p hp).1), hideAll_none _ (List.mem_map_of_mem hp)⟩
  have lt : ∀ p ∈ news, p.1 < s.heap.objs.size := fun p hp => Heap.lt_size (l.nw p hp).1
  have htk : os.b ≤ tk := Nat.le_trans D.pos hle
  revert F' N' Y lt FG st lv hk₁
  clear NC hnd1 xx hroom
  generalize s.heap.objs.size = L'
  generalize (hideAll s.heap (news.map (·.1))) = g₁
  intro FG st lv hk₁ Y F' N' lt
  have kx : (envOfC qual (scopeAt path) L' f cdv).kindOf x = some .local := hx
  have eL : bindL (envOfC qual (scopeAt path) L' f cdv).kindOf [(x, v)] (fun _ => none) = fun y => ([(x, v)] : Ls).lookup y := by
    show (if _ then _ else _) = _
    rw [if_pos kx]
    exact (MPut.nil (x := x) (v := v)).lookup
  have eC : ∀ y, bindC (envOfC qual (scopeAt path) L' f cdv).kindOf [(x, v)] (fun _ => none) y = none := by
    intro y
    simp only [bindC]
    rw [if_pos kx]
  rw [eL] at F'
  rw [hcl] at Y
  have D' : Sd w g₁ L' [(x, v)] ((clf (L' + 1)).map (fun p => (p.2, AO.cell none)) ++ own) g os { s with heap := h₁, toks := tk } := by
    refine ⟨⟨cells ++ news, ⟨F', N', ?_⟩, own_cells Y eC ow⟩, D.gens, D.osq, htk⟩
    rw [List.map_append, cells_addr Y]
    refine List.pairwise_append.mpr ⟨(hord _).1, l.ord, fun a ha b hb => ?_⟩
    obtain ⟨p, hp, rfl⟩ := List.mem_map.mp hb
    have h1 := lt p hp
    have h2 := (hord (L' + 1)).2 a ha
    exact Nat.lt_of_lt_of_le (Nat.lt_succ_of_lt h1) h2
  have C' : Fx w (n + 1) (A.deeper (envOfC qual (scopeAt path) L' f cdv)) (envOfC qual (scopeAt path) L' f cdv) g₁ L' path :=
    ⟨rfl, rfl, F.kind, rfl, rfl, rfl, C.gk.keeps st, C.hand, by have := C.dep; show A.depth + 1 ≤ _; omega, by have := C.uni; show A.units + 3 ≤ _; omega⟩
  refine wpAny_mono (h g₁ L' _ _ ⟨rfl, F.kind, rfl, rfl, by rw [← hcl]; rfl⟩ C' D').out (fun fl s2 hb => ?_) fun _ _ x => x.elim
  obtain ⟨L2, m2, own2, g2, D2, k⟩ := hb
  obtain ⟨news2, l2, ow2⟩ := D2.led
  refine lv _ _ ⟨L2, _, news2, l2.fr, l2.nw, fun F0 N0 => ?_⟩
  exact k ⟨⟨news2, ⟨F0, N0, l2.ord⟩, ow2⟩, D2.gens, D2.osq, D2.pos⟩
theorem x_bool1 {op : BoolOp} {e : PySem.Expr} {pos : Pos} (h : WP w A (eval e env) Q s) : WP w A (eval (.BoolOp op [e] pos) env) Q s := .of (BoolOp_one h.out)
theorem x_andV {e₁ e₂ : PySem.Expr} {rest : List PySem.Expr} {pos : Pos} (h : WP w A (eval e₁ env) (fun v s₁ => WP w A (truthy v) (fun c s₂ => if c = true then WP w A (eval (.BoolOp .And (e₂ :: rest) pos) env) Q s₂ else Q v s₂) s₁) s) : WP w A (eval (.BoolOp .And (e₁ :: e₂ :: rest) pos) env) Q s :=
  .of (BoolOp_and (wpAny_mono h.out (fun v s₁ x => wpAny_mono x.out (fun c s₂ y => by cases c <;> simp only [Bool.false_eq_true, if_true, if_false] at y ⊢ <;> first | exact y.out | exact y) fun _ _ x => x) fun _ _ x => x))
theorem x_orV {e₁ e₂ : PySem.Expr} {rest : List PySem.Expr} {pos : Pos} (h : WP w A (eval e₁ env) (fun v s₁ => WP w A (truthy v) (fun c s₂ => if c = true then Q v s₂ else WP w A (eval (.BoolOp .Or (e₂ :: rest) pos) env) Q s₂) s₁) s) : WP w A (eval (.BoolOp .Or (e₁ :: e₂ :: rest) pos) env) Q s :=
  .of (BoolOp_or (wpAny_mono h.out (fun v s₁ x => wpAny_mono x.out (fun c s₂ y => by cases c <;> simp only [Bool.false_eq_true, if_true, if_false] at y ⊢ <;> first | exact y.out | exact y) fun _ _ x => x) fun _ _ x => x))
theorem r_inS {x : Str} {c : Nat} {t u : Tok} (h : Q (.bool (decide (c ∈ x.cps.toList))) s) : WP w A (compareOp .In (.str ⟨#[c]⟩ u) (.str x t)) Q s := .of (PyProof.Rows.in_str (by rw [StrLaws.found_one]; exact h))
theorem r_ninS {x : Str} {c : Nat} {t u : Tok} (h : Q (.bool (!decide (c ∈ x.cps.toList))) s) : WP w A (compareOp .NotIn (.str ⟨#[c]⟩ u) (.str x t)) Q s :=
  .of (P.notIn_str (by rw [StrLaws.found_one]; exact h))
end
end Mine
end
section
open PySem PySem.W PyProof.Rows PySem.Calls
set_option Elab.async false
set_option maxRecDepth 100000
set_option maxHeartbeats 400000
set_option linter.unusedVariables false
namespace Mine
open PySem.W.X (Led)
/-- a call of a def, as code -/
structure CP (w : World) (A : Around) (f : Addr) (args : List Value) (kw : List (Str × Value)) (Q : Value → Shared → Prop) (s : Shared) : Prop where
  out : codeAny (model pw w) A (.call (.ref f) ⟨args, kw⟩) (fun r s' => match r with | .ok (.ret v) => Q v s' | _ => False) s
section
variable {w : World} {n : Nat} {A : Around} {env : Env} {h₀ : Heap} {L : Addr} {m : List (Str × Value)} {own : List (Addr × AO)} {g : GP} {os : Osb} {s : Shared} {Q : Value → Shared → Prop} {path₀ : List Nat}
theorem enterP {f : Addr} {path : List Nat} {args : List Value} {kw : List (Str × Value)} {name qual : Str} {dV pm cdv : Value} {binds : List (Str × Value)} (mb : List (Str × Value))
    (F : FnIs w.params f path name qual dV pm cdv) (C : Fx w n A env h₀ L path₀) (D : Sd w h₀ L m own g os s) (hn : n ≤ 400)
    (hbind : BindsTo s (fnX name qual (paramsAt path) (bodyAt path) (scopeAt path) [] dV .none .none pm none cdv .none) ⟨args, kw⟩ binds) (hmb : binds.reverse = mb)
    (hloc : (binds.all fun x => decide ((scopeAt path).names.lookup x.1 = some .local)) = true) (hcell : ((scopeAt path).names.all fun x => x.2 != .cell) = true)
    (h : ∀ g₁ L' env' s' (Q' : Flow → Shared → Prop), (∀ fl s2, Back w h₀ L m g₁ os Q (match fl with | .ret v => v | _ => .none) s2 → Q' fl s2) → Nv env' (scopeAt path) [] → Fx w (n + 1) (A.deeper env') env' g₁ L' path → Sd w g₁ L' mb own g os s' →
      WP w (A.deeper env') (execs (bodyAt path) env') Q' s') :
    CP w A f args kw Q s := by
  refine ⟨?_⟩
  obtain ⟨news, l, ow⟩ := D.led
  have X := C.gk.keeps l.fr.keep
  refine callY (binds := binds) C.frame C.kind l.fr l.nw (gk_lim C.gk) (X _ _ F.here) rfl (codeRec_of X F.code) (by have := C.dep; unfold recursionLimit; omega) hbind (locs hloc)
    (fun g₁ L' h₁ FG F' N' st lt eg => ?_) (fun x hx => by have := List.all_eq_true.mp hcell x hx; simpa using this) F.co F.gen F.kind
  have D' : Sd w g₁ L' mb own g os { s with heap := h₁, toks := s.toks + binds.length } := ⟨⟨news, ⟨hmb ▸ F', N', l.ord⟩, ow⟩, D.gens, D.osq, Nat.le_add_right_of_le D.pos⟩
  have C' : Fx w (n + 1) (A.deeper (envX qual (scopeAt path) L' f cdv [])) (envX qual (scopeAt path) L' f cdv []) g₁ L' path :=
    ⟨rfl, rfl, F.kind, rfl, rfl, rfl, C.gk.keeps st, C.hand, by have := C.dep; show A.depth + 1 ≤ _; omega, by have := C.uni; show A.units + 3 ≤ _; omega⟩
  refine wpAny_mono (h g₁ L' _ _ _ (fun _ _ x => x) ⟨rfl, F.kind, rfl, rfl, rfl⟩ C' D').out (fun fl s2 hb => ?_) fun _ _ x => x.elim
  obtain ⟨L2, m2, own2, g2, D2, k⟩ := hb
  obtain ⟨news2, l2, ow2⟩ := D2.led
  refine ⟨L2, _, news2, l2.fr, l2.nw, fun F0 N0 => ?_⟩
  exact k ⟨⟨news2, ⟨F0, N0, l2.ord⟩, ow2⟩, D2.gens, D2.osq, D2.pos⟩
theorem Fx.under (C : Fx w n A env h₀ L path₀) (c : Addr) (pos : List Value) (kw : List (Str × Value)) : Fx w (n + 1) (A.under (.builtin "type.__call__" ⟨.ref c :: pos, kw⟩)) env h₀ L path₀ := by
  refine ⟨C.scope, C.frame, C.kind, C.locals, C.globals, C.builtins, C.gk, ?_, ?_, ?_⟩
  · exact C.hand
  · have := C.dep
    rw [depth_under_kw]
    omega
  · have := C.uni
    have e : (A.under (.builtin "type.__call__" ⟨.ref c :: pos, kw⟩)).units = A.units + 1 := rfl
    omega
theorem r_make {c fI : Addr} {args : List Value} {kw : List (Str × Value)} (C : Fx w n A env h₀ L path₀) (D : Sd w h₀ L m own g os s) (hm : makesIn (KK w.params) c = true) (hi : findIn (KK w.params) (.ref c) "__init__" = some (some (.ref fI))) (hf : isFn (KK w.params) (.ref fI) = true)
    (h : ∀ x dx s' A', Fx w (n + 1) A' env h₀ L path₀ → Sd w h₀ L m ((x, .inst c dx) :: (dx, .flds []) :: own) g os s' → CP w A' fI (.ref x :: args) kw (fun v s'' => v = .none ∧ Q (.ref x) s'') s') : WP w A (call (.ref c) args kw) Q s := by
  obtain ⟨news, l, ow⟩ := D.led
  refine .of (call_cls l.fr C.gk l.nw hm hi hf fun x dx h' F N lt lx => ?_)
  have D' : Sd w h₀ L m ((x, .inst c dx) :: (dx, .flds []) :: own) g os { s with heap := h' } := by
    refine ⟨⟨_, ⟨F, N, ?_⟩, .cons rfl (.cons ⟨[], 0, rfl, trivial⟩ ow)⟩, D.gens, D.osq, by first | exact D.pos | exact Nat.le_succ_of_le D.pos | exact Nat.le_succ_of_le (Nat.le_succ_of_le D.pos)⟩
    refine List.Pairwise.cons (fun b hb => ?_) (List.Pairwise.cons (fun b hb => ?_) l.ord)
    · rcases List.mem_cons.mp hb with rfl | hb
      · exact lx
      · obtain ⟨p, hp, rfl⟩ := List.mem_map.mp hb
        exact Nat.lt_trans (lt p hp) lx
    · obtain ⟨p, hp, rfl⟩ := List.mem_map.mp hb
      exact lt p hp
  refine codeAny_mono (h x dx _ _ (C.under _ _ _) D').out fun r s' z => ?_
  rcases r with e | (v | _ | _ | _) <;> first | exact z | exact z.elim
end
end Mine
end
section
open PySem PySem.W PyProof.Rows PySem.Calls
set_option Elab.async false
set_option maxRecDepth 100000
set_option maxHeartbeats 400000
set_option linter.unusedVariables false
namespace Mine
open PySem.W.X (Led)
/-- an entry of a table, a text under a text -/
def DE (w : World) (x : Str) (t : Tok) (v : Value) : DictEntry := ⟨hashStr w x, .str x t, v⟩
inductive TkE (w : World) (P R : Tok → Prop) : List DictEntry → List (Str × Str) → Prop
  | nil : TkE w P R [] []
  | cons {x y t u es kvs} : P t → R u → TkE w P R es kvs → TkE w P R (DE w x t (.str y u) :: es) ((x, y) :: kvs)
def tabO (w : World) (P R : Tok → Prop) (kvs : List (Str × Str)) (o : Obj) : Prop := ∃ es n, o = dictOf es n ∧ TkE w P R es kvs ∧ (kvs.map (·.1)).Nodup
def tabA (w : World) (P R : Tok → Prop) (kvs : List (Str × Str)) : AO := .any (tabO w P R kvs)
section
variable {w : World} {P R : Tok → Prop} {es : List DictEntry} {kvs : List (Str × Str)}
theorem TkE.len (h : TkE w P R es kvs) : es.length = kvs.length := by
  induction h with
  | nil => rfl
  | cons _ _ _ ih => simp only [List.length_cons, ih]
theorem TkE.append {es' kvs'} (h : TkE w P R es kvs) (h' : TkE w P R es' kvs') : TkE w P R (es ++ es') (kvs ++ kvs') := by
  induction h with
  | nil => exact h'
  | cons p r _ ih => exact .cons p r ih
theorem TkE.at (h : TkE w P R es kvs) : ∀ {i : Nat} (hi : i < es.length), ∃ x y t u, es[i] = DE w x t (.str y u) ∧ kvs[i]? = some (x, y) ∧ P t ∧ R u := by
  induction h with
  | nil => intro i hi; simp at hi
  | @cons x y t u es kvs p r _ ih =>
    intro i hi
    cases i with
    | zero => exact ⟨x, y, t, u, rfl, rfl, p, r⟩
    | succ i =>
      obtain ⟨x', y', t', u', h1, h2⟩ := ih (i := i) (by simpa using hi)
      exact ⟨x', y', t', u', by simpa using h1, by simpa using h2⟩
theorem TkE.pairs (h : TkE w P R es kvs) : ∃ kv : List (Str × Value), Pairs (strKind pw w) es kv ∧ kv.map (·.1) = kvs.map (·.1) ∧ (∀ e ∈ es, ∃ k, (strKind pw w).is k e.key = true ∧ e.hash = (strKind pw w).hash k) ∧
    ∀ x, (∃ y u, kvs.lookup x = some y ∧ valueAt kv x = some (.str y u) ∧ R u) ∨ (kvs.lookup x = none ∧ valueAt kv x = none) := by
  induction h with
  | nil => exact ⟨[], .nil, rfl, fun _ h => (by cases h), fun x => .inr ⟨rfl, rfl⟩⟩
  | @cons x y t u es kvs p r _ ih =>
    obtain ⟨kv, h1, h2, h3, h4⟩ := ih
    refine ⟨(x, .str y u) :: kv, .cons (by show Value.isStrOf x (.str x t) = true; exact beq_self_eq_true x) rfl h1, by simp [h2], fun e he => ?_, fun z => ?_⟩
    · rcases List.mem_cons.mp he with rfl | he
      · exact ⟨x, by show Value.isStrOf x (.str x t) = true; exact beq_self_eq_true x, rfl⟩
      · exact h3 e he
    · by_cases e : x = z
      · subst e
        exact .inl ⟨y, u, by rw [List.lookup_cons_self], by simp [valueAt], r⟩
      · have e' : (z == x) = false := beq_false_of_ne (Ne.symm e)
        rw [List.lookup_cons, e']
        have : valueAt ((x, Value.str y u) :: kv) z = valueAt kv z := by simp [valueAt, e]
        rw [this]
        exact h4 z
end
theorem not_mem_of_lookup {x : Str} : ∀ {kvs : List (Str × Str)}, kvs.lookup x = none → x ∉ kvs.map (·.1)
  | [], _, hx => by simp at hx
  | p :: r, hn, hx => by
    rw [List.lookup_cons] at hn
    by_cases e : x = p.1
    · rw [e, beq_self_eq_true] at hn; cases hn
    · rw [beq_false_of_ne e] at hn
      rw [List.map_cons, List.mem_cons] at hx
      exact not_mem_of_lookup hn (hx.resolve_left e)
section
variable {w : World} {n : Nat} {A : Around} {env env₀ : Env} {h₀ : Heap} {L : Addr} {m m' : List (Str × Value)} {own own' : List (Addr × AO)} {g : GP} {os : Osb} {s : Shared} {pos : Pos} {d l i : Addr} {ao ao' : AO} {v : Value} {path : List Nat} {x y : Str} {t u : Tok}
  {P R : Tok → Prop} {kvs : List (Str × Str)}
theorem Sd.notSys (C : Fx w n A env₀ h₀ L path) (D : Sd w h₀ L m own g os s) (hm : OAt own d ao) : (d == sysModules) = false := by
  obtain ⟨news, l, ow⟩ := D.led
  obtain ⟨o, h1, _⟩ := ow.at hm
  have h2 := (l.nw _ h1).2.2
  have h3 : h₀.get? 1 = some (o1 w.params) := C.gk 1 _ (by kernel_rfl)
  refine beq_false_of_ne fun e => ?_
  have e : d = 1 := e
  subst e
  have h2 : h₀.get? 1 = none := h2
  rw [h2] at h3
  cases h3
theorem Sd.tab (D : Sd w h₀ L m own g os s) (hm : OAt own d (tabA w P R kvs)) : ∃ kv : List (Str × Value), s.heap.DictOf (strKind pw w) d kv ∧ kv.length = kvs.length ∧
    ∀ x, (∃ y u, kvs.lookup x = some y ∧ valueAt kv x = some (.str y u) ∧ R u) ∨ (kvs.lookup x = none ∧ valueAt kv x = none) := by
  obtain ⟨o, h1, es, k, rfl, h3, h4⟩ := D.get hm
  obtain ⟨kv, p1, p2, p3, p4⟩ := h3.pairs
  refine ⟨kv, ⟨_, es.toArray, k, h1, ⟨rfl, rfl, rfl⟩, rfl, fun e he => p3 e (by simpa using he), by simpa using p1, by rw [p2]; exact h4⟩, ?_, p4⟩
  have := congrArg List.length p2
  simpa using this
theorem r_tget {dv : Value} {Q : Value → Shared → Prop} (C : Fx w n A env₀ h₀ L path) (D : Sd w h₀ L m own g os s) (hm : OAt own d (tabA w P R kvs))
    (h1 : ∀ y u s', kvs.lookup x = some y → R u → Sd w h₀ L m own g os s' → Q (.str y u) s') (h2 : ∀ s', kvs.lookup x = none → Sd w h₀ L m own g os s' → Q dv s') : WP w A (call (.builtin "dict.get") [.ref d, .str x t, dv]) Q s := by
  obtain ⟨kv, e1, e2, e3⟩ := D.tab hm
  have hkey : (strKind pw w).is x (.str x t) = true := beq_self_eq_true x
  refine .of (call_meetsIn PySem.F.slot_dict_get e1.typeIs PySem.F.entry_dict_get (PySem.F.args_dict_get_3 _ _ _) (meets_dict_get_default (strKind pw w) d hkey (D.notSys C hm) dv) ⟨_, e1.mapOf, ?_⟩)
  rcases e3 x with ⟨y, u, q1, q2, q3⟩ | ⟨q1, q2⟩
  · rw [q2]; exact h1 y u _ q1 q3 (D.tok _)
  · rw [q2]; exact h2 _ q1 (D.tok _)
theorem r_tmeth {name : Str} {id : String} {pl : Sem Bool} {Q : Value × List Value → Shared → Prop} (slot : Slot "dict" name id) (ty : typeOf (.builtin id) = pure (.type "method_descriptor")) (D : Sd w h₀ L m own g os s) (hm : OAt own d (tabA w P R kvs)) (h : Q (.builtin id, [.ref d]) s) :
    WP w A (getMethod (.ref d) name pl) Q s := by
  obtain ⟨kv, e1, e2, e3⟩ := D.tab hm
  exact .of (getMethod_builtin e1.typeIs PySem.F.plainAttrs_dict slot ty e1.mapOf.noDict h)
theorem r_titem {value slice : PySem.Expr} {Q : Value → Shared → Prop} (D : Sd w h₀ L m own g os s) (hm : OAt own d (tabA w P R kvs)) (hy : kvs.lookup x = some y)
    (h1 : ∀ u s', R u → Sd w h₀ L m own g os s' → Q (.str y u) s') (hs : subscripted slice false (.ref d) (.str x t) = operate [.ref d, .str x t] (getItem (.ref d) (.str x t))) : WP w A (subscriptTail value slice (.ref d) (.str x t)) Q s := by
  obtain ⟨kv, e1, e2, e3⟩ := D.tab hm
  have hkey : (strKind pw w).is x (.str x t) = true := beq_self_eq_true x
  rcases e3 x with ⟨y', u, q1, q2, q3⟩ | ⟨q1, q2⟩
  · rw [hy] at q1
    cases q1
    exact .of (tail_any e1.typeIs PySem.F.slot_dict_getitem.lookup (wpAny_getItem_of hkey e1.mapOf q2 (h1 u _ q3 (D.tok _))) hs)
  · rw [hy] at q1; cases q1
theorem t_tab {Q : Bool → Shared → Prop} (C : Fx w n A env₀ h₀ L path) (D : Sd w h₀ L m own g os s) (hm : OAt own d (tabA w P R kvs)) (hz : kvs.length ≤ 100000) (h : ∀ s', Sd w h₀ L m own g os s' → Q (!kvs.isEmpty) s') : WP w A (truthy (.ref d)) Q s := by
  obtain ⟨kv, e1, e2, e3⟩ := D.tab hm
  refine .of (wpAny_truthy_dict (D.notSys C hm) e1 (by omega) ?_)
  have : kv.isEmpty = kvs.isEmpty := by cases kv <;> cases kvs <;> simp_all
  rw [this]
  exact h _ (D.tok _)
/-- a new name in a table -/
theorem r_tset {kvs' : List (Str × Str)} {Q : Unit → Shared → Prop} (D : Sd w h₀ L m own g os s) (hp : OPut own d (tabA w P R kvs) (tabA w P R (kvs ++ [(x, y)])) own') (hn : kvs.lookup x = none) (hz : kvs.length ≤ 1000) (ht : P t) (hu : R u)
    (h : ∀ s', Sd w h₀ L m own' g os s' → Q () s') : WP w A (setItem (.ref d) (.str x t) (.str y u)) Q s := by
  obtain ⟨o, h1, es, k, rfl, h3, h4⟩ := D.get hp.at
  obtain ⟨kv, e1, e2, e3⟩ := D.tab hp.at
  obtain ⟨kv', p1, p2, p3, p4⟩ := h3.pairs
  have hkey : (strKind pw w).is x (.str x t) = true := beq_self_eq_true x
  have hnot : x ∉ kvs.map (·.1) := not_mem_of_lookup hn
  have hnk : ∀ e ∈ es, (strKind pw w).is x e.key = false := by
    intro e he
    obtain ⟨j, hj, rfl⟩ := List.mem_iff_getElem.mp he
    obtain ⟨x', y', t', u', q1, q2, _⟩ := h3.at hj
    rw [q1]
    show Value.isStrOf x (.str x' t') = false
    refine beq_false_of_ne fun e => hnot ?_
    rw [← e]
    exact List.mem_map_of_mem (f := (·.1)) (List.mem_of_getElem? q2)
  have hfind : es.toArray.findIdx? (fun e => (strKind pw w).is x e.key) = none := Array.findIdx?_eq_none_iff.mpr fun e he => hnk e (by simpa using he)
  have hto : ∀ h', h' = s.heap.update d (Obj.mapDictKeys (·.push (DE w x t (.str y u)))) → Sd w h₀ L m own' g os ⟨h', s.gens, s.drawn, s.toks + 1, s.os⟩ := fun h' eh => by
    refine D.set hp (o' := dictOf (es ++ [DE w x t (.str y u)]) (k + 1)) (eh ▸ Heap.SameBut.update ..) ?_ ⟨_, _, rfl, h3.append (.cons ht hu .nil), ?_⟩
    · rw [eh, Heap.get?_update_self _ h1 rfl]
      simp [Obj.mapDictKeys]
    · rw [List.map_append]
      exact List.nodup_append.mpr ⟨h4, by simp, fun a ha b hb => by
        simp only [List.map_cons, List.map_nil, List.mem_singleton] at hb
        subst hb
        exact fun e => hnot (e ▸ ha)⟩
  refine .of ?_
  unfold setItem
  refine wpAny_holding ?_
  refine wpAny_bind (wpAny_sequenceKey e1.typeIs (by decide) ?_)
  refine wpAny_bind (wpAny_callSpecial?_slot (name := Str.ofString "__setitem__") e1.typeIs PySem.F.slot_dict_setitem
    (wpAny_call_entry PySem.F.slot_dict_setitem e1.typeIs PySem.F.entry_dict_setitem ?_ (PySem.F.args_dict_setitem_3 _ _ _)))
  show wpAny _ _ (Builtin.Dict.notOrdered "__setitem__" ⟨[.ref d, .str x t, .str y u], []⟩ >>= _) _ _ s
  refine wpAny_bind (wpAny_notOrdered_dict e1.typeIs ?_)
  show wpAny _ _ (dictSet d (.str x t) (.str y u) >>= _) _ _ s
  refine wpAny_bind ?_
  unfold dictSet
  refine wpAny_holding ?_
  refine wpAny_bind ((strKind pw w).pyHash hkey ?_)
  unfold dictSetHashed
  refine wpAny_holding ?_
  refine wpAny_bind (wpAny_dictFind_of (s := { s with toks := s.toks + 1 }) hkey h1 rfl (fun e he => p3 e (by simpa using he)) ?_)
  rw [hfind]
  refine wpAny_bind (wpAny_rule (wpAny_updateDictKeys (s := { s with toks := s.toks + 1 }) h1 rfl (wpAny_pure ⟨.none, rfl, wpAny_pure (h _ (hto _ rfl))⟩) (hz := by
    rw [List.size_toArray, h3.len]; unfold sizeLine; omega)))
end
end Mine
end
section
open PySem PySem.W PyProof.Rows PySem.Calls
set_option Elab.async false
set_option maxRecDepth 100000
set_option maxHeartbeats 400000
set_option linter.unusedVariables false
namespace Mine
open PySem.W.X (Led)
/-- an iterator over a table's items -/
def itO (d : Addr) (i n ep : Nat) (ok ov : Value) : Obj := { cls := .type "dict_itemiterator", dict := none, data := .fields #[.none, .bool false, .ref d, .int i 0, .int n 0, .int ep 0, ok, ov], slots := #[] }
def itA (d : Addr) (i n ep : Nat) : AO := .any fun o => ∃ ok ov, o = itO d i n ep ok ov
theorem next_entry {prog : Program} {w : World} {A : Around} {E : Value → Shared → Prop} {s : Shared} {it d : Addr} {i n ep : Nat} {es : Array DictEntry} {od : Obj} {ok ov : Value} {e : DictEntry} {Q : Option Value → Shared → Prop}
    (hit : IsItemIter s.heap it d i n ep ok ov) (hod : s.heap.get? d = some od) (hdd : od.data = .dict es ep) (hn : es.size = n) (he : es[i]? = some e)
    (hQ : ∀ h', IsItemIterOut h' it d (i + 1) n ep e.key e.val s.heap.objs.size → h'.get? s.heap.objs.size = some { cls := .type "tuple", data := .seq #[e.key, e.val] } → h'.objs.size = s.heap.objs.size + 1 →
      (∀ b o, b ≠ it → s.heap.get? b = some o → h'.get? b = some o) → Q (some (.ref s.heap.objs.size)) { s with heap := h' }) :
    wpAny (model prog w) A (pyNext (.ref it)) Q E s := by
  obtain ⟨hp, g, dr, tk, os⟩ := s
  have hT : Shared.TypeIs ⟨hp, g, dr, tk, os⟩ (.ref it) "dict_itemiterator" := ⟨_, hit, rfl⟩
  obtain ⟨hlt, hev⟩ := Array.getElem?_eq_some_iff.mp he
  have hil : it < hp.objs.size := Heap.lt_size hit
  have own : Builtin.Dict_items.ownsTuple "dict_itemiterator" = true := by decide
  unfold pyNext
  refine wpAny_bind (wpAny_attempt (wpAny_callSpecial?_slot (name := Str.ofString "__next__") hT PySem.F.slot_dict_itemiterator_next
    (wpAny_call_entry PySem.F.slot_dict_itemiterator_next hT PySem.F.entry_dict_itemiterator_next ?_ (PySem.F.args_dict_itemiterator_next_1 _))))
  refine wpAny_bind (wpAny_pure (wpAny_bind (wpAny_bind ?_)))
  first | refine wpAny_bind (wpAny_typeNameOfWhole_itemiter hT (wpAny_pure ?_)) | refine wpAny_bind (wpAny_typeNameOf_itemiter hT (wpAny_pure ?_))
  refine wpAny_bind (wpAny_fieldsOf hit rfl ?_)
  simp only [own, if_true]
  show wpAny _ _ (if (Value.ref d == Value.none) = true then _ else _) _ _ _
  rw [if_neg (show ¬ ((Value.ref d == Value.none) = true) from Bool.false_ne_true)]
  refine wpAny_bind (wpAny_pure (wpAny_bind (wpAny_dictEntries hod hdd ?_)))
  rw [if_neg (by rw [hn]; simp)]
  refine wpAny_bind (wpAny_pure (wpAny_bind (wpAny_dictEpoch hod hdd ?_)))
  rw [if_neg (by simp)]
  refine wpAny_pure ?_
  simp only [show ¬ ((i : Int) < 0) from by omega, if_false, Int.toNat_natCast, he]
  refine wpAny_bind ?_
  first | refine wpAny_bind (wpAny_typeNameOfWhole_itemiter hT (wpAny_pure ?_)) | refine wpAny_bind (wpAny_typeNameOf_itemiter hT (wpAny_pure ?_))
  refine wpAny_bind (wpAny_isOneOf_itemiter hT ?_)
  show wpAny _ _ (setField (.ref it) 3 (rawInt ((i : Int) + 1)) >>= _) _ _ ⟨hp, g, dr, tk, os⟩
  refine wpAny_bind (wpAny_setField_rec hit (by simp) fun h₁ he₁ hs₁ => ?_)
  have hs₁ : Heap.SameBut it hp h₁ := hs₁
  have he₁ : IsItemIter h₁ it d (i + 1) n ep ok ov := by
    have q : ((i + 1 : Nat) : Int) = (i : Int) + 1 := by omega
    unfold IsItemIter; rw [q]; simpa [rawInt] using he₁
  have hT₁ : Shared.TypeIs ⟨h₁, g, dr, tk, os⟩ (.ref it) "dict_itemiterator" := ⟨_, he₁, rfl⟩
  refine wpAny_bind (wpAny_holding (wpAny_bind (wpAny_isOneOf_itemiter hT₁ (wpAny_bind (wpAny_isOneOf_itemiter hT₁ ?_)))))
  show wpAny _ _ (Builtin.Dict_items.pairFromOwner (.ref it) 6 e.key e.val) _ _ ⟨h₁, g, dr, tk, os⟩
  unfold Builtin.Dict_items.pairFromOwner
  refine wpAny_bind (wpAny_newTuple ?_)
  have hz₁ : h₁.objs.size = hp.objs.size := hs₁.1
  obtain ⟨h₂, e₂⟩ : ∃ h₂, h₂ = h₁.push { cls := .type "tuple", data := .seq #[e.key, e.val] } := ⟨_, rfl⟩
  have he₂ : IsItemIter h₂ it d (i + 1) n ep ok ov := by rw [e₂]; exact Heap.get?_push_of_some _ he₁
  have ht₂ : h₂.get? hp.objs.size = some { cls := .type "tuple", data := .seq #[e.key, e.val] } := by rw [e₂, ← hz₁]; exact Heap.get?_push_size _ rfl
  have hz₂ : h₂.objs.size = hp.objs.size + 1 := by rw [e₂, Heap.size_push, hz₁]
  have hk₂ : ∀ b o, b ≠ it → hp.get? b = some o → h₂.get? b = some o := fun b o hb q => by rw [e₂]; exact Heap.get?_push_of_some _ (hs₁.extBut b o hb q)
  rw [← e₂]
  show wpAny _ _ (Builtin.Dict_items.ownedTupleIsFree (.ref it) >>= _) _ _ ⟨h₂, g, dr, tk, os⟩
  rw [hz₁]
  refine wpAny_bind ?_
  unfold Builtin.Dict_items.ownedTupleIsFree
  refine wpAny_bind (wpAny_field he₂ rfl (x := .none) rfl (wpAny_pure ?_))
  simp only [if_true]
  refine wpAny_bind (wpAny_field he₂ rfl (x := ok) rfl (wpAny_bind (wpAny_field he₂ rfl (x := ov) rfl ?_)))
  refine wpAny_bind (wpAny_setField_rec he₂ (by simp) fun h₃ he₃ hs₃ => ?_)
  have hs₃ : Heap.SameBut it h₂ h₃ := hs₃
  have he₃ : IsItemIter h₃ it d (i + 1) n ep e.key ov := he₃
  refine wpAny_bind (wpAny_setField_rec he₃ (by simp) fun h₄ he₄ hs₄ => ?_)
  have hs₄ : Heap.SameBut it h₃ h₄ := hs₄
  have he₄ : IsItemIter h₄ it d (i + 1) n ep e.key e.val := he₄
  refine wpAny_bind (wpAny_setField_rec he₄ (by simp) fun h₅ he₅ hs₅ => ?_)
  have hs₅ : Heap.SameBut it h₄ h₅ := hs₅
  have he₅ : IsItemIterOut h₅ it d (i + 1) n ep e.key e.val hp.objs.size := he₅
  refine wpAny_bind (wpAny_setField_rec he₅ (by simp) fun h₆ he₆ hs₆ => ?_)
  have hs₆ : Heap.SameBut it h₅ h₆ := hs₆
  have he₆ : IsItemIterOut h₆ it d (i + 1) n ep e.key e.val hp.objs.size := he₆
  have up : ∀ b o, b ≠ it → h₂.get? b = some o → h₆.get? b = some o := fun b o hb q => hs₆.extBut _ _ hb (hs₅.extBut _ _ hb (hs₄.extBut _ _ hb (hs₃.extBut _ _ hb q)))
  refine wpAny_bind (wpAny_letGo (wpAny_pure (wpAny_pure ⟨_, rfl, wpAny_pure (hQ h₆ he₆ (up _ _ (Nat.ne_of_gt hil) ht₂) ?_ fun b o hb q => up b o hb (hk₂ b o hb q))⟩)))
  show h₆.objs.size = hp.objs.size + 1
  rw [hs₆.1, hs₅.1, hs₄.1, hs₃.1, hz₂]
section
variable {w : World} {n : Nat} {A : Around} {env env₀ : Env} {h₀ : Heap} {L : Addr} {m m' : List (Str × Value)} {own own' : List (Addr × AO)} {g : GP} {os : Osb} {s : Shared} {pos : Pos} {d l i : Addr} {ao ao' : AO} {v : Value} {path : List Nat} {x y : Str} {t u : Tok}
  {P R : Tok → Prop} {kvs : List (Str × Str)}
/-- one object of the ledger changed, new ones made -/
theorem Sd.setX {a : Addr} (D : Sd w h₀ L m own g os s) (hp : OPut own a ao ao' own') {h' : Heap} {o' : Obj} {t : Nat} (hs : ∀ b o, b ≠ a → s.heap.get? b = some o → h'.get? b = some o) (ho : h'.get? a = some o') (hi : ao'.Is w o') (ht : os.b ≤ t := by first | exact Sd.pos (by assumption) | exact Nat.le_succ_of_le (Sd.pos (by assumption))) :
    Sd w h₀ L m own' g os ⟨h', s.gens, s.drawn, t, s.os⟩ := by
  obtain ⟨n, l, ow⟩ := D.led
  obtain ⟨i, o, h1, _, h3⟩ := ow.put hp
  have z := l.nw (a, o) (List.mem_of_getElem? h1)
  have sp := PySem.W.X.pairwise_split h1
  have ord' := l.ord
  rw [sp, List.map_append, List.map_cons] at ord'
  have p1 : ∀ p ∈ n.take i, p.1 ≠ a := fun p hp => Nat.ne_of_gt ((List.pairwise_append.mp ord').2.2 p.1 (List.mem_map_of_mem hp) a (.head _))
  have p2 : ∀ p ∈ n.drop (i + 1), p.1 ≠ a := fun p hp => Nat.ne_of_lt ((List.pairwise_cons.mp (List.pairwise_append.mp ord').2.1).1 p.1 (List.mem_map_of_mem hp))
  have e : n.set i (a, o') = n.take i ++ (a, o') :: n.drop (i + 1) := by
    obtain ⟨hl, _⟩ := List.getElem?_eq_some_iff.mp h1
    exact List.set_eq_take_append_cons_drop.trans (if_pos hl)
  have N := l.nw
  rw [sp] at N
  refine ⟨⟨_, ⟨LCg.fr_but l.fr (fun b o hb q => hs b o (by simpa using hb) q) (Ne.symm z.2.1) z.2.2, ?_, ?_⟩, h3 o' hi⟩, D.gens, D.osq, ht⟩
  · rw [e]
    intro p hp
    rcases List.mem_append.mp hp with q | q
    · have y := N p (List.mem_append_left _ q)
      exact ⟨hs _ _ (p1 p q) y.1, y.2⟩
    · rcases List.mem_cons.mp q with rfl | q
      · exact ⟨ho, z.2.1, z.2.2⟩
      · have y := N p (List.mem_append_right _ (.tail _ q))
        exact ⟨hs _ _ (p2 p q) y.1, y.2⟩
  · rw [e, List.map_append, List.map_cons]; exact ord'
abbrev vwObj (d : Addr) : Obj := { cls := .type "dict_items", data := .fields #[.ref d] }
theorem r_titems {Q : Value → Shared → Prop} (C : Fx w n A env₀ h₀ L path) (D : Sd w h₀ L m own g os s) (hm : OAt own d (tabA w P R kvs)) (h : ∀ b s', Sd w h₀ L m ((b, .raw (vwObj d)) :: own) g os s' → Q (.ref b) s') : WP w A (call (.builtin "dict.items") [.ref d]) Q s := by
  obtain ⟨kv, e1, e2, e3⟩ := D.tab hm
  exact .of (call_meetsIn PySem.F.slot_dict_items e1.typeIs PySem.F.entry_dict_items (PySem.F.args_dict_items_1 _) (meets_dict_items (strKind pw w) d (D.notSys C hm)) ⟨⟨_, e1⟩, h _ _ (D.push (ao := .raw (vwObj d)) rfl rfl)⟩)
theorem dictAt_of {es : List DictEntry} {ep : Nat} (D : Sd w h₀ L m own g os s) (hm : OAt own d (.raw (dictOf es ep))) (hE : TkE w P R es kvs) (hnd : (kvs.map (·.1)).Nodup) : ∃ kv : List (Str × Value), s.heap.DictAt (strKind pw w) d kv ep ∧ kv.length = es.length := by
  obtain ⟨o, h1, h2⟩ := D.get hm
  have h2 : o = dictOf es ep := h2
  subst h2
  obtain ⟨kv, p1, p2, p3, p4⟩ := hE.pairs
  refine ⟨kv, ⟨_, es.toArray, h1, ⟨rfl, rfl, rfl⟩, rfl, fun e he => p3 e (by simpa using he), by simpa using p1, by rw [p2]; exact hnd⟩, ?_⟩
  have := congrArg List.length p2
  rw [hE.len]
  simpa using this
/-- for k, v in an iterator over a table's items -/
inductive ForIt (w : World) (A : Around) (h₀ : Heap) (L : Addr) (g : GP) (os : Osb) (env : Env) (xk xv : Str) (body : List Stmt) (Q : Flow → Shared → Prop) (it : Value) (s₂ : Shared) : Prop
  | mk (I d : Addr) (es : List DictEntry) (ep : Nat) (J : Nat → List (Str × Value) → List (Addr × AO) → Prop) (m : List (Str × Value)) (own : List (Addr × AO))
    (e : it = .ref I) (D : Sd w h₀ L m ((I, itA d 0 es.length ep) :: own) g os s₂) (h0 : J 0 m own) (hneed : ∀ i m own, J i m own → OAt own d (.raw (dictOf es ep))) (hE : ∃ (P R : Tok → Prop) (kvs : List (Str × Str)), TkE w P R es kvs ∧ (kvs.map (·.1)).Nodup)
    (step : ∀ i e m own s, es[i]? = some e → J i m own → Sd w h₀ L m ((I, itA d (i + 1) es.length ep) :: own) g os s →
      WP w A (storeName env xk e.key) (fun _ s' => WP w A (storeName env xv e.val) (fun _ s' => WP w A (execs body env) (fun fl s'' => match fl with
        | .next | .cont => ∃ m' own', J (i + 1) m' own' ∧ Sd w h₀ L m' ((I, itA d (i + 1) es.length ep) :: own') g os s''
        | .brk => Q .next s''
        | .ret v => Q (.ret v) s'') s') s') s)
    (fin : ∀ m own s, J es.length m own → Sd w h₀ L m own g os s → Q .next s) : ForIt w A h₀ L g os env xk xv body Q it s₂
theorem r_iterI {b : Addr} {es : List DictEntry} {ep : Nat} {Q : Value → Shared → Prop} (D : Sd w h₀ L m own g os s) (hb : OAt own b (.raw (vwObj d))) (hm : OAt own d (.raw (dictOf es ep))) (hE : TkE w P R es kvs) (hnd : (kvs.map (·.1)).Nodup)
    (h : ∀ I s', Sd w h₀ L m ((I, itA d 0 es.length ep) :: own) g os s' → Q (.ref I) s') : WP w A (pyIter (.ref b)) Q s := by
  obtain ⟨kv, e1, e2⟩ := dictAt_of D hm hE hnd
  obtain ⟨o, h1, h2⟩ := D.get hb
  have h2 : o = vwObj d := h2
  subst h2
  refine .of (wpAny_pyIter_items (knd := strKind pw w) ⟨_, h1, rfl, rfl⟩ e1 ?_)
  rw [e2]
  exact h _ _ (D.push (ao := itA d 0 es.length ep) rfl ⟨.none, .none, rfl⟩)
theorem x_forI {xk xv : Str} {pk pv pt : Pos} {x1 : Nat} {iter : PySem.Expr} {body : List Stmt} {Q : Flow → Shared → Prop} (C : Fx w n A env₀ h₀ L path) (_D : Sd w h₀ L m own g os s)
    (h : WP w A (eval iter env) (fun xv₁ s₁ => WP w A (pyIter xv₁) (fun it s₂ => ForIt w A h₀ L g os env xk xv body Q it s₂) s₁) s)
    (hs : ∀ v, foldedSetIterable iter env v = pure v) : WP w A (exec (.For (.Tuple [.Name xk pk, .Name xv pv] x1 pt) iter body [] pos) env) Q s := by
  refine .of (wpAny_For (wpAny_mono h.out (fun xw s₁ h₁ => wpAny_mono h₁.out (fun it s₂ h₂ => ?_) fun _ _ e => e.elim) fun _ _ e => e.elim) hs)
  obtain ⟨I, d, es, ep, J, m, own, rfl, D, h0, hd, ⟨P, R, kvs, hE, hnd⟩, step, fin⟩ := h₂
  refine codeAny_forLoop_any (fun k s' => ∃ i m own, i ≤ es.length ∧ k = es.length - i ∧ J i m own ∧ Sd w h₀ L m ((I, itA d i es.length ep) :: own) g os s') ?_ es.length ⟨0, m, own, Nat.zero_le _, rfl, h0, D⟩
  rintro k s ⟨i, m, own, hi, rfl, hJ, D⟩
  obtain ⟨oi, i1, ok, ov, i2⟩ := D.get .head
  subst i2
  have hod := hd _ _ _ hJ
  obtain ⟨od, d1, d2⟩ := D.get (.tail hod)
  have d2 : od = dictOf es ep := d2
  subst d2
  by_cases hlt : i < es.length
  · have he : es.toArray[i]? = some es[i] := by simp [hlt]
    refine next_entry (n := es.length) i1 d1 rfl (by simp) he fun h' ho ht hz hk => ?_
    have D1 := D.setX (ao' := .raw { cls := .type "dict_itemiterator", dict := none, data := .fields #[rawInt s.heap.objs.size, .bool false, .ref d, .int ((i + 1 : Nat) : Int) 0, .int es.length 0, .int ep 0, es[i].key, es[i].val], slots := #[] }) .head (t := s.toks) hk ho rfl
    refine wpAny_letOwnedTupleGo_items ho fun h₂ he₂ hs₂ => ?_
    have D2 := D1.set (ao' := itA d (i + 1) es.length ep) .head (t := s.toks) hs₂ he₂ ⟨_, _, rfl⟩
    have hI : I < s.heap.objs.size := Heap.lt_size i1
    have ht₂ : h₂.IsTuple s.heap.objs.size #[es[i].key, es[i].val] := ⟨_, (hs₂.2 _ (Nat.ne_of_gt hI)).trans ht, rfl, _, rfl⟩
    refine wpAny_assign_Tuple C.hand ht₂ rfl rfl fun h₃ hx₃ => ?_
    have D3 := D2.grow (h' := h₃) (t := s.toks) fun b o q => hx₃ b o (Nat.ne_of_lt (Heap.lt_size q)) q
    show wpAny _ _ (do holding [es[i].val] (assign (.Name xk pk) env es[i].key); do holding [] (assign (.Name xv pv) env es[i].val); pure ()) _ _ _
    refine wpAny_bind (wpAny_holding (wpAny_assign_Name (wpAny_mono (step i es[i] m own _ (by simp [hlt]) hJ D3).any (fun _ s₄ h₄ => ?_) fun _ _ e => e)))
    refine wpAny_bind (wpAny_holding (wpAny_assign_Name (wpAny_mono h₄.any (fun _ s₅ h₅ => wpAny_pure ?_) fun _ _ e => e)))
    refine wpAny_mono h₅.any (fun fl s₆ h₆ => ?_) fun _ _ e => e
    cases fl with
    | next => obtain ⟨m', own', j, D'⟩ := h₆; exact ⟨es.length - (i + 1), by omega, i + 1, m', own', hlt, rfl, j, D'⟩
    | cont => obtain ⟨m', own', j, D'⟩ := h₆; exact ⟨es.length - (i + 1), by omega, i + 1, m', own', hlt, rfl, j, D'⟩
    | brk => exact h₆
    | ret v => exact h₆
  · have hin : i = es.length := by omega
    subst hin
    obtain ⟨kv, e1, e2⟩ := dictAt_of D (.tail hod) hE hnd
    refine wpAny_pyNext_items_end (knd := strKind pw w) (kvs := kv) C.hand (by rw [e2]; exact i1) e1 (by simp [e2]) fun h' he => ?_
    exact wpAny_execs_nil (fin m own _ hJ (D.lose .head he))
end
end Mine
end
section
open PySem PySem.W PyProof.Rows PySem.Calls
set_option Elab.async false
set_option maxRecDepth 100000
set_option maxHeartbeats 400000
set_option linter.unusedVariables false
namespace Mine
open PySem.W.X (Led)
/-- values that are these texts, their tokens as told -/
inductive StrsTk (P : Tok → Prop) : List Value → List Str → Prop
  | nil : StrsTk P [] []
  | cons {y t vs ys} : P t → StrsTk P vs ys → StrsTk P (.str y t :: vs) (y :: ys)
theorem StrsTk.are {P vs ys} (h : StrsTk P vs ys) : StrsAre vs ys := by
  induction h with
  | nil => exact .nil
  | cons _ _ ih => exact .cons _ _ ih
theorem StrsTk.append {P vs ys vs' ys'} (h : StrsTk P vs ys) (h' : StrsTk P vs' ys') : StrsTk P (vs ++ vs') (ys ++ ys') := by
  induction h with
  | nil => exact h'
  | cons p _ ih => exact .cons p ih
theorem StrsTk.mono {P P' : Tok → Prop} {vs ys} (h : StrsTk P vs ys) (k : ∀ t, P t → P' t) : StrsTk P' vs ys := by
  induction h with
  | nil => exact .nil
  | cons p _ ih => exact .cons (k _ p) ih
theorem StrsTk.at {P vs ys} (h : StrsTk P vs ys) : ∀ {i : Nat} {v : Value}, vs[i]? = some v → ∃ y t, v = .str y t ∧ ys[i]? = some y ∧ P t := by
  induction h with
  | nil => intro i v h; simp at h
  | cons p _ ih =>
    intro i v h
    cases i with
    | zero => exact ⟨_, _, by simpa using h.symm, rfl, p⟩
    | succ i => simpa using ih (by simpa using h)
theorem StrsTk.len {P vs ys} (h : StrsTk P vs ys) : vs.length = ys.length := by
  induction h with
  | nil => rfl
  | cons _ _ ih => simp only [List.length_cons, ih]
theorem StrsTk.values {P vs ys} (h : StrsTk P vs ys) : ∃ l : List (Str × Tok), vs = strValues l ∧ l.map (·.1) = ys ∧ ∀ p ∈ l, P p.2 := by
  induction h with
  | nil => exact ⟨[], rfl, rfl, fun _ h => by cases h⟩
  | @cons y t vs ys p _ ih =>
    obtain ⟨l, h1, h2, h3⟩ := ih
    exact ⟨(y, t) :: l, by rw [h1]; rfl, by rw [← h2]; rfl, fun q hq => by
      rcases List.mem_cons.mp hq with rfl | hq
      · exact p
      · exact h3 q hq⟩
section
variable {w : World} {n : Nat} {A : Around} {env env₀ : Env} {h₀ : Heap} {L : Addr} {m m' : List (Str × Value)} {own own' : List (Addr × AO)} {g : GP} {os os' : Osb} {s : Shared} {pos : Pos} {d l i : Addr} {ao ao' : AO} {v : Value} {path : List Nat} {x y z : Str} {t u : Tok}
/-- the bound raised -/
theorem Sd.raise {b : Nat} (D : Sd w h₀ L m own g os s) (hb : b ≤ s.toks) : Sd w h₀ L m own g ⟨os.os, b, os.dr⟩ s := ⟨D.led, D.gens, D.osq, hb⟩
theorem Sd.low (D : Sd w h₀ L m own g os' s) (h1 : os'.os = os.os ∧ os'.dr = os.dr) (h2 : os.b ≤ os'.b) : Sd w h₀ L m own g os s := ⟨D.led, D.gens, ⟨D.osq.1.trans h1.1, D.osq.2.trans h1.2⟩, Nat.le_trans h2 D.pos⟩
/-- a written text, whose token becomes the bound -/
theorem r_strR {k : Nat} {Q : Value → Shared → Prop} (D : Sd w h₀ L m own g os s) (h : ∀ t s', os.b ≤ t → Sd w h₀ L m own g ⟨os.os, t + 1, os.dr⟩ s' → Q (.str x t) s') : WP w A (eval (.Constant (.str x) k pos) env) Q s :=
  .of (wpAny_Constant_str (h _ _ D.pos ⟨(D.tok (s.toks + 1)).led, D.gens, D.osq, Nat.le_refl _⟩))
theorem r_addsT {Q : Value → Shared → Prop} (D : Sd w h₀ L m own g os s) (hx : (x.length == 0) = false) (hy : (y.length == 0) = false) (hz : x.length + y.length ≤ sizeLine) (h : ∀ t s', os.b ≤ t → Sd w h₀ L m own g os s' → Q (.str (x ++ y) t) s') : WP w A (binaryOp .Add (.str x t) (.str y u)) Q s := by
  refine .of (PySem.P.add_str ?_)
  rw [hx, hy]
  exact ⟨by rw [Str.length_append]; exact hz, h _ _ D.pos (D.tok _)⟩
theorem r_smeth {name : Str} {id : String} {pl : Sem Bool} {Q : Value × List Value → Shared → Prop} (slot : Slot "str" name id) (ty : typeOf (.builtin id) = pure (.type "method_descriptor")) (h : Q (.builtin id, [.str x t]) s) : WP w A (getMethod (.str x t) name pl) Q s :=
  .of (GM.of _ (typeIs_str s x t) slot ty (fun _ e => nomatch e) h)
theorem r_sreplace {pl : Sem Bool} {Q : Value × List Value → Shared → Prop} (h : Q (.builtin "str.replace", [.str x t]) s) : WP w A (getMethod (.str x t) "replace" pl) Q s := r_smeth PySem.F.slot_str_replace PySem.F.type_str_replace h
theorem r_sjoin {pl : Sem Bool} {Q : Value × List Value → Shared → Prop} (h : Q (.builtin "str.join", [.str x t]) s) : WP w A (getMethod (.str x t) "join" pl) Q s := r_smeth PySem.F.slot_str_join PySem.F.type_str_join h
theorem r_ssplit {pl : Sem Bool} {Q : Value × List Value → Shared → Prop} (h : Q (.builtin "str.split", [.str x t]) s) : WP w A (getMethod (.str x t) "split" pl) Q s := r_smeth PySem.F.slot_str_split PySem.F.type_str_split h
theorem r_replace {r : Tok} {Q : Value → Shared → Prop} (D : Sd w h₀ L m own g os s) (hu : u ≠ 0) (hv : r ≠ 0) (huv : u ≠ r) (hyz : (y == z) = false) (hb : x.length + (x.length + 1) * z.length ≤ 16777216)
    (h : ∀ t' s', Sd w h₀ L m own g os s' → Q (.str (Txt.replace x y z) t') s') : WP w A (call (.builtin "str.replace") [.str x t, .str y u, .str z r]) Q s :=
  .of (wpAny_with_toks (Nat.le_refl _) (SC.replace hu hv huv hyz hb fun t' k hle => h _ _ (D.tok k (Nat.le_trans D.pos hle))))
theorem x_repl {a b : Str} {k1 k2 : Nat} {p1 p2 : Pos} {Q : Value → Shared → Prop} (D : Sd w h₀ L m own g os s) (hb1 : 1 ≤ os.b) (hyz : (a == b) = false) (hb : x.length + (x.length + 1) * b.length ≤ 16777216)
    (h : ∀ t' s', Sd w h₀ L m own g os s' → Q (.str (Txt.replace x a b) t') s')
    (q1 : starEach [.Constant (.str a) k1 p1, .Constant (.str b) k2 p2] env = (false, eval (.Constant (.str a) k1 p1) env) :: starEach [.Constant (.str b) k2 p2] env) (q2 : starEach [.Constant (.str b) k2 p2] env = (false, eval (.Constant (.str b) k2 p2) env) :: starEach [] env) :
    WP w A (callWith pos (.builtin "str.replace") [.str x t] (backTo pos (starEach [.Constant (.str a) k1 p1, .Constant (.str b) k2 p2] env)) []) Q s := by
  have hp := D.pos
  refine x_b12 (.of (wpAny_Constant_str ?_)) q1 q2
  refine .of (wpAny_Constant_str ?_)
  exact r_replace (D.tok (s.toks + 1 + 1)) (show s.toks ≠ 0 by omega) (show s.toks + 1 ≠ 0 by omega) (show s.toks ≠ s.toks + 1 by omega) hyz hb h
/-- sep.join of a list of texts; T: what their tokens and every new one have -/
theorem r_join {P : List Value → Prop} {T : Tok → Prop} {ws : List Str} {Q : Value → Shared → Prop} (D : Sd w h₀ L m own g os s) (hm : OAt own l ao) (hl : ListAs w ao P) (hP : ∀ vs, P vs → StrsTk T vs ws) (hT : ∀ t, os.b ≤ t → T t) (hok : JoinOk x ws = true)
    (h : ∀ t' s', T t' → Sd w h₀ L m own g os s' → Q (.str (Txt.join x ws) t') s') : WP w A (call (.builtin "str.join") [.str x t, .ref l]) Q s := by
  obtain ⟨vs, n, e1, e2, e3⟩ := D.isList hm hl
  obtain ⟨ls, rfl, rfl, hls⟩ := (hP vs e3).values
  have hok' := hok
  unfold JoinOk at hok
  rw [Bool.not_eq_true'] at hok
  have hz := joinFit_length hok
  refine .of (call_meets PySem.F.slot_str_join (typeIs_str _ _ _) PySem.F.entry_str_join (PySem.F.args_str_join_2 _ _) (meets_str_join_list x t l ls hok) ⟨e2, ?_⟩)
  match ls, hls, hz, h with
  | [], _, hz, h => exact ⟨hz, h _ _ (hT _ D.pos) (D.tok _)⟩
  | [p], hls, _, h => exact h p.2 s (hls p (.head _)) D
  | _ :: _ :: _, _, hz, h => exact ⟨hz, h _ _ (hT _ D.pos) (D.tok _)⟩
theorem r_split {Q : Value → Shared → Prop} (D : Sd w h₀ L m own g os s) (hy : (y.length == 0) = false) (hz : x.length + 2 ≤ sizeLine) (h : ∀ b s', Sd w h₀ L m ((b, .strs (Txt.split x y)) :: own) g os s' → Q (.ref b) s') : WP w A (call (.builtin "str.split") [.str x t, .str y u]) Q s := by
  obtain ⟨news, ld, ow⟩ := D.led
  refine .of (wpAny_with_toks (Nat.le_refl _) (KSpl.split1 ld.fr ld.nw hy (fun D' ls h' k e1 e2 F N lt hle => h _ _ (Sd.new ld ow D.gens D.osq F N lt ⟨strValues ls, 0, rfl, e1 ▸ e2⟩ (Nat.le_trans D.pos hle))) hz))
theorem r_ord {c : Nat} {Q : Value → Shared → Prop} (D : Sd w h₀ L m own g os s) (h : ∀ t s', Sd w h₀ L m own g os s' → Q (.int c t) s') : WP w A (call (.builtin "ord") [.str ⟨#[c]⟩ t]) Q s := .of (P.ord_of_char (h _ _ (D.tok _)))
theorem r_strI {a : Int} {Q : Value → Shared → Prop} (D : Sd w h₀ L m own g os s) (ha : a.natAbs.log2 < 1920) (h : ∀ t s', os.b ≤ t → Sd w h₀ L m own g os s' → Q (.str (toString a) t) s') : WP w A (call (.type "str") [.int a t]) Q s := .of (P.str_of_int ha (h _ _ D.pos (D.tok _)))
end
end Mine
end
section
open PySem PySem.W PyProof.Rows PySem.Calls
set_option Elab.async false
set_option maxRecDepth 100000
set_option maxHeartbeats 400000
set_option linter.unusedVariables false
namespace Mine
/-- the pattern of quote, as the machine reads it -/
def qcode : Array Nat := #[14, 17, 4, 1, 1, 21, 9, 0, 604043296, 1, 0, 0, 0, 0, 0, 8, 4, 0, 13, 14, 21, 9, 0, 604043296, 1, 0, 0, 0, 0, 0, 8, 4, 0, 1]
def safeN (c : Nat) : Bool := (decide (c < 256) && ((#[0, 604043296, 1, 0, 0, 0, 0, 0] : Array Nat).getD (c / 32) 0).testBit (c % 32)) || Sre.isWord c
theorem inSet5 (c : Nat) (seen : Sre.Seen) : ∃ seen', Sre.inSet qcode c qcode.size 5 true seen = .ok (!safeN c, seen') := by
  have e1 : qcode.size = 34 := rfl
  have hw : ∀ k : Fin 8, qcode.getD (6 + (1 + k.val)) 0 = (#[0, 604043296, 1, 0, 0, 0, 0, 0] : Array Nat).getD k.val 0 := by decide +kernel
  rw [e1]
  unfold Sre.inSet
  show ∃ seen', Sre.inSet qcode c 33 (5 + 1) (!true) (seen.add 21) = _
  unfold Sre.inSet
  show ∃ seen', (if (decide (c < 256) && (qcode.getD (6 + (1 + c / 32)) 0).testBit (c % 32)) = true then _ else Sre.inSet qcode c 32 (6 + 9) (!true) _) = _
  have e2 : (decide (c < 256) && (qcode.getD (6 + (1 + c / 32)) 0).testBit (c % 32)) = (decide (c < 256) && ((#[0, 604043296, 1, 0, 0, 0, 0, 0] : Array Nat).getD (c / 32) 0).testBit (c % 32)) := by
    by_cases h : c < 256
    · rw [hw ⟨c / 32, by omega⟩]
    · simp [h]
  rw [e2]
  unfold safeN
  cases h : (decide (c < 256) && ((#[0, 604043296, 1, 0, 0, 0, 0, 0] : Array Nat).getD (c / 32) 0).testBit (c % 32))
  · rw [if_neg Bool.false_ne_true]
    unfold Sre.inSet
    show ∃ seen', ((Sre.category 4 c).bind fun b => if b = true then Except.ok (!true, _) else Sre.inSet qcode c 31 (15 + 2) (!true) _) = _
    have e3 : Sre.category 4 c = .ok (Sre.isWord c) := by
      show (Except.ok (Sre.isWord c) : Except String Bool).map (· != false) = _
      cases Sre.isWord c <;> rfl
    rw [e3]
    cases Sre.isWord c
    · show ∃ seen', Sre.inSet qcode c 31 17 (!true) _ = _
      unfold Sre.inSet
      exact ⟨_, rfl⟩
    · exact ⟨_, rfl⟩
  · exact ⟨_, rfl⟩
theorem inSet20 (c : Nat) (seen : Sre.Seen) : ∃ seen', Sre.inSet qcode c qcode.size 20 true seen = .ok (!safeN c, seen') := by
  have e1 : qcode.size = 34 := rfl
  have hw : ∀ k : Fin 8, qcode.getD (21 + (1 + k.val)) 0 = (#[0, 604043296, 1, 0, 0, 0, 0, 0] : Array Nat).getD k.val 0 := by decide +kernel
  rw [e1]
  unfold Sre.inSet
  show ∃ seen', Sre.inSet qcode c 33 (20 + 1) (!true) (seen.add 21) = _
  unfold Sre.inSet
  show ∃ seen', (if (decide (c < 256) && (qcode.getD (21 + (1 + c / 32)) 0).testBit (c % 32)) = true then _ else Sre.inSet qcode c 32 (21 + 9) (!true) _) = _
  have e2 : (decide (c < 256) && (qcode.getD (21 + (1 + c / 32)) 0).testBit (c % 32)) = (decide (c < 256) && ((#[0, 604043296, 1, 0, 0, 0, 0, 0] : Array Nat).getD (c / 32) 0).testBit (c % 32)) := by
    by_cases h : c < 256
    · rw [hw ⟨c / 32, by omega⟩]
    · simp [h]
  rw [e2]
  unfold safeN
  cases h : (decide (c < 256) && ((#[0, 604043296, 1, 0, 0, 0, 0, 0] : Array Nat).getD (c / 32) 0).testBit (c % 32))
  · rw [if_neg Bool.false_ne_true]
    unfold Sre.inSet
    show ∃ seen', ((Sre.category 4 c).bind fun b => if b = true then Except.ok (!true, _) else Sre.inSet qcode c 31 (30 + 2) (!true) _) = _
    have e3 : Sre.category 4 c = .ok (Sre.isWord c) := by
      show (Except.ok (Sre.isWord c) : Except String Bool).map (· != false) = _
      cases Sre.isWord c <;> rfl
    rw [e3]
    cases Sre.isWord c
    · show ∃ seen', Sre.inSet qcode c 31 32 (!true) _ = _
      unfold Sre.inSet
      exact ⟨_, rfl⟩
    · exact ⟨_, rfl⟩
  · exact ⟨_, rfl⟩
theorem safeN_of_ge {c : Nat} (h : 128 ≤ c) : safeN c = false := by
  by_cases h2 : c < 256
  · have : ∀ d : Fin 256, 128 ≤ d.val → safeN d.val = false := by decide +kernel
    exact this ⟨c, h2⟩ h
  · unfold safeN Sre.isWord Sre.isDigit
    simp
    omega
/-- the search's own machine -/
def qm (x : Str) : Sre.M := Sre.forSearch qcode x.cps 0 0 x.cps.size false
theorem admit_spec (m : Sre.M) (hc : m.code = qcode) : ∀ (fuel s : Nat) (seen : Sre.Seen), m.lim ≤ s + fuel →
    (∃ seen', m.admitted fuel s seen = .ok (none, seen') ∧ ∀ i, s ≤ i → i < m.lim → safeN (m.text.getD i 0) = true) ∨ (∃ i seen', m.admitted fuel s seen = .ok (some i, seen') ∧ i < m.lim ∧ safeN (m.text.getD i 0) = false)
  | 0, s, seen, h => .inl ⟨seen, rfl, fun i h1 h2 => by omega⟩
  | fuel + 1, s, seen, h => by
    unfold Sre.M.admitted
    by_cases hs : s ≥ m.lim
    · rw [if_pos hs]
      exact .inl ⟨seen, rfl, fun i h1 h2 => by omega⟩
    · rw [if_neg hs, hc]
      obtain ⟨seen', e⟩ := inSet5 (m.text.getD s 0) seen
      rw [e]
      cases hb : safeN (m.text.getD s 0)
      · exact .inr ⟨s, seen', rfl, by omega, hb⟩
      · show (∃ seen'', m.admitted fuel (s + 1) seen' = _ ∧ _) ∨ (∃ i seen'', m.admitted fuel (s + 1) seen' = _ ∧ _)
        rcases admit_spec m hc fuel (s + 1) seen' (by omega) with ⟨z, h1, h2⟩ | ⟨i, z, h1, h2⟩
        · refine .inl ⟨z, h1, fun i h3 h4 => ?_⟩
          by_cases e : i = s
          · rw [e]; exact hb
          · exact h2 i (by omega) h4
        · exact .inr ⟨i, z, h1, h2⟩
def m0 (x : Str) : Sre.M := { code := qcode, text := x.cps, lim := x.cps.size, start := 0, lastStart := x.cps.size, pc := 18, pos := 0, handed := 0, marks := #[], seen := ({} : Sre.Seen).add 14, mustAdvance := false }
theorem qm_eq (x : Str) (hx : x.cps.size ≠ 0) : qm x = (m0 x).attemptFrom 0 true := by
  have h : ∀ b : Bool, (decide (0 > x.cps.size) || decide (x.cps.size - 0 < 1)) = b → qm x = if b = true then (({ m0 x with lastStart := 0 } : Sre.M).say false) else (m0 x).attemptFrom 0 true := by
    intro b hb
    subst hb
    rfl
  have := h false (by rw [decide_eq_false (by omega), decide_eq_false (by omega)]; rfl)
  rw [this, if_neg Bool.false_ne_true]
theorem run_said (m : Sre.M) (yes : Bool) (hf : m.frames = []) (ho : m.outcome = none) : ((m.say yes).runFor 4).outcome = some (if yes then .matched else .failed) := by
  obtain ⟨_, _, _, _, _, _, _, _, _, _, _, _, _, _, _, _, fr, _, _, _, oc⟩ := m
  simp only at hf ho
  subst hf
  subst ho
  rfl
theorem run_found (m : Sre.M) (seen' seen2 : Sre.Seen) (s : Nat) (hc : m.code = qcode) (hp : m.pc = 18) (hf : m.frames = []) (ho : m.outcome = none) (ha : m.answer = none) (hm : m.mustAdvance = false) (hw : m.wholeText = false) (hwt : m.weight = 0)
    (hl : s < m.lim) (hs : Sre.accepts qcode 18 (m.text.getD s 0) (m.seen.add 13) = .ok (true, seen2)) : ((m.attemptAt s true).runFor 4).outcome = some .matched := by
  obtain ⟨code, text, lim, start, lastStart, wholeText, mustAdvance, pc, pos, handed, outermost, marks, lastmark, lastindex, loops, inner, frames, weight, answer, seen, outcome⟩ := m
  simp only at hc hp hf ho ha hm hw hwt hl hs
  subst hc hp hf ho ha hm hw hwt
  have e1 : Sre.M.attemptAt ⟨qcode, text, lim, start, lastStart, false, false, 18, pos, handed, outermost, marks, lastmark, lastindex, loops, inner, [], 0, none, seen, none⟩ s true =
    ⟨qcode, text, lim, s, lastStart, false, false, 18, s, s, true, marks, -1, -1, loops, inner, [{ wait := .nextStart, pc := 18, pos := s, outermost := true }], 1, none, seen, none⟩ := rfl
  rw [e1]
  have e2 : Sre.M.step ⟨qcode, text, lim, s, lastStart, false, false, 18, s, s, true, marks, -1, -1, loops, inner, [{ wait := .nextStart, pc := 18, pos := s, outermost := true }], 1, none, seen, none⟩ =
    ⟨qcode, text, lim, s, lastStart, false, false, 33, s + 1, s, true, marks, -1, -1, loops, inner, [{ wait := .nextStart, pc := 18, pos := s, outermost := true }], 1, none, seen2, none⟩ := by
    show (if s ≥ lim then _ else match Sre.accepts qcode 18 (text.getD s 0) (seen.add 13) with
      | .error why => _
      | .ok (false, seen) => _
      | .ok (true, seen) => _ : Sre.M) = _
    rw [if_neg (by omega), hs]
    rfl
  show (Sre.M.runFor 3 (Sre.M.step _)).outcome = _
  rw [e2]
  rfl
theorem acc18 (c : Nat) (seen : Sre.Seen) : ∃ seen', Sre.accepts qcode 18 c seen = .ok (!safeN c, seen') := by
  obtain ⟨z, e⟩ := inSet20 c seen
  exact ⟨z, e⟩
theorem qm_run (x : Str) (hx : x.cps.size ≠ 0) : ((∀ c ∈ x.cps.toList, safeN c = true) ∧ ((qm x).runFor 4).outcome = some .failed) ∨ ((∃ c ∈ x.cps.toList, safeN c = false) ∧ ((qm x).runFor 4).outcome = some .matched) := by
  rw [qm_eq x hx]
  have hget : ∀ i, i < x.cps.size → x.cps.getD i 0 = x.cps[i]! := fun i hi => by simp [hi]
  unfold Sre.M.attemptFrom
  rw [show (m0 x).hasFirstSet = true from by show Sre.M.hasFirstSet _ = true; rfl, show (!true) = false from rfl, if_neg Bool.false_ne_true]
  rcases admit_spec (m0 x) rfl ((m0 x).lim + 1 - 0) 0 (m0 x).seen (by omega) with ⟨z, h1, h2⟩ | ⟨i, z, h1, h2, h3⟩
  · refine .inl ⟨fun c hc => ?_, ?_⟩
    · obtain ⟨i, hi, e⟩ := List.mem_iff_getElem.mp hc
      have hi' : i < x.cps.size := by simpa using hi
      have := h2 i (Nat.zero_le _) hi'
      have e2 : x.cps.getD i 0 = c := by rw [← e]; simp [hi']
      show safeN c = true
      rw [← e2]; exact this
    · rw [h1]
      exact run_said _ false rfl rfl
  · refine .inr ⟨⟨x.cps.getD i 0, ?_, h3⟩, ?_⟩
    · have hi' : i < x.cps.size := h2
      have e2 : x.cps.getD i 0 = x.cps[i] := by simp [hi']
      rw [e2]
      exact Array.mem_toList_iff.mpr (Array.getElem_mem hi')
    · rw [h1]
      obtain ⟨z2, e⟩ := acc18 ((m0 x).text.getD i 0) (z.add 13)
      rw [h3] at e
      exact run_found { m0 x with mustAdvance := false, seen := z } z z2 i rfl rfl rfl rfl rfl rfl rfl rfl h2 e
end Mine
end
section
open PySem PySem.W PyProof.Rows PySem.Calls
set_option Elab.async false
set_option maxRecDepth 100000
set_option maxHeartbeats 400000
set_option linter.unusedVariables false
namespace Mine
open PySem.W.X (Led)
def qsig : Manifest.Signature := (Manifest.signature? "re.Pattern.search").get (by decide +kernel)
theorem qsig_eq : Manifest.signature? "re.Pattern.search" = some qsig := (Option.some_get _).symm
theorem qkind : builtinKind "re.Pattern.search" = some .method := by decide +kernel
theorem chk_search {M : Model} {A : Around} {E : Value → Shared → Prop} {s : Shared} {Q : Unit → Shared → Prop} {x : Str} {t : Tok} {o : Obj} (ho : s.heap.get? 74 = some o) (hc : o.cls = .type "re.Pattern") (hd : ∃ vs, o.data = .fields vs) (h : Q () s) :
    wpAny M A (checkBoundCall "re.Pattern.search" ⟨[.ref 74, .str x t], []⟩) Q E s := by
  have hT : s.TypeIs (.ref 74) "re.Pattern" := ⟨o, ho, hc⟩
  obtain ⟨vs, hd⟩ := hd
  unfold checkBoundCall
  rw [qsig_eq, qkind]
  show wpAny M A (isInstance (.ref 74) (.type "module") >>= fun ofModule => _) Q E s
  refine wpAny_bind (wpAny_isInstance (T := "re.Pattern") (b := false) hT (by rw [isSubtype_type]; kernel_rfl) ?_)
  have hv : (Manifest.varargsMethods.contains "re.Pattern.search" || false) = false := by decide +kernel
  rw [hv]
  refine wpAny_ite ?_
  rw [if_neg Bool.false_ne_true]
  refine wpAny_bind ?_
  unfold isType
  refine wpAny_bind (wpAny_load ho ?_)
  rw [hd]
  refine wpAny_pure ?_
  rw [if_neg Bool.false_ne_true]
  refine wpAny_bind (wpAny_typeOf hT ?_)
  exact wpAny_of_eq (a := ()) (by kernel_rfl) h
theorem reDrive_done (m : Sre.M) (hm : (m.runFor 4).outcome.isSome = true) : Builtin.Re.reDrive (2 ^ 64) m = pure (m.runFor 4) := by
  have : ∀ k, k = 2 ^ 64 → Builtin.Re.reDrive k m = pure (m.runFor 4) := by
    intro k hk
    cases k with
    | zero => omega
    | succ k =>
      unfold Builtin.Re.reDrive
      show (if (m.runFor 4).outcome.isSome = true then pure (m.runFor 4) else _) = _
      rw [if_pos hm]
  exact this _ rfl
theorem wp_rules {M : Model} {A : Around} {E : Value → Shared → Prop} {g : Nat → PUnit → Sem (ForInStep PUnit)} (hg : ∀ i s (Q : ForInStep PUnit → Shared → Prop), Q (.yield ⟨⟩) s → wpAny M A (g i ⟨⟩) Q E s) : ∀ (l : List Nat) (s : Shared) (Q : PUnit → Shared → Prop), Q ⟨⟩ s →
    wpAny M A (forIn l PUnit.unit g) Q E s
  | [], s, Q, h => by rw [List.forIn_nil]; exact wpAny_pure h
  | i :: r, s, Q, h => by
    rw [List.forIn_cons]
    exact wpAny_bind (hg i s _ (wp_rules hg r s Q h))
theorem runToEnd {M : Model} {A : Around} {E : Value → Shared → Prop} {s : Shared} {m : Sre.M} {Q : Option Sre.M → Shared → Prop} {o : Sre.Outcome} (ho : (m.runFor 4).outcome = some o)
    (h : match o with | .matched => Q (some (m.runFor 4)) s | .failed => Q none s | .stuck _ => False) : wpAny M A (Builtin.Re.reRunToEnd m) Q E s := by
  unfold Builtin.Re.reRunToEnd
  rw [reDrive_done m (by rw [ho]; rfl)]
  refine wpAny_bind (wpAny_pure ?_)
  refine wpAny_bind (wp_rules (fun i s Q hq => ?_) _ _ _ ?_)
  · split
    · exact wpAny_bind (wpAny_rule (wpAny_pure hq))
    · exact wpAny_pure hq
  rw [ho]
  cases o with
  | matched => exact wpAny_pure h
  | failed => exact wpAny_pure h
  | stuck _ => exact h.elim
section
variable {w : World} {n : Nat} {A : Around} {env env₀ : Env} {h₀ : Heap} {L : Addr} {m m' : List (Str × Value)} {own own' : List (Addr × AO)} {g : GP} {os os' : Osb} {s : Shared} {pos : Pos} {path : List Nat} {x : Str} {t : Tok}
def qT (x : Str) (t : Tok) (a b : Nat) : Builtin.Re.ReTarget := { pattern := .ref 74, string := .str x t, code := qcode, text := x.cps, kind := 0, groups := 0, pos := a, lim := b }
theorem target_search {M : Model} {A : Around} {E : Value → Shared → Prop} {s : Shared} {Q : Builtin.Re.ReTarget → Shared → Prop} {P : Params} (k74 : s.heap.get? 74 = some (o77 P)) (k73 : s.heap.get? 73 = some (o76 P)) (h : Q (qT x t 0 (min ((2 : Int) ^ 63 - 1).toNat x.cps.size)) s) :
    wpAny M A (Builtin.Re.reTarget "re.Pattern.search" "search" ⟨[.ref 74, .str x t], []⟩) Q E s := by
  unfold Builtin.Re.reTarget
  refine wpAny_bind (wpAny_of_eq (a := [some (.str x t), none, none]) (by kernel_rfl) ?_)
  refine wpAny_bind (wpAny_pure ?_)
  refine wpAny_bind (wpAny_pure ?_)
  refine wpAny_bind (wpAny_fieldsOf k74 rfl ?_)
  refine wpAny_bind (wpAny_of_eq (a := (x.cps, 0)) (by kernel_rfl) ?_)
  refine KFB.if_not (by decide) ?_
  refine KFB.if_not (by decide) ?_
  refine wpAny_bind (wpAny_of_eq (a := ()) rfl ?_)
  refine wpAny_bind ?_
  unfold Builtin.Re.reRawItems
  refine wpAny_bind (wpAny_seqItems k73 rfl ?_)
  refine wpAny_pure ?_
  have e0 : min (0 : Int).toNat x.cps.size = 0 := by simp
  rw [← e0] at h
  exact wpAny_of_eq (a := qT x t (min (0 : Int).toNat x.cps.size) (min ((2 : Int) ^ 63 - 1).toNat x.cps.size)) (by kernel_rfl) h
theorem r_search {Q : Value → Shared → Prop} (C : Fx w n A env₀ h₀ L path) (D : Sd w h₀ L m own g os s) (hz : x.length ≤ 100000) (hx : x.cps.size ≠ 0)
    (h0 : (∀ c ∈ x.cps.toList, safeN c = true) → ∀ s', Sd w h₀ L m own g os s' → Q .none s') (h1 : (∃ c ∈ x.cps.toList, safeN c = false) → ∀ a s', Sd w h₀ L m own g os s' → Q (.ref a) s') : WP w A (call (.ref 777) [.str x t]) Q s := by
  have X := C.gk.keeps D.fr.keep
  have k777 : s.heap.get? 777 = some (o791 w.params) := X _ _ (by kernel_rfl)
  have k74 : s.heap.get? 74 = some (o77 w.params) := X _ _ (by kernel_rfl)
  have k73 : s.heap.get? 73 = some (o76 w.params) := X _ _ (by kernel_rfl)
  have hs : x.cps.size = x.length := rfl
  refine .of (wpAny_call (codeAny_of_tree ?_))
  show wpAny _ A.in1 (callAny (.ref 777) ⟨[.str x t], []⟩) _ _ s
  simp only [callAny]
  refine wpAny_bind (wpAny_load k777 ?_)
  show wpAny _ A.in1 (if (Value.type "builtin_function_or_method" == Value.type "method" || Value.type "builtin_function_or_method" == Value.type "builtin_function_or_method" || Value.type "builtin_function_or_method" == Value.type "method-wrapper") = true then _ else _) _ _ s
  refine KFB.if_so (by decide) ?_
  show wpAny _ A.in1 (if (Value.type "builtin_function_or_method" != Value.type "method") = true then _ else _) _ _ s
  refine KFB.if_so (by decide) ?_
  refine wpAny_bind (chk_search k74 rfl ⟨_, rfl⟩ ?_)
  refine wpAny_bind (wpAny_pure (wpAny_pure ?_))
  refine ⟨Code.quiet_builtin _ (by decide +kernel), codeAny_builtin (b := Builtin.«re.Pattern.search») (entryFor_of_fast (by kernel_rfl)) ?_⟩
  unfold Builtin.«re.Pattern.search»
  refine wpAny_bind ?_
  have el : min ((2 : Int) ^ 63 - 1).toNat x.cps.size = x.cps.size := by
    have : ((2 : Int) ^ 63 - 1).toNat = 9223372036854775807 := by decide +kernel
    rw [this]; omega
  refine target_search k74 k73 ?_
  rw [el]
  show wpAny _ _ (Builtin.Re.reAnswer (qT x t 0 x.cps.size) (qm x)) _ _ s
  unfold Builtin.Re.reAnswer
  rcases qm_run x hx with ⟨q1, q2⟩ | ⟨q1, q2⟩
  · refine wpAny_bind (runToEnd q2 ?_)
    exact wpAny_pure (h0 q1 _ D)
  · refine wpAny_bind (runToEnd q2 ?_)
    refine wpAny_bind ?_
    unfold Builtin.Re.reNewMatch
    refine KFB.if_not rfl ?_
    refine wpAny_bind (wpAny_newTuple ?_ (by show 2 ≤ sizeLine; decide))
    have D1 := (D.push (o := { cls := .type "tuple", data := .seq (rawInt ((Sre.M.runFor 4 (qm x)).start : Int) :: rawInt ((Sre.M.runFor 4 (qm x)).handed : Int) :: ([] : List Value)).toArray }) (ao := .raw _) rfl rfl (t := s.toks)).drop
    unfold newFields
    refine wpAny_newObj_type (wpAny_pure ?_) (by show 6 ≤ sizeLine + 2; decide)
    exact h1 q1 _ _ (D1.push (ao := .raw _) rfl rfl).drop
theorem x_k777 {e : PySem.Expr} {Q : Value → Shared → Prop} (C : Fx w n A env₀ h₀ L path) (h : WP w A (eval e env) (fun v s1 => KS w h₀ s1 ∧ WP w A (call (.ref 777) [v]) Q s1) s) (q1 : starEach [e] env = (false, eval e env) :: starEach [] env) :
    WP w A (callWith pos (.ref 777) [] (backTo pos (starEach [e] env)) []) Q s := by
  refine .of ?_
  unfold callWith
  refine wpAny_bind (wpAny_holding ?_)
  have h' : wpAny (model pw w) A (evalArgs (.ref 777) true (backTo pos (starEach [e] env)) []) (fun x s₁ => (KK w.params).In s₁.heap ∧ wpAny (model pw w) A (call (.ref 777) ([] ++ x.pos) x.kw) Q (fun _ _ => False) s₁) (fun _ _ => False) s := by
    have h2 : wpAny (model pw w) A (spliced (backTo pos (starEach [e] env))) (fun vs s₁ => (KK w.params).In s₁.heap ∧ wpAny (model pw w) A (call (.ref 777) ([] ++ vs)) Q (fun _ _ => False) s₁) (fun _ _ => False) s :=
      args_cons (wpAny_mono h.out (fun v s1 h1 => args_nil ⟨KS.gk C h1.1, h1.2.out⟩) fun _ _ x => x) q1
    rw [q1] at h2 ⊢
    exact evalArgs_plain h2
  refine wpAny_mono h' (fun x s₁ h₁ => wpAny_bind (wpAny_standAt ?_)) fun _ _ x => x
  obtain ⟨X, hcall⟩ := h₁
  have ho : s₁.heap.get? 777 = some (o791 w.params) := X _ _ (by kernel_rfl)
  have hpl : (backTo pos (starEach [e] env)).any (·.1) = false := by rw [q1]; rfl
  simp only [hpl, List.any_nil, Bool.or_false]
  refine wpAny_bind (m := keeperOf (.ref 777)) ?_
  unfold keeperOf
  refine wpAny_bind (wpAny_load ho ?_)
  show wpAny _ _ (if (Value.type "builtin_function_or_method" != Value.type "method") = true then _ else _) _ _ _
  refine KFB.if_so (by decide) ?_
  refine wpAny_pure ?_
  exact wpAny_bind (wpAny_mono hcall (fun r s₂ hr => wpAny_bind (wpAny_holding (wpAny_point (wpAny_pure hr)))) fun _ _ x => x)
end
end Mine
end
section
open PySem PySem.W PyProof.Rows PySem.Calls
set_option Elab.async false
set_option maxRecDepth 100000
set_option maxHeartbeats 400000
set_option linter.unusedVariables false
namespace Mine
open PySem.W.X (Led)
section
variable {w : World} {n : Nat} {A : Around} {env env₀ : Env} {h₀ : Heap} {L : Addr} {m m' : List (Str × Value)} {own own' : List (Addr × AO)} {g : GP} {os : Osb} {s : Shared} {pos : Pos} {path path₀ : List Nat} {x : Str} {t : Tok}
def stIn (K : Frag) (a b : Addr) : Bool := match K.lookup a, K.lookup b with | some o, some _ => !(o.cls == .type "tuple") && !(a == b) | _, _ => false
theorem r_isnRR {a b : Addr} {Q : Value → Shared → Prop} (C : Fx w n A env₀ h₀ L path) (D : Sd w h₀ L m own g os s) (hk : stIn (KK w.params) a b = true) (h : Q (.bool true) s) : WP w A (compareOp .IsNot (.ref a) (.ref b)) Q s := by
  unfold stIn at hk
  split at hk
  · rename_i o o' ha hb
    simp only [Bool.and_eq_true, Bool.not_eq_true', beq_eq_false_iff_ne] at hk
    exact .of (wpAny_isNot_ref_other hk.2 (C.gk.keeps D.fr.keep _ _ ha) (C.gk.keeps D.fr.keep _ _ hb) hk.1 h)
  · cases hk
theorem r_isnRs {a : Addr} {Q : Value → Shared → Prop} (h : Q (.bool false) s) : WP w A (compareOp .IsNot (.ref a) (.ref a)) Q s := .of (wpAny_isNot_ref_self h)
theorem lk_madeBy {P : Params} {M : Model} {h : Heap} (X : (KK P).In h) : Looks M h (Bind.madeBy (.ref 622)) none := Looks.of_peek X (by kernel_rfl)
theorem lk_madeHere {P : Params} {M : Model} {h : Heap} (X : (KK P).In h) : Looks M h (Bind.madeHere "object.__new__" (.ref 622)) () := Looks.of_peek X (by kernel_rfl)
theorem lk_self {P : Params} {M : Model} {h : Heap} (X : (KK P).In h) : Looks M h (isSubtype (.ref 622) (.ref 622)) true := Looks.of_peek X (by kernel_rfl)
theorem lk_init {P : Params} {M : Model} {h : Heap} (X : (KK P).In h) : Looks M h (typeLookup (.ref 622) "__init__") (some (.ref 392)) := Looks.of_peek X (by kernel_rfl)
theorem lk_call {P : Params} {M : Model} {h : Heap} (X : (KK P).In h) : Looks M h (specialOf (.ref 622) "__call__") (some (.builtin "type.__call__")) := Looks.of_peek X (by kernel_rfl)
theorem lk_typ {P : Params} {M : Model} {h : Heap} (X : (KK P).In h) : Looks M h (isInstance (.ref 622) (.type "type")) true := Looks.of_peek X (by kernel_rfl)
theorem lk_mro {P : Params} {M : Model} {h : Heap} (X : (KK P).In h) : Looks M h (mroOf (.ref 622)) [.ref 622, .ref 145, .ref 118, .type "object"] := Looks.of_peek X (by kernel_rfl)
theorem new622 {R : Result → Shared → Prop} {h : Heap} {ga : Array GenState} {d : Drawn} {t : Nat} {os : OsState} (X : (KK w.params).In h)
    (hq : R (.ok (.ret (.ref (h.objs.size + 1)))) ⟨(h.push emptyDict).push (instObj 622 h.objs.size), ga, d, t, os⟩) :
    codeAny (model pw w) A (.call (.builtin "object.__new__") ⟨[.ref 622], []⟩) R ⟨h, ga, d, t, os⟩ := by
  have hC : h.get? 622 = some (o634 w.params) := X _ _ (by kernel_rfl)
  have F := PySem.F.objNew
  have chk : Looks (model pw w) h (checkBuiltinCall "object.__new__" ⟨[.ref 622], []⟩) () := Looks.of_peek X (by kernel_rfl)
  refine codeAny_call_builtin_code (Code.quiet_builtin _ F.quiet) ?_
  refine chk.here (codeAny_builtin F.entry ?_)
  unfold Builtin.«object.__new__»
  have here : Looks (model pw w) h (Bind.madeHere "object.__new__" (.ref 622)) () := lk_madeHere X
  have isT : Looks (model pw w) h (isType (.ref 622)) true := Looks.of_peek X (by kernel_rfl)
  have cda : Looks (model pw w) h (classData 622) (match (o634 w.params).data with | .cls c => c | _ => default) := Looks.of_peek X (by kernel_rfl)
  refine wpAny_bind (isT.here ?_)
  refine KFB.if_not rfl ?_
  refine wpAny_bind (here.here ?_)
  refine KFB.if_not rfl ?_
  refine wpAny_bind (cda.here ?_)
  refine KFB.if_not rfl ?_
  show wpAny _ _ ((alloc emptyDict >>= fun x => pure (some x)) >>= _) _ _ _
  refine wpAny_bind (wpAny_bind (wpAny_alloc (wpAny_pure (wpAny_bind ?_))))
  show wpAny _ _ (newObjAsIs _ _ _) _ _ _
  unfold newObjAsIs classHasDel
  refine wpAny_bind (wpAny_alloc (wpAny_bind (wpAny_bind (wpAny_load (Heap.get?_push_of_some _ (Heap.get?_push_of_some _ hC)) (wpAny_pure ?_)))))
  refine wpAny_pure (wpAny_pure ?_)
  show R _ _
  rw [Heap.size_push]
  exact hq
def tupO (vs : List Value) : Obj := { cls := .type "tuple", data := .seq vs.toArray }
/-- a def with *args and **kwargs, called with neither -/
theorem enterV {f : Addr} {path : List Nat} {args : Args} {name qual : Str} {dV pm cdv : Value} {vs : List Value} {ga : Addr → Sem (List (Str × Value))} {gb : Addr → Addr → Sem (List (Str × Value))} {Q : Value → Shared → Prop} (binds : Addr → Addr → List (Str × Value))
    (F : FnIs w.params f path name qual dV pm cdv) (C : Fx w n A env h₀ L path₀) (D : Sd w h₀ L m own g os s) (hn : n ≤ 400)
    (hp : peekA (KK w.params) ⟨pw, w.params⟩ (bindArgs (fnX name qual (paramsAt path) (bodyAt path) (scopeAt path) [] dV .none .none pm none cdv .none) args) = some (tupO vs, ga))
    (hp2 : ∀ a, peekA (KK w.params) ⟨pw, w.params⟩ (ga a) = some (dictOf [] 0, gb a)) (hk2 : ∀ a b, gb a b = pure (binds a b))
    (hloc : ∀ a b, ((binds a b).all fun x => decide ((scopeAt path).names.lookup x.1 = some .local)) = true) (hcell : ((scopeAt path).names.all fun x => x.2 != .cell) = true)
    (h : ∀ a b g₁ L' env' s', Nv env' (scopeAt path) [] → Fx w (n + 1) (A.deeper env') env' g₁ L' path → Sd w g₁ L' (binds a b).reverse ((b, .raw (dictOf [] 0)) :: (a, .raw (tupO vs)) :: own) g os s' →
      WP w (A.deeper env') (execs (bodyAt path) env') (fun fl s2 => Back w h₀ L m g₁ os Q (match fl with | .ret v => v | _ => .none) s2) s') :
    CP w A f args.pos args.kw Q s := by
  refine ⟨?_⟩
  obtain ⟨news, l, ow⟩ := D.led
  have X := C.gk.keeps l.fr.keep
  have hroom : A.depth < recursionLimit := by have := C.dep; unfold recursionLimit; omega
  refine codeAny_mono (codeAny_call_function (R := fun r s' => match r with | .ok (.ret v) => Q v s' | _ => False) hroom (X _ _ F.here) rfl F.co F.gen rfl (codeRec_of X F.code) ?_) fun r s' z => by
    rcases r with e | (v | _ | _ | _) <;> first | exact z | exact z.elim
  refine wp_of_peekA (o := tupO vs) l.fr l.nw X rfl _ ga hp fun h1 F1 N1 l1 => ?_
  have D1 : Sd w h₀ L m ((s.heap.objs.size, .raw (tupO vs)) :: own) g os { s with heap := h1 } := Sd.new l ow D.gens D.osq F1 N1 l1 rfl D.pos
  obtain ⟨news1, ll1, ow1⟩ := D1.led
  have X1 : (KK w.params).In h1 := C.gk.keeps ll1.fr.keep
  refine wp_of_peekA (s := { s with heap := h1 }) (o := dictOf [] 0) ll1.fr ll1.nw X1 rfl _ (gb s.heap.objs.size) (hp2 _) fun h2 F2 N2 l2 => ?_
  have D2 : Sd w h₀ L m ((h1.objs.size, .raw (dictOf [] 0)) :: (s.heap.objs.size, .raw (tupO vs)) :: own) g os { s with heap := h2 } := Sd.new (s := { s with heap := h1 }) ll1 ow1 D1.gens D1.osq F2 N2 l2 rfl D.pos
  rw [hk2]
  refine wpAny_pure ?_
  generalize hL : s.heap.objs.size = a at *
  generalize hb : h1.objs.size = b at *
  obtain ⟨news2, ll2, ow2⟩ := D2.led
  obtain ⟨FG, st, lv⟩ := groundY (s := { s with heap := h2 }) (R := fun r s' => match r with | .ok (.ret v) => Q v s' | _ => False) C.frame C.kind ll2.fr ll2.nw
  refine wpAny_newFunctionEnv (s := { s with heap := h2 }) (fun x hx => by have := List.all_eq_true.mp hcell x hx; simpa using this) (locs (hloc a b)) (fun h₁ hns hsb => ⟨((gk_lim C.gk).keeps ll2.fr.keep).fresh _ hsb, codeAny_func ?_⟩) F.kind
  have hk₁ : ∀ b o, h2.get? b = some o → h₁.get? b = some o := fun b o e => hsb.extBut b o (Nat.ne_of_lt (Heap.lt_size e)) (Heap.get?_push_of_some _ e)
  have D' : Sd w (hideAll h2 (news2.map (·.1))) h2.objs.size (binds a b).reverse ((b, .raw (dictOf [] 0)) :: (a, .raw (tupO vs)) :: own) g os { s with heap := h₁, toks := s.toks + (binds a b).length } :=
    ⟨⟨news2, ⟨⟨hns, fun b o e => hk₁ b o (of_hideAll _ e), Nat.le_of_eq (hideAll_size _ _)⟩, (fun p hp => ⟨hk₁ _ _ (ll2.nw p hp).1, Nat.ne_of_lt (Heap.lt_size (ll2.nw p hp).1), hideAll_none _ (List.mem_map_of_mem hp)⟩), ll2.ord⟩, ow2⟩, D.gens, D.osq, Nat.le_add_right_of_le D.pos⟩
  have C' : Fx w (n + 1) (A.deeper (envX qual (scopeAt path) h2.objs.size f cdv [])) (envX qual (scopeAt path) h2.objs.size f cdv []) (hideAll h2 (news2.map (·.1))) h2.objs.size path :=
    ⟨rfl, rfl, F.kind, rfl, rfl, rfl, C.gk.keeps st, C.hand, by have := C.dep; show A.depth + 1 ≤ _; omega, by have := C.uni; show A.units + 3 ≤ _; omega⟩
  refine wpAny_mono (h a b _ _ _ _ ⟨rfl, F.kind, rfl, rfl, rfl⟩ C' D').out (fun fl s2 hb => ?_) fun _ _ x => x.elim
  obtain ⟨L2, m2, own2, g2, D3, k⟩ := hb
  obtain ⟨news3, l3, ow3⟩ := D3.led
  refine lv _ _ ⟨L2, _, news3, l3.fr, l3.nw, fun F0 N0 => ?_⟩
  exact k ⟨⟨news3, ⟨F0, N0, l3.ord⟩, ow3⟩, D3.gens, D3.osq, D3.pos⟩
end
end Mine
end
section
open PySem PySem.W PyProof.Rows PySem.Calls
set_option Elab.async false
set_option maxRecDepth 100000
set_option maxHeartbeats 400000
set_option linter.unusedVariables false
namespace Mine
open PySem.W.X (Led)
namespace DQ
theorem slot_init : Slot "collections.deque" "__init__" "collections.deque.__init__" :=
  .of (owner := "collections.deque") (n := "__init__") (by rw [typeLookup_type, builtinLookup_eq_fast]; kernel_rfl) (by decide +kernel) (by decide +kernel) (by decide +kernel)
    (by first | exact .inl (by decide +kernel) | exact .inr (by decide +kernel)) (by rw [isSubtype_type]; kernel_rfl)
theorem slot_len : Slot "collections.deque" "__len__" "collections.deque.__len__" :=
  .of (owner := "collections.deque") (n := "__len__") (by rw [typeLookup_type, builtinLookup_eq_fast]; kernel_rfl) (by decide +kernel) (by decide +kernel) (by decide +kernel)
    (by first | exact .inl (by decide +kernel) | exact .inr (by decide +kernel)) (by rw [isSubtype_type]; kernel_rfl)
theorem entry_init : entryFor table "collections.deque.__init__" = some Builtin.«collections.deque.__init__» := entryFor_of_tree (by kernel_rfl)
theorem entry_new : entryFor table "collections.deque.__new__" = some Builtin.«collections.deque.__new__» := entryFor_of_tree (by kernel_rfl)
theorem entry_len : entryFor table "collections.deque.__len__" = some Builtin.«collections.deque.__len__» := entryFor_of_tree (by kernel_rfl)
theorem mro : mroOf (.type "collections.deque") = pure [.type "collections.deque", .type "object"] := by rw [mroOf_type]; kernel_rfl
theorem lookup_new : typeLookup (.type "collections.deque") "__new__" = pure (some (.builtin "collections.deque.__new__")) := by rw [typeLookup_type, builtinLookup_eq_fast]; kernel_rfl
theorem called : TypeCalled "collections.deque" "collections.deque.__new__" "collections.deque.__init__" :=
  ⟨by decide +kernel, by decide +kernel, ⟨_, _, mro⟩, madeBy_type mro lookup_new (by decide +kernel), by decide +kernel, by rw [isSubtype_type]; kernel_rfl, slot_init⟩
theorem typeCall : checkTypeCall "collections.deque" ⟨[], []⟩ = pure () := by kernel_rfl
theorem newCall : checkBuiltinCall "collections.deque.__new__" ⟨[.type "collections.deque"], []⟩ = pure () := by kernel_rfl
theorem args_init (o : Value) : argsOk "collections.deque.__init__" ⟨[o], []⟩ := by unfold argsOk; kernel_rfl
theorem args_len (o : Value) : argsOk "collections.deque.__len__" ⟨[o], []⟩ := by unfold argsOk; kernel_rfl
end DQ
theorem if_notP {α : Type} {M : Model} {A : Around} {E : Value → Shared → Prop} {s : Shared} {c : Prop} [Decidable c] {a b : Sem α} {Q : α → Shared → Prop} (hc : ¬ c) (h : wpAny M A b Q E s) : wpAny M A (if c then a else b) Q E s := by
  rw [if_neg hc]
  exact h
def dqO (k : Int) (items : List Value) : Obj := { cls := .type "collections.deque", data := .fields (#[.none, rawInt k] ++ items.toArray) }
def dqA (items : List Value) : AO := .any fun o => ∃ k, o = dqO k items
theorem dq_new : Meets (Builtin.«collections.deque.__new__» ⟨[.type "collections.deque"], []⟩) (fun _ R s => R (.ok (.ret (.ref s.heap.objs.size))) { s with heap := s.heap.push (dqO 0 []) }) := by
  refine Meets.of_wp fun prog w A R s h => ?_
  unfold Builtin.«collections.deque.__new__» Builtin.Deque.newArgs
  refine wpAny_bind (wpAny_bind (wpAny_of_eq (a := true) rfl ?_))
  refine KFB.if_not rfl ?_
  refine wpAny_bind (wpAny_of_eq (a := true) (by rw [isSubtype_type]; kernel_rfl) ?_)
  refine KFB.if_not rfl ?_
  refine wpAny_pure ?_
  refine wpAny_bind ?_
  unfold Builtin.Deque.new
  refine if_notP (by decide) ?_
  refine KFB.if_not (by decide +kernel) ?_
  refine wpAny_bind (wpAny_pure ?_)
  refine wpAny_newObj_type (wpAny_pure ⟨_, rfl, h⟩) (by show 2 ≤ sizeLine + 2; decide)
theorem dq_init {a : Addr} : Meets (Builtin.«collections.deque.__init__» ⟨[.ref a], []⟩) (fun _ R s => s.heap.get? a = some (dqO 0 []) ∧ ∀ h', Heap.SameBut a s.heap h' → h'.get? a = some (dqO 0 []) → R (.ok (.ret .none)) { s with heap := h' }) := by
  refine Meets.of_wp fun prog w A R s ⟨ho, h⟩ => ?_
  unfold Builtin.«collections.deque.__init__»
  refine if_notP (by show ¬ 0 > 2; decide) ?_
  refine wpAny_bind (wpAny_of_eq (a := PUnit.unit) rfl ?_)
  refine wpAny_bind (wpAny_of_eq (a := PUnit.unit) rfl ?_)
  refine wpAny_bind (wpAny_pure ?_)
  refine wpAny_bind (wpAny_setField_rec (cls := .type "collections.deque") (vs := #[.none, rawInt 0]) ho (by show 0 < 2; decide) fun h' ho' hs' => ?_)
  have ho2 : h'.get? a = some (dqO 0 []) := ho'
  refine wpAny_bind ?_
  unfold Builtin.Deque.clear Builtin.Deque.items
  refine wpAny_bind (wpAny_bind (wpAny_fieldsOf ho2 rfl (wpAny_pure ?_)))
  refine if_notP (by decide) ?_
  refine wpAny_pure ?_
  exact wpAny_pure ⟨_, rfl, h h' hs' ho2⟩
section
variable {prog : Program} {w : World} {A : Around} {E : Value → Shared → Prop} {s : Shared}
theorem dq_size {a : Addr} {k : Int} {items : List Value} {Q : Nat → Shared → Prop} (ho : s.heap.get? a = some (dqO k items)) (h : Q items.length s) : wpAny (model prog w) A (Builtin.Deque.size (.ref a)) Q E s := by
  unfold Builtin.Deque.size
  refine wpAny_bind (wpAny_fieldsOf ho rfl (wpAny_pure ?_))
  have : (#[Value.none, rawInt k] ++ items.toArray).size - 2 = items.length := by simp
  rw [this]
  exact h
theorem dq_len_body {a : Addr} {k : Int} {items : List Value} {Q : Value → Shared → Prop} (ho : s.heap.get? a = some (dqO k items)) (hfit : (items.length : Int) < 2 ^ 63)
    (h : Q (.int items.length (s.toks + 1)) { s with toks := s.toks + 1 + 1 }) : wpAny (model prog w) A (Builtin.«len» ⟨[.ref a], []⟩) (fun fin s' => ∃ r, fin = .done (.ret r) ∧ Q r s') E s := by
  have hT : s.TypeIs (.ref a) "collections.deque" := ⟨_, ho, rfl⟩
  unfold Builtin.«len»
  refine wpAny_bind (m := oneArg "len" _) (wpAny_pure ?_)
  refine wpAny_bind (m := callSpecial? (.ref a) (Str.ofString "__len__")) (wpAny_callSpecial?_slot (name := Str.ofString "__len__") hT DQ.slot_len
    (wpAny_call_entry DQ.slot_len hT DQ.entry_len ?_ (DQ.args_len _)))
  unfold Builtin.«collections.deque.__len__»
  refine wpAny_bind (wpAny_pure ?_)
  refine wpAny_bind (dq_size ho ?_)
  refine wpAny_bind (wpAny_mkInt (wpAny_pure ⟨_, rfl, ?_⟩))
  refine wpAny_bind (wpAny_holding (wpAny_pure ?_))
  refine wpAny_bind (wpAny_letGo ?_)
  show wpAny _ _ (if ((items.length : Nat) : Int) < 0 then _ else _) _ _ _
  rw [if_neg (by omega)]
  show wpAny _ _ (if ((items.length : Nat) : Int) ≥ 2 ^ 63 then _ else _) _ _ _
  rw [if_neg (by omega)]
  exact wpAny_bind (wpAny_mkInt (wpAny_pure ⟨_, rfl, h⟩))
theorem noBool_dq : typeLookup (.type "collections.deque") "__bool__" = pure none := by rw [typeLookup_type, builtinLookup_eq_fast]; kernel_rfl
theorem dq_truthy {a : Addr} {k : Int} {items : List Value} {Q : Bool → Shared → Prop} (ho : s.heap.get? a = some (dqO k items)) (hfit : (items.length : Int) < 2 ^ 63)
    (h : Q (!items.isEmpty) { s with toks := s.toks + 1 + 1 }) : wpAny (model prog w) A (truthy (.ref a)) Q E s := by
  have hT : s.TypeIs (.ref a) "collections.deque" := ⟨_, ho, rfl⟩
  have hne : ((items.length : Int) != 0) = !items.isEmpty := by cases items <;> simp; omega
  have key : wpAny (model prog w) A (runValue (.builtin "len" ⟨[.ref a], []⟩)) (fun r s' => r = .int items.length (s.toks + 1) ∧ Q (!items.isEmpty) s') E s := by
    refine wpAny_runValue (codeAny_builtin entry_len ?_)
    rw [Around.under_plainId plain_len _]
    exact wpAny_mono (dq_len_body (Q := fun r s' => r = .int items.length (s.toks + 1) ∧ Q (!items.isEmpty) s') ho hfit ⟨rfl, h⟩)
      (fun fin s' h' => by obtain ⟨r, rfl, hq⟩ := h'; exact hq) fun _ _ e => e
  unfold truthy
  first
    | refine wpAny_bind (wpAny_callSpecial?_none (name := Str.ofString "__bool__") hT noBool_dq ?_)
    | refine wpAny_bind (wpAny_pure (wpAny_bind (wpAny_callSpecial?_none (name := Str.ofString "__bool__") hT noBool_dq ?_)))
  first
    | refine wpAny_bind (wpAny_specialOf (name := Str.ofString "__len__") hT DQ.slot_len.lookup ?_)
    | refine wpAny_bind (wpAny_pure (wpAny_bind (wpAny_specialOf (name := Str.ofString "__len__") hT DQ.slot_len.lookup ?_)))
  first
    | exact wpAny_bind (wpAny_mono key (fun r s' h' => by obtain ⟨rfl, hq⟩ := h'; exact wpAny_pure (hne ▸ hq)) fun _ _ e => e)
    | exact wpAny_bind (wpAny_pure (wpAny_bind (wpAny_mono key (fun r s' h' => by obtain ⟨rfl, hq⟩ := h'; exact wpAny_pure (hne ▸ hq)) fun _ _ e => e)))
end
section
variable {w : World} {n : Nat} {A : Around} {env env₀ : Env} {h₀ : Heap} {L : Addr} {m m' : List (Str × Value)} {own own' : List (Addr × AO)} {g : GP} {os : Osb} {s : Shared} {pos : Pos} {path path₀ : List Nat} {d : Addr} {items : List Value}
theorem r_deque {Q : Value → Shared → Prop} (D : Sd w h₀ L m own g os s) (h : ∀ d s', Sd w h₀ L m ((d, dqA []) :: own) g os s' → Q (.ref d) s') : WP w A (call (.type "collections.deque") []) Q s := by
  have D1 := D.push (o := dqO 0 []) (ao := dqA []) rfl ⟨0, rfl⟩ (t := s.toks)
  refine .of (callType_meets (Q₁ := fun obj s₁ => obj = .ref s.heap.objs.size ∧ s₁ = { s with heap := s.heap.push (dqO 0 []) }) DQ.called DQ.typeCall DQ.newCall DQ.entry_new DQ.entry_init dq_new ⟨rfl, rfl⟩ fun obj s₁ h₁ => ?_)
  obtain ⟨rfl, rfl⟩ := h₁
  have ho : ({ s with heap := s.heap.push (dqO 0 []) } : Shared).heap.get? s.heap.objs.size = some (dqO 0 []) := Heap.get?_push_size _ rfl
  refine ⟨⟨_, ho, rfl⟩, DQ.args_init _, _, dq_init, ho, fun h' hs ho' => ⟨rfl, ?_⟩⟩
  exact h _ _ (D1.set .head hs ho' ⟨0, rfl⟩)
theorem t_dq {Q : Bool → Shared → Prop} (D : Sd w h₀ L m own g os s) (hm : OAt own d (dqA items)) (hz : items.length ≤ 100000) (h : ∀ s', Sd w h₀ L m own g os s' → Q (!items.isEmpty) s') : WP w A (truthy (.ref d)) Q s := by
  obtain ⟨o, h1, k, rfl⟩ := D.get hm
  exact .of (dq_truthy h1 (by omega) (h _ (D.tok _)))
theorem fc_objNew (P : Params) : findCls (KK P) (.type "object") (.type "type") "__new__" = some (.val (.builtin "object.__new__")) := by kernel_rfl
theorem ty_obj : typeOf (.type "object") = pure (.type "type") := by kernel_rfl
theorem r_objNew {pl : Sem Bool} {Q : Value × List Value → Shared → Prop} (C : Fx w n A env₀ h₀ L path) (D : Sd w h₀ L m own g os s) (h : ∀ s', Sd w h₀ L m own g os s' → Q (.builtin "object.__new__", []) s') : WP w A (getMethod (.type "object") "__new__" pl) Q s := by
  have h1 := h _ (D.tok (s.toks + 1))
  have hs : Manifest.isStub "object" = false := by decide +kernel
  have hh : handedIn (.builtin "object.__new__") = true := by kernel_rfl
  refine .of ?_
  refine method_type (K := KK w.params) (T := "object") (name := "__new__") (v := .builtin "object.__new__") D.fr C.gk ?_ ?_ ?_ ?_ ?_
  · exact ty_obj
  · exact hs
  · exact fc_objNew _
  · exact hh
  · exact h1
theorem r_new622 {Q : Value → Shared → Prop} (C : Fx w n A env₀ h₀ L path) (D : Sd w h₀ L m own g os s) (h : ∀ i dx s', Sd w h₀ L m ((i, .inst 622 dx) :: (dx, .flds []) :: own) g os s' → Q (.ref i) s') : WP w A (call (.builtin "object.__new__") [.ref 622]) Q s := by
  have X := C.gk.keeps D.fr.keep
  have D1 := D.push (o := emptyDict) (ao := .flds []) rfl ⟨[], 0, rfl, trivial⟩ (t := s.toks)
  have D2 := D1.push (o := instObj 622 s.heap.objs.size) (ao := .inst 622 s.heap.objs.size) rfl rfl (t := s.toks)
  have e : (s.heap.push emptyDict).objs.size = s.heap.objs.size + 1 := Heap.size_push ..
  have q := h _ _ _ D2
  obtain ⟨hp, ga, dr, tk, os2⟩ := s
  refine .of (wpAny_call (new622 X ?_))
  rw [← e]
  exact q
end
end Mine
end
section
open PySem PySem.W PyProof.Rows PySem.Calls
set_option Elab.async false
set_option maxRecDepth 100000
set_option maxHeartbeats 400000
set_option linter.unusedVariables false
namespace Mine
open PySem.W.X (Led)
def WCH : Str := ("abcdfeghijklmnopqrstuvwxyzABCDEFGHIJKLMNOPQRSTUVWXYZ0123456789_" : Str) ++ ("ßàáâãäåæçèéêëìíîïðñòóôõöøùúûüýþÿÀÁÂÃÄÅÆÇÈÉÊËÌÍÎÏÐÑÒÓÔÕÖØÙÚÛÜÝÞ" : Str)
abbrev WSP : Str := " \t\r\n"
abbrev QUO : Str := "'\""
abbrev ESC : Str := "\\"
abbrev ESQ : Str := "\""
def upd (T : Nat → Tok) (j : Nat) (t : Tok) : Nat → Tok := fun k => if k = j then t else T k
/-- a lexer: what stands at its fields; its state a text -/
def lexF (i pb fs : Addr) (com : Str) (ws : Bool) (st tok : Str) (ln : Int) (T : Nat → Tok) : Ls := [("instream", .ref i), ("infile", .none), ("posix", .bool true), ("eof", .none), ("commenters", .str com (T 4)), ("wordchars", .str WCH (T 5)), ("whitespace", .str WSP (T 6)), ("whitespace_split", .bool ws), ("quotes", .str QUO (T 8)), ("escape", .str ESC (T 9)), ("escapedquotes", .str ESQ (T 10)), ("state", .str st (T 11)), ("pushback", .ref pb), ("lineno", .int ln (T 13)), ("debug", .int 0 (T 14)), ("token", .str tok (T 15)), ("filestack", .ref fs), ("source", .none), ("_punctuation_chars", .str "" (T 18))]
/-- the same at the end of its text -/
def lexN (i pb fs : Addr) (com : Str) (ws : Bool) (tok : Str) (ln : Int) (T : Nat → Tok) : Ls := [("instream", .ref i), ("infile", .none), ("posix", .bool true), ("eof", .none), ("commenters", .str com (T 4)), ("wordchars", .str WCH (T 5)), ("whitespace", .str WSP (T 6)), ("whitespace_split", .bool ws), ("quotes", .str QUO (T 8)), ("escape", .str ESC (T 9)), ("escapedquotes", .str ESQ (T 10)), ("state", .none), ("pushback", .ref pb), ("lineno", .int ln (T 13)), ("debug", .int 0 (T 14)), ("token", .str tok (T 15)), ("filestack", .ref fs), ("source", .none), ("_punctuation_chars", .str "" (T 18))]
def lexA (w : World) (i pb fs : Addr) (com : Str) (ws : Bool) (st tok : Str) : AO := .any fun o => ∃ ln T, (AO.flds (lexF i pb fs com ws st tok ln T)).Is w o
def lexE (w : World) (i pb fs : Addr) (com : Str) (ws : Bool) (tok : Str) : AO := .any fun o => ∃ ln T, (AO.flds (lexN i pb fs com ws tok ln T)).Is w o
section
variable {i pb fs : Addr} {com : Str} {ws : Bool} {st tok : Str} {ln : Int} {T : Nat → Tok}
theorem MAt.of : ∀ {m : List (Str × Value)} {x : Str} {v : Value}, m.lookup x = some v → MAt m x v
  | [], _, _, h => nomatch h
  | (y, u) :: r, x, v, h => by
    rw [List.lookup_cons] at h
    by_cases q : x = y
    · subst q
      rw [beq_self_eq_true] at h
      cases h
      exact .head
    · rw [beq_false_of_ne q] at h
      exact .tail (beq_false_of_ne q) (MAt.of h)
def mput : List (Str × Value) → Str → Value → List (Str × Value)
  | [], x, v => [(x, v)]
  | (y, u) :: r, x, v => if (x == y) = true then (y, v) :: r else (y, u) :: mput r x v
theorem MPut.of : ∀ (m : List (Str × Value)) (x : Str) (v : Value), MPut m x v (mput m x v)
  | [], _, _ => .nil
  | (y, u) :: r, x, v => by
    unfold mput
    by_cases q : (x == y) = true
    · rw [if_pos q]
      rw [beq_iff_eq] at q
      subst q
      exact .head
    · rw [if_neg q]
      exact .tail (Bool.eq_false_iff.mpr q) (MPut.of r x v)
inductive LfAt (i pb fs : Addr) (com : Str) (ws : Bool) (st tok : Str) (ln : Int) (T : Nat → Tok) : Str → Value → Prop
  | instream : LfAt i pb fs com ws st tok ln T "instream" (.ref i)
  | infile : LfAt i pb fs com ws st tok ln T "infile" (.none)
  | posix : LfAt i pb fs com ws st tok ln T "posix" (.bool true)
  | eof : LfAt i pb fs com ws st tok ln T "eof" (.none)
  | commenters : LfAt i pb fs com ws st tok ln T "commenters" (.str com (T 4))
  | wordchars : LfAt i pb fs com ws st tok ln T "wordchars" (.str WCH (T 5))
  | whitespace : LfAt i pb fs com ws st tok ln T "whitespace" (.str WSP (T 6))
  | whitespace_split : LfAt i pb fs com ws st tok ln T "whitespace_split" (.bool ws)
  | quotes : LfAt i pb fs com ws st tok ln T "quotes" (.str QUO (T 8))
  | escape : LfAt i pb fs com ws st tok ln T "escape" (.str ESC (T 9))
  | escapedquotes : LfAt i pb fs com ws st tok ln T "escapedquotes" (.str ESQ (T 10))
  | state : LfAt i pb fs com ws st tok ln T "state" (.str st (T 11))
  | pushback : LfAt i pb fs com ws st tok ln T "pushback" (.ref pb)
  | lineno : LfAt i pb fs com ws st tok ln T "lineno" (.int ln (T 13))
  | debug : LfAt i pb fs com ws st tok ln T "debug" (.int 0 (T 14))
  | token : LfAt i pb fs com ws st tok ln T "token" (.str tok (T 15))
  | filestack : LfAt i pb fs com ws st tok ln T "filestack" (.ref fs)
  | source : LfAt i pb fs com ws st tok ln T "source" (.none)
  | punctuation_chars : LfAt i pb fs com ws st tok ln T "_punctuation_chars" (.str "" (T 18))
theorem LfAt.at {x : Str} {v : Value} (h : LfAt i pb fs com ws st tok ln T x v) : MAt (lexF i pb fs com ws st tok ln T) x v := by cases h <;> exact .of (by kernel_rfl)
inductive LnAt (i pb fs : Addr) (com : Str) (ws : Bool) (tok : Str) (ln : Int) (T : Nat → Tok) : Str → Value → Prop
  | instream : LnAt i pb fs com ws tok ln T "instream" (.ref i)
  | infile : LnAt i pb fs com ws tok ln T "infile" (.none)
  | posix : LnAt i pb fs com ws tok ln T "posix" (.bool true)
  | eof : LnAt i pb fs com ws tok ln T "eof" (.none)
  | commenters : LnAt i pb fs com ws tok ln T "commenters" (.str com (T 4))
  | wordchars : LnAt i pb fs com ws tok ln T "wordchars" (.str WCH (T 5))
  | whitespace : LnAt i pb fs com ws tok ln T "whitespace" (.str WSP (T 6))
  | whitespace_split : LnAt i pb fs com ws tok ln T "whitespace_split" (.bool ws)
  | quotes : LnAt i pb fs com ws tok ln T "quotes" (.str QUO (T 8))
  | escape : LnAt i pb fs com ws tok ln T "escape" (.str ESC (T 9))
  | escapedquotes : LnAt i pb fs com ws tok ln T "escapedquotes" (.str ESQ (T 10))
  | state : LnAt i pb fs com ws tok ln T "state" .none
  | pushback : LnAt i pb fs com ws tok ln T "pushback" (.ref pb)
  | lineno : LnAt i pb fs com ws tok ln T "lineno" (.int ln (T 13))
  | debug : LnAt i pb fs com ws tok ln T "debug" (.int 0 (T 14))
  | token : LnAt i pb fs com ws tok ln T "token" (.str tok (T 15))
  | filestack : LnAt i pb fs com ws tok ln T "filestack" (.ref fs)
  | source : LnAt i pb fs com ws tok ln T "source" (.none)
  | punctuation_chars : LnAt i pb fs com ws tok ln T "_punctuation_chars" (.str "" (T 18))
theorem LnAt.at {x : Str} {v : Value} (h : LnAt i pb fs com ws tok ln T x v) : MAt (lexN i pb fs com ws tok ln T) x v := by cases h <;> exact .of (by kernel_rfl)
inductive LfPut (i pb fs : Addr) (com : Str) (ws : Bool) (st tok : Str) (ln : Int) (T : Nat → Tok) : Str → Value → Ls → Prop
  | state {y : Str} {t : Tok} : LfPut i pb fs com ws st tok ln T "state" (.str y t) (lexF i pb fs com ws y tok ln (upd T 11 t))
  | stateN : LfPut i pb fs com ws st tok ln T "state" (.none) (lexN i pb fs com ws tok ln T)
  | token {y : Str} {t : Tok} : LfPut i pb fs com ws st tok ln T "token" (.str y t) (lexF i pb fs com ws st y ln (upd T 15 t))
  | lineno {y : Int} {t : Tok} : LfPut i pb fs com ws st tok ln T "lineno" (.int y t) (lexF i pb fs com ws st tok y (upd T 13 t))
  | ws {b : Bool} : LfPut i pb fs com ws st tok ln T "whitespace_split" (.bool b) (lexF i pb fs com b st tok ln T)
  | com {y : Str} {t : Tok} : LfPut i pb fs com ws st tok ln T "commenters" (.str y t) (lexF i pb fs y ws st tok ln (upd T 4 t))
theorem LfPut.put {x : Str} {v : Value} {m : Ls} (h : LfPut i pb fs com ws st tok ln T x v m) : MPut (lexF i pb fs com ws st tok ln T) x v m := by cases h <;> exact MPut.of _ _ _
inductive LnPut (i pb fs : Addr) (com : Str) (ws : Bool) (tok : Str) (ln : Int) (T : Nat → Tok) : Str → Value → Ls → Prop
  | token {y : Str} {t : Tok} : LnPut i pb fs com ws tok ln T "token" (.str y t) (lexN i pb fs com ws y ln (upd T 15 t))
  | lineno {y : Int} {t : Tok} : LnPut i pb fs com ws tok ln T "lineno" (.int y t) (lexN i pb fs com ws tok y (upd T 13 t))
theorem LnPut.put {x : Str} {v : Value} {m : Ls} (h : LnPut i pb fs com ws tok ln T x v m) : MPut (lexN i pb fs com ws tok ln T) x v m := by cases h <;> exact MPut.of _ _ _
theorem lf_len : (lexF i pb fs com ws st tok ln T).length ≤ 1000 := (show 19 ≤ 1000 by decide)
theorem ln_len : (lexN i pb fs com ws tok ln T).length ≤ 1000 := (show 19 ≤ 1000 by decide)
theorem lex_of {w : World} {i pb fs : Addr} {com : Str} {ws : Bool} {st tok : Str} {ln : Int} {o : Obj} {t4 t5 t6 t8 t9 t10 t11 t13 t14 t15 t18 : Tok} (h : (AO.flds [("instream", .ref i), ("infile", .none), ("posix", .bool true), ("eof", .none), ("commenters", .str com t4), ("wordchars", .str WCH t5), ("whitespace", .str WSP t6), ("whitespace_split", .bool ws), ("quotes", .str QUO t8), ("escape", .str ESC t9), ("escapedquotes", .str ESQ t10), ("state", .str st t11), ("pushback", .ref pb), ("lineno", .int ln t13), ("debug", .int 0 t14), ("token", .str tok t15), ("filestack", .ref fs), ("source", .none), ("_punctuation_chars", .str "" t18)]).Is w o) : ∃ ln T, (AO.flds (lexF i pb fs com ws st tok ln T)).Is w o :=
  ⟨ln, fun k => if k = 4 then t4 else if k = 5 then t5 else if k = 6 then t6 else if k = 8 then t8 else if k = 9 then t9 else if k = 10 then t10 else if k = 11 then t11 else if k = 13 then t13 else if k = 14 then t14 else if k = 15 then t15 else if k = 18 then t18 else 0, h⟩
end

section
variable {w : World} {n : Nat} {A : Around} {env env₀ : Env} {h₀ : Heap} {L : Addr} {m m' : List (Str × Value)} {own own' : List (Addr × AO)} {g : GP} {os : Osb} {s : Shared} {pos : Pos} {path path₀ : List Nat} {x y : Str} {t u : Tok} {a b : Int}
theorem x_augA {o : PySem.Expr} {attr : Str} {tp : Pos} {op : Operator} {value : PySem.Expr} {Q : Flow → Shared → Prop} (h : WP w A (eval o env) (fun ov s₁ => WP w A (getAttr ov attr true) (fun old s₂ => WP w A (eval value env) (fun v s₃ => WP w A (inplaceOp op old v) (fun r s₄ => WP w A (setAttr ov attr r) (fun _ s' => Q .next s') s₄) s₃) s₂) s₁) s) :
    WP w A (exec (.AugAssign (.Attribute o attr tp) op value pos) env) Q s :=
  .of (wpAny_AugAssign_AttributeAny (wpAny_mono h.out (fun _ _ x => wpAny_mono x.out (fun _ _ x => wpAny_mono x.out (fun _ _ x => wpAny_mono x.out (fun _ _ x => x.out) fun _ _ x => x) fun _ _ x => x) fun _ _ x => x) fun _ _ x => x))
theorem t_strE {Q : Bool → Shared → Prop} (D : Sd w h₀ L m own g os s) (h : ∀ s', Sd w h₀ L m own g os s' → Q false s') : WP w A (truthy (.str "" t)) Q s := t_str D (by decide +kernel) h
theorem r_iaddI {Q : Value → Shared → Prop} (D : Sd w h₀ L m own g os s) (h : ∀ t s', Sd w h₀ L m own g os s' → Q (.int (a + b) t) s') : WP w A (inplaceOp .Add (.int a t) (.int b u)) Q s := .of (P.iadd_int (h _ _ (D.tok _)))
theorem r_iaddS {Q : Value → Shared → Prop} (D : Sd w h₀ L m own g os s) (hz : x.length + y.length ≤ sizeLine) (h : ∀ t s', Sd w h₀ L m own g os s' → Q (.str (x ++ y) t) s') : WP w A (inplaceOp .Add (.str x t) (.str y u)) Q s :=
  .of (wpAny_with_toks (Nat.le_refl _) (PyProof.Rows.iadd_str (fun _ k hle => h _ _ (D.tok k (Nat.le_trans D.pos hle))) hz))
theorem r_isiS {Q : Value → Shared → Prop} (h : Q (.bool true) s) : WP w A (call (.builtin "isinstance") [.str x t, .type "str"]) Q s := .of (IsiPair.str_str h)
end
end Mine
end
section
open PySem PySem.W PyProof.Rows
set_option Elab.async false
set_option maxRecDepth 100000
set_option maxHeartbeats 0
namespace Mine
noncomputable def vw : Program := view pw [0, 1, 37]
def loose0 : List Str := ["_wall", "dict_replace_saxutils", "escape", "unescape", "_twin_re_1", "_whence", "_index", "UnsupportedOperation", "IOBase", "BufferedIOBase", "TextIOBase", "BytesIO", "StringIO", "_kind", "_fspath", "_check_arg_types", "isabs", "join", "join_path", "dirname", "shlex", "split", "join_shlex", "_find_unsafe", "quote", "_law_digits", "_law_sign", "_law_words", "_law_is_bare"]
theorem size0 (w : World) : ((H0 w.params).isNs mainGlobals && (#[] : Array GenState).size == 0, (H0 w.params).objs.size, (H0 w.params).nsMap mainGlobals "__annotations__") = (true, 34, ann0) := by kernel_rfl
theorem looksA (w : World) (os : OsState) : (staticsOk (importedModules pw.main.body) (H0 w.params) (H1 w.params) && namesBound pw (H1 w.params) && gensDone ⟨H1 w.params, #[], ⟨0, 0, 0, 0⟩, 1322, os⟩ && laidKept (H0 w.params) (H1 w.params)) = true := by kernel_rfl
theorem looksB (w : World) (os : OsState) : openSeen vw loose0 (importedModules pw.main.body) (fun _ => true) true ⟨H1 w.params, #[], ⟨0, 0, 0, 0⟩, 1322, os⟩ = openGood vw loose0 := by kernel_rfl
theorem left0 : LeftO pw vw loose0 (fun _ => true) (fun s => s.heap) (fun w => H1 w.params) 100000 :=
  LeftO.of_pieces (gs₀ := #[]) (gs₁ := #[]) opening_runs size0 top_runs (by decide) (fun w => funext fun os => by rw [looksA w os, looksB w os])
def Keeps1 (w : World) (h : Heap) : Prop := ∀ b o, (H1 w.params).get? b = some o → h.get? b = some o
noncomputable def dlaw : DefRec := match stAt [37] pw.main.body with
  | some (PySem.Stmt.FunctionDef n a b _ _ _ sc _ _ p) => { name := n, params := a, body := b, scope := sc, pos := p }
  | _ => { name := "", params := default, body := [], scope := default, pos := default }
theorem nr_split {lk : Look} (k : Nat) : ∀ {b : List Stmt}, noRoadLSs lk (b.take k) = true → noRoadLSs lk (b.drop k) = true → noRoadLSs lk b = true := by
  induction k with
  | zero => intro b _ h; exact h
  | succ k ih =>
    intro b h1 h2
    cases b with
    | nil => exact h2
    | cons s r =>
      rw [List.take_succ_cons] at h1
      unfold noRoadLSs at h1 ⊢
      rw [Bool.and_eq_true] at h1 ⊢
      exact ⟨h1.1, ih h1.2 h2⟩
theorem ro_vars : readsOut PySem.Challenge.rw_dn0059_08.row.prog PySem.Challenge.rw_dn0059_08.row.prog.main.body "vars" = false := by decide +kernel
theorem ro_dir : readsOut PySem.Challenge.rw_dn0059_08.row.prog PySem.Challenge.rw_dn0059_08.row.prog.main.body "dir" = false := by decide +kernel
theorem ro_locals : readsOut PySem.Challenge.rw_dn0059_08.row.prog PySem.Challenge.rw_dn0059_08.row.prog.main.body "locals" = false := by decide +kernel
theorem ro_bare : (["vars", "dir", "locals"] : List Str).filter (readsOut PySem.Challenge.rw_dn0059_08.row.prog PySem.Challenge.rw_dn0059_08.row.prog.main.body) = [] := by
  rw [List.filter_cons_of_neg (by rw [ro_vars]; decide), List.filter_cons_of_neg (by rw [ro_dir]; decide), List.filter_cons_of_neg (by rw [ro_locals]; decide), List.filter_nil]
theorem st_true : (!(importedModules PySem.Challenge.rw_dn0059_08.row.prog.main.body).all cThrough.contains) = false := by decide +kernel
theorem nr_all : noRoadLSs
    { strict := !(importedModules PySem.Challenge.rw_dn0059_08.row.prog.main.body).all cThrough.contains, foot := none, bare := (["vars", "dir", "locals"] : List Str).filter (readsOut PySem.Challenge.rw_dn0059_08.row.prog PySem.Challenge.rw_dn0059_08.row.prog.main.body) } PySem.Challenge.rw_dn0059_08.row.prog.main.body = true := by
  rw [ro_bare, st_true]
  refine nr_split 15 (by decide +kernel) (nr_split 1 (by decide +kernel) (nr_split 1 (by decide +kernel) (nr_split 9 (by decide +kernel) (nr_split 1 (by decide +kernel) (by decide +kernel)))))
theorem said1 : PySem.Challenge.rw_dn0059_08.row.wellSaid = true := by
  unfold OpenRow.wellSaid OpenRow.partSaid looksOpen
  repeat' (with_reducible refine look_both ?_ ?_)
  all_goals (first | (with_reducible exact nr_all) | decide +kernel)
theorem said0 : PySem.Challenge.rw_dn0059_08.wellSaid = true := by
  unfold OpenLaw.wellSaid
  repeat' (with_reducible refine look_both ?_ ?_)
  all_goals (first | (with_reducible exact said1) | decide +kernel)
theorem hd (call : WalkO vw loose0 (fun _ _ => True) Keeps1 PySem.Challenge.rw_dn0059_08.row.toRowW dlaw [] fun f vs => PySem.call f vs) : PySem.Challenge.rw_dn0059_08.Holds := by
  refine holds_law said0 fun said => ?_
  exact PySem.W.holds_open left0 (YP := Keeps1) (fun w s e b o hb => (show s.heap = H1 w.params from e) ▸ hb) (fun w h h' x k b o hb => k b o (x b o hb)) (fun _ _ => trivial) (fun _ _ _ _ _ => trivial)
    (by kernel_rfl) (by kernel_rfl) (by kernel_rfl) (fun s _ => recFacts_nil rfl) (by rfl) (by assumption) (by decide +kernel) ⟨rfl, rfl, rfl, rfl, rfl, by decide +kernel⟩ (by w_witness2) call
end Mine
end
section
open PySem PySem.W PyProof.Rows PySem.Calls
set_option Elab.async false
set_option maxRecDepth 100000
set_option maxHeartbeats 400000
set_option linter.unusedVariables false
namespace Mine
local macro_rules | `(tactic| walk_at "c_at") => `(tactic| first | apply CAt.head | (apply CAt.tail (by kernel_rfl); walk_at "c_at"))
local macro_rules | `(tactic| walk_at "m_at") => `(tactic| first | ((with_reducible show MAt (lexF _ _ _ _ _ _ _ _ _) _ _); with_reducible apply LfAt.at; with_reducible constructor) | ((with_reducible show MAt (lexN _ _ _ _ _ _ _ _) _ _); with_reducible apply LnAt.at; with_reducible constructor) | apply MAt.head | (apply MAt.tail (by kernel_rfl); walk_at "m_at"))
local macro_rules | `(tactic| walk_at "m_put") => `(tactic| first | ((with_reducible show MPut (lexF _ _ _ _ _ _ _ _ _) _ _ _); with_reducible apply LfPut.put; with_reducible constructor) | ((with_reducible show MPut (lexN _ _ _ _ _ _ _ _) _ _ _); with_reducible apply LnPut.put; with_reducible constructor) | apply MPut.nil | apply MPut.head | (apply MPut.tail (by kernel_rfl); walk_at "m_put"))
local macro_rules | `(tactic| walk_at "o_at") => `(tactic| first | assumption | (with_reducible exact Ctx.at (by assumption)) | (with_reducible refine (by assumption : ∀ _ : AO, OAt _ _ _) _) | apply OAt.head | (apply OAt.tail; walk_at "o_at"))
local macro_rules | `(tactic| walk_at "o_put") => `(tactic| first | (with_reducible apply Ctx.put; assumption) | apply OPut.head | (apply OPut.tail; walk_at "o_put"))
local macro_rules | `(tactic| walk_at "glob") => `(tactic| with_reducible first
  | exact Gl.is (by constructor))
-- a node of the text
local macro_rules | `(tactic| walk_at "las") => `(tactic| with_reducible first | exact las_ints | exact las_strs | exact las_list)
local macro_rules | `(tactic| walk_at "sz") => `(tactic| first | assumption | omega | (simp; done) | (simp only [List.length_append, List.length_cons, List.length_nil]; omega))
local macro_rules | `(tactic| walk_at "psh") => `(tactic| first | (with_reducible refine psh_ints ?_; walk_at "sz") | (with_reducible refine psh_strs ?_; walk_at "sz") | (with_reducible refine psh_list ?_; walk_at "sz"))
-- a leaf
local macro_rules | `(tactic| walk_at "d") => `(tactic| first | apply ODel.head | (apply ODel.tail; walk_at "d"))
local macro_rules | `(tactic| walk_at "x") => `(tactic| first
  | (first
  | ((with_reducible show WP _ _ (exec _ _) _ _); first
    | focus ((with_reducible refine x_for (by assumption) ?_ ?_); rotate_left; intro _; rfl)
    | focus ((with_reducible refine x_expr (by assumption) ?_ ?_); rotate_left; rfl)
    | focus ((with_reducible refine x_asg ?_ ?_); rotate_left; exact rfl)
    | focus ((with_reducible refine x_asgA ?_ ?_); rotate_left; exact rfl)
    | (with_reducible refine x_augA ?_)
    | focus ((with_reducible refine x_asgS ?_ ?_); rotate_left; rfl))
  | ((with_reducible show WP _ _ (eval (PySem.Expr.Subscript _ (PySem.Expr.Slice _ _ _ _) _) _) _ _); focus ((with_reducible refine x_slice (by assumption) ?_ ?_); rotate_left; intro _ _; rfl)))
  | (with_reducible first
  | refine x_one ?_ | refine x_cons ?_ | refine x_nil ?_ | refine x_if ?_ | refine x_ret ?_ | refine x_retN ?_ | refine x_bin ?_ | refine x_sub ?_ | refine x_attr ?_ | refine x_args0 ?_ | refine x_notT ?_ | refine x_boolT ?_ | refine x_and ?_ | refine x_or ?_ | refine x_and0 ?_ | refine x_or0 ?_
  | refine x_ifexp ?_ | refine x_none ?_ | refine x_bool ?_ | refine t_bool ?_ | refine x_aug ?_ | refine x_brk ?_ | refine x_cont ?_ | refine x_pass ?_ | refine x_list ?_ | refine x_un ?_ | refine x_bool1 ?_ | refine x_andV ?_ | refine x_orV ?_ | refine x_tests0 ?_ | refine x_tests1 ?_)
  | (first
  | ((with_reducible show WP _ _ (eval (PySem.Expr.Name _ _) _) _ _); first
    | (with_reducible refine r_ld (by assumption) (by assumption) (by kernel_rfl!) (by kernel_rfl) (by walk_at "m_at") ?_)
    | (with_reducible refine r_gl (by assumption) (by assumption) (by assumption) (by kernel_rfl!) (by kernel_rfl) (by walk_at "glob") ?_)
    | (with_reducible refine r_ldc (by assumption) (by assumption) (by kernel_rfl!) (by kernel_rfl) (by walk_at "o_at") (by walk_at "m_at") ?_)
    | (with_reducible refine r_ldf (by assumption) (by assumption) (by kernel_rfl!) (by walk_at "c_at") (by walk_at "o_at") (by kernel_rfl) (by kernel_rfl) ?_)
    | (with_reducible refine r_ldk (by assumption) (by assumption) (by kernel_rfl!) (by walk_at "c_at") (by walk_at "o_at") (by kernel_rfl) ?_))
  | ((with_reducible show WP _ _ (loadName _ _) _ _); (with_reducible refine r_ldn (by assumption) (by assumption) (by kernel_rfl!) (by walk_at "m_at") ?_))
  | ((with_reducible show WP _ _ (eval (PySem.Expr.Constant _ _ _) _) _ _); first
    | ((with_reducible refine r_int (by assumption) ?_); intro _ _ _)
    | ((with_reducible refine r_str (by assumption) ?_); intro _ _ _))
  | ((with_reducible show WP _ _ (binaryOp _ _ _) _ _); first
    | ((with_reducible refine r_sub (by assumption) ?_); intro _ _ _)
    | ((with_reducible refine r_add (by assumption) ?_); intro _ _ _)
    | ((with_reducible refine r_mod (by assumption) (by decide +kernel) ?_); intro _ _ _)
    | ((with_reducible refine r_fdiv (by assumption) (by decide +kernel) (by decide +kernel) ?_); intro _ _ _)
    | ((with_reducible refine r_pow (by assumption) (by decide +kernel) (by decide +kernel) ?_); intro _ _ _))
  | ((with_reducible show WP _ _ (inplaceOp _ _ _) _ _); first
    | ((with_reducible refine r_iaddI (by assumption) ?_); intro _ _ _)
    | ((with_reducible refine r_iaddS (by assumption) (by walk_at "sz") ?_); intro _ _ _))
  | ((with_reducible show WP _ _ (call (Value.builtin "isinstance") _) _ _); (with_reducible refine r_isiS ?_))
  | ((with_reducible show WP _ _ (unaryOp _ _) _ _); (with_reducible refine r_neg (by assumption) ?_); intro _ _ _)
  | ((with_reducible show WP _ _ (getMethod _ _ _) _ _); first
    | (with_reducible refine r_methG (by first | exact mt_406 _ | exact mt_399 _ | exact mt_568 _ | exact mt_725 _ | exact mt_718 _ | exact mt_747 _ | exact mt_754 _) (by assumption) (by assumption) (by walk_at "o_at") (by walk_at "o_at") (by first | exact nofld_sio (by kernel_rfl!) | exact nofld_lex (by kernel_rfl!) | exact nofld_lexE (by kernel_rfl!) | exact nofld_flds (by kernel_rfl!) | assumption) ?_)
    | (with_reducible refine r_mappend (by assumption) (by walk_at "o_at") (by walk_at "las") ?_)
    | ((with_reducible show WP _ _ (getMethod (Value.type "object") _ _) _ _); (with_reducible refine r_objNew (by assumption) (by assumption) ?_); intro _ _)
    | (with_reducible refine r_sreplace ?_)
    | (with_reducible refine r_sjoin ?_)
    | (with_reducible refine r_ssplit ?_)
    | (with_reducible refine r_tmeth PySem.F.slot_dict_get PySem.F.type_dict_get (by assumption) (by walk_at "o_at") ?_)
    | (with_reducible refine r_tmeth PySem.F.slot_dict_items PySem.F.type_dict_items (by assumption) (by walk_at "o_at") ?_))
  | ((with_reducible show WP _ _ (call (Value.builtin "dict.items") _) _ _); (with_reducible refine r_titems (by assumption) (by assumption) (by walk_at "o_at") ?_); intro _ _ _)
  | ((with_reducible show WP _ _ (getAttr _ _ _) _ _); (with_reducible refine r_getf (by assumption) (by assumption) (by walk_at "o_at") (by walk_at "o_at") (by walk_at "m_at") (by kernel_rfl) (by kernel_rfl) ?_); intro _ _)
  | ((with_reducible show WP _ _ (setAttr _ _ _) _ _); (with_reducible refine r_setf (by assumption) (by assumption) (by walk_at "o_at") (by walk_at "o_put") (by walk_at "m_put") (by kernel_rfl) (by first | exact lf_len | exact ln_len | simp) ?_); intro _ _)
  | ((with_reducible show WP _ _ (call (Value.builtin "list.append") _) _ _); (with_reducible refine r_append (by assumption) (by walk_at "o_put") (by walk_at "psh") ?_); intro _ _)
  | ((with_reducible show WP _ _ (call (Value.builtin "len") _) _ _); (with_reducible refine r_lenS (by assumption) (by walk_at "sz") ?_); intro _ _ _)
  | ((with_reducible show WP _ _ (newList _) _ _); (with_reducible refine r_newlist (by assumption) (by walk_at "sz") ?_); intro _ _ _)
  | ((with_reducible show WP _ _ (compareOp _ _ _) _ _); (with_reducible first | refine r_isnRs ?_ | refine r_isnRR (by assumption) (by assumption) (by kernel_rfl!) ?_ | refine r_lt ?_ | refine r_ge ?_ | refine r_gt ?_ | refine r_le ?_ | refine r_eqi ?_ | refine r_nei ?_ | refine r_eqs ?_ | refine r_nes ?_ | refine r_inS ?_ | refine r_ninS ?_ | refine r_isnTs ?_ | refine r_isIN ?_ | refine r_isnIN ?_ | refine r_isSN ?_ | refine r_isnSN ?_ | refine r_isRN ?_ | refine r_isnRN ?_ | refine r_isNN ?_ | refine r_isnNN ?_))
  | ((with_reducible show WP _ _ (call (Value.builtin "object.__new__") _) _ _); (with_reducible refine r_new622 (by assumption) (by assumption) ?_); intro _ _ _ _)
  | ((with_reducible show WP _ _ (call (Value.type _) _) _ _); first
    | (with_reducible first | refine r_typeI ?_ | refine r_typeS ?_ | refine r_intI ?_)
    | ((with_reducible refine r_deque (by assumption) ?_); intro _ _ _))
  | ((with_reducible show WP _ _ (truthy _) _ _); first
    | (with_reducible refine t_bool ?_)
    | (with_reducible refine t_int ?_)
    | (with_reducible refine t_none ?_)
    | ((with_reducible refine t_strE (by assumption) ?_); intro _ _)
    | ((with_reducible refine t_str (by assumption) (by walk_at "sz") ?_); intro _ _)
    | ((with_reducible refine t_dq (by assumption) (by walk_at "o_at") (by walk_at "sz") ?_); intro _ _)
    | ((with_reducible refine t_tab (by assumption) (by assumption) (by walk_at "o_at") (by walk_at "sz") ?_); intro _ _))
  | ((with_reducible show WP _ _ (storeName _ _ _) _ _); first
    | ((with_reducible refine r_st (by assumption) (by assumption) (by walk_at "m_put") (by kernel_rfl!) ?_); intro _ _)
    | ((with_reducible refine r_stk (by assumption) (by assumption) (by walk_at "c_at") (by walk_at "o_put") (by kernel_rfl!) ?_); intro _ _))
  | ((with_reducible show WP _ _ (evalPart _ _) _ _); first
    | (with_reducible refine x_part0 ?_)
    | (with_reducible refine x_part1 ?_))
  | ((with_reducible show KS _ _ _ ∧ _); (with_reducible refine KS.mk (by assumption) ?_)))
  | (first
  | ((with_reducible show WP _ _ (PySem.isTrue _ _ _) _ _); first
    | focus ((with_reducible refine x_cmpT ?_ ?_); rotate_left; exact rfl)
    | focus ((with_reducible refine x_valT ?_ ?_); rotate_left; exact rfl))
  | focus ((with_reducible refine x_cmp ?_ ?_); rotate_left; exact rfl)
  | focus ((with_reducible refine x_args ?_ ?_); rotate_left; exact rfl)
  | ((with_reducible show WP _ _ (eval (PySem.Expr.Call _ _ _ _) _) _ _); first
    | focus ((with_reducible apply x_meth); rotate_left; exact rfl)
    | focus ((with_reducible refine x_call ?_ ?_); rotate_left; exact rfl))
  | ((with_reducible show WP _ _ (callWith _ (Value.builtin _) _ _ _) _ _); first
    | ((with_reducible show WP _ _ (callWith _ (Value.builtin "str.replace") _ _ _) _ _); focus ((with_reducible refine x_repl (by assumption) (by assumption) ?_ ?_ ?_ ?_ ?_); kernel_rfl!; assumption; rotate_left; exact rfl; exact rfl; intro _ _ _))
    | focus ((with_reducible refine x_b00 ?_ ))
    | focus ((with_reducible refine x_b01 ?_ ?_); rotate_left; exact rfl)
    | focus ((with_reducible refine x_b02 ?_ ?_ ?_); rotate_left; exact rfl; exact rfl)
    | focus ((with_reducible refine x_b03 ?_ ?_ ?_ ?_); rotate_left; exact rfl; exact rfl; exact rfl)
    | focus ((with_reducible refine x_b10 ?_ ))
    | focus ((with_reducible refine x_b11 ?_ ?_); rotate_left; exact rfl)
    | focus ((with_reducible refine x_b12 ?_ ?_ ?_); rotate_left; exact rfl; exact rfl)
    | focus ((with_reducible refine x_b13 ?_ ?_ ?_ ?_); rotate_left; exact rfl; exact rfl; exact rfl))
  | ((with_reducible show WP _ _ (callWith _ (Value.ref _) _ _ _) _ _); first
    | focus ((with_reducible refine x_k777 (by assumption) ?_ ?_); rotate_left; exact rfl)
    | focus ((with_reducible refine x_k00 (by assumption) ?_ ?_ ); kernel_rfl)
    | focus ((with_reducible refine x_k01 (by assumption) ?_ ?_ ?_); kernel_rfl; rotate_left; exact rfl)
    | focus ((with_reducible refine x_k02 (by assumption) ?_ ?_ ?_ ?_); kernel_rfl; rotate_left; exact rfl; exact rfl)
    | focus ((with_reducible refine x_k03 (by assumption) ?_ ?_ ?_ ?_ ?_); kernel_rfl; rotate_left; exact rfl; exact rfl; exact rfl)
    | focus ((with_reducible refine x_k10 (by assumption) ?_ ?_ ); kernel_rfl)
    | focus ((with_reducible refine x_k11 (by assumption) ?_ ?_ ?_); kernel_rfl; rotate_left; exact rfl)
    | focus ((with_reducible refine x_k12 (by assumption) ?_ ?_ ?_ ?_); kernel_rfl; rotate_left; exact rfl; exact rfl)
    | focus ((with_reducible refine x_k13 (by assumption) ?_ ?_ ?_ ?_ ?_); kernel_rfl; rotate_left; exact rfl; exact rfl; exact rfl))
  | ((with_reducible show WP _ _ (callWith _ (Value.type _) _ _ _) _ _); first
    | focus ((with_reducible refine x_t0 ?_ ))
    | focus ((with_reducible refine x_t1 ?_ ?_); rotate_left; exact rfl)
    | focus ((with_reducible refine x_t2 ?_ ?_ ?_); rotate_left; exact rfl; exact rfl)))
  | (((with_reducible show ite _ _ _); first
  | (with_reducible refine ite_t ?_)
  | (with_reducible refine ite_f ?_)
  | (with_reducible refine ite_dt (by first | assumption | omega) ?_)
  | (with_reducible refine ite_df (by first | assumption | omega) ?_)
  | (with_reducible refine ite_kt (by kernel_rfl!) ?_)
  | (with_reducible refine ite_kf (by kernel_rfl!) ?_))))
section
def signs08 : List Nat := [97, 98, 47, 45, 39, 34, 38, 60, 62, 32, 10, 35, 59, 92, 233]
def sign08 (d : Nat) : Nat := if d < 16 then signs08.getD (d - 1) 0 else d - 16
section
variable {w : World} {n : Nat} {A : Around} {env : Env} {h₀ : Heap} {L : Addr} {m m' : List (Str × Value)} {own : List (Addr × AO)} {g : GP} {os : Osb} {s : Shared} {path₀ : List Nat}
theorem law_sign_spec {d : Nat} {t : Tok} {Q : Value → Shared → Prop} (C : Fx w n A env h₀ L path₀) (D : Sd w h₀ L m own g os s) (hn : n ≤ 390) (h1 : 1 ≤ d) (h2 : d < 1114128)
    (h : ∀ t s', Sd w h₀ L m own g os s' → Q (.str ⟨#[sign08 d]⟩ t) s') : WP w A (call (.ref 798) [.int d t]) Q s := by
  refine enterQ [("d", .int d t)] (fn_798 w.params) C D (by omega) (BindsTo.of_eq (binds := [("d", .int d t)]) (by kernel_rfl)) rfl (by kernel_rfl) (by kernel_rfl) ?_
  intro g₁ L' env s Q' hQ V C D
  conv in bodyAt [34] => whnf
  repeat walk_at "x"
  by_cases hd : (d : Int) < 16
  · refine ite_dt hd ?_
    repeat walk_at "x"
    have e1 : ((d : Int) - 1).toNat = d - 1 := by omega
    refine r_sitemT (signs08.getD (d - 1) 0) (by assumption) (by omega) (by omega) ?_ rfl ?_
    · rw [e1]
      have : ∀ d : Fin 16, 1 ≤ d.val → (PySem.Str.ofString "ab/-'\"&<> \n#;\\é").cps[d.val - 1]? = some (signs08.getD (d.val - 1) 0) := by decide +kernel
      exact this ⟨d, by omega⟩ h1
    intro t5 s D
    refine hQ _ _ (back_ D fun D => ?_)
    have e2 : sign08 d = signs08.getD (d - 1) 0 := by unfold sign08; rw [if_pos (by omega)]
    rw [← e2]
    exact h _ _ D
  · refine ite_df hd ?_
    repeat walk_at "x"
    have e1 : ((d : Int) - 16).toNat = d - 16 := by omega
    refine r_chr (by assumption) (by omega) (by omega) ?_; intro t5 s D
    refine hQ _ _ (back_ D fun D => ?_)
    have e2 : sign08 d = d - 16 := by unfold sign08; rw [if_neg (by omega)]
    rw [e1, ← e2]
    exact h _ _ D
end
end
section
def digs (n : Nat) : List Nat := if n < 1114128 then [n] else n % 1114128 :: digs (n / 1114128)
termination_by n
decreasing_by omega
def digsI (x : Int) : List Int := (digs (x.fmod (1114128 ^ 20)).toNat).map Int.ofNat
def lawDigits (ns : List Int) : List Int := ((ns.take 120).flatMap digsI).take 120
theorem digs_len : ∀ (k n : Nat), n < 1114128 ^ (k + 1) → (digs n).length ≤ k + 1
  | 0, n, h => by unfold digs; rw [if_pos (by simpa using h)]; simp
  | k + 1, n, h => by
    unfold digs
    split
    · simp
    · have : n / 1114128 < 1114128 ^ (k + 1) := by
        rw [Nat.div_lt_iff_lt_mul (by decide)]
        rw [Nat.pow_succ] at h; exact h
      have := digs_len k _ this
      simp only [List.length_cons]; omega
theorem digsI_len (x : Int) : (digsI x).length ≤ 20 := by
  unfold digsI
  rw [List.length_map]
  refine digs_len 19 _ ?_
  have h0 : (0 : Int) ≤ x.fmod (1114128 ^ 20) := Int.fmod_nonneg_of_pos _ (by decide +kernel)
  have h1 : x.fmod (1114128 ^ 20) < 1114128 ^ 20 := Int.fmod_lt_of_pos _ (by decide +kernel)
  have h2 : ((x.fmod (1114128 ^ 20)).toNat : Int) < ((1114128 ^ 20 : Nat) : Int) := by rw [Int.toNat_of_nonneg h0]; exact h1
  exact Int.ofNat_lt.mp h2
theorem flat_len : ∀ l : List Int, (l.flatMap digsI).length ≤ 20 * l.length
  | [] => by simp
  | x :: r => by
    have := flat_len r
    have := digsI_len x
    simp only [List.flatMap_cons, List.length_append, List.length_cons]
    omega
theorem ints_at : ∀ {vs : List Value} {ns : List Int} {i : Nat} {v : Value}, IntsAre vs ns → vs[i]? = some v → ∃ a t, v = .int a t ∧ ns[i]? = some a
  | _, _, _, _, .nil, h => by simp at h
  | _, _, 0, _, .cons n t r, h => ⟨n, t, by simpa using h.symm, rfl⟩
  | _, _, i + 1, _, .cons n t r, h => by simpa using ints_at r (by simpa using h)
theorem strs_at : ∀ {vs : List Value} {ns : List Str} {i : Nat} {v : Value}, StrsAre vs ns → vs[i]? = some v → ∃ a t, v = .str a t ∧ ns[i]? = some a
  | _, _, _, _, .nil, h => by simp at h
  | _, _, 0, _, .cons n t r, h => ⟨n, t, by simpa using h.symm, rfl⟩
  | _, _, i + 1, _, .cons n t r, h => by simpa using strs_at r (by simpa using h)
section
variable {w : World} {n : Nat} {A : Around} {env : Env} {h₀ : Heap} {L : Addr} {m m' : List (Str × Value)} {own : List (Addr × AO)} {g : GP} {os : Osb} {s : Shared} {path₀ : List Nat}
theorem law_digits_spec {l : Addr} {ns : List Int} {Q : Value → Shared → Prop} (C : Fx w n A env h₀ L path₀) (D : Sd w h₀ L m own g os s) (hn : n ≤ 390) (hl : OAt own l (.ints ns)) (hlen : ns.length ≤ 1000)
    (h : ∀ r s', Sd w h₀ L m ((r, .ints (lawDigits ns)) :: own) g os s' → Q (.ref r) s') : WP w A (call (.ref 791) [.ref l]) Q s := by
  refine enterQ [("numbers", .ref l)] (fn_791 w.params) C D (by omega) (BindsTo.of_eq (binds := [("numbers", .ref l)]) (by kernel_rfl)) rfl (by kernel_rfl) (by kernel_rfl) ?_
  intro g₁ L' env s Q' hQ V C D
  have hh : (A.deeper env).handled = none := C.hand
  conv in bodyAt [33] => whnf
  repeat walk_at "x"
  rename_i d0 _ _ _ _ _ _ _
  refine ⟨l, _, _, _, _, _, rfl, by assumption, by walk_at "o_at", las_ints, ?_, .none, .int _ _, ?_⟩
  · intro vs hi; rw [hi.length]; omega
  intro vs d1 s hi D
  have hvs : IntsAre (slicePick vs.toArray none (some 120) none).toList (ns.take 120) := kmk_upto hi (by decide)
  replace D := D.re (ao' := .ints (ns.take 120)) .head (fun o ⟨n, e⟩ => ⟨_, n, e, hvs⟩)
  refine for_list (ns.take 120).length (fun i m own' => m = ([("numbers", .ref l), ("digits", .ref d0)] : Ls) ∧ own' = ((d1, .ints (ns.take 120)) :: (d0, .ints (((ns.take 120).take i).flatMap digsI)) :: own : Os)) C
    (D.re (ao' := .ints []) (.tail .head) (fun o ⟨n, e⟩ => ⟨[], n, e, .nil⟩)) las_ints .head (by kernel_rfl) (fun _ e => e.length) ⟨rfl, rfl⟩ ⟨?_, ?_, ?_⟩
  · rintro i m own ⟨rfl, rfl⟩
    exact ⟨.head, by kernel_rfl⟩
  · rintro i vs v mb own s I hi hp hv ⟨rfl, rfl⟩ D
    simp only [List.cons_append, List.nil_append] at D ⊢
    obtain ⟨a, ta, rfl, ha⟩ : ∃ a t, v = .int a t ∧ (ns.take 120)[i]? = some a := ints_at hp hv
    have hz : (List.flatMap digsI (List.take i (List.take 120 ns))).length ≤ 2400 := by
      have h1 := flat_len (List.take i (List.take 120 ns))
      have h2 : (List.take i (List.take 120 ns)).length ≤ 120 := by simp only [List.length_take]; omega
      omega
    repeat walk_at "x"
    rename_i s D
    have h0 : (0 : Int) ≤ a.fmod (1114128 ^ 20) := Int.fmod_nonneg_of_pos _ (by decide +kernel)
    have e20 : (1114128 : Int) ^ Int.toNat 20 = 1114128 ^ 20 := rfl
    rw [e20] at D
    generalize hN : a.fmod (1114128 ^ 20) = N at D h0
    have eN : digsI a = (digs N.toNat).map Int.ofNat := by unfold digsI; rw [hN]
    have hlenA := digsI_len a
    have htk : List.flatMap digsI (List.take (i + 1) (List.take 120 ns)) = List.flatMap digsI (List.take i (List.take 120 ns)) ++ digsI a := by
      rw [List.take_add_one, ha, List.flatMap_append]; simp
    have hA : [((N.toNat % 1114128 : Nat) : Int)] ++ (if N.toNat < 1114128 then [] else (digs (N.toNat / 1114128)).map Int.ofNat) = digsI a := by
      rw [eN]
      conv => rhs; unfold digs
      split
      · rename_i hlt
        simp [Nat.mod_eq_of_lt hlt]
      · simp
    have e5 : N.fmod 1114128 = ((N.toNat % 1114128 : Nat) : Int) := by
      rw [Int.fmod_eq_emod_of_nonneg _ (by decide)]
      omega
    have e6 : N = ((N.toNat : Nat) : Int) := by omega
    have hD := D
    rw [e5] at hD
    rw [show ∀ t, Value.int N t = Value.int ((N.toNat : Nat) : Int) t from fun t => by rw [← e6]] at hD
    refine x_while (fun k s => ∃ (c : Nat) (t : Tok) (ds : List Int), k = c ∧ ds ++ (if c < 1114128 then [] else (digs (c / 1114128)).map Int.ofNat) = digsI a ∧
      Sd w g₁ L' [("numbers", .ref l), ("digits", .ref d0), ("x", .int c t)] ((I, liter d1 (i + 1)) :: (d1, .ints (List.take 120 ns)) :: (d0, .ints (List.flatMap digsI (List.take i (List.take 120 ns)) ++ ds)) :: own) g os s)
      N.toNat ⟨N.toNat, _, [((N.toNat % 1114128 : Nat) : Int)], rfl, hA, hD⟩ ?_
    · rintro c s ⟨_, t, ds, rfl, hds, D⟩
      have hl20 : ds.length ≤ 20 := by have := congrArg List.length hds; rw [List.length_append] at this; omega
      walk_at "x"
      repeat walk_at "x"
      by_cases hc : (1114128 : Int) ≤ c
      · refine ite_dt hc ?_
        have hc' : ¬ c < 1114128 := by omega
        rw [if_neg hc'] at hds
        have e1 : (c : Int).fdiv 1114128 = ((c / 1114128 : Nat) : Int) := by
          rw [Int.fdiv_eq_ediv_of_nonneg _ (by decide)]; omega
        have e2 : ((c / 1114128 : Nat) : Int).fmod 1114128 = ((c / 1114128 % 1114128 : Nat) : Int) := by
          rw [Int.fmod_eq_emod_of_nonneg _ (by decide)]; omega
        repeat walk_at "x"
        rename_i s D
        rw [e1, e2, List.append_assoc] at D
        refine ⟨c / 1114128, by omega, c / 1114128, _, _, rfl, ?_, D⟩
        rw [← hds, List.append_assoc]
        congr 1
        conv => rhs; unfold digs
        split
        · rename_i hlt
          simp [Nat.mod_eq_of_lt hlt]
        · simp
      · refine ite_df hc ?_
        rename_i s D
        have hc' : c < 1114128 := by omega
        rw [if_pos hc', List.append_nil] at hds
        rw [hds, ← htk] at D
        exact ⟨_, _, _, ⟨rfl, rfl⟩, D⟩
  · rintro mb me own s ⟨rfl, rfl⟩ D
    rw [List.take_length] at D
    simp only [List.cons_append, List.nil_append] at D ⊢
    repeat walk_at "x"
    refine ⟨d0, _, _, _, _, _, rfl, by assumption, by walk_at "o_at", las_ints, ?_, .none, .int _ _, ?_⟩
    · intro vs hi
      rw [hi.length]
      have h1 := flat_len (List.take 120 ns)
      have h2 : (List.take 120 ns).length ≤ 120 := by simp only [List.length_take]; omega
      omega
    intro vs d2 s hi D
    have hvs2 : IntsAre (slicePick vs.toArray none (some 120) none).toList (lawDigits ns) := kmk_upto hi (by decide)
    replace D := D.re (ao' := .ints (lawDigits ns)) .head (fun o ⟨n, e⟩ => ⟨_, n, e, hvs2⟩)
    replace D := (D.del (.tail .head)).del (.tail .head)
    exact hQ _ _ <| back_ D fun D => h _ _ D
end
end
section
def lawStep (ws : List Str) (d : Int) : List Str := if d = 0 then ws ++ [Str.ofString ""] else (if ws = [] then [] else ws.dropLast) ++ [(if ws = [] then Str.ofString "" else ws.getLastD (Str.ofString "")) ++ ⟨#[sign08 d.toNat]⟩]
def lawWords (ds : List Int) : List Str := ds.foldl lawStep []
theorem lawWords_snoc (ds : List Int) (d : Int) : lawWords (ds ++ [d]) = lawStep (lawWords ds) d := by unfold lawWords; rw [List.foldl_append]; rfl
theorem sign_lt {d : Nat} (h : d < 1114128) : sign08 d < 0x110000 := by
  unfold sign08
  split
  · rename_i h16
    have : ∀ d : Fin 16, signs08.getD (d.val - 1) 0 < 0x110000 := by decide +kernel
    exact this ⟨d, h16⟩
  · omega
def WOk (k : Nat) (ws : List Str) : Prop := ws.length ≤ k ∧ ∀ x ∈ ws, x.length ≤ k ∧ PyData.strOk x = true
theorem getLastD_mem {α : Type} : ∀ (l : List α) (d : α), l ≠ [] → l = l.dropLast ++ [l.getLastD d]
  | [], _, h => absurd rfl h
  | [a], d, _ => rfl
  | a :: b :: r, d, _ => by
    have := getLastD_mem (b :: r) d (by simp)
    simp only [List.dropLast_cons_cons, List.cons_append, List.getLastD_cons] at this ⊢
    exact congrArg (a :: ·) this
theorem step_ok {k : Nat} {ws : List Str} {d : Int} (h : WOk k ws) (h0 : 0 ≤ d) (h1 : d < 1114128) : WOk (k + 1) (lawStep ws d) := by
  obtain ⟨hl, hw⟩ := h
  have one : PyData.strOk ⟨#[sign08 d.toNat]⟩ = true := by
    have := sign_lt (d := d.toNat) (by omega)
    simp [PyData.strOk, this]
  have cat : ∀ x : Str, PyData.strOk x = true → PyData.strOk (x ++ ⟨#[sign08 d.toNat]⟩) = true := fun x hx => by
    show (x.cps ++ #[sign08 d.toNat]).all _ = true
    rw [Array.all_append, Bool.and_eq_true]
    exact ⟨hx, one⟩
  have len : ∀ x : Str, (x ++ (⟨#[sign08 d.toNat]⟩ : Str)).length = x.length + 1 := fun x => by rw [Str.length_append]; rfl
  unfold lawStep
  split
  · refine ⟨by rw [List.length_append]; simp; exact hl, fun x hx => ?_⟩
    rcases List.mem_append.mp hx with hx | hx
    · exact ⟨Nat.le_succ_of_le (hw x hx).1, (hw x hx).2⟩
    · rw [List.mem_singleton.mp hx]
      exact ⟨Nat.zero_le _, by kernel_rfl⟩
  · by_cases he : ws = []
    · rw [if_pos he, if_pos he]
      refine ⟨by simp, fun x hx => ?_⟩
      rw [List.nil_append] at hx
      rw [List.mem_singleton.mp hx]
      refine ⟨?_, cat _ (by kernel_rfl)⟩
      rw [len]
      show 0 + 1 ≤ _
      omega
    · rw [if_neg he, if_neg he]
      have hm := getLastD_mem ws (Str.ofString "") he
      refine ⟨by rw [List.length_append, List.length_dropLast]; simp; omega, fun x hx => ?_⟩
      rcases List.mem_append.mp hx with hx | hx
      · have := hw x (List.dropLast_subset _ hx)
        exact ⟨Nat.le_succ_of_le this.1, this.2⟩
      · rw [List.mem_singleton.mp hx]
        have := hw (ws.getLastD (Str.ofString "")) (by rw [hm]; simp)
        exact ⟨by rw [len]; omega, cat _ this.2⟩
theorem words_ok : ∀ (i : Nat) (ns : List Int), (∀ d ∈ ns, 0 ≤ d ∧ d < 1114128) → WOk i (lawWords (ns.take i))
  | 0, ns, _ => ⟨Nat.le_refl _, fun _ h => by cases h⟩
  | i + 1, ns, h => by
    cases e : ns[i]? with
    | none =>
      have : ns.take (i + 1) = ns.take i := by rw [List.take_add_one, e]; simp
      rw [this]
      obtain ⟨a, b⟩ := words_ok i ns h
      exact ⟨Nat.le_succ_of_le a, fun x hx => ⟨Nat.le_succ_of_le (b x hx).1, (b x hx).2⟩⟩
    | some d =>
      have : ns.take (i + 1) = ns.take i ++ [d] := by rw [List.take_add_one, e]; rfl
      rw [this, lawWords_snoc]
      have hd := h d (List.mem_of_getElem? e)
      exact step_ok (words_ok i ns h) hd.1 hd.2
theorem WOk.all {k : Nat} {ws : List Str} (h : WOk k ws) : ws.all PyData.strOk = true := List.all_eq_true.mpr fun x hx => (h.2 x hx).2
section
variable {w : World} {n : Nat} {A : Around} {env : Env} {h₀ : Heap} {L : Addr} {m m' : List (Str × Value)} {own : List (Addr × AO)} {g : GP} {os : Osb} {s : Shared} {path₀ : List Nat}
theorem law_words_spec {l : Addr} {ns : List Int} {Q : Value → Shared → Prop} (C : Fx w n A env h₀ L path₀) (D : Sd w h₀ L m own g os s) (hn : n ≤ 380) (hl : OAt own l (.ints ns)) (hlen : ns.length ≤ 200) (hd : ∀ d ∈ ns, 0 ≤ d ∧ d < 1114128)
    (h : ∀ r s', Sd w h₀ L m ((r, .strs (lawWords ns)) :: own) g os s' → Q (.ref r) s') : WP w A (call (.ref 805) [.ref l]) Q s := by
  refine enterQ [("digits", .ref l)] (fn_805 w.params) C D (by omega) (BindsTo.of_eq (binds := [("digits", .ref l)]) (by kernel_rfl)) rfl (by kernel_rfl) (by kernel_rfl) ?_
  intro g₁ L' env s Q' hQ V C D
  conv in bodyAt [35] => whnf
  repeat walk_at "x"
  rename_i r0 _ _ s D
  refine for_list ns.length (fun i m own' => m = ([("digits", .ref l), ("words", .ref r0)] : Ls) ∧ own' = ((r0, .strs (lawWords (ns.take i))) :: own : Os)) C
    (D.re (ao' := .strs []) .head (fun o ⟨n, e⟩ => ⟨[], n, e, .nil⟩)) las_ints (.tail hl) (by kernel_rfl) (fun _ e => e.length) ⟨rfl, rfl⟩ ⟨?_, ?_, ?_⟩
  · rintro i m own ⟨rfl, rfl⟩
    exact ⟨.tail hl, by kernel_rfl⟩
  · rintro i vs v mb own s I hi hp hv ⟨rfl, rfl⟩ D
    simp only [List.cons_append, List.nil_append] at D ⊢
    obtain ⟨d, td, rfl, hd'⟩ : ∃ a t, v = .int a t ∧ ns[i]? = some a := ints_at hp hv
    obtain ⟨d0, d1⟩ := hd d (List.mem_of_getElem? hd')
    obtain ⟨k, rfl⟩ := Int.eq_ofNat_of_zero_le d0
    have hwok := words_ok i ns hd
    have htk : lawWords (ns.take (i + 1)) = lawStep (lawWords (ns.take i)) (k : Int) := by
      have : ns.take (i + 1) = ns.take i ++ [(k : Int)] := by rw [List.take_add_one, hd']; rfl
      rw [this, lawWords_snoc]
    generalize lawWords (ns.take i) = ws at D hwok htk
    have hz : ws.length ≤ 1000 := by have := hwok.1; omega
    repeat walk_at "x"
    by_cases h0 : (k : Int) = 0
    · refine ite_dt h0 ?_
      repeat walk_at "x"
      rename_i s D
      have e : lawStep ws (k : Int) = ws ++ [Str.ofString ""] := by unfold lawStep; rw [if_pos h0]
      exact ⟨_, _, _, ⟨rfl, rfl⟩, by rw [htk, e]; exact D⟩
    · refine ite_df h0 ?_
      repeat walk_at "x"
      rename_i d2 s D
      have one : PyData.strOk (Str.ofString "") = true := by kernel_rfl
      refine r_eqSS C D (by omega) hwok.all (by rfl) (by walk_at "o_at") las_strs (by walk_at "o_at") las_strs0 ?_
      replace D := D.drop
      walk_at "x"
      by_cases he : ws = []
      · refine ite_dt he ?_
        subst he
        have e : lawStep [] (k : Int) = [] ++ [Str.ofString "" ++ ⟨#[sign08 k]⟩] := by unfold lawStep; rw [if_neg h0]; rfl
        have hx : (Str.ofString "").length = 0 := by kernel_rfl
        repeat walk_at "x"
        rename_i t s D
        refine r_lastT D (by walk_at "o_at") las_strs (fun vs hv => ?_) rfl
        obtain ⟨us', t', rfl, _⟩ := strs_snoc_inv hv
        refine ⟨us', _, rfl, ?_⟩
        repeat walk_at "x"
        refine law_sign_spec C (by assumption) (by omega) (by omega) (by omega) ?_
        intro t s D
        refine r_adds D ?_ ?_
        · rw [show (⟨#[sign08 k]⟩ : Str).length = 1 from rfl]
          unfold sizeLine
          omega
        intro t s D
        repeat walk_at "x"
        rename_i t s D
        refine r_setlastS D (by walk_at "o_put") ?_
        intro s D
        repeat walk_at "x"
        exact ⟨_, _, _, ⟨rfl, rfl⟩, by rw [htk, e]; exact D⟩
      · refine ite_df he ?_
        have hm := getLastD_mem ws (Str.ofString "") he
        have hx : (ws.getLastD (Str.ofString "")).length ≤ i := (hwok.2 _ (by rw [hm]; simp)).1
        have e : lawStep ws (k : Int) = ws.dropLast ++ [ws.getLastD (Str.ofString "") ++ ⟨#[sign08 k]⟩] := by unfold lawStep; rw [if_neg h0, if_neg he, if_neg he]; rfl
        rw [hm] at D
        generalize ws.getLastD (Str.ofString "") = x at D hx e
        generalize ws.dropLast = us at D e
        repeat walk_at "x"
        rename_i t s D
        refine r_lastT D (by walk_at "o_at") las_strs (fun vs hv => ?_) rfl
        obtain ⟨us', t', rfl, _⟩ := strs_snoc_inv hv
        refine ⟨us', _, rfl, ?_⟩
        repeat walk_at "x"
        refine law_sign_spec C (by assumption) (by omega) (by omega) (by omega) ?_
        intro t s D
        refine r_adds D ?_ ?_
        · rw [show (⟨#[sign08 k]⟩ : Str).length = 1 from rfl]
          unfold sizeLine
          omega
        intro t s D
        repeat walk_at "x"
        rename_i t s D
        refine r_setlastS D (by walk_at "o_put") ?_
        intro s D
        repeat walk_at "x"
        exact ⟨_, _, _, ⟨rfl, rfl⟩, by rw [htk, e]; exact D⟩
  · rintro mb me own s ⟨rfl, rfl⟩ D
    rw [List.take_length] at D
    simp only [List.cons_append, List.nil_append] at D ⊢
    repeat walk_at "x"
    exact hQ _ _ <| back_ (by assumption) fun D => h _ _ D
end
end
section
section
variable {w : World} {n : Nat} {A : Around} {env : Env} {h₀ : Heap} {L : Addr} {m m' : List (Str × Value)} {own : List (Addr × AO)} {g : GP} {os : Osb} {s : Shared} {path₀ : List Nat}
theorem index_spec {i : Int} {t u : Tok} {x : Str} {Q : Value → Shared → Prop} (C : Fx w n A env h₀ L path₀) (D : Sd w h₀ L m own g os s) (hn : n ≤ 390) (hi : 0 ≤ i) (hi2 : i ≤ 1000)
    (h : ∀ t s', Sd w h₀ L m own g os s' → Q (.int i t) s') : WP w A (call (.ref 88) [.int i t, .str x u]) Q s := by
  refine enterQ [("what", .str x u), ("n", .int i t)] (fn_88 w.params) C D (by omega) (BindsTo.of_eq (binds := [("n", .int i t), ("what", .str x u)]) (by kernel_rfl)) rfl (by kernel_rfl) (by kernel_rfl) ?_
  intro g₁ L' env s Q' hQ V C D
  conv in bodyAt [10] => whnf
  repeat walk_at "x"
  exact hQ _ _ <| back_ (by assumption) fun D => h _ _ D
variable {f : AO → Os} {d i : Addr} {x : Str} {p : Nat}
theorem check_spec {Q : Value → Shared → Prop} (C : Fx w n A env h₀ L path₀) (F : Ctx f d) (hi : ∀ a, OAt (f a) i (.inst 622 d)) (D : Sd w h₀ L m (f (sioA w x p)) g os s) (hn : n ≤ 390)
    (h : ∀ s', Sd w h₀ L m (f (sioA w x p)) g os s' → Q .none s') : WP w A (call (.ref 406) [.ref i]) Q s := by
  refine enterQ [("self", .ref i)] (fn_406 w.params) C D (by omega) (BindsTo.of_eq (binds := [("self", .ref i)]) (by kernel_rfl)) rfl (by kernel_rfl) (by kernel_rfl) ?_
  intro g₁ L' env s Q' hQ V C D
  conv in bodyAt [16, 3] => whnf
  obtain ⟨o, ⟨tn, tx, tp, ho⟩, k⟩ := D.open F
  replace D := k _ ho
  repeat walk_at "x"
  rename_i s D
  exact hQ _ _ (back_ (D.shut F fun o ho => ⟨tn, tx, tp, ho⟩) fun D => h _ D)
theorem read1_spec {t : Tok} {Q : Value → Shared → Prop} (C : Fx w n A env h₀ L path₀) (F : Ctx f d) (hi : ∀ a, OAt (f a) i (.inst 622 d)) (D : Sd w h₀ L m (f (sioA w x p)) g os s) (hn : n ≤ 380) (hx : x.length ≤ 100000) (hp : p ≤ x.length)
    (h : ∀ t s', Sd w h₀ L m (f (sioA w x (min (p + 1) x.length))) g os s' → Q (.str ⟨(x.cps.extract p (p + 1))⟩ t) s') : WP w A (call (.ref 568) [.ref i, .int 1 t]) Q s := by
  refine enterQ [("size", .int 1 t), ("self", .ref i)] (fn_568 w.params) C D (by omega) (binds_K (binds := [("self", .ref i), ("size", .int 1 t)]) (C.gk.keeps D.fr.keep) rfl (show (KK w.params).lookup 561 = some (o573 w.params) by kernel_rfl) rfl rfl rfl) rfl (by kernel_rfl) (by kernel_rfl) ?_
  intro g₁ L' env s Q' hQ V C D
  conv in bodyAt [16, 25] => whnf
  have hz : x.length ≤ sizeLine := by unfold sizeLine; omega
  repeat walk_at "x"
  refine index_spec C (by assumption) (by omega) (by omega) (by omega) ?_
  intro t1 s D
  repeat walk_at "x"
  refine check_spec C F hi (by assumption) (by omega) ?_
  intro s D
  obtain ⟨o, ⟨tn, tx, tp, ho⟩, k⟩ := D.open F
  replace D := k _ ho
  repeat walk_at "x"
  by_cases hlt : (x.length : Int) ≤ p
  · have e1 : min (p + 1) x.length = p := by omega
    have e2 : (⟨x.cps.extract p (p + 1)⟩ : Str) = Str.ofString "" := by
      have : x.cps.extract p (p + 1) = #[] := by
        apply Array.eq_empty_of_size_eq_zero
        have : x.cps.size = x.length := rfl
        simp only [Array.size_extract]
        omega
      rw [this]
      kernel_rfl
    repeat walk_at "x"
    rename_i s D
    replace D := D.shut F (P := fun o => ∃ tn tx tp, (AO.flds (sioF x p tn tx tp)).Is w o) (fun o ho => ⟨_, _, _, ho⟩)
    refine hQ _ _ (back_ D fun D => ?_)
    rw [← e2]
    rw [e1] at h
    exact h _ _ D
  · have e1 : min (p + 1) x.length = p + 1 := by omega
    by_cases h2 : (p : Int) + 1 < x.length
    · repeat walk_at "x"
      refine r_evslice (by assumption) ?_
      repeat walk_at "x"
      refine ⟨_, by assumption, ?_⟩
      intro b s D
      refine r_sliceTT (i := some (_, _)) (j := some (_, _)) D .head hz ?_ rfl
      intro t' s D
      replace D := D.drop
      replace D := D.shut F (P := fun o => ∃ tn tx tp, (AO.flds (sioF x (p + 1) tn tx tp)).Is w o) (fun o ho => ⟨_, _, _, ho⟩)
      refine hQ _ _ (back_ D fun D => ?_)
      rw [e1] at h
      have e3 := slice_nat (x := x) (p := p) (q := p + 1) (by omega) (by omega)
      show Q (.str (Txt.slice x (some (p : Int)) (some ((p + 1 : Nat) : Int))) t') s
      rw [e3]
      exact h _ _ D
    · have e4 : x.length = p + 1 := by omega
      repeat walk_at "x"
      refine r_evslice (by assumption) ?_
      repeat walk_at "x"
      refine ⟨_, by assumption, ?_⟩
      intro b s D
      refine r_sliceTT (i := some (_, _)) (j := some (_, _)) D .head hz ?_ rfl
      intro t' s D
      replace D := D.drop
      rw [e4] at D
      replace D := D.shut F (P := fun o => ∃ tn tx tp, (AO.flds (sioF x (p + 1) tn tx tp)).Is w o) (fun o ho => ⟨_, _, _, ho⟩)
      refine hQ _ _ (back_ D fun D => ?_)
      rw [e1] at h
      have e3 := slice_nat (x := x) (p := p) (q := p + 1) (by omega) (by omega)
      show Q (.str (Txt.slice x (some (p : Int)) (some ((x.length : Nat) : Int))) t') s
      rw [e4, e3]
      exact h _ _ D
end
end
section
def safe08 : Str := Str.ofString "abcdefghijklmnopqrstuvwxyzABCDEFGHIJKLMNOPQRSTUVWXYZ0123456789_@%+=:,./-"
def isBare (x : Str) : Bool := decide (x.length ≠ 0) && x.cps.toList.all fun c => decide (c ∈ safe08.cps.toList)
def unsafe08 (l : List Nat) : List Str := (l.filter fun c => !decide (c ∈ safe08.cps.toList)).map fun c => ⟨#[c]⟩
theorem unsafe_ok {x : Str} (hk : PyData.strOk x = true) : (unsafe08 x.cps.toList).all PyData.strOk = true := by
  rw [List.all_eq_true]
  intro y hy
  obtain ⟨c, hc, rfl⟩ := List.mem_map.mp hy
  have hm := (List.mem_filter.mp hc).1
  have := Array.all_eq_true'.mp hk c (Array.mem_toList_iff.mp hm)
  simpa [PyData.strOk] using this
theorem bare_eq {x : Str} (he : x ≠ Str.ofString "") : isBare x = decide (unsafe08 x.cps.toList = []) := by
  have h0 : x.length ≠ 0 := fun e => he (by
    have : x.cps = #[] := Array.eq_empty_of_size_eq_zero e
    cases x
    simp only at this
    subst this
    kernel_rfl)
  unfold isBare
  rw [decide_eq_true h0, Bool.true_and]
  unfold unsafe08
  rw [Bool.eq_iff_iff, List.all_eq_true, decide_eq_true_eq, List.map_eq_nil_iff, List.filter_eq_nil_iff]
  simp
section
variable {w : World} {n : Nat} {A : Around} {env : Env} {h₀ : Heap} {L : Addr} {m m' : List (Str × Value)} {own : List (Addr × AO)} {g : GP} {os : Osb} {s : Shared} {path₀ : List Nat}
theorem is_bare_spec {x : Str} {t : Tok} {Q : Value → Shared → Prop} (C : Fx w n A env h₀ L path₀) (D : Sd w h₀ L m own g os s) (hn : n ≤ 380) (hz : x.length ≤ 100000) (hk : PyData.strOk x = true)
    (h : ∀ s', Sd w h₀ L m own g os s' → Q (.bool (isBare x)) s') : WP w A (call (.ref 810) [.str x t]) Q s := by
  refine enterC (x := "word") (fun n => [("safe", n)]) (fn_810 w.params) C D (by omega) (BindsTo.of_eq (by kernel_rfl)) (by kernel_rfl) (fun n => by kernel_rfl) (by simp) (fun n => ⟨by simp, by simp⟩) ?_
  intro g₁ L' env s V C D
  simp only [List.map_cons, List.map_nil, List.cons_append, List.nil_append] at D
  conv in bodyAt [36] => whnf
  repeat walk_at "x"
  have hlen : x.cps.size = x.length := rfl
  by_cases he : x ≠ Str.ofString ""
  · refine ite_dt he ?_
    repeat walk_at "x"
    refine x_comp [("safe", L' + 1)] V (by assumption) ?_ (by kernel_rfl) (by kernel_rfl) (by kernel_rfl) (by kernel_rfl) (by kernel_rfl) (fun _ => rfl)
    repeat walk_at "x"
    refine r_iterS (by assumption) ?_
    intro I s D
    refine ⟨I, _, _, _, _, fun i ys => StrsAre ys (unsafe08 (x.cps.toList.take i)), _, rfl, it_str C.hand, D, trivial, .nil, by omega, ?_, ?_⟩
    · rintro i v ys cenv D0 s hi ⟨c, u, hc, rfl⟩ hJ V2 D
      have ec : x.cps.toList[i]? = some c := by rw [← hc]; simp
      have et : unsafe08 (x.cps.toList.take (i + 1)) = unsafe08 (x.cps.toList.take i) ++ unsafe08 [c] := by
        unfold unsafe08
        rw [List.take_add_one, ec, List.filter_append, List.map_append]
        rfl
      repeat walk_at "x"
      by_cases hs : c ∈ safe08.cps.toList
      · refine ite_kf (by show (!decide (c ∈ safe08.cps.toList)) = false; rw [decide_eq_true hs]; rfl) ?_
        have e0 : unsafe08 [c] = [] := by unfold unsafe08; rw [List.filter_cons_of_neg (by simp [hs])]; rfl
        exact ⟨by show StrsAre ys (unsafe08 (List.take (i + 1) x.cps.toList)); rw [et, e0, List.append_nil]; exact hJ, by assumption⟩
      · refine ite_kt (by show (!decide (c ∈ safe08.cps.toList)) = true; rw [decide_eq_false hs]; rfl) ?_
        have e0 : unsafe08 [c] = [⟨#[c]⟩] := by unfold unsafe08; rw [List.filter_cons_of_pos (by simp [hs])]; rfl
        repeat walk_at "x"
        exact ⟨by show StrsAre _ (unsafe08 (List.take (i + 1) x.cps.toList)); rw [et, e0]; exact strsAre_append hJ (.cons _ _ .nil), by assumption⟩
    · intro D0 ys C0 mC s hJ _ s' D
      have hJ' : StrsAre ys (unsafe08 (List.take x.cps.size x.cps.toList)) := hJ
      rw [show x.cps.size = x.cps.toList.length from by simp, List.take_length] at hJ'
      repeat walk_at "x"
      rename_i d2 s D
      have hla : ListAs w (.list ys) (fun vs => StrsAre vs (unsafe08 x.cps.toList)) := fun o h => by
        obtain ⟨n, e⟩ := h
        exact ⟨ys, n, e, hJ'⟩
      refine r_eqSS C D (by omega) (unsafe_ok hk) (by rfl) (by walk_at "o_at") hla (by walk_at "o_at") las_strs0 ?_
      refine back_ D.drop.drop.drop fun D => ?_
      rw [← bare_eq he]
      exact h _ D
  · have hx : x = Str.ofString "" := by simpa using he
    refine ite_df (by simpa using hx) ?_
    rename_i s D
    refine back_ D.drop fun D => ?_
    have e0 : isBare x = decide (x ≠ Str.ofString "") := by
      rw [hx]
      kernel_rfl
    rw [← e0]
    exact h _ D
end
end
section
section
variable {w : World} {n : Nat} {A : Around} {env : Env} {h₀ : Heap} {L : Addr} {m m' : List (Str × Value)} {own : List (Addr × AO)} {g : GP} {os : Osb} {s : Shared} {path₀ : List Nat} {f : AO → Os} {d i : Addr} {x : Str}
theorem translated_spec {tn tb tp t : Tok} {Q : Value → Shared → Prop} (C : Fx w n A env h₀ L path₀) (F : Ctx f d) (hi : ∀ a, OAt (f a) i (.inst 622 d)) (D : Sd w h₀ L m (f (.flds (sioF "" 0 tn tb tp))) g os s) (hn : n ≤ 390)
    (h : ∀ s', Sd w h₀ L m (f (.flds (sioF "" 0 tn tb tp))) g os s' → Q (.str x t) s') : WP w A (call (.ref 399) [.ref i, .str x t]) Q s := by
  refine enterQ [("s", .str x t), ("self", .ref i)] (fn_399 w.params) C D (by omega) (BindsTo.of_eq (binds := [("self", .ref i), ("s", .str x t)]) (by kernel_rfl)) rfl (by kernel_rfl) (by kernel_rfl) ?_
  intro g₁ L' env s Q' hQ V C D
  conv in bodyAt [16, 2] => whnf
  repeat walk_at "x"
  exact hQ _ _ <| back_ (by assumption) fun D => h _ D
theorem sio_init_spec {t : Tok} {Q : Value → Shared → Prop} (C : Fx w n A env h₀ L path₀) (F : Ctx f d) (hi : ∀ a, OAt (f a) i (.inst 622 d)) (D : Sd w h₀ L m (f (.flds [])) g os s) (hn : n ≤ 380)
    (h : ∀ s', Sd w h₀ L m (f (sioA w x 0)) g os s' → Q .none s') : CP w A 392 [.ref i, .str x t] [] Q s := by
  refine enterP [("newline", .str "\n" 784), ("initial_value", .str x t), ("self", .ref i)] (fn_392 w.params) C D (by omega) (binds_K (binds := [("self", .ref i), ("initial_value", .str x t), ("newline", .str "\n" 784)]) (C.gk.keeps D.fr.keep) rfl (show (KK w.params).lookup 385 = some (o397 w.params) by kernel_rfl) rfl rfl rfl) rfl (by kernel_rfl) (by kernel_rfl) ?_
  intro g₁ L' env s Q' hQ V C D
  conv in bodyAt [16, 1] => whnf
  repeat walk_at "x"
  rename_i s D
  refine translated_spec (tn := 784) C F hi (by exact D) (by omega) ?_
  intro s D
  repeat walk_at "x"
  rename_i s D
  exact hQ _ _ <| back_ (D.shut F (P := fun o => ∃ tn tx tp, (AO.flds (sioF x 0 tn tx tp)).Is w o) (fun o ho => ⟨_, _, _, ho⟩)) fun D => h _ D
end
end
section
def replAll : Str → List (Str × Str) → Str
  | x, [] => x
  | x, p :: r => replAll (Txt.replace x p.1 p.2) r
def FitR : Str → List (Str × Str) → Prop
  | _, [] => True
  | x, p :: r => x.length + (x.length + 1) * p.2.length ≤ 16777216 ∧ (p.1 == p.2) = false ∧ FitR (Txt.replace x p.1 p.2) r
theorem replAll_append : ∀ (a b : List (Str × Str)) (x : Str), replAll x (a ++ b) = replAll (replAll x a) b
  | [], _, _ => rfl
  | p :: a, b, x => replAll_append a b _
theorem FitR.drop : ∀ (i : Nat) {x : Str} {l : List (Str × Str)}, FitR x l → FitR (replAll x (l.take i)) (l.drop i)
  | 0, _, _, h => h
  | i + 1, _, [], h => h
  | i + 1, _, p :: r, h => FitR.drop i h.2.2
theorem FitR.append : ∀ (a b : List (Str × Str)) {x : Str}, FitR x (a ++ b) → FitR x a ∧ FitR (replAll x a) b
  | [], _, _, h => ⟨trivial, h⟩
  | p :: a, b, _, h => let ⟨h1, h2⟩ := FitR.append a b h.2.2; ⟨⟨h.1, h.2.1, h1⟩, h2⟩
section
variable {w : World} {n : Nat} {A : Around} {env : Env} {h₀ : Heap} {L : Addr} {m m' : List (Str × Value)} {own : List (Addr × AO)} {g : GP} {os : Osb} {s : Shared} {path₀ : List Nat} {f : AO → Os} {d : Addr} {x : Str} {P R : Tok → Prop} {kvs : List (Str × Str)}
theorem dict_replace_spec {t : Tok} {Q : Value → Shared → Prop} (C : Fx w n A env h₀ L path₀) (F : Ctx f d) (D : Sd w h₀ L m (f (tabA w P R kvs)) g os s) (hn : n ≤ 380) (hT : ∀ t u, P t → R u → t ≠ 0 ∧ u ≠ 0 ∧ t ≠ u) (hf : FitR x kvs)
    (h : ∀ t s', Sd w h₀ L m (f (tabA w P R kvs)) g os s' → Q (.str (replAll x kvs) t) s') : WP w A (call (.ref 51) [.str x t, .ref d]) Q s := by
  refine enterQ [("d", .ref d), ("s", .str x t)] (fn_51 w.params) C D (by omega) (BindsTo.of_eq (binds := [("s", .str x t), ("d", .ref d)]) (by kernel_rfl)) rfl (by kernel_rfl) (by kernel_rfl) ?_
  intro g₁ L' env s Q' hQ V C D
  conv in bodyAt [4] => whnf
  repeat walk_at "x"
  refine x_forI C (by assumption) ?_ (fun _ => rfl)
  repeat walk_at "x"
  rename_i b s D
  obtain ⟨o, ⟨es, ep, rfl, hE, hnd⟩, k⟩ := D.open (F.tail (p := (b, .raw (vwObj d))))
  replace D := k (.raw (dictOf es ep)) rfl
  refine r_iterI D .head (.tail F.at) hE hnd ?_
  intro I s D
  refine ⟨I, d, es, ep, fun i m own => own = (b, .raw (vwObj d)) :: f (.raw (dictOf es ep)) ∧ ∃ (ts : Tok) (tl : Ls), m = ([("d", .ref d), ("s", .str (replAll x (kvs.take i)) ts)] : Ls) ++ tl ∧ (tl = [] ∨ ∃ a b, tl = ([("key", a), ("value", b)] : Ls)), _, _, rfl, D, ⟨rfl, t, [], rfl, .inl rfl⟩, ?_, ⟨P, R, kvs, hE, hnd⟩, ?_, ?_⟩
  · rintro i m own ⟨rfl, _⟩
    exact .tail F.at
  · rintro i e m own s he ⟨rfl, ts, tl, rfl, htl⟩ D
    obtain ⟨hlt, he'⟩ := List.getElem?_eq_some_iff.mp he
    obtain ⟨kx, vx, kt, vt, e1, e2, e3, e4⟩ := hE.at hlt
    obtain ⟨t1, t2, t3⟩ := hT _ _ e3 e4
    rw [he'] at e1
    subst e1
    obtain ⟨hk, hke⟩ := List.getElem?_eq_some_iff.mp e2
    have e5 : kvs.drop i = (kx, vx) :: kvs.drop (i + 1) := by rw [List.drop_eq_getElem_cons hk, hke]
    have e6 : replAll x (kvs.take (i + 1)) = Txt.replace (replAll x (kvs.take i)) kx vx := by
      rw [List.take_add_one, e2]
      exact replAll_append _ _ _
    obtain ⟨f1, f2, f3⟩ := e5 ▸ hf.drop i
    show WP w _ (storeName env "key" (.str kx kt)) (fun _ s' => WP w _ (storeName env "value" (.str vx vt)) _ s') s
    rcases htl with rfl | ⟨a0, b0, rfl⟩
    · simp only [List.cons_append, List.nil_append] at D
      repeat walk_at "x"
      refine r_replace (by assumption) t1 t2 t3 f2 f1 ?_
      intro t5 s D
      repeat walk_at "x"
      exact ⟨_, _, ⟨rfl, t5, [("key", .str kx kt), ("value", .str vx vt)], by rw [e6], .inr ⟨_, _, rfl⟩⟩, by assumption⟩
    · simp only [List.cons_append, List.nil_append] at D
      repeat walk_at "x"
      refine r_replace (by assumption) t1 t2 t3 f2 f1 ?_
      intro t5 s D
      repeat walk_at "x"
      exact ⟨_, _, ⟨rfl, t5, [("key", .str kx kt), ("value", .str vx vt)], by rw [e6], .inr ⟨_, _, rfl⟩⟩, by assumption⟩
  · rintro m own s ⟨rfl, ts, tl, rfl, htl⟩ D
    replace D := D.drop.shut F (P := tabO w P R kvs) (fun o ho => ⟨es, ep, ho, hE, hnd⟩)
    have e7 : kvs.take es.length = kvs := by rw [hE.len, List.take_length]
    rw [e7] at D
    simp only [List.cons_append, List.nil_append] at D
    repeat walk_at "x"
    exact hQ _ _ <| back_ (by assumption) fun D => h _ _ D
end
end
section
def escK : List (Str × Str) := [("&", "&amp;"), (">", "&gt;"), ("<", "&lt;")]
def uneK : List (Str × Str) := [("&lt;", "<"), ("&gt;", ">")]
def uneE : List (Str × Str) := [("&amp;", "&")]
section
variable {w : World} {n : Nat} {A : Around} {env : Env} {h₀ : Heap} {L : Addr} {m m' : List (Str × Value)} {own : List (Addr × AO)} {g : GP} {os : Osb} {s : Shared} {path₀ : List Nat} {f : AO → Os} {d : Addr} {x : Str} {P R : Tok → Prop} {kvs : List (Str × Str)}
theorem escape_spec {t : Tok} {Q : Value → Shared → Prop} (C : Fx w n A env h₀ L path₀) (F : Ctx f d) (D : Sd w h₀ L m (f (tabA w P R kvs)) g os s) (hn : n ≤ 370) (hb : 1 ≤ os.b) (hT : ∀ t u, P t → R u → t ≠ 0 ∧ u ≠ 0 ∧ t ≠ u) (hz : kvs.length ≤ 1000) (hf : FitR x (escK ++ kvs))
    (h : ∀ t s', Sd w h₀ L m (f (tabA w P R kvs)) g os s' → Q (.str (replAll x (escK ++ kvs)) t) s') : WP w A (call (.ref 60) [.str x t, .ref d]) Q s := by
  refine enterQ [("entities", .ref d), ("data", .str x t)] (fn_60 w.params) C D (by omega) (binds_K (binds := [("data", .str x t), ("entities", .ref d)]) (C.gk.keeps D.fr.keep) rfl (show (KK w.params).lookup 53 = some (o56 w.params) by kernel_rfl) rfl rfl rfl) rfl (by kernel_rfl) (by kernel_rfl) ?_
  intro g₁ L' env s Q' hQ V C D
  conv in bodyAt [5] => whnf
  have hz' : kvs.length ≤ 100000 := by omega
  have f1 : x.length + (x.length + 1) * ("&amp;" : Str).length ≤ 16777216 := hf.1
  have f2 : (Txt.replace x "&" "&amp;").length + ((Txt.replace x "&" "&amp;").length + 1) * ("&gt;" : Str).length ≤ 16777216 := hf.2.2.1
  have f3 : (Txt.replace (Txt.replace x "&" "&amp;") ">" "&gt;").length + ((Txt.replace (Txt.replace x "&" "&amp;") ">" "&gt;").length + 1) * ("&lt;" : Str).length ≤ 16777216 := hf.2.2.2.2.1
  have f9 : FitR (Txt.replace (Txt.replace (Txt.replace x "&" "&amp;") ">" "&gt;") "<" "&lt;") kvs := hf.2.2.2.2.2.2
  repeat walk_at "x"
  cases kvs with
  | nil =>
    refine ite_kf rfl ?_
    repeat walk_at "x"
    exact hQ _ _ <| back_ (by assumption) fun D => h _ _ D
  | cons p r =>
    refine ite_kt rfl ?_
    repeat walk_at "x"
    refine dict_replace_spec C F (by assumption) (by omega) hT f9 ?_
    intro t2 s D
    repeat walk_at "x"
    exact hQ _ _ <| back_ (by assumption) fun D => h _ _ D
theorem unescape_spec {t : Tok} {Q : Value → Shared → Prop} (C : Fx w n A env h₀ L path₀) (F : Ctx f d) (D : Sd w h₀ L m (f (tabA w P R kvs)) g os s) (hn : n ≤ 370) (hb : 1 ≤ os.b) (hT : ∀ t u, P t → R u → t ≠ 0 ∧ u ≠ 0 ∧ t ≠ u) (hz : kvs.length ≤ 1000) (hf : FitR x (uneK ++ kvs ++ uneE))
    (h : ∀ t s', Sd w h₀ L m (f (tabA w P R kvs)) g os s' → Q (.str (replAll x (uneK ++ kvs ++ uneE)) t) s') : WP w A (call (.ref 69) [.str x t, .ref d]) Q s := by
  refine enterQ [("entities", .ref d), ("data", .str x t)] (fn_69 w.params) C D (by omega) (binds_K (binds := [("data", .str x t), ("entities", .ref d)]) (C.gk.keeps D.fr.keep) rfl (show (KK w.params).lookup 62 = some (o65 w.params) by kernel_rfl) rfl rfl rfl) rfl (by kernel_rfl) (by kernel_rfl) ?_
  intro g₁ L' env s Q' hQ V C D
  conv in bodyAt [6] => whnf
  have hz' : kvs.length ≤ 100000 := by omega
  obtain ⟨f0, f7⟩ := FitR.append _ _ hf
  obtain ⟨f0, f9⟩ := FitR.append _ _ f0
  have f9 : FitR (Txt.replace (Txt.replace x "&lt;" "<") "&gt;" ">") kvs := f9
  have f1 : x.length + (x.length + 1) * ("<" : Str).length ≤ 16777216 := f0.1
  have f2 : (Txt.replace x "&lt;" "<").length + ((Txt.replace x "&lt;" "<").length + 1) * (">" : Str).length ≤ 16777216 := f0.2.2.1
  rw [replAll_append, replAll_append] at h
  rw [replAll_append] at f7
  have f7 : (replAll (Txt.replace (Txt.replace x "&lt;" "<") "&gt;" ">") kvs).length + ((replAll (Txt.replace (Txt.replace x "&lt;" "<") "&gt;" ">") kvs).length + 1) * ("&" : Str).length ≤ 16777216 := f7.1
  repeat walk_at "x"
  cases kvs with
  | nil =>
    refine ite_kf rfl ?_
    repeat walk_at "x"
    exact hQ _ _ <| back_ (by assumption) fun D => h _ _ D
  | cons p r =>
    refine ite_kt rfl ?_
    repeat walk_at "x"
    refine dict_replace_spec C F (by assumption) (by omega) hT f9 ?_
    intro t2 s D
    repeat walk_at "x"
    exact hQ _ _ <| back_ (by assumption) fun D => h _ _ D
end
end
section
theorem replace_len (x y z : Str) : (Txt.replace x y z).length ≤ x.length + (x.length + 1) * z.length := by
  unfold Txt.replace
  split
  · omega
  · have h1 := StrLaws.occ_length_le x y 0 x.length (x.length + 1)
    have hy : (Builtin.Str.glued y (Builtin.Str.partsBetween x (Builtin.Str.occurrences x y 0 x.length (x.length + 1)) y.length)).length = x.length := by rw [StrLaws.glued_between_self]
    rw [size_glued, length_partsBetween, Nat.add_sub_cancel] at hy
    rw [size_glued, length_partsBetween, Nat.add_sub_cancel]
    have h2 : (Builtin.Str.occurrences x y 0 x.length (x.length + 1)).length * z.length ≤ (x.length + 1) * z.length := Nat.mul_le_mul_right _ h1
    omega
theorem safeN_eq (c : Nat) : safeN c = decide (c ∈ safe08.cps.toList) := by
  by_cases h : c < 128
  · have : ∀ d : Fin 128, safeN d.val = decide (d.val ∈ safe08.cps.toList) := by decide +kernel
    exact this ⟨c, h⟩
  · rw [safeN_of_ge (by omega)]
    have : ∀ d ∈ safe08.cps.toList, d < 128 := by decide +kernel
    rw [eq_comm, decide_eq_false_iff_not]
    exact fun q => h (this c q)
/-- what quote makes -/
def quoteT (x : Str) : Str := if isBare x then x else ("'" : Str) ++ Txt.replace x "'" "'\"'\"'" ++ ("'" : Str)
theorem isBare_of {x : Str} (h0 : x.cps.size ≠ 0) (h : ∀ c ∈ x.cps.toList, safeN c = true) : isBare x = true := by
  unfold isBare
  rw [Bool.and_eq_true, decide_eq_true_eq, List.all_eq_true]
  exact ⟨h0, fun c hc => by rw [← safeN_eq]; exact h c hc⟩
theorem isBare_no {x : Str} (h : ∃ c ∈ x.cps.toList, safeN c = false) : isBare x = false := by
  obtain ⟨c, hc, e⟩ := h
  unfold isBare
  rw [Bool.and_eq_false_iff]
  refine .inr ?_
  rw [List.all_eq_false]
  exact ⟨c, hc, by rw [← safeN_eq, e]; simp⟩
section
variable {w : World} {n : Nat} {A : Around} {env : Env} {h₀ : Heap} {L : Addr} {m m' : List (Str × Value)} {own : List (Addr × AO)} {g : GP} {os : Osb} {s : Shared} {path₀ : List Nat} {x : Str}
theorem quote_body {t : Tok} {R : Value → Shared → Prop} (C : Fx w n A env h₀ L [31]) (V : Nv env (scopeAt [31]) []) (D : Sd w h₀ L [("s", .str x t)] own g os s) (hn : n ≤ 371) (hb : 1 ≤ os.b) (hz : x.length ≤ 100000)
    (h : ∀ t m' s', Sd w h₀ L m' own g os s' → R (.str (quoteT x) t) s') : WP w A (execs (bodyAt [31]) env) (fun fl s2 => R (match fl with | .ret v => v | _ => .none) s2) s := by
  conv in bodyAt [31] => whnf
  have hz' : x.length ≤ sizeLine := by unfold sizeLine; omega
  have hs : x.cps.size = x.length := rfl
  repeat walk_at "x"
  by_cases h0 : x.length = 0
  · have e : quoteT x = "''" := by
      have : x = Str.ofString "" := by
        have e : x.cps = #[] := Array.eq_empty_of_size_eq_zero h0
        cases x
        simp only at e
        subst e
        kernel_rfl
      rw [this]
      kernel_rfl
    rw [e] at h
    refine ite_kt (by simp [h0]) ?_
    repeat walk_at "x"
    exact h _ _ _ (by assumption)
  · refine ite_kf (by simp [h0]) ?_
    repeat walk_at "x"
    refine r_search C (by assumption) hz h0 (fun q s D => ?_) (fun q a s D => ?_)
    · have e : quoteT x = x := by unfold quoteT; rw [isBare_of h0 q, if_pos rfl]
      rw [e] at h
      repeat walk_at "x"
      exact h _ _ _ (by assumption)
    · have e : quoteT x = ("'" : Str) ++ Txt.replace x "'" "'\"'\"'" ++ ("'" : Str) := by unfold quoteT; rw [isBare_no q, if_neg Bool.false_ne_true]
      rw [e] at h
      have l1 : ("'\"'\"'" : Str).length = 5 := by kernel_rfl
      have l2 : ("'" : Str).length = 1 := by kernel_rfl
      have l3 : x.length + (x.length + 1) * ("'\"'\"'" : Str).length ≤ 16777216 := by rw [l1]; omega
      have l4 := replace_len x "'" "'\"'\"'"
      rw [l1] at l4
      repeat walk_at "x"
      refine r_adds (by assumption) (by rw [l2]; unfold sizeLine; omega) ?_
      intro t1 s D
      repeat walk_at "x"
      refine r_adds (by assumption) (by rw [Str.length_append, l2]; unfold sizeLine; omega) ?_
      intro t2 s D
      exact h _ _ _ (by assumption)
theorem quote_keeps {t : Tok} (X : GK w s.heap) (hh : A.handled = none) (hd : A.depth ≤ 310 + n) (hu : A.units ≤ 100 + 20 * n) (hn : n ≤ 370) (hz : x.length ≤ 100000) :
    WP w A (call (.ref 784) [.str x t]) (fun v s2 => (∃ u, v = .str (quoteT x) u) ∧ Keeps s s2) s := by
  refine callE (R := fun v _ => ∃ u, v = .str (quoteT x) u) [("s", .str x t)] (fn_784 w.params) X hh hd hu (by omega) (BindsTo.of_eq (binds := [("s", .str x t)]) (by kernel_rfl)) rfl (by kernel_rfl) (by kernel_rfl) ?_
  intro L' env s V C D
  exact quote_body (R := fun v s2 => ∃ L2 m2 own2, Sd w _ L2 m2 own2 _ _ s2 ∧ ∃ u, v = .str (quoteT x) u) C V D (by omega) (by show 1 ≤ _ + 1; omega) hz fun t m' s' D => ⟨_, _, _, D, _, rfl⟩
end
end
section
def Bare : GP := fun g => ∀ y ∈ g, y.bare = true
theorem Bare.push {g : Array GenState} {x : GenState} (h : Bare g) (hx : x.bare = true) : Bare (g.push x) := fun y hy => by
  rcases Array.mem_push.mp hy with h' | rfl
  · exact h y h'
  · exact hx
/-- join's table of code: empty, or with the generator's code -/
def tblO (o : Obj) : Prop := o = { cls := .none, data := .fields #[] } ∨ ∃ c, o = { cls := .none, data := .fields #[rawInt 752, rawInt 20, .ref c] }
def tblA : AO := .any tblO
section
variable {w : World} {n : Nat} {A : Around} {env : Env} {h₀ : Heap} {L : Addr} {m m' : List (Str × Value)} {own : List (Addr × AO)} {g : GP} {os : Osb} {s : Shared} {path₀ path : List Nat} {f : AO → Os} {x : Str}
theorem codeJoin {h : Heap} {P : Params} {vs : Array Value} (X : (KK P).In h) (ht : h.get? 771 = some { cls := .none, data := .fields vs }) (hv : TriplesOk vs.toList) : h.IsCode 775 771 vs ∧ h.TableAt 775 771 vs := by
  have k : h.get? 775 = some (o789 P) := X _ _ (by kernel_rfl)
  exact ⟨⟨_, _, "/claim/cut.py", 1271, 3, 0, true, 318, 0, _, k, rfl, rfl, rfl, rfl, rfl, rfl, ht, rfl, hv, by decide⟩, ⟨_, _, k, rfl, rfl, rfl⟩, ht⟩
theorem r_gencode {pos : Pos} {qn : Str} {sc : Scope} {Q : Value → Shared → Prop} (C : Fx w n A env h₀ L path) (F : Ctx f 771) (D : Sd w h₀ L m (f tblA) g os s) (hc : env.code = .ref 775) (hl : pos.line = 752) (hcol : pos.col = 20)
    (h : ∀ c s', Sd w h₀ L m (f tblA) g os s' → Heap.ExtBut 771 s.heap s'.heap → s.heap.objs.size ≤ s'.heap.objs.size → s.toks ≤ s'.toks → Q c s') : WP w A (genexprCode env pos qn sc) Q s := by
  obtain ⟨o, ho, k⟩ := D.open F
  have X := C.gk.keeps D.fr.keep
  have D1 := k (.raw o) rfl
  obtain ⟨o', g1, g2⟩ := D1.get F.at
  have g2 : o' = o := g2
  subst g2
  rcases ho with rfl | ⟨c, rfl⟩
  · obtain ⟨k1, k2⟩ := codeJoin X g1 (vs := #[]) (by trivial)
    refine .of (wpAny_with_toks (Nat.le_refl s.toks) (wpAny_genexprCodeX hc k1 k2 rfl fun c' h' tk hx hge hlt hcode hrec htab _ hle => ?_))
    refine h _ _ (D1.setX (F.put _ _) (fun b o hb e => hx b o hb e) htab.2 (.inr ⟨c', by rw [hl, hcol]; rfl⟩) (Nat.le_trans D.pos hle)) hx (Nat.le_trans hge (Nat.le_of_lt hlt)) hle
  · obtain ⟨k1, k2⟩ := codeJoin X g1 (vs := #[rawInt 752, rawInt 20, .ref c]) (show True from trivial)
    refine .of (wpAny_genexprCode_hit hc k1 (c' := .ref c) ?_ ?_)
    · show codeAmong pos [.int 752 0, .int 20 0, .ref c] = some (.ref c)
      unfold codeAmong
      rw [hl, hcol]
      rfl
    · exact h _ _ D (fun _ _ _ e => e) (Nat.le_refl _) (Nat.le_refl _)
end
end
section
theorem fn_776 (P : Params) : FnIs P 776 [28] "join" "join" (.none) (.str "cpy313.shlex" 1115) (.ref 775) := ⟨by kernel_rfl, by kernel_rfl, by kernel_rfl, by kernel_rfl, by kernel_rfl⟩
section
variable {w : World} {n : Nat} {A : Around} {env : Env} {h₀ : Heap} {L : Addr} {m m' : List (Str × Value)} {own : List (Addr × AO)} {g : GP} {os : Osb} {s : Shared} {path₀ path : List Nat} {f : AO → Os} {x : Str}
theorem passing_all (n : Nat) : passing (fun _ => true) n 0 = List.range n := by
  unfold passing
  rw [List.drop_zero]
  exact List.filter_eq_self.mpr fun _ _ => rfl
theorem bmod {P : Params} {h : Heap} (X : (KK P).In h) : BMod h mainGlobals (fun x => nsFind (esIn (KK P) 3) x) 4 (o4 P) where
  ns := ns_in X (by kernel_rfl) (by kernel_rfl)
  name := by kernel_rfl
  ne := by decide
  obj := X _ _ (by kernel_rfl)
  cls := rfl
  dict := rfl
  data := rfl
theorem gl_quote {P : Params} : nsFind (esIn (KK P) 3) "quote" = some (.ref 784) := by kernel_rfl
/-- the generator's element: quote(arg) -/
theorem elt_quote {cenv : Env} {p1 p2 p3 : Pos} {y : Str} {u : Tok} {mC : Str → Option Value} (X : GK w s.heap) (hg : cenv.globals = mainGlobals) (hkf : cenv.scope.kind = .function) (hkq : cenv.kindOf "quote" = some .globalImplicit) (hka : cenv.kindOf "arg" = some .local)
    (hns : s.heap.Ns cenv.locals mC) (hm : mC "arg" = some (.str y u)) (hh : A.handled = none) (hd : A.depth ≤ 310 + n) (hu : A.units ≤ 100 + 20 * n) (hn : n ≤ 370) (hz : y.length ≤ 100000) :
    WP w A (eval (.Call (.Name "quote" p1) [.Name "arg" p2] [] p3) cenv) (fun v s2 => (∃ t, v = .str (quoteT y) t) ∧ Keeps s s2) s := by
  refine x_call (.of (Name_function_global hkf hkq (loadGlobal_global (by rw [hg]; exact gk_ns X) gl_quote ?_) (by kernel_rfl))) rfl
  refine .of (callWith_K (K := KK w.params) X (by kernel_rfl) (args_cons (wpAny_Name (wpAny_loadName_local hkf hka hns hm (args_nil ⟨X, ?_⟩)) (by kernel_rfl)) rfl) rfl rfl)
  exact (quote_keeps X hh hd hu hn hz).out
end
end
section
section
variable {w : World} {n : Nat} {A : Around} {env : Env} {h₀ : Heap} {L : Addr} {m m' : List (Str × Value)} {own : List (Addr × AO)} {g : GP} {os : Osb} {s : Shared} {path₀ path : List Nat} {f : AO → Os} {x : Str} {l : Addr} {ao : AO} {P : List Value → Prop} {ws : List Str}
theorem join_spec {Q : Value → Shared → Prop} (C : Fx w n A env h₀ L path₀) (F : Ctx f 771) (D : Sd w h₀ L m (f tblA) Bare os s) (hn : n ≤ 350) (hm : ∀ a, OAt (f a) l ao) (hl : ListAs w ao P) (hP : ∀ vs, P vs → StrsAre vs ws) (hz : ∀ x ∈ ws, x.length ≤ 100000) (hcnt : ws.length ≤ 100000)
    (hok : JoinOk " " (ws.map quoteT) = true) (h : ∀ t s', Sd w h₀ L m (f tblA) Bare os s' → Q (.str (Txt.join " " (ws.map quoteT)) t) s') : WP w A (call (.ref 776) [.ref l]) Q s := by
  refine enterD [("split_command", .ref l)] (fn_776 w.params) C D (by omega) (BindsTo.of_eq (binds := [("split_command", .ref l)]) (by kernel_rfl)) rfl (by kernel_rfl) (by kernel_rfl) ?_
  intro g₁ L' s C D _
  have V : Nv (envX "join" (scopeAt [28]) L' 776 (.ref 775) []) (scopeAt [28]) [] := ⟨rfl, C.kind, rfl, rfl, rfl⟩
  conv in bodyAt [28] => whnf
  generalize henv : envX "join" (scopeAt [28]) L' 776 (.ref 775) [] = env at *
  have hcode : env.code = .ref 775 := by rw [← henv]
  have hglob : env.globals = mainGlobals := by rw [← henv]
  repeat walk_at "x"
  rename_i t0 s D
  obtain ⟨vs, nl, hl1, hl2, hl3⟩ := D.isList (hm _) hl
  have hvs := hP vs hl3
  have hlen : vs.length = ws.length := hvs.length
  refine .of (wpAny_with_toks (Nat.le_refl s.toks) (wpAny_GeneratorExp_walksQD C.hand rfl (closureFor_of (cl := []) (by rw [V.cells]; kernel_rfl)) (fun y hy => by
    have := List.all_eq_true.mp (show (List.all _ fun x : Str × NameKind => x.2 != .cell) = true from by kernel_rfl) y hy
    simpa using this) (by kernel_rfl) (by kernel_rfl) (by rfl) (by have := C.dep; unfold recursionLimit; omega) ?_ (fun _ => rfl)))
  refine WP.any ?_
  refine r_ld C D (by kernel_rfl!) (by kernel_rfl) (by walk_at "m_at") ?_
  refine wpAny_pyIter_list hl2 ⟨(gk_lim C.gk).keeps (D.push (o := { cls := .type "list_iterator", data := .fields #[.ref l, .int 0 0] }) (ao := liter l 0) rfl ⟨rfl, rfl⟩ (t := s.toks)).fr.keep, ?_⟩
  have D2 := D.push (o := { cls := .type "list_iterator", data := .fields #[.ref l, .int 0 0] }) (ao := liter l 0) rfl ⟨rfl, rfl⟩ (t := s.toks)
  refine WP.any ?_
  refine r_gencode C (F.tail) D2 hcode rfl rfl fun code s4 D4 hx hsz htk => ?_
  have X4 := C.gk.keeps D4.fr.keep
  rw [hglob]
  have M4 := bmod X4
  refine wpAny_builtinsFor M4.ns M4.name M4.ne M4.obj M4.cls M4.dict M4.data ?_
  obtain ⟨oi, i1, i2, i3⟩ := D4.get .head
  obtain ⟨vs4, nl4, j1, j2, j3⟩ := D4.isList (.tail (hm _)) hl
  have evs : vs4.toArray = vs.toArray := by
    have hne : l ≠ 771 := fun e => by
      obtain ⟨o7, q1, q2⟩ := D.get F.at
      rw [e, q1] at hl1
      cases hl1
      rcases q2 with q2 | ⟨c, q2⟩ <;> cases q2
    have q := hx l _ hne (Heap.get?_push_of_some _ hl1)
    rw [j1] at q
    injection q with q
    injection q with q1 q2 q3
    injection q3
  have hI : s.heap.objs.size < s4.heap.objs.size := Heap.lt_size i1
  have hlt : l < s.heap.objs.size := Heap.lt_size hl1
  refine ⟨s.heap.objs.size, [s.heap.objs.size, l], [s.heap.objs.size], vs.toArray.size, _, _, fun _ => true, fun i y => ∃ x u, ws[i]? = some x ∧ y = .str (quoteT x) u, rfl, fun A' hA => Walks.list hA _ _ (Nat.ne_of_lt hlt) vs.toArray, ⟨⟨oi, i1, i2, i3⟩, evs ▸ j2⟩, ?_, gk_lim X4, ?_, ?_, ?_⟩
  · intro b hb
    rcases List.mem_cons.mp hb with rfl | hb
    · exact hI
    · rcases List.mem_cons.mp hb with rfl | hb
      · exact Nat.lt_trans hlt hI
      · cases hb
  · intro hb
    have hc : cStatics < s.heap.objs.size := let ⟨_, hn, _⟩ := gk_lim (C.gk.keeps D.fr.keep); hn.lt
    rcases List.mem_cons.mp hb with e | hb
    · exact absurd (e ▸ hc) (Nat.lt_irrefl _)
    · cases hb
  · intro href hhref
    refine ⟨fun A' E' i v s2 m2 _ _ _ _ _ _ _ => wpAny_tests_nil ⟨rfl, s2.heap, s2.toks, rfl, fun _ _ e => e⟩, fun A' E' i v s2 m2 hh' hd' hu' hPv _ hns hmx hkeep => ?_⟩
    have hPv : vs.toArray[i]? = some v := hPv
    obtain ⟨y, u, rfl, hy⟩ := strs_at hvs (by simpa using hPv)
    have X2 : GK w s2.heap := fun b o hb => by
      have hb4 := X4 b o hb
      have hb1 : b < s.heap.objs.size := Heap.lt_size (C.gk.keeps D.fr.keep b o hb)
      exact hkeep b (List.mem_range.mpr (Heap.lt_size hb4)) (by simpa using Nat.ne_of_lt hb1) o (hhref b o hb4)
    have dep := C.dep
    have uni := C.uni
    refine wpAny_mono (elt_quote (n := n + 2) X2 (by exact hglob) (by rfl) (by kernel_rfl) (by kernel_rfl) hns hmx hh' (by omega) (by omega) (by omega) (hz y (List.mem_of_getElem? hy))).any (fun v s3 h3 => ?_) fun _ _ e => e
    obtain ⟨⟨t3, rfl⟩, k3⟩ := h3
    exact ⟨⟨y, t3, hy, rfl⟩, k3⟩
  · intro a h5 tk gs hgb hag hsz5 hk5 W hat hle
    have D5 := D4.grow (h' := h5) (t := tk) hk5 (Nat.le_trans D.pos hle)
    rw [passing_all] at W
    have W2 := W.in4_2
    refine .of (wpAny_with_toks (Nat.le_refl _) (SC.joinGen W2 (fun i s' st => st.1.typeIs) hat (fun b hb => ?_) (.head _) (fun i v hv => ?_) (fun s' lt hmv hit => ?_) (by
      rw [List.length_range, List.size_toArray, hlen]; unfold sizeLine; omega)))
    · show b < h5.objs.size
      rw [hsz5]
      rcases List.mem_cons.mp hb with rfl | hb
      · exact Nat.lt_succ_self _
      · rcases List.mem_cons.mp hb with rfl | hb
        · exact Nat.lt_succ_of_lt hag
        · exact Nat.lt_succ_of_lt (Nat.lt_trans (List.mem_range.mp hb) hag)
    · obtain ⟨_, _, y, u, _, rfl⟩ := hv
      exact ⟨_, u, rfl⟩
    · have elt : lt.map (·.1) = ws.map quoteT := by
        have hsz : lt.length = ws.length := by
          have := hit.1
          rw [List.length_range] at this
          simpa [strValues, hlen] using this
        apply List.ext_getElem?
        intro j
        by_cases hj : j < lt.length
        · obtain ⟨i, q1, y, u, q2, q3⟩ := hit.2 j (.str lt[j].1 lt[j].2) (by simp [strValues, List.getElem?_eq_getElem hj])
          obtain ⟨_, q1⟩ := List.getElem?_eq_some_iff.mp q1
          rw [List.getElem_range] at q1
          subst q1
          injection q3 with q4 _
          rw [List.getElem?_map, List.getElem?_map, List.getElem?_eq_getElem hj, q2]
          simp [q4]
        · rw [List.getElem?_eq_none (by simpa using hj), List.getElem?_eq_none (by simpa [← hsz] using hj)]
      rw [elt]
      refine ⟨hok, fun t' kk hle2 => ?_⟩
      have hkp : ∀ b o, b ≠ s.heap.objs.size → s4.heap.get? b = some o → s'.heap.get? b = some o := fun b o hb e => hmv.heap b o (fun hm => by
        rcases List.mem_cons.mp hm with e2 | hm
        · exact Nat.lt_irrefl _ (e2 ▸ Heap.lt_size e)
        · exact hb (List.mem_singleton.mp hm)) (hk5 b o e)
      have D6 := D4.lose .head (h' := s'.heap) (t := kk) hkp (Nat.le_trans D5.pos hle2)
      have D7 : Sd w g₁ L' [("split_command", .ref l)] (f tblA) Bare os { s' with toks := kk } := by
        refine ⟨D6.led, ?_, ?_, D6.pos⟩
        · exact hmv.gens.bare (D4.gens.push hgb)
        · exact ⟨hmv.os.trans D4.osq.1, hmv.drawn.trans D4.osq.2⟩
      exact back_ D7 fun D => h _ _ D
end
end
section
theorem fn_115 (P : Params) : FnIs P 115 [12, 1] "__new__" "IOBase.__new__" (.none) (.str "io" 399) (.ref 114) := ⟨by kernel_rfl, by kernel_rfl, by kernel_rfl, by kernel_rfl, by kernel_rfl⟩
section
variable {w : World} {n : Nat} {A : Around} {env : Env} {h₀ : Heap} {L : Addr} {m m' : List (Str × Value)} {own : List (Addr × AO)} {g : GP} {os : Osb} {s : Shared} {path₀ path : List Nat} {f : AO → Os} {x : Str}
noncomputable def newTree (w : World) (x : Str) (t : Tok) : Sem (List (Str × Value)) := bindArgs (fnX "__new__" "IOBase.__new__" (paramsAt [12, 1]) (bodyAt [12, 1]) (scopeAt [12, 1]) [] .none .none .none (.str "io" 399) none (.ref 114) .none) ⟨[.ref 622, .str x t], []⟩
noncomputable def newA (w : World) (x : Str) (t : Tok) : Addr → Sem (List (Str × Value)) := match peekA (KK w.params) ⟨pw, w.params⟩ (newTree w x t) with | some (_, k) => k | none => fun _ => pure []
noncomputable def newB (w : World) (x : Str) (t : Tok) (a : Addr) : Addr → Sem (List (Str × Value)) := match peekA (KK w.params) ⟨pw, w.params⟩ (newA w x t a) with | some (_, k) => k | none => fun _ => pure []
theorem new_spec {t : Tok} {Q : Value → Shared → Prop} (C : Fx w n A env h₀ L path₀) (D : Sd w h₀ L m own g os s) (hn : n ≤ 380)
    (h : ∀ i dx s', Sd w h₀ L m ((i, .inst 622 dx) :: (dx, .flds []) :: own) g os s' → Q (.ref i) s') : CP w A 115 [.ref 622, .str x t] [] Q s := by
  refine enterV (args := ⟨[.ref 622, .str x t], []⟩) (vs := [.str x t]) (ga := newA w x t) (gb := newB w x t) (fun a b => [("cls", .ref 622), ("args", .ref a), ("kwargs", .ref b)]) (fn_115 w.params) C D (by omega) (by kernel_rfl) (fun a => by kernel_rfl) (fun a b => by kernel_rfl) (fun a b => by kernel_rfl) (by kernel_rfl) ?_
  intro a b g₁ L' env s V C D
  replace D : Sd w g₁ L' [("kwargs", .ref b), ("args", .ref a), ("cls", .ref 622)] own g os s := D.drop.drop
  conv in bodyAt [12, 1] => whnf
  repeat walk_at "x"
  rename_i i dx s D
  exact back_ (by assumption) fun D => h _ _ _ D
theorem CP.call {f : Addr} {args : List Value} {kw : List (Str × Value)} {Q : Value → Shared → Prop} {E : Value → Shared → Prop} (h : CP w A f args kw Q s) : wpAny (model pw w) A (PySem.call (.ref f) args kw) Q E s :=
  wpAny_call (codeAny_mono h.out fun r s' z => by rcases r with e | (v | _ | _ | _) <;> first | exact z | exact z.elim)
theorem sio_make {t : Tok} {Q : Value → Shared → Prop} (C : Fx w n A env h₀ L path₀) (D : Sd w h₀ L m own g os s) (hn : n ≤ 370)
    (h : ∀ i dx s', Sd w h₀ L m ((i, .inst 622 dx) :: (dx, sioA w x 0) :: own) g os s' → Q (.ref i) s') : WP w A (call (.ref 622) [.str x t]) Q s := by
  have X := C.gk.keeps D.fr.keep
  have hC : s.heap.get? 622 = some (o634 w.params) := X _ _ (by kernel_rfl)
  refine .of (wpAny_call (codeAny_of_tree ?_))
  show wpAny _ _ (callAny (.ref 622) _) _ _ _
  refine nd_load hC ?_
  show wpAny _ _ (callAny.viaDunder (.ref 622) _) _ _ _
  unfold callAny.viaDunder
  refine wpAny_bind ((lk_call X).here ?_)
  dsimp only
  rw [tc_bind]
  refine wpAny_bind (wpAny_pure (wpAny_bind (wpAny_pure ?_)))
  refine wpAny_pure (a := Fin.again (.call (.builtin "type.__call__") ⟨[.ref 622, .str x t], []⟩)) (And.intro rfl ?_)
  refine codeAny_call_builtin_at (Code.quiet_builtin _ (by decide +kernel)) entry_typeCall (check_slot tc_kind tc_split (lk_typ X) (tc_args _ _ _) ?_)
  unfold Builtin.«type.__call__»
  refine KFB.if_not rfl ?_
  refine wpAny_bind ((lk_mro X).here ?_)
  refine KFB.if_not rfl ?_
  refine wpAny_bind ((lk_madeBy X).here ?_)
  refine wpAny_bind (cls_sm (mc := .type "type") (p := 119) (f := .ref 115) (rest := []) D.fr C.gk (by kernel_rfl) (by kernel_rfl) (by kernel_rfl) (by kernel_rfl) (by kernel_rfl) ?_)
  have D1 := D.tok (s.toks + 1)
  have C1 := C.under 622 [.str x t] []
  refine wpAny_bind (wpAny_holding (CP.call (new_spec C1 D1 (by omega) fun i dx s2 D2 => ?_)))
  have X2 := C.gk.keeps D2.fr.keep
  obtain ⟨oi, hi, hi2⟩ := D2.get .head
  have hi2 : oi = instObj 622 dx := hi2
  subst hi2
  have t1 : Looks (model pw w) s2.heap (typeOf (.ref i)) (.ref 622) := (Looks.ld hi).andThen .now
  have s1 : Looks (model pw w) s2.heap (isSubtype (.ref 622) (.ref 622)) true := lk_self X2
  have i1 : Looks (model pw w) s2.heap (typeLookup (.ref 622) "__init__") (some (.ref 392)) := lk_init X2
  have b1 : Looks (model pw w) s2.heap (bindSpecial (.ref 392) (.ref i)) (.ref 392, [.ref i]) := bind_fn X2 (.ref i) (by kernel_rfl)
  unfold isInstance callSpecial? specialOf
  repeat (first | with_reducible refine wpAny_call ?_ | lk)
  refine codeAny_mono (sio_init_spec (Q := fun v s' => v = .none ∧ Sd w h₀ L m ((i, .inst 622 dx) :: (dx, sioA w x 0) :: own) g os s') (f := fun a => (i, .inst 622 dx) :: (dx, a) :: own) C1 Ctx.head.tail (fun a => .head) D2 (by omega) (fun s' D3 => ⟨rfl, D3⟩)).out fun r s' z => ?_
  rcases r with e | (v | _ | _ | _) <;> first | exact z | exact z.elim | skip
  obtain ⟨rfl, D3⟩ := z
  exact wpAny_pure (wpAny_pure (h _ _ _ D3))
end
end
section
section
variable {w : World} {n : Nat} {A : Around} {env : Env} {h₀ : Heap} {L : Addr} {m m' : List (Str × Value)} {own : List (Addr × AO)} {g : GP} {os : Osb} {s : Shared} {path₀ path : List Nat} {f : AO → Os} {x : Str} {l d : Addr}
theorem lex_init {t : Tok} {Q : Value → Shared → Prop} (C : Fx w n A env h₀ L path₀) (F : Ctx f d) (hi : ∀ a, OAt (f a) l (.inst 757 d)) (D : Sd w h₀ L m (f (.flds [])) g os s) (hn : n ≤ 360)
    (h : ∀ i dxi pb fs s', Sd w h₀ L m ((fs, dqA []) :: (pb, dqA []) :: (i, .inst 622 dxi) :: (dxi, sioA w x 0) :: f (lexA w i pb fs "#" false " " "")) g os s' → Q .none s') : CP w A 681 [.ref l, .str x t] [("posix", .bool true)] Q s := by
  refine enterP [("punctuation_chars", .bool false), ("posix", .bool true), ("infile", .none), ("instream", .str x t), ("self", .ref l)] (fn_681 w.params) C D (by omega) (kp_binds (K := KK w.params) (binds := [("self", .ref l), ("instream", .str x t), ("infile", .none), ("posix", .bool true), ("punctuation_chars", .bool false)]) (C.gk.keeps D.fr.keep) (fun S => by kernel_rfl)) rfl (by kernel_rfl) (by kernel_rfl) ?_
  intro g₁ L' env s Q' hQ V C D
  conv in bodyAt [26, 0] => whnf
  repeat walk_at "x"
  refine sio_make C (by assumption) (by omega) fun i dxi s D => ?_
  repeat walk_at "x"
  refine r_iaddS (by assumption) (by decide +kernel) ?_
  intro t2 s D
  repeat walk_at "x"
  rename_i s D
  exact hQ _ _ <| back_ (D.shut F.tail.tail.tail.tail (fun o ho => lex_of ho)) fun D => h _ _ _ _ _ D
end
end
section
/-- a ledger with a lexer's dict (d) and its text stream's (e) -/
structure LX (f : AO → AO → Os) (l d i e : Addr) : Prop where
  putL : ∀ a a' b, OPut (f a b) d a a' (f a' b)
  putR : ∀ a b b', OPut (f a b) e b b' (f a b')
  lex : ∀ a b, OAt (f a b) l (.inst 757 d)
  str : ∀ a b, OAt (f a b) i (.inst 622 e)
theorem LX.atL {f : AO → AO → Os} {l d i e : Addr} {a b : AO} (X : LX f l d i e) : OAt (f a b) d a := (X.putL a a b).at
theorem LX.atR {f : AO → AO → Os} {l d i e : Addr} {a b : AO} (X : LX f l d i e) : OAt (f a b) e b := (X.putR a b b).at
theorem LX.cl {f : AO → AO → Os} {l d i e : Addr} (X : LX f l d i e) (b : AO) : Ctx (fun a => f a b) d := ⟨fun a a' => X.putL a a' b⟩
theorem LX.cr {f : AO → AO → Os} {l d i e : Addr} (X : LX f l d i e) (a : AO) : Ctx (fun b => f a b) e := ⟨fun b b' => X.putR a b b'⟩
local macro_rules | `(tactic| walk_at "o_at") => `(tactic| with_reducible first | exact LX.lex (by assumption) _ _ | exact LX.atL (by assumption) | exact LX.str (by assumption) _ _ | exact LX.atR (by assumption))
local macro_rules | `(tactic| walk_at "o_put") => `(tactic| with_reducible first | exact LX.putL (by assumption) _ _ _ | exact LX.putR (by assumption) _ _ _)
section
variable {w : World} {n : Nat} {A : Around} {env : Env} {h₀ : Heap} {L : Addr} {m m' : List (Str × Value)} {own : List (Addr × AO)} {g : GP} {os : Osb} {s : Shared} {path₀ path : List Nat} {x y : Str} {l d i e : Addr} {fs : Ls} {t : Tok}
theorem Fx.in1 (C : Fx w n A env h₀ L path₀) : Fx w (n + 1) A.in1 env h₀ L path₀ :=
  ⟨C.scope, C.frame, C.kind, C.locals, C.globals, C.builtins, C.gk, C.hand, by have := C.dep; rw [depth_in1]; omega, by have := C.uni; rw [units_in1]; omega⟩
theorem punct_get {b : Bool} {Q : Value → Shared → Prop} (C : Fx w n A env h₀ L path₀) (D : Sd w h₀ L m own g os s) (hn : n ≤ 380) (hx : OAt own l (.inst 757 d)) (hd : OAt own d (.flds fs)) (hm : MAt fs "_punctuation_chars" (.str y t))
    (h : ∀ s', Sd w h₀ L m own g os s' → Q (.str y t) s') : WP w A (getAttr (.ref l) "punctuation_chars" b) Q s := by
  obtain ⟨es, k, I, ok⟩ := D.inst hx hd
  refine .of (get_prop D.fr C.gk I (by kernel_rfl) (by kernel_rfl) (p := 689) (fget := 688) (rest := [.none, .none, .none, .str "punctuation_chars" 1148, .bool false]) (by kernel_rfl) (by kernel_rfl) (by kernel_rfl) (by kernel_rfl) ?_)
  have D1 := D.tok (s.toks + 1)
  have C1 := C.in1
  refine codeAny_mono (show CP w A.in1 688 [.ref l] [] (fun v s' => v = .str y t ∧ Sd w h₀ L m own g os s') _ from ?_).out fun r s' z => ?_
  · refine enterP [("self", .ref l)] (fn_688 w.params) C1 D1 (by omega) (BindsTo.of_eq (binds := [("self", .ref l)]) (by kernel_rfl)) rfl (by kernel_rfl) (by kernel_rfl) ?_
    intro g₁ L' env s Q' hQ V C D
    conv in bodyAt [26, 1] => whnf
    repeat walk_at "x"
    refine r_getf C D hx hd hm (by kernel_rfl) (by kernel_rfl) ?_
    intro s D
    exact hQ _ _ (back_ D fun D => ⟨rfl, D⟩)
  · rcases r with e | (v | _ | _ | _) <;> first | exact z.elim | skip
    obtain ⟨rfl, D2⟩ := z
    exact handed_on (by kernel_rfl) (h _ D2)
end
end
section
local macro_rules | `(tactic| walk_at "o_at") => `(tactic| with_reducible first | exact LX.lex (by assumption) _ _ | exact LX.atL (by assumption) | exact LX.str (by assumption) _ _ | exact LX.atR (by assumption))
local macro_rules | `(tactic| walk_at "o_put") => `(tactic| with_reducible first | exact LX.putL (by assumption) _ _ _ | exact LX.putR (by assumption) _ _ _)
structure TlOk (tl : Ls) : Prop where
  put : ∀ v, MPut tl "nextchar" v [("nextchar", v)]
def TlN (tl : Ls) : Prop := ∃ v, tl = [(("nextchar" : Str), v)]
theorem TlN.one {v : Value} : TlN [("nextchar", v)] := ⟨v, rfl⟩
theorem TlOk.one {v : Value} : TlOk [("nextchar", v)] := ⟨fun _ => .head⟩
local macro_rules | `(tactic| walk_at "m_put") => `(tactic| first | (with_reducible exact TlOk.put (by assumption) _) | fail "no")
local macro_rules | `(tactic| walk_at "x") => `(tactic| ((with_reducible show WP _ _ (getAttr _ (Str.ofString "punctuation_chars") _) _ _); (with_reducible refine punct_get (by assumption) (by assumption) (by omega) (by walk_at "o_at") (by walk_at "o_at") (by walk_at "m_at") ?_); intro _ _))
section
variable {w : World} {n : Nat} {A : Around} {env : Env} {h₀ : Heap} {L : Addr} {m m' : List (Str × Value)} {own : List (Addr × AO)} {g : GP} {os : Osb} {s : Shared} {pos : Pos} {x : Str} {a : Addr} {t t1 t2 : Tok} {y z : Str}
theorem x_tup {elts : List PySem.Expr} {k : Nat} {Q : Value → Shared → Prop} (h : WP w A (spliced (backTo pos (starEach elts env))) (fun vs s₁ => WP w A (newTuple vs) Q s₁) s) : WP w A (eval (.Tuple elts k pos) env) Q s :=
  .of (Tuple_ (wpAny_mono h.out (fun _ _ x => x.out) fun _ _ x => x))
theorem r_newtup {vs : List Value} {Q : Value → Shared → Prop} (D : Sd w h₀ L m own g os s) (hz : vs.length ≤ 100000) (h : ∀ a s', Sd w h₀ L m ((a, .tup vs) :: own) g os s' → Q (.ref a) s') : WP w A (newTuple vs) Q s :=
  .of (wpAny_newTuple (h _ _ (D.push (ao := .tup vs) rfl ⟨0, rfl⟩ (t := s.toks))) (by unfold sizeLine; omega))
theorem r_inT2 {Q : Value → Shared → Prop} (D : Sd w h₀ L m ((a, .tup [.str y t1, .str z t2]) :: own) g os s) (h : ∀ s', Sd w h₀ L m own g os s' → Q (.bool (y == x || (z == x || false))) s') : WP w A (compareOp .In (.str x t) (.ref a)) Q s := by
  obtain ⟨o, h1, k, rfl⟩ := D.get .head
  exact .of (in_tuple_strs (ys := [y, z]) ⟨_, h1, rfl, k, rfl⟩ (.cons _ _ (.cons _ _ .nil)) (h _ D.drop))
end
local macro_rules | `(tactic| walk_at "x") => `(tactic| first
  | (with_reducible refine x_tup ?_)
  | ((with_reducible show WP _ _ (newTuple _) _ _); (with_reducible refine r_newtup (by assumption) (by walk_at "sz") ?_); intro _ _ _)
  | ((with_reducible show WP _ _ (compareOp CmpOp.In _ (Value.ref _)) _ _); (with_reducible refine r_inT2 (by assumption) ?_); intro _ _))
def isWs (c : Nat) : Bool := decide (c ∈ WSP.cps.toList)
/-- the lexer's states: between words, in quotes of either kind, in a word -/
inductive LS where
  | sp | sq | dq | wd
def LS.str : LS → Str
  | .sp => ⟨#[32]⟩
  | .sq => ⟨#[39]⟩
  | .dq => ⟨#[34]⟩
  | .wd => ⟨#[97]⟩
/-- one token read: what stands in it, was it quoted, the state behind it (none: the text's end), the rest; none: the lexer would raise, or meet an escape -/
def rd : LS → List Nat → Bool → List Nat → Option (List Nat × Bool × Option LS × List Nat)
  | .sp, tok, q, [] => some (tok, q, none, [])
  | .wd, tok, q, [] => some (tok, q, none, [])
  | .sq, _, _, [] => none
  | .dq, _, _, [] => none
  | .sp, tok, q, c :: r => if isWs c = true then (if tok ≠ [] ∨ q = true then some (tok, q, some .sp, r) else rd .sp tok q r) else if c = 92 then none else if c = 39 then rd .sq tok q r else if c = 34 then rd .dq tok q r else rd .wd [c] q r
  | .wd, tok, q, c :: r => if isWs c = true then (if tok ≠ [] ∨ q = true then some (tok, q, some .sp, r) else rd .sp tok q r) else if c = 92 then none else if c = 39 then rd .sq tok q r else if c = 34 then rd .dq tok q r else rd .wd (tok ++ [c]) q r
  | .sq, tok, _, c :: r => if c = 39 then rd .wd tok true r else rd .sq (tok ++ [c]) true r
  | .dq, tok, _, c :: r => if c = 34 then rd .wd tok true r else if c = 92 then none else rd .dq (tok ++ [c]) true r
/-- the fields behind a token -/
def lexO (i pb fs : Addr) (st : Option LS) (tok : Str) (ln : Int) (T : Nat → Tok) : Ls := match st with
  | some st => lexF i pb fs "" true st.str tok ln T
  | none => lexN i pb fs "" true tok ln T
section
variable {w : World} {n : Nat} {A : Around} {env : Env} {h₀ : Heap} {L : Addr} {m m' : List (Str × Value)} {own : List (Addr × AO)} {g : GP} {os : Osb} {s : Shared} {path₀ path : List Nat} {x y : Str} {l d i e pb fs : Addr} {t : Tok} {f : AO → AO → Os}
inductive RdI (w : World) (f : AO → AO → Os) (l i pb fs : Addr) (x : Str) (g : GP) (os : Osb) (h₀ : Heap) (L : Addr) (R : List Nat × Bool × Option LS × List Nat) (k : Nat) (s : Shared) : Prop
  | mk (st : LS) (tok : List Nat) (q : Bool) (p : Nat) (ln : Int) (T : Nat → Tok) (t : Tok) (tl : Ls) (hk : k = x.length - p) (hp : p ≤ x.length) (htok : tok.length ≤ p) (hrd : rd st tok q (x.cps.toList.drop p) = some R) (htl : TlOk tl)
    (D : Sd w h₀ L (("self", .ref l) :: ("quoted", .bool q) :: ("escapedstate", .str " " t) :: tl) (f (.flds (lexF i pb fs "" true st.str ⟨tok.toArray⟩ ln T)) (sioA w x p)) g os s) : RdI w f l i pb fs x g os h₀ L R k s
inductive RdF (w : World) (f : AO → AO → Os) (l i pb fs : Addr) (x : Str) (g : GP) (os : Osb) (h₀ : Heap) (L : Addr) (R : List Nat × Bool × Option LS × List Nat) (s : Shared) : Prop
  | mk (p : Nat) (ln : Int) (T : Nat → Tok) (t : Tok) (tl : Ls) (hp : p ≤ x.length) (hl : R.1.length ≤ x.length) (hr : x.cps.toList.drop p = R.2.2.2) (htl : TlN tl)
    (D : Sd w h₀ L (("self", .ref l) :: ("quoted", .bool R.2.1) :: ("escapedstate", .str " " t) :: tl) (f (.flds (lexO i pb fs R.2.2.1 ⟨R.1.toArray⟩ ln T)) (sioA w x p)) g os s) : RdF w f l i pb fs x g os h₀ L R s
noncomputable def whStmt : Stmt := match (bodyAt [26, 6])[2]? with | some a => a | none => .Pass default
theorem x_whileT {b : Nat} {p' pos : Pos} {body : List Stmt} {Q : Flow → Shared → Prop} (I : Nat → Shared → Prop) (k : Nat) (h : I k s)
    (turn : ∀ k s, I k s → ∀ Q' : Flow → Shared → Prop, (∀ a s', (match a with | .next | .cont => ∃ j, j < k ∧ I j s' | .brk => Q .next s' | .ret v => Q (.ret v) s') → Q' a s') → WP w A (execs body env) Q' s) :
    WP w A (exec (.While (.Constant (.bool true) b p') body [] pos) env) Q s := by
  refine x_while I k h fun k s hI => ?_
  have T := turn k s hI _ fun _ _ x => x
  repeat walk_at "x"
  exact T
set_option maxHeartbeats 8000000 in
theorem read_loop {pos : Pos} {R : List Nat × Bool × Option LS × List Nat} {k : Nat} (X : LX f l d i e) (V : Nv env (scopeAt [26, 6]) []) (C : Fx w n A env h₀ L [26, 6]) (hn : n ≤ 340) (hx : x.length ≤ 100000)
    (h : RdI w f l i pb fs x g os h₀ L R k s) : WP w A (exec whStmt env) (fun fl s' => fl = .next ∧ RdF w f l i pb fs x g os h₀ L R s') s := by
  conv in whStmt => whnf
  refine x_whileT (RdI w f l i pb fs x g os h₀ L R) k h ?_
  rintro k s ⟨st, tok, q, p, ln, T, t, tl, rfl, hp, htok, hrd, htl, D⟩ Q' hQ
  repeat walk_at "x"
  refine read1_spec C (X.cr _) (fun b => X.str _ _) (by assumption) (by omega) hx hp ?_
  intro t1 s D
  have hl : x.cps.toList.length = x.length := by simp [Str.length]
  cases hr : x.cps.toList.drop p with
  | nil =>
    have hpe : p = x.length := by
      have := List.drop_eq_nil_iff.mp hr
      omega
    have e1 : (⟨x.cps.extract p (p + 1)⟩ : Str) = Str.ofString "" := by
      have : x.cps.extract p (p + 1) = #[] := by
        apply Array.eq_empty_of_size_eq_zero
        have : x.cps.size = x.length := rfl
        simp only [Array.size_extract]
        omega
      rw [this]
      kernel_rfl
    have e2 : min (p + 1) x.length = p := by omega
    rw [e1]
    rw [e2] at D
    rw [hr] at hrd
    cases st with
    | sp =>
      simp only [LS.str] at D
      repeat walk_at "x"
      obtain rfl : R = (tok, q, none, []) := (Option.some.inj hrd).symm
      exact hQ _ _ ⟨rfl, p, ln, _, t, _, hp, by show tok.length ≤ _; omega, hr, .one, by assumption⟩
    | wd =>
      simp only [LS.str] at D
      repeat walk_at "x"
      obtain rfl : R = (tok, q, none, []) := (Option.some.inj hrd).symm
      exact hQ _ _ ⟨rfl, p, ln, _, t, _, hp, by show tok.length ≤ _; omega, hr, .one, by assumption⟩
    | sq => cases hrd
    | dq => cases hrd
  | cons c r =>
    have hlt : p < x.length := by
      have : (x.cps.toList.drop p).length = x.length - p := by rw [List.length_drop, hl]
      rw [hr] at this
      simp only [List.length_cons] at this
      omega
    have hrc := List.drop_eq_getElem_cons (l := x.cps.toList) (i := p) (by omega)
    rw [hr] at hrc
    have hr' := (List.cons.inj hrc).2.symm
    have e1 : (⟨x.cps.extract p (p + 1)⟩ : Str) = ⟨#[c]⟩ := by
      congr 1
      apply Array.ext'
      rw [Array.toList_extract]
      show List.take (p + 1 - p) (List.drop p x.cps.toList) = [c]
      rw [hr]
      have : p + 1 - p = 1 := by omega
      rw [this]
      rfl
    have e2 : min (p + 1) x.length = p + 1 := by omega
    have hc1 : (⟨#[c]⟩ : Str).length ≤ sizeLine := show 1 ≤ sizeLine by decide
    have htz : (⟨tok.toArray⟩ : Str).length ≤ sizeLine := by show tok.length ≤ _; unfold sizeLine; omega
    have hsum : (⟨tok.toArray⟩ : Str).length + (⟨#[c]⟩ : Str).length ≤ sizeLine := by show tok.length + 1 ≤ _; unfold sizeLine; omega
    have hcom : ¬ c ∈ (Str.ofString "").cps.toList := by
      have : (Str.ofString "").cps.toList = [] := by kernel_rfl
      rw [this]; exact List.not_mem_nil
    have hws' : isWs c = decide (c ∈ WSP.cps.toList) := rfl
    have eES : ∀ c : Nat, c ∈ ESC.cps.toList ↔ c = 92 := fun c => by
      have : ESC.cps.toList = [92] := by kernel_rfl
      rw [this]; simp
    have eQU : ∀ c : Nat, c ∈ QUO.cps.toList ↔ (c = 39 ∨ c = 34) := fun c => by
      have : QUO.cps.toList = [39, 34] := by kernel_rfl
      rw [this]; simp
    have ea : (Str.ofString "a") = LS.str .wd := by kernel_rfl
    have es : (Str.ofString " ") = LS.str .sp := by kernel_rfl
    have et : (⟨tok.toArray⟩ : Str) ++ (⟨#[c]⟩ : Str) = ⟨(tok ++ [c]).toArray⟩ := by
      show Str.mk (tok.toArray ++ #[c]) = _
      simp
    rw [e1]
    rw [e2] at D
    rw [hr] at hrd
    with_reducible refine r_st C D (by walk_at "m_put") (by kernel_rfl!) ?_
    intro s D
    refine x_cons (WP.mono (Q := fun fl s' => fl = .next ∧ ∃ ln T, Sd w h₀ L (("self", .ref l) :: ("quoted", .bool q) :: ("escapedstate", .str " " t) :: [("nextchar", .str ⟨#[c]⟩ t1)]) (f (.flds (lexF i pb fs "" true st.str ⟨tok.toArray⟩ ln T)) (sioA w x (p + 1))) g os s') ?_ ?_)
    · repeat walk_at "x"
      by_cases hnl : (⟨#[c]⟩ : Str) = Str.ofString "\n"
      · refine ite_dt hnl ?_
        repeat walk_at "x"
        exact ⟨rfl, _, _, by assumption⟩
      · refine ite_df hnl ?_
        repeat walk_at "x"
        exact ⟨rfl, _, _, by assumption⟩
    · clear D
      rintro fl s ⟨rfl, ln, T, D⟩
      have hne : tok ≠ [] → (⟨tok.toArray⟩ : Str).length ≠ 0 := fun h e => h (List.eq_nil_of_length_eq_zero e)
      have hquo : ¬ c = 39 → ¬ c = 34 → ¬ c ∈ QUO.cps.toList := fun h1 h2 h3 => by
        rcases (eQU c).mp h3 with h | h
        · exact h1 h
        · exact h2 h
      have hq39 : (39 : Nat) ∈ QUO.cps.toList := (eQU 39).mpr (.inl rfl)
      have hq34 : (34 : Nat) ∈ QUO.cps.toList := (eQU 34).mpr (.inr rfl)
      cases st with
      | sp =>
        simp only [LS.str] at D
        repeat walk_at "x"
        by_cases hws : c ∈ WSP.cps.toList
        · have hw2 : isWs c = true := by rw [hws']; exact decide_eq_true hws
          rw [rd, if_pos hw2] at hrd
          repeat walk_at "x"
          by_cases ht0 : tok = []
          · subst ht0
            refine ite_df (by show ¬ (0 ≠ 0); simp) ?_
            cases q with
            | false =>
              rw [if_neg (by simp)] at hrd
              repeat walk_at "x"
              exact hQ _ _ ⟨x.length - (p + 1), by omega, .sp, [], false, p + 1, _, _, t, _, rfl, by omega, Nat.zero_le _, by rw [hr']; exact hrd, .one, by assumption⟩
            | true =>
              rw [if_pos (by simp)] at hrd
              repeat walk_at "x"
              obtain rfl : R = ([], true, some .sp, r) := (Option.some.inj hrd).symm
              exact hQ _ _ ⟨rfl, p + 1, _, _, t, _, hlt, Nat.zero_le _, hr', .one, by assumption⟩
          · rw [if_pos (.inl ht0)] at hrd
            refine ite_dt (hne ht0) ?_
            repeat walk_at "x"
            obtain rfl : R = (tok, q, some .sp, r) := (Option.some.inj hrd).symm
            exact hQ _ _ ⟨rfl, p + 1, _, _, t, _, hlt, by show tok.length ≤ _; omega, hr', .one, by assumption⟩
        · have hw2 : ¬ isWs c = true := by rw [hws']; simpa using hws
          rw [rd, if_neg hw2] at hrd
          repeat walk_at "x"
          by_cases hes : c = 92
          · rw [if_pos hes] at hrd; cases hrd
          rw [if_neg hes] at hrd
          have hes2 : ¬ c ∈ ESC.cps.toList := fun h => hes ((eES c).mp h)
          repeat walk_at "x"
          by_cases h39 : c = 39
          · subst h39
            rw [if_pos rfl] at hrd
            repeat walk_at "x"
            exact hQ _ _ ⟨x.length - (p + 1), by omega, .sq, tok, q, p + 1, _, _, t, _, rfl, by omega, by omega, by rw [hr']; exact hrd, .one, by assumption⟩
          by_cases h34 : c = 34
          · subst h34
            rw [if_neg (by decide), if_pos rfl] at hrd
            repeat walk_at "x"
            exact hQ _ _ ⟨x.length - (p + 1), by omega, .dq, tok, q, p + 1, _, _, t, _, rfl, by omega, by omega, by rw [hr']; exact hrd, .one, by assumption⟩
          rw [if_neg h39, if_neg h34] at hrd
          have hqu := hquo h39 h34
          repeat walk_at "x"
          by_cases hwc : c ∈ WCH.cps.toList
          · refine ite_dt hwc ?_
            repeat walk_at "x"
            rename_i s D
            rw [ea] at D
            exact hQ _ _ ⟨x.length - (p + 1), by omega, .wd, [c], q, p + 1, _, _, t, _, rfl, by omega, by simp, by rw [hr']; exact hrd, .one, by assumption⟩
          · refine ite_df hwc ?_
            repeat walk_at "x"
            rename_i s D
            rw [ea] at D
            exact hQ _ _ ⟨x.length - (p + 1), by omega, .wd, [c], q, p + 1, _, _, t, _, rfl, by omega, by simp, by rw [hr']; exact hrd, .one, by assumption⟩
      | wd =>
        simp only [LS.str] at D
        repeat walk_at "x"
        by_cases hws : c ∈ WSP.cps.toList
        · have hw2 : isWs c = true := by rw [hws']; exact decide_eq_true hws
          rw [rd, if_pos hw2] at hrd
          repeat walk_at "x"
          by_cases ht0 : tok = []
          · subst ht0
            refine ite_df (by show ¬ (0 ≠ 0); simp) ?_
            cases q with
            | false =>
              rw [if_neg (by simp)] at hrd
              repeat walk_at "x"
              rename_i s D
              rw [es] at D
              exact hQ _ _ ⟨x.length - (p + 1), by omega, .sp, [], false, p + 1, _, _, t, _, rfl, by omega, Nat.zero_le _, by rw [hr']; exact hrd, .one, by assumption⟩
            | true =>
              rw [if_pos (by simp)] at hrd
              repeat walk_at "x"
              rename_i s D
              rw [es] at D
              obtain rfl : R = ([], true, some .sp, r) := (Option.some.inj hrd).symm
              exact hQ _ _ ⟨rfl, p + 1, _, _, t, _, hlt, Nat.zero_le _, hr', .one, by assumption⟩
          · rw [if_pos (.inl ht0)] at hrd
            refine ite_dt (hne ht0) ?_
            repeat walk_at "x"
            rename_i s D
            rw [es] at D
            obtain rfl : R = (tok, q, some .sp, r) := (Option.some.inj hrd).symm
            exact hQ _ _ ⟨rfl, p + 1, _, _, t, _, hlt, by show tok.length ≤ _; omega, hr', .one, by assumption⟩
        · have hw2 : ¬ isWs c = true := by rw [hws']; simpa using hws
          rw [rd, if_neg hw2] at hrd
          repeat walk_at "x"
          by_cases hes : c = 92
          · rw [if_pos hes] at hrd; cases hrd
          rw [if_neg hes] at hrd
          have hes2 : ¬ c ∈ ESC.cps.toList := fun h => hes ((eES c).mp h)
          repeat walk_at "x"
          by_cases h39 : c = 39
          · subst h39
            rw [if_pos rfl] at hrd
            repeat walk_at "x"
            exact hQ _ _ ⟨x.length - (p + 1), by omega, .sq, tok, q, p + 1, _, _, t, _, rfl, by omega, by omega, by rw [hr']; exact hrd, .one, by assumption⟩
          by_cases h34 : c = 34
          · subst h34
            rw [if_neg (by decide), if_pos rfl] at hrd
            repeat walk_at "x"
            exact hQ _ _ ⟨x.length - (p + 1), by omega, .dq, tok, q, p + 1, _, _, t, _, rfl, by omega, by omega, by rw [hr']; exact hrd, .one, by assumption⟩
          rw [if_neg h39, if_neg h34] at hrd
          have hqu := hquo h39 h34
          repeat walk_at "x"
          by_cases hwc : c ∈ WCH.cps.toList
          · refine ite_dt hwc ?_
            repeat walk_at "x"
            rename_i s D
            rw [et] at D
            exact hQ _ _ ⟨x.length - (p + 1), by omega, .wd, (tok ++ [c]), q, p + 1, _, _, t, _, rfl, by omega, by simp; omega, by rw [hr']; exact hrd, .one, by assumption⟩
          · refine ite_df hwc ?_
            repeat walk_at "x"
            rename_i s D
            rw [et] at D
            exact hQ _ _ ⟨x.length - (p + 1), by omega, .wd, (tok ++ [c]), q, p + 1, _, _, t, _, rfl, by omega, by simp; omega, by rw [hr']; exact hrd, .one, by assumption⟩
      | sq =>
        simp only [LS.str] at D
        rw [rd] at hrd
        repeat walk_at "x"
        by_cases h39 : c = 39
        · subst h39
          rw [if_pos rfl] at hrd
          repeat walk_at "x"
          rename_i s D
          rw [ea] at D
          exact hQ _ _ ⟨x.length - (p + 1), by omega, .wd, tok, true, p + 1, _, _, t, _, rfl, by omega, by omega, by rw [hr']; exact hrd, .one, by assumption⟩
        · rw [if_neg h39] at hrd
          have hn39 : ¬ (⟨#[c]⟩ : Str) = ⟨#[39]⟩ := fun h => h39 (by simpa using h)
          repeat walk_at "x"
          by_cases hes2 : c ∈ ESC.cps.toList
          · refine ite_dt hes2 ?_
            repeat walk_at "x"
            rename_i s D
            rw [et] at D
            exact hQ _ _ ⟨x.length - (p + 1), by omega, .sq, (tok ++ [c]), true, p + 1, _, _, t, _, rfl, by omega, by simp; omega, by rw [hr']; exact hrd, .one, by assumption⟩
          · refine ite_df hes2 ?_
            repeat walk_at "x"
            rename_i s D
            rw [et] at D
            exact hQ _ _ ⟨x.length - (p + 1), by omega, .sq, (tok ++ [c]), true, p + 1, _, _, t, _, rfl, by omega, by simp; omega, by rw [hr']; exact hrd, .one, by assumption⟩
      | dq =>
        simp only [LS.str] at D
        rw [rd] at hrd
        repeat walk_at "x"
        by_cases h34 : c = 34
        · subst h34
          rw [if_pos rfl] at hrd
          repeat walk_at "x"
          rename_i s D
          rw [ea] at D
          exact hQ _ _ ⟨x.length - (p + 1), by omega, .wd, tok, true, p + 1, _, _, t, _, rfl, by omega, by omega, by rw [hr']; exact hrd, .one, by assumption⟩
        · rw [if_neg h34] at hrd
          have hn34 : ¬ (⟨#[c]⟩ : Str) = ⟨#[34]⟩ := fun h => h34 (by simpa using h)
          repeat walk_at "x"
          by_cases hes : c = 92
          · rw [if_pos hes] at hrd; cases hrd
          rw [if_neg hes] at hrd
          have hes2 : ¬ c ∈ ESC.cps.toList := fun h => hes ((eES c).mp h)
          repeat walk_at "x"
          rename_i s D
          rw [et] at D
          exact hQ _ _ ⟨x.length - (p + 1), by omega, .dq, (tok ++ [c]), true, p + 1, _, _, t, _, rfl, by omega, by simp; omega, by rw [hr']; exact hrd, .one, by assumption⟩
end
end
section
local macro_rules | `(tactic| walk_at "o_at") => `(tactic| with_reducible first | exact LX.lex (by assumption) _ _ | exact LX.atL (by assumption) | exact LX.str (by assumption) _ _ | exact LX.atR (by assumption))
local macro_rules | `(tactic| walk_at "o_put") => `(tactic| with_reducible first | exact LX.putL (by assumption) _ _ _ | exact LX.putR (by assumption) _ _ _)
local macro_rules | `(tactic| walk_at "m_put") => `(tactic| first | (with_reducible exact TlOk.put (by assumption) _) | fail "no")
local macro_rules | `(tactic| walk_at "x") => `(tactic| ((with_reducible show WP _ _ (getAttr _ (Str.ofString "punctuation_chars") _) _ _); (with_reducible refine punct_get (by assumption) (by assumption) (by omega) (by walk_at "o_at") (by walk_at "o_at") (by walk_at "m_at") ?_); intro _ _))
/-- the lexer between tokens -/
def lexS (w : World) (i pb fs : Addr) (st : Option LS) : AO := .any fun o => ∃ ln T, (AO.flds (lexO i pb fs st "" ln T)).Is w o
/-- what a read token gives -/
def IsTk (R : List Nat × Bool × Option LS × List Nat) (v : Value) : Prop := (R.1 = [] ∧ R.2.1 = false ∧ v = .none) ∨ (¬ (R.1 = [] ∧ R.2.1 = false) ∧ ∃ t, v = .str ⟨R.1.toArray⟩ t)
section
variable {w : World} {n : Nat} {A : Around} {env : Env} {h₀ : Heap} {L : Addr} {m m' : List (Str × Value)} {own : List (Addr × AO)} {g : GP} {os : Osb} {s : Shared} {path₀ path : List Nat} {x y : Str} {l d i e pb fs : Addr} {t : Tok} {f : AO → AO → Os}
theorem read_token_spec {Q : Value → Shared → Prop} {R : List Nat × Bool × Option LS × List Nat} {p : Nat} (X : LX f l d i e) (C : Fx w n A env h₀ L path₀) (hn : n ≤ 330) (hx : x.length ≤ 100000) (hp : p ≤ x.length) (hrd : rd .sp [] false (x.cps.toList.drop p) = some R)
    (D : Sd w h₀ L m (f (lexS w i pb fs (some .sp)) (sioA w x p)) g os s)
    (h : ∀ v p' s', IsTk R v → p' ≤ x.length → R.1.length ≤ x.length → x.cps.toList.drop p' = R.2.2.2 → Sd w h₀ L m (f (lexS w i pb fs R.2.2.1) (sioA w x p')) g os s' → Q v s') : WP w A (call (.ref 725) [.ref l]) Q s := by
  refine enterQ [("self", .ref l)] (fn_725 w.params) C D (by omega) (BindsTo.of_eq (binds := [("self", .ref l)]) (by kernel_rfl)) rfl (by kernel_rfl) (by kernel_rfl) ?_
  intro g₁ L' env s Q' hQ V C D
  conv in bodyAt [26, 6] => whnf
  obtain ⟨o, ⟨ln, T, ho⟩, hD⟩ := D.open (X.cl _)
  have D := hD _ ho
  repeat walk_at "x"
  rename_i s D
  show WP w _ (exec whStmt env) _ s
  have e1 : (Str.ofString "") = ⟨([] : List Nat).toArray⟩ := by kernel_rfl
  refine WP.mono (read_loop (pos := default) (R := R) (k := x.length - p) X V C (by omega) hx ⟨.sp, [], false, p, ln, T, _, [], rfl, hp, Nat.zero_le _, hrd, ⟨fun _ => .nil⟩, e1 ▸ D⟩) ?_
  rintro fl s ⟨rfl, p', ln, T, t, tl, hp', hR1, hR2, ⟨nv, rfl⟩, D⟩
  obtain ⟨tok, q, st, r⟩ := R
  simp only at D hR1 hR2
  have hz : (⟨tok.toArray⟩ : Str).length ≤ sizeLine := by show tok.length ≤ _; unfold sizeLine; omega
  have fin : ∀ v s', IsTk (tok, q, st, r) v → (∃ ln T m, Sd w g₁ L' m (f (AO.flds (lexO i pb fs st (Str.ofString "") ln T)) (sioA w x p')) g os s') → Back w h₀ L m g₁ os Q v s' := fun v s' hv ⟨ln, T, m', D⟩ =>
    back_ (D.shut (X.cl _) (P := fun o => ∃ ln T, (AO.flds (lexO i pb fs st "" ln T)).Is w o) fun o ho => ⟨ln, T, ho⟩) fun D => h _ _ _ hv hp' hR1 hR2 D
  cases st with
  | some st =>
    simp only [lexO] at D
    repeat walk_at "x"
    cases q with
    | true =>
      refine ite_kf rfl ?_
      repeat walk_at "x"
      exact hQ _ _ <| fin _ _ (.inr ⟨by simp, _, rfl⟩) ⟨_, _, _, by assumption⟩
    | false =>
      refine ite_kt rfl ?_
      repeat walk_at "x"
      by_cases ht : tok = []
      · subst ht
        refine ite_dt e1.symm ?_
        repeat walk_at "x"
        exact hQ _ _ <| fin _ _ (.inl ⟨rfl, rfl, rfl⟩) ⟨_, _, _, by assumption⟩
      · refine ite_df (fun e => ht ?_) ?_
        · have := congrArg (fun z : Str => z.cps.toList) (e.trans e1)
          simpa using this
        repeat walk_at "x"
        exact hQ _ _ <| fin _ _ (.inr ⟨fun h => ht h.1, _, rfl⟩) ⟨_, _, _, by assumption⟩
  | none =>
    simp only [lexO] at D
    repeat walk_at "x"
    cases q with
    | true =>
      refine ite_kf rfl ?_
      repeat walk_at "x"
      exact hQ _ _ <| fin _ _ (.inr ⟨by simp, _, rfl⟩) ⟨_, _, _, by assumption⟩
    | false =>
      refine ite_kt rfl ?_
      repeat walk_at "x"
      by_cases ht : tok = []
      · subst ht
        refine ite_dt e1.symm ?_
        repeat walk_at "x"
        exact hQ _ _ <| fin _ _ (.inl ⟨rfl, rfl, rfl⟩) ⟨_, _, _, by assumption⟩
      · refine ite_df (fun e => ht ?_) ?_
        · have := congrArg (fun z : Str => z.cps.toList) (e.trans e1)
          simpa using this
        repeat walk_at "x"
        exact hQ _ _ <| fin _ _ (.inr ⟨fun h => ht h.1, _, rfl⟩) ⟨_, _, _, by assumption⟩
set_option maxHeartbeats 2000000 in
theorem read_token_end {Q : Value → Shared → Prop} {p : Nat} (X : LX f l d i e) (C : Fx w n A env h₀ L path₀) (hn : n ≤ 330) (hx : x.length ≤ 100000) (hp : p = x.length)
    (D : Sd w h₀ L m (f (lexS w i pb fs none) (sioA w x p)) g os s)
    (h : ∀ s', Sd w h₀ L m (f (lexS w i pb fs none) (sioA w x p)) g os s' → Q .none s') : WP w A (call (.ref 725) [.ref l]) Q s := by
  refine enterQ [("self", .ref l)] (fn_725 w.params) C D (by omega) (BindsTo.of_eq (binds := [("self", .ref l)]) (by kernel_rfl)) rfl (by kernel_rfl) (by kernel_rfl) ?_
  intro g₁ L' env s Q' hQ V C D
  conv in bodyAt [26, 6] => whnf
  obtain ⟨o, ⟨ln, T, ho⟩, hD⟩ := D.open (X.cl _)
  have D := hD _ ho
  repeat walk_at "x"
  rename_i s D
  simp only [lexO] at D
  refine x_while (fun k s => k = 0 ∧ ∃ t, Sd w g₁ L' [("self", .ref l), ("quoted", .bool false), ("escapedstate", .str " " t)] (f (.flds (lexN i pb fs "" true "" ln T)) (sioA w x p)) g os s) 0 ⟨rfl, _, D⟩ ?_
  clear D
  rintro k s ⟨rfl, t, D⟩
  repeat walk_at "x"
  refine read1_spec C (X.cr _) (fun b => X.str _ _) (by assumption) (by omega) hx (by omega) ?_
  intro t1 s D
  have e2 : min (p + 1) x.length = p := by omega
  rw [e2] at D
  generalize (⟨x.cps.extract p (p + 1)⟩ : Str) = nc
  have fin : ∀ s', (∃ ln T m, Sd w g₁ L' m (f (AO.flds (lexN i pb fs "" true (Str.ofString "") ln T)) (sioA w x p)) g os s') → Back w h₀ L m g₁ os Q .none s' := fun s' ⟨ln, T, m', D⟩ =>
    back_ (D.shut (X.cl _) (P := fun o => ∃ ln T, (AO.flds (lexO i pb fs none "" ln T)).Is w o) fun o ho => ⟨ln, T, ho⟩) fun D => h _ D
  with_reducible refine r_st C D (by walk_at "m_put") (by kernel_rfl!) ?_
  intro s D
  refine x_cons (WP.mono (Q := fun fl s' => fl = .next ∧ ∃ ln T, Sd w g₁ L' [("self", .ref l), ("quoted", .bool false), ("escapedstate", .str " " t), ("nextchar", .str nc t1)] (f (.flds (lexN i pb fs "" true "" ln T)) (sioA w x p)) g os s') ?_ ?_)
  · repeat walk_at "x"
    by_cases hnl : nc = Str.ofString "\n"
    · refine ite_dt hnl ?_
      repeat walk_at "x"
      exact ⟨rfl, _, _, by assumption⟩
    · refine ite_df hnl ?_
      repeat walk_at "x"
      exact ⟨rfl, _, _, by assumption⟩
  · clear D
    rintro fl s ⟨rfl, ln, T, D⟩
    repeat walk_at "x"
    exact hQ _ _ <| fin _ ⟨_, _, _, by assumption⟩
end
end
section
/-- a lexer's two empty deques -/
structure DQ (f : AO → AO → Os) (pb fs : Addr) : Prop where
  pb : ∀ a b, OAt (f a b) pb (dqA [])
  fs : ∀ a b, OAt (f a b) fs (dqA [])
local macro_rules | `(tactic| walk_at "o_at") => `(tactic| with_reducible first | exact LX.lex (by assumption) _ _ | exact LX.atL (by assumption) | exact LX.str (by assumption) _ _ | exact LX.atR (by assumption) | exact DQ.pb (by assumption) _ _ | exact DQ.fs (by assumption) _ _)
local macro_rules | `(tactic| walk_at "o_put") => `(tactic| with_reducible first | exact LX.putL (by assumption) _ _ _ | exact LX.putR (by assumption) _ _ _)
section
variable {w : World} {n : Nat} {A : Around} {env : Env} {h₀ : Heap} {L : Addr} {m m' : List (Str × Value)} {own : List (Addr × AO)} {g : GP} {os : Osb} {s : Shared} {path₀ path : List Nat} {x y : Str} {l d i e pb fs : Addr} {t : Tok} {f : AO → AO → Os}
theorem r_eqsN {Q : Value → Shared → Prop} (h : Q (.bool false) s) : WP w A (compareOp .Eq (.str x t) .none) Q s := .of (PySem.EqNone.eq_str_none h)
theorem x_while0 {test : PySem.Expr} {body : List Stmt} {pos : Pos} {Q : Flow → Shared → Prop} {P : Shared → Prop} (h : P s)
    (turn : ∀ s, P s → WP w A (isTrue test env (eval test env)) (fun b s₂ => if b = true then WP w A (execs body env) (fun f s₃ => match f with | .next | .cont => False | .brk => Q .next s₃ | .ret v => Q (.ret v) s₃) s₂ else Q .next s₂) s) :
    WP w A (exec (.While test body [] pos) env) Q s :=
  x_while (fun k s => k = 0 ∧ P s) 0 ⟨rfl, h⟩ fun k s ⟨hk, hP⟩ => (turn s hP).mono fun b s₂ z => by
    cases b with
    | false => exact z
    | true =>
      simp only [if_true] at z ⊢
      refine z.mono fun f s₃ y => ?_
      cases f <;> first | exact y.elim | exact y
theorem r_eqNN {Q : Value → Shared → Prop} (h : Q (.bool true) s) : WP w A (compareOp .Eq .none .none) Q s := .of (PySem.EqNone.eq_none_none h)
end
local macro_rules | `(tactic| walk_at "x") => `(tactic| first
  | ((with_reducible show WP _ _ (compareOp CmpOp.Eq (Value.str _ _) Value.none) _ _); (with_reducible refine r_eqsN ?_))
  | ((with_reducible show WP _ _ (compareOp CmpOp.Eq Value.none Value.none) _ _); (with_reducible refine r_eqNN ?_)))
section
variable {w : World} {n : Nat} {A : Around} {env : Env} {h₀ : Heap} {L : Addr} {m m' : List (Str × Value)} {own : List (Addr × AO)} {g : GP} {os : Osb} {s : Shared} {path₀ path : List Nat} {x y : Str} {l d i e pb fs : Addr} {t : Tok} {f : AO → AO → Os}
/-- the state's reading: the text's end gives none for ever -/
def RdT (x : Str) (p : Nat) (st : Option LS) (R : List Nat × Bool × Option LS × List Nat) : Prop := (st = some .sp ∧ rd .sp [] false (x.cps.toList.drop p) = some R) ∨ (st = none ∧ p = x.length ∧ R = ([], false, none, []))
theorem read_any {Q : Value → Shared → Prop} {R : List Nat × Bool × Option LS × List Nat} {st : Option LS} {p : Nat} (X : LX f l d i e) (C : Fx w n A env h₀ L path₀) (hn : n ≤ 330) (hx : x.length ≤ 100000) (hp : p ≤ x.length) (hrd : RdT x p st R)
    (D : Sd w h₀ L m (f (lexS w i pb fs st) (sioA w x p)) g os s)
    (h : ∀ v p' s', IsTk R v → p' ≤ x.length → R.1.length ≤ x.length → x.cps.toList.drop p' = R.2.2.2 → Sd w h₀ L m (f (lexS w i pb fs R.2.2.1) (sioA w x p')) g os s' → Q v s') : WP w A (call (.ref 725) [.ref l]) Q s := by
  rcases hrd with ⟨rfl, hrd⟩ | ⟨rfl, rfl, rfl⟩
  · exact read_token_spec X C hn hx hp hrd D h
  · refine read_token_end X C hn hx rfl D fun s' D => h _ _ s' (.inl ⟨rfl, rfl, rfl⟩) hp (Nat.zero_le _) ?_ D
    apply List.drop_eq_nil_of_le
    have : x.cps.toList.length = x.length := by simp [Str.length]
    omega
set_option maxHeartbeats 2000000 in
theorem get_token_spec {Q : Value → Shared → Prop} {R : List Nat × Bool × Option LS × List Nat} {st : Option LS} {p : Nat} (X : LX f l d i e) (Y : DQ f pb fs) (C : Fx w n A env h₀ L path₀) (hn : n ≤ 329) (hx : x.length ≤ 100000) (hp : p ≤ x.length) (hrd : RdT x p st R)
    (D : Sd w h₀ L m (f (lexS w i pb fs st) (sioA w x p)) g os s)
    (h : ∀ v p' s', IsTk R v → p' ≤ x.length → R.1.length ≤ x.length → x.cps.toList.drop p' = R.2.2.2 → Sd w h₀ L m (f (lexS w i pb fs R.2.2.1) (sioA w x p')) g os s' → Q v s') : WP w A (call (.ref 718) [.ref l]) Q s := by
  refine enterQ [("self", .ref l)] (fn_718 w.params) C D (by omega) (BindsTo.of_eq (binds := [("self", .ref l)]) (by kernel_rfl)) rfl (by kernel_rfl) (by kernel_rfl) ?_
  intro g₁ L' env s Q' hQ V C D
  conv in bodyAt [26, 5] => whnf
  have D1 : ∃ s, True := ⟨s, trivial⟩
  obtain ⟨tok, q, st', r⟩ := R
  have key : ∀ s ln T, Sd w g₁ L' [("self", .ref l)] (f (.flds (lexO i pb fs st "" ln T)) (sioA w x p)) g os s → Sd w g₁ L' [("self", .ref l)] (f (lexS w i pb fs st) (sioA w x p)) g os s :=
    fun s ln T D => D.shut (X.cl _) (P := fun o => ∃ ln T, (AO.flds (lexO i pb fs st "" ln T)).Is w o) fun o ho => ⟨ln, T, ho⟩
  have fin : ∀ v p' s', IsTk (tok, q, st', r) v → p' ≤ x.length → tok.length ≤ x.length → x.cps.toList.drop p' = r → (∃ ln T m, Sd w g₁ L' m (f (AO.flds (lexO i pb fs st' (Str.ofString "") ln T)) (sioA w x p')) g os s') → Back w h₀ L m g₁ os Q v s' := fun v p' s' hv hp' h1 h2 ⟨ln, T, m', D⟩ =>
    back_ (D.shut (X.cl _) (P := fun o => ∃ ln T, (AO.flds (lexO i pb fs st' "" ln T)).Is w o) fun o ho => ⟨ln, T, ho⟩) fun D => h _ _ _ hv hp' h1 h2 D
  obtain ⟨o, ⟨ln, T, ho⟩, hD⟩ := D.open (X.cl _)
  have D1 := hD _ ho
  clear D hD ho
  cases st <;> simp only [lexO] at D1 key
  all_goals
    repeat walk_at "x"
    refine read_any X C (by omega) hx hp hrd (key _ _ _ (by assumption)) ?_
    intro v p' s hv hp' h1 h2 D
    obtain ⟨o, ⟨ln, T, ho⟩, hD⟩ := D.open (X.cl _)
    have D1 := hD _ ho
    clear D hD ho
    simp only at D1
    cases st' <;> simp only [lexO] at D1 fin
  all_goals
    have hv0 := hv
    rcases hv with ⟨-, -, rfl⟩ | ⟨-, t, rfl⟩
  all_goals
    repeat walk_at "x"
    rename_i s D
    refine x_while0 D ?_
    clear D
    intro s D
    repeat walk_at "x"
    exact hQ _ _ <| fin _ _ _ hv0 hp' h1 h2 ⟨_, _, _, by assumption⟩
end
end
section
section
variable {w : World}
/-- the outer frames' names stand in the ledger -/
def FrO (A : Around) (env : Env) (own : Os) : Prop := ∃ outer, A.frames = some (env :: outer) ∧ ∀ e ∈ outer, e.scope.kind ≠ .module ∧ ∃ Lx mx, e.frame = some Lx ∧ OAt own Lx (.nsp mx)
theorem Own.slots {φ : Addr → Obj → Obj} {news : List (Addr × Obj)} {own : Os} (h : Own w news own) (ord : (news.map (·.1)).Pairwise (· > ·))
    (hφ : ∀ a o, (a, o) ∈ news → φ a o = o ∨ ((∃ m, OAt own a (.nsp m)) ∧ ∃ sl, φ a o = { o with slots := sl })) : Own w (news.map fun p => (p.1, φ p.1 p.2)) own := by
  induction h with
  | nil => exact .nil
  | cons hi hr ih =>
    rename_i a o ao news own
    rw [List.map_cons, List.pairwise_cons] at ord
    have lt : ∀ b ob, (b, ob) ∈ news → b ≠ a := fun b ob hb => Nat.ne_of_lt (ord.1 b (List.mem_map_of_mem (f := (·.1)) hb))
    refine .cons ?_ (ih ord.2 fun b ob hb => ?_)
    · rcases hφ a o (.head _) with e | ⟨⟨m, hm⟩, sl, e⟩
      · simp only [e]; exact hi
      · simp only [e]
        cases hm with
        | head =>
          obtain ⟨es, ep, hd, r⟩ := hi
          exact ⟨es, ep, hd, r⟩
        | tail hm =>
          obtain ⟨o', h1, _⟩ := hr.at hm
          exact absurd rfl (lt _ _ h1)
    · rcases hφ b ob (.tail _ hb) with e | ⟨⟨m, hm⟩, z⟩
      · exact .inl e
      · refine .inr ⟨⟨m, ?_⟩, z⟩
        cases hm with
        | head => exact absurd rfl (lt _ _ hb)
        | tail hm => exact hm
  | skip hr ih =>
    rw [List.map_cons, List.pairwise_cons] at ord
    exact .skip (ih ord.2 fun b ob hb => hφ b ob (.tail _ hb))
def oins (L : Addr) (ao : AO) : Os → Os
  | [] => [(L, ao)]
  | (a, x) :: r => if L < a then (a, x) :: oins L ao r else (L, ao) :: (a, x) :: r
def nins (L : Addr) (o : Obj) : List (Addr × Obj) → List (Addr × Obj)
  | [] => [(L, o)]
  | (a, x) :: r => if L < a then (a, x) :: nins L o r else (L, o) :: (a, x) :: r
theorem oins_at {L : Addr} {ao : AO} : ∀ {own : Os}, OAt (oins L ao own) L ao
  | [] => .head
  | (a, x) :: r => by
    unfold oins
    split
    · exact .tail oins_at
    · exact .head
theorem oins_del {L : Addr} {ao : AO} : ∀ {own : Os}, ODel (oins L ao own) L ao own
  | [] => .head
  | (a, x) :: r => by
    unfold oins
    split
    · exact .tail oins_del
    · exact .head
theorem oins_mem {L : Addr} {ao : AO} {b : Addr} {bo : AO} : ∀ {own : Os}, OAt own b bo → OAt (oins L ao own) b bo
  | _, .head => by
    unfold oins
    split
    · exact .head
    · exact .tail .head
  | (a, x) :: r, .tail h => by
    unfold oins
    split
    · exact .tail (oins_mem h)
    · exact .tail (.tail h)
theorem oins_low {L : Addr} {ao : AO} {own : Os} (h : ∀ a x, OAt own a x → a < L) : oins L ao own = (L, ao) :: own := by
  cases own with
  | nil => rfl
  | cons p r =>
    obtain ⟨a, x⟩ := p
    unfold oins
    rw [if_neg (Nat.lt_asymm (h a x .head))]
theorem Own.ins {L : Addr} {ao : AO} {o : Obj} {news : List (Addr × Obj)} {own : Os} (h : Own w news own) (hi : ao.Is w o) (ord : (news.map (·.1)).Pairwise (· > ·)) (hL : ∀ p ∈ news, p.1 ≠ L) : Own w (nins L o news) (oins L ao own) := by
  induction h with
  | nil => exact .cons hi .nil
  | cons hj hr ih =>
    rename_i a o' ao' news own
    rw [List.map_cons, List.pairwise_cons] at ord
    unfold nins oins
    by_cases q : L < a
    · rw [if_pos q, if_pos q]
      exact .cons hj (ih ord.2 fun p hp => hL p (.tail _ hp))
    · rw [if_neg q, if_neg q]
      exact .cons hi (.cons hj hr)
  | skip hr ih =>
    rename_i p news own
    rw [List.map_cons, List.pairwise_cons] at ord
    obtain ⟨a, x⟩ := p
    unfold nins
    by_cases q : L < a
    · rw [if_pos q]
      exact .skip (ih ord.2 fun p hp => hL p (.tail _ hp))
    · rw [if_neg q, oins_low]
      · exact .cons hi (.skip hr)
      · intro b y hb
        obtain ⟨o', h1, _⟩ := hr.at hb
        exact Nat.lt_of_lt_of_le (ord.1 b (List.mem_map_of_mem (f := (·.1)) h1)) (Nat.le_of_not_lt q)
theorem nins_mem {L : Addr} {o : Obj} {p : Addr × Obj} : ∀ {news : List (Addr × Obj)}, p ∈ nins L o news → p = (L, o) ∨ p ∈ news
  | [], h => by
    rcases List.mem_cons.mp h with h | h
    · exact .inl h
    · cases h
  | (a, x) :: r, h => by
    unfold nins at h
    split at h
    · rcases List.mem_cons.mp h with h | h
      · exact .inr (h ▸ .head _)
      · rcases nins_mem h with h | h
        · exact .inl h
        · exact .inr (.tail _ h)
    · rcases List.mem_cons.mp h with h | h
      · exact .inl h
      · exact .inr h
theorem nins_ord {L : Addr} {o : Obj} : ∀ {news : List (Addr × Obj)}, (news.map (·.1)).Pairwise (· > ·) → (∀ p ∈ news, p.1 ≠ L) → ((nins L o news).map (·.1)).Pairwise (· > ·)
  | [], _, _ => by simp [nins]
  | (a, x) :: r, h, hL => by
    rw [List.map_cons, List.pairwise_cons] at h
    unfold nins
    split
    · rename_i q
      rw [List.map_cons, List.pairwise_cons]
      refine ⟨fun b hb => ?_, nins_ord h.2 fun p hp => hL p (.tail _ hp)⟩
      obtain ⟨p, hp, rfl⟩ := List.mem_map.mp hb
      rcases nins_mem hp with rfl | hp
      · exact q
      · exact h.1 _ (List.mem_map_of_mem (f := (·.1)) hp)
    · rename_i q
      have ne := hL (a, x) (.head _)
      simp only at ne
      rw [List.map_cons, List.pairwise_cons]
      refine ⟨fun b hb => ?_, by rw [List.map_cons, List.pairwise_cons]; exact h⟩
      rw [List.map_cons] at hb
      have la : a < L := Nat.lt_of_le_of_ne (Nat.le_of_not_lt q) ne
      rcases List.mem_cons.mp hb with rfl | hb
      · exact la
      · exact Nat.lt_trans (h.1 b hb) la
end
section
variable {w : World} {n : Nat} {A : Around} {env : Env} {h₀ g₁ : Heap} {L Ln : Addr} {m mn : List (Str × Value)} {own own' : Os} {g : GP} {os : Osb} {s : Shared} {Q : Value → Shared → Prop}
/-- a raise has gone through frames: their slots alone are new -/
theorem Sd.raised (F : Fr h₀ L h₁ (fun x => m.lookup x)) (st : h₀.StaysIn g₁) (gL : g₁.Ns L (fun x => m.lookup x)) (D : Sd w g₁ Ln mn own g os s) {as : List Addr} (has : ∀ a ∈ as, a = Ln ∨ a = L ∨ ∃ mx, OAt own a (.nsp mx)) {h' : Heap}
    (k : (hideAll s.heap as).StaysIn h') (u : s.heap.UpToSlots h') : Sd w h₀ L m own g os { s with heap := h' } := by
  obtain ⟨news, l, ow⟩ := D.led
  have gone : ∀ b, g₁.get? b = none → h₀.get? b = none := fun b e => fresh_of_stays st e
  have gL2 := gL
  obtain ⟨oL, _, _, eL, _⟩ := gL2
  have nL : h₀.get? L = none := by
    cases q : h₀.get? L with
    | none => rfl
    | some o => exact absurd (Nat.lt_of_lt_of_le (Heap.lt_size q) F.above) (Nat.lt_irrefl _)
  have nLn : g₁.get? Ln = none := by
    cases q : g₁.get? Ln with
    | none => rfl
    | some o => exact absurd (Nat.lt_of_lt_of_le (Heap.lt_size q) l.fr.above) (Nat.lt_irrefl _)
  have own1 : ∀ a x, OAt own a x → ∃ o, (a, o) ∈ news ∧ s.heap.get? a = some o ∧ x.Is w o := fun a x hx => let ⟨o, h1, h2⟩ := ow.at hx; ⟨o, h1, (l.nw _ h1).1, h2⟩
  have ne : ∀ p ∈ news, p.1 ≠ L := fun p hp e => by
    have := (l.nw p hp).2.2
    rw [e, eL] at this
    cases this
  have key : ∀ a o, (a, o) ∈ news → (a ∉ as ∧ h'.get? a = some o) ∨ ((∃ mx, OAt own a (.nsp mx)) ∧ ∃ sl, h'.get? a = some { o with slots := sl }) := fun a o hp => by
    have z := l.nw _ hp
    by_cases q : a ∈ as
    · rcases has a q with e | e | ⟨mx, hm⟩
      · exact absurd e z.2.1
      · exact absurd e (ne _ hp)
      · refine .inr ⟨⟨mx, hm⟩, ?_⟩
        obtain ⟨o', _, h2, es, ep, hd, _⟩ := own1 _ _ hm
        have : o' = o := by have := z.1; simp only at this; rw [h2] at this; exact Option.some.inj this
        subst this
        exact u a o' h2 fun vs e => by rw [hd] at e; cases e
    · exact .inl ⟨q, k _ _ (hideAll_get _ z.1 q)⟩
  refine ⟨⟨news.map fun p => (p.1, (h'.get? p.1).getD p.2), ⟨⟨u.ns (gL.keeps l.fr.keep), fun b o e => ?_, F.above⟩, fun p hp => ?_, ?_⟩, ow.slots l.ord (φ := fun a o => (h'.get? a).getD o) fun a o hp => ?_⟩, D.gens, D.osq, D.pos⟩
  · refine k b o (hideAll_get _ (l.fr.keep b o (st b o e)) fun hb => ?_)
    rcases has b hb with q | q | ⟨mx, hm⟩
    · rw [q] at e
      rw [gone _ nLn] at e
      cases e
    · rw [q, nL] at e
      cases e
    · obtain ⟨o', h1, _⟩ := own1 _ _ hm
      have := gone _ (l.nw _ h1).2.2
      simp only at this
      rw [this] at e
      cases e
  · obtain ⟨q, hq, rfl⟩ := List.mem_map.mp hp
    refine ⟨?_, ne q hq, gone _ (l.nw q hq).2.2⟩
    rcases key q.1 q.2 hq with ⟨_, e⟩ | ⟨_, sl, e⟩ <;> simp only [e, Option.getD_some]
  · rw [List.map_map]
    exact l.ord
  · rcases key a o hp with ⟨_, e⟩ | ⟨hm, sl, e⟩
    · exact .inl (by simp only [e, Option.getD_some])
    · exact .inr ⟨hm, sl, by simp only [e, Option.getD_some]⟩
end
section
variable {w : World} {n : Nat} {A : Around} {env : Env} {h₀ g₁ : Heap} {L : Addr} {m : List (Str × Value)} {own : Os} {g : GP} {os : Osb} {s : Shared} {Q : Value → Shared → Prop}
inductive BackF (w : World) (h₀ : Heap) (L : Addr) (m : List (Str × Value)) (g₁ : Heap) (os : Osb) (Q : Value → Shared → Prop) (v : Value) (s : Shared) : Prop
  | mk (L' : Addr) (m' : List (Str × Value)) (own' own3 : Os) (g' : GP) (D : Sd w g₁ L' m' own' g' os s) (hd : ODel own' L (.nsp m) own3) (k : Sd w h₀ L m own3 g' os s → Q v s) : BackF w h₀ L m g₁ os Q v s
/-- a call of a def whose own text may catch: the caller's names go into the ledger -/
theorem enterF {f : Addr} {path : List Nat} {args : List Value} {kw : List (Str × Value)} {name qual : Str} {dV pm cdv : Value} {binds : List (Str × Value)} (mb : List (Str × Value))
    (F : FnIs w.params f path name qual dV pm cdv) {path₀ : List Nat} (C : Fx w n A env h₀ L path₀) (O : FrO A env own) (D : Sd w h₀ L m own g os s) (hn : n ≤ 400)
    (hbind : BindsTo s (fnX name qual (paramsAt path) (bodyAt path) (scopeAt path) [] dV .none .none pm none cdv .none) ⟨args, kw⟩ binds) (hmb : binds.reverse = mb)
    (hloc : (binds.all fun x => decide ((scopeAt path).names.lookup x.1 = some .local)) = true) (hcell : ((scopeAt path).names.all fun x => x.2 != .cell) = true)
    (h : ∀ g₁ L' env' own₁ s', Nv env' (scopeAt path) [] → Fx w (n + 1) (A.deeper env') env' g₁ L' path → ODel own₁ L (.nsp m) own → FrO (A.deeper env') env' own₁ → Sd w g₁ L' mb own₁ g os s' →
      WP w (A.deeper env') (execs (bodyAt path) env') (fun fl s2 => BackF w h₀ L m g₁ os Q (match fl with | .ret v => v | _ => .none) s2) s') :
    WP w A (call (.ref f) args kw) Q s := by
  refine ⟨wpAny_call ?_⟩
  obtain ⟨news, l, ow⟩ := D.led
  have X := C.gk.keeps l.fr.keep
  obtain ⟨oL, eL, iL⟩ := LCg.ns_obj l.fr.ns
  have hL : ∀ p ∈ news, p.1 ≠ L := fun p hp => (l.nw p hp).2.1
  have nL : h₀.get? L = none := by
    cases q : h₀.get? L with
    | none => rfl
    | some o => exact absurd (Nat.lt_of_lt_of_le (Heap.lt_size q) l.fr.above) (Nat.lt_irrefl _)
  have here : ∀ p ∈ nins L oL news, s.heap.get? p.1 = some p.2 ∧ h₀.get? p.1 = none := fun p hp => by
    rcases nins_mem hp with rfl | hp
    · exact ⟨eL, nL⟩
    · exact ⟨(l.nw p hp).1, (l.nw p hp).2.2⟩
  have ow1 : Own w (nins L oL news) (oins L (.nsp m) own) := ow.ins iL l.ord hL
  have st : h₀.StaysIn (hideAll s.heap ((nins L oL news).map (·.1))) := fun b o e => hideAll_get _ (l.fr.keep b o e) fun hm => by
    obtain ⟨p, hp, rfl⟩ := List.mem_map.mp hm
    rw [(here p hp).2] at e
    cases e
  refine codeAny_call_def (fd := fnX name qual (paramsAt path) (bodyAt path) (scopeAt path) [] dV .none .none pm none cdv .none) (body := bodyAt path) (binds := binds) (by have := C.dep; unfold recursionLimit; omega) (X _ _ F.here) rfl (gk_lim X) (codeRec_of X F.code) rfl hbind
    (fun x hx => by have := List.all_eq_true.mp hcell x hx; simpa using this) (locs hloc) (fun h₁ hns hk₁ => ?_) F.co F.gen F.kind
  have D' : Sd w (hideAll s.heap ((nins L oL news).map (·.1))) s.heap.objs.size mb (oins L (.nsp m) own) g os { s with heap := h₁, toks := s.toks + binds.length } :=
    ⟨⟨nins L oL news, ⟨⟨hmb ▸ hns, fun b o e => hk₁ b o (of_hideAll _ e), Nat.le_of_eq (hideAll_size _ _)⟩,
      fun p hp => ⟨hk₁ _ _ (here p hp).1, Nat.ne_of_lt (Heap.lt_size (here p hp).1), hideAll_none _ (List.mem_map_of_mem hp)⟩, nins_ord l.ord hL⟩, ow1⟩, D.gens, D.osq, Nat.le_add_right_of_le D.pos⟩
  have C' : Fx w (n + 1) (A.deeper (envX qual (scopeAt path) s.heap.objs.size f cdv [])) (envX qual (scopeAt path) s.heap.objs.size f cdv []) (hideAll s.heap ((nins L oL news).map (·.1))) s.heap.objs.size path :=
    ⟨rfl, rfl, F.kind, rfl, rfl, rfl, C.gk.keeps st, C.hand, by have := C.dep; show A.depth + 1 ≤ _; omega, by have := C.uni; show A.units + 3 ≤ _; omega⟩
  have O' : FrO (A.deeper (envX qual (scopeAt path) s.heap.objs.size f cdv [])) (envX qual (scopeAt path) s.heap.objs.size f cdv []) (oins L (.nsp m) own) := by
    obtain ⟨outer, hA, ho⟩ := O
    refine ⟨env :: outer, by show A.frames.map _ = _; rw [hA]; rfl, fun e he => ?_⟩
    rcases List.mem_cons.mp he with rfl | he
    · exact ⟨by rw [C.kind]; decide, L, m, C.frame, oins_at⟩
    · obtain ⟨k, Lx, mx, q1, q2⟩ := ho e he
      exact ⟨k, Lx, mx, q1, oins_mem q2⟩
  refine wpAny_mono (h _ _ _ _ _ ⟨rfl, F.kind, rfl, rfl, rfl⟩ C' oins_del O' D').out (fun fl s2 hb => ?_) fun _ _ x => x.elim
  obtain ⟨L2, m2, own2, own3, g2, D2, hd, k⟩ := hb
  obtain ⟨news2, l2, ow2⟩ := D2.led
  obtain ⟨pre, o, post, rfl, h1, h2⟩ := ow2.del hd
  have ord := l2.ord
  rw [List.map_append, List.map_cons] at ord
  have p1 : ∀ p ∈ pre, p.1 ≠ L := fun p hp => Nat.ne_of_gt ((List.pairwise_append.mp ord).2.2 p.1 (List.mem_map_of_mem hp) L (.head _))
  have p2 : ∀ p ∈ post, p.1 ≠ L := fun p hp => Nat.ne_of_lt ((List.pairwise_cons.mp (List.pairwise_append.mp ord).2.1).1 p.1 (List.mem_map_of_mem hp))
  refine k ⟨⟨pre ++ post, ⟨⟨LCg.NsObj.ns h1 (l2.nw (L, o) (List.mem_append_right _ (.head _))).1, fun b o e => l2.fr.keep b o (st b o e), l.fr.above⟩, fun p hp => ?_, ?_⟩, h2⟩, D2.gens, D2.osq, D2.pos⟩
  · rcases List.mem_append.mp hp with q | q
    · have y := l2.nw p (List.mem_append_left _ q)
      exact ⟨y.1, p1 p q, fresh_of_stays st y.2.2⟩
    · have y := l2.nw p (List.mem_append_right _ (.tail _ q))
      exact ⟨y.1, p2 p q, fresh_of_stays st y.2.2⟩
  · rw [List.map_append]
    refine List.pairwise_append.mpr ⟨(List.pairwise_append.mp ord).1, (List.pairwise_cons.mp (List.pairwise_append.mp ord).2.1).2, fun a ha b hb => (List.pairwise_append.mp ord).2.2 a ha b (.tail _ hb)⟩
end
end
section
local macro_rules | `(tactic| walk_at "o_at") => `(tactic| with_reducible first | exact LX.lex (by assumption) _ _ | exact LX.atL (by assumption) | exact LX.str (by assumption) _ _ | exact LX.atR (by assumption) | exact DQ.pb (by assumption) _ _ | exact DQ.fs (by assumption) _ _)
local macro_rules | `(tactic| walk_at "o_put") => `(tactic| with_reducible first | exact LX.putL (by assumption) _ _ _ | exact LX.putR (by assumption) _ _ _)
local macro_rules | `(tactic| walk_at "x") => `(tactic| first
  | ((with_reducible show WP _ _ (compareOp CmpOp.Eq (Value.str _ _) Value.none) _ _); (with_reducible refine r_eqsN ?_))
  | ((with_reducible show WP _ _ (compareOp CmpOp.Eq Value.none Value.none) _ _); (with_reducible refine r_eqNN ?_)))
section
variable {w : World} {n : Nat} {A : Around} {env : Env} {h₀ : Heap} {L : Addr} {m m' : List (Str × Value)} {own : List (Addr × AO)} {g : GP} {os : Osb} {s : Shared} {path₀ path : List Nat} {x y : Str} {l d i e pb fs : Addr} {t : Tok} {f : AO → AO → Os}
theorem nofld_lexS {st : Option LS} {name : Str} (hm : ((["instream", "infile", "posix", "eof", "commenters", "wordchars", "whitespace", "whitespace_split", "quotes", "escape", "escapedquotes", "state", "pushback", "lineno", "debug", "token", "filestack", "source", "_punctuation_chars"] : List Str).all fun y => y != name) = true) : NoFld w (lexS w i pb fs st) name := by
  rintro o ⟨ln, T, es, n, e, h⟩
  cases st <;> exact ⟨es, n, e, h.getNone (by simpa [lexO, lexF, lexN] using hm)⟩
theorem next_tok {Q : Value → Shared → Prop} {R : List Nat × Bool × Option LS × List Nat} {st : Option LS} {p : Nat} (X : LX f l d i e) (Y : DQ f pb fs) (C : Fx w n A env h₀ L path₀) (hn : n ≤ 328) (hx : x.length ≤ 100000) (hp : p ≤ x.length) (hrd : RdT x p st R) (hR : ¬ (R.1 = [] ∧ R.2.1 = false))
    (D : Sd w h₀ L m (f (lexS w i pb fs st) (sioA w x p)) g os s)
    (h : ∀ t p' s', p' ≤ x.length → R.1.length ≤ x.length → x.cps.toList.drop p' = R.2.2.2 → Sd w h₀ L m (f (lexS w i pb fs R.2.2.1) (sioA w x p')) g os s' → Q (.str ⟨R.1.toArray⟩ t) s') : WP w A (call (.ref 754) [.ref l]) Q s := by
  refine enter [("self", .ref l)] (fn_754 w.params) C D (by omega) (BindsTo.of_eq (binds := [("self", .ref l)]) (by kernel_rfl)) rfl (by kernel_rfl) (by kernel_rfl) ?_
  intro g₁ L' env s V C D
  conv in bodyAt [26, 10] => whnf
  have fin : ∀ t p' s', p' ≤ x.length → R.1.length ≤ x.length → x.cps.toList.drop p' = R.2.2.2 → (∃ ln T m, Sd w g₁ L' m (f (AO.flds (lexO i pb fs R.2.2.1 (Str.ofString "") ln T)) (sioA w x p')) g os s') → Back w h₀ L m g₁ os Q (.str ⟨R.1.toArray⟩ t) s' := fun t p' s' hp' h1 h2 ⟨ln, T, m', D⟩ =>
    back_ (D.shut (X.cl _) (P := fun o => ∃ ln T, (AO.flds (lexO i pb fs R.2.2.1 "" ln T)).Is w o) fun o ho => ⟨ln, T, ho⟩) fun D => h _ _ _ hp' h1 h2 D
  have nf : NoFld w (lexS w i pb fs st) "get_token" := nofld_lexS (by kernel_rfl)
  repeat walk_at "x"
  refine get_token_spec X Y C (by omega) hx hp hrd D ?_
  intro v p' s hv hp' h1 h2 D
  obtain ⟨o, ⟨ln, T, ho⟩, hD⟩ := D.open (X.cl _)
  have D1 := hD _ ho
  clear D hD ho
  rcases hv with ⟨e1, e2, rfl⟩ | ⟨-, t, rfl⟩
  · exact absurd ⟨e1, e2⟩ hR
  obtain ⟨tok, q, st', r⟩ := R
  simp only at D1 fin ⊢
  cases st' <;> simp only [lexO] at D1 fin
  all_goals
    repeat walk_at "x"
    exact fin _ _ _ hp' h1 h2 ⟨_, _, _, by assumption⟩
theorem funF {h : Heap} {as : List Addr} : ∀ {l : List Env}, (∀ e ∈ l, e.scope.kind ≠ .module ∧ ∃ Lx o, e.frame = some Lx ∧ Lx ∈ as ∧ h.get? Lx = some o ∧ ∀ vs, o.data ≠ .fields vs) → h.FunFrames (hideAll h as) l
  | [], _ => trivial
  | e :: r, z => by
    obtain ⟨k, Lx, o, h1, h2, h3, h4⟩ := z e (.head _)
    exact ⟨k, ⟨Lx, o, h1, hideAll_none _ h2, h3, h4⟩, funF fun e he => z e (.tail _ he)⟩
theorem next_stop {Q : Value → Shared → Prop} {R : List Nat × Bool × Option LS × List Nat} {st : Option LS} {p : Nat} (X : LX f l d i e) (Y : DQ f pb fs) (C : Fx w n A env h₀ L path₀) (O : ∀ a b, FrO A env (f a b)) (hn : n ≤ 328) (hx : x.length ≤ 100000) (hp : p ≤ x.length) (hrd : RdT x p st R) (hR : R.1 = [] ∧ R.2.1 = false)
    (D : Sd w h₀ L m (f (lexS w i pb fs st) (sioA w x p)) g os s)
    (h : ∀ ea p' s', p' ≤ x.length → x.cps.toList.drop p' = R.2.2.2 → s'.TypeIs (.ref ea) "StopIteration" → Sd w h₀ L m (f (lexS w i pb fs R.2.2.1) (sioA w x p')) g os s' → Q (.ref ea) s') :
    wpAny (model pw w) A (call (.ref 754) [.ref l]) (fun _ _ => False) Q s := by
  have F := fn_754 w.params
  obtain ⟨news, l1, ow⟩ := D.led
  have X0 := C.gk.keeps l1.fr.keep
  refine wpAny_call (callY (name := "__next__") (qual := "shlex.__next__") (params := paramsAt [26, 10]) (body := bodyAt [26, 10]) (scope := scopeAt [26, 10]) (cl := []) (pm := .str "cpy313.shlex" 1115) (cdv := .ref 753) (binds := [("self", .ref l)]) C.frame C.kind l1.fr l1.nw (gk_lim C.gk) (X0 _ _ F.here) rfl (codeRec_of X0 F.code) (by have := C.dep; unfold recursionLimit; omega) (BindsTo.of_eq (by kernel_rfl)) (locs (by kernel_rfl))
    (fun g₁ L' h₁ FG F' N' st1 lt eg => ?_) (fun x hx => by have := List.all_eq_true.mp (show ((scopeAt [26, 10]).names.all fun x => x.2 != .cell) = true by kernel_rfl) x hx; simpa using this) F.co F.gen F.kind)
  have V : Nv (envX "shlex.__next__" (scopeAt [26, 10]) L' 754 (.ref 753) []) (scopeAt [26, 10]) [] := ⟨rfl, F.kind, rfl, rfl, rfl⟩
  have D' : Sd w g₁ L' [("self", .ref l)] (f (lexS w i pb fs st) (sioA w x p)) g os { s with heap := h₁, toks := s.toks + [(Str.ofString "self", Value.ref l)].length } := ⟨⟨news, ⟨F', N', l1.ord⟩, ow⟩, D.gens, D.osq, Nat.le_add_right_of_le D.pos⟩
  have C' : Fx w (n + 1) (A.deeper (envX "shlex.__next__" (scopeAt [26, 10]) L' 754 (.ref 753) [])) (envX "shlex.__next__" (scopeAt [26, 10]) L' 754 (.ref 753) []) g₁ L' [26, 10] :=
    ⟨rfl, rfl, F.kind, rfl, rfl, rfl, C.gk.keeps st1, C.hand, by have := C.dep; show A.depth + 1 ≤ _; omega, by have := C.uni; show A.units + 3 ≤ _; omega⟩
  have nf : NoFld w (lexS w i pb fs st) "get_token" := nofld_lexS (by kernel_rfl)
  conv in bodyAt [26, 10] => whnf
  clear D
  generalize ({ s with heap := h₁, toks := s.toks + [(Str.ofString "self", Value.ref l)].length } : Shared) = s0 at D' ⊢
  generalize envX "shlex.__next__" (scopeAt [26, 10]) L' 754 (.ref 753) [] = env' at V C' ⊢
  obtain ⟨outer, hA, ho⟩ := O (lexS w i pb fs R.2.2.1) (sioA w x 0)
  refine wpAny_execs_cons (wpAny_mono (WP.any (Q := fun fl s' => fl = .next ∧ ∃ p', p' ≤ x.length ∧ x.cps.toList.drop p' = R.2.2.2 ∧ Sd w g₁ L' [("self", .ref l), ("token", .none)] (f (lexS w i pb fs R.2.2.1) (sioA w x p')) g os s') ?_) (fun fl s1 z => ?_) fun _ _ e => e)
  · repeat walk_at "x"
    refine get_token_spec X Y C' (by omega) hx hp hrd D' ?_
    intro v p' s hv hp' h1 h2 D
    rcases hv with ⟨_, _, rfl⟩ | ⟨e, _⟩
    · repeat walk_at "x"
      exact ⟨rfl, p', hp', h2, by assumption⟩
    · exact absurd hR e
  obtain ⟨rfl, p', hp', h2, D2⟩ := z
  refine wpAny_execs_cons (wpAny_If (wpAny_mono (WP.any (Q := fun b s' => b = true ∧ Sd w g₁ L' [("self", .ref l), ("token", .none)] (f (lexS w i pb fs R.2.2.1) (sioA w x p')) g os s') ?_) (fun b s2 z => ?_) fun _ _ e => e))
  · obtain ⟨o, ⟨ln, T, ho⟩, hD⟩ := D2.open (X.cl _)
    have D1 := hD _ ho
    clear D2 hD ho
    obtain ⟨tok, q, st', r⟩ := R
    simp only at D1 ⊢
    cases st' with
    | none =>
      simp only [lexO] at D1
      repeat walk_at "x"
      rename_i s D
      exact ⟨rfl, D.shut (X.cl _) (P := fun o => ∃ ln T, (AO.flds (lexO i pb fs none "" ln T)).Is w o) fun o ho => ⟨ln, T, ho⟩⟩
    | some st' =>
      simp only [lexO] at D1
      repeat walk_at "x"
      rename_i s D
      exact ⟨rfl, D.shut (X.cl _) (P := fun o => ∃ ln T, (AO.flds (lexO i pb fs (some st') "" ln T)).Is w o) fun o ho => ⟨ln, T, ho⟩⟩
  obtain ⟨rfl, D3⟩ := z
  simp only [if_true]
  refine wpAny_execs_cons (owsi_raiseC C'.hand (WP.any (r_gl V C' D3 (by kernel_rfl!) (by kernel_rfl) (Gl.is .StopIteration) ⟨rfl, rfl⟩)) fun h' ea hm => ?_)
  obtain ⟨outer, hA, ho⟩ := O (lexS w i pb fs R.2.2.1) (sioA w x p')
  have oat : ∀ e ∈ outer, e.scope.kind ≠ .module ∧ ∃ Lx mx o, e.frame = some Lx ∧ OAt (f (lexS w i pb fs R.2.2.1) (sioA w x p')) Lx (.nsp mx) ∧ s2.heap.get? Lx = some o ∧ ∀ vs, o.data ≠ .fields vs := fun e he => by
    obtain ⟨k, Lx, mx, q1, q2⟩ := ho e he
    obtain ⟨o, e1, es, ep, hd, _⟩ := D3.get q2
    exact ⟨k, Lx, mx, o, q1, q2, e1, fun vs e => by rw [hd] at e; cases e⟩
  refine wpAny_leaves_madeW (base := hideAll s2.heap (L' :: L :: outer.filterMap (·.frame))) (h := s2.heap) (outer := env :: outer) (L := L') (cls := .type "StopIteration") (args := []) (by show A.frames.map _ = _; rw [hA]; rfl) C'.frame (fun b o q => of_hideAll _ q) (funF fun e he => ?_) ⟨hm.keeps, hm.new, hm.there⟩ fun h2' t fl tup _ u => ?_
  · rcases List.mem_cons.mp he with rfl | he
    · obtain ⟨o, e1, es, ep, hd, _⟩ := LCg.ns_obj D3.fr.ns
      exact ⟨by rw [C'.kind]; decide, L', o, C'.frame, .head _, e1, fun vs e => by rw [hd] at e; cases e⟩
    · rcases List.mem_cons.mp he with rfl | he
      · obtain ⟨o, e1, es, ep, hd, _⟩ := LCg.ns_obj (FG.ns.keeps D3.fr.keep)
        exact ⟨by rw [C.kind]; decide, L, o, C.frame, .tail _ (.head _), e1, fun vs e => by rw [hd] at e; cases e⟩
      · obtain ⟨k, Lx, mx, o, q1, q2, q3, q4⟩ := oat e he
        exact ⟨k, Lx, o, q1, .tail _ (.tail _ (List.mem_filterMap.mpr ⟨e, he, q1⟩)), q3, q4⟩
  · refine h ea p' _ hp' h2 (by obtain ⟨ob, h1, h2⟩ := fl.there; exact ⟨ob, h1, h2⟩) (Sd.raised l1.fr st1 FG.ns D3 (as := L' :: L :: outer.filterMap (·.frame)) (fun a ha => ?_) fl.1 ((Heap.UpToSlots.of_keeps hm.keeps).trans u))
    rcases List.mem_cons.mp ha with rfl | ha
    · exact .inl rfl
    · rcases List.mem_cons.mp ha with rfl | ha
      · exact .inr (.inl rfl)
      · obtain ⟨e, he, q⟩ := List.mem_filterMap.mp ha
        obtain ⟨k, Lx, mx, o, q1, q2, _⟩ := oat e he
        rw [q1] at q
        cases q
        exact .inr (.inr ⟨mx, q2⟩)
end
end
section
/-- the words that a lexer reads from a rest of text -/
def RdL (r : List Nat) (st : Option LS) (R : List Nat × Bool × Option LS × List Nat) : Prop := (st = some .sp ∧ rd .sp [] false r = some R) ∨ (st = none ∧ r = [] ∧ R = ([], false, none, []))
inductive Reads : List Nat → Option LS → List Str → Prop
  | stop {r st R} : RdL r st R → R.1 = [] ∧ R.2.1 = false → Reads r st []
  | more {r st R ws} : RdL r st R → ¬ (R.1 = [] ∧ R.2.1 = false) → Reads R.2.2.2 R.2.2.1 ws → Reads r st (⟨R.1.toArray⟩ :: ws)
theorem RdL.toT {x : Str} {p : Nat} {r : List Nat} {st : Option LS} {R : List Nat × Bool × Option LS × List Nat} (h : RdL r st R) (hp : p ≤ x.length) (hr : x.cps.toList.drop p = r) : RdT x p st R := by
  rcases h with ⟨h1, h2⟩ | ⟨h1, h2, h3⟩
  · exact .inl ⟨h1, by rw [hr]; exact h2⟩
  · refine .inr ⟨h1, ?_, h3⟩
    have hl : x.cps.toList.length = x.length := by simp [Str.length]
    have := List.drop_eq_nil_iff.mp (hr.trans h2)
    omega
section
variable {w : World} {n : Nat} {A : Around} {env : Env} {h₀ : Heap} {L : Addr} {m m' : List (Str × Value)} {own own' : List (Addr × AO)} {g : GP} {os : Osb} {s : Shared} {path₀ path : List Nat} {x y : Str} {l d i e pb fs S : Addr} {t : Tok} {f : AO → AO → Os} {E : Value → Shared → Prop}
theorem iter_spec {Q : Value → Shared → Prop} (C : Fx w n A env h₀ L path₀) (hn : n ≤ 328) (D : Sd w h₀ L m own g os s) (h : ∀ s', Sd w h₀ L m own g os s' → Q (.ref l) s') : WP w A (call (.ref 747) [.ref l]) Q s := by
  refine enter [("self", .ref l)] (fn_747 w.params) C D (by omega) (BindsTo.of_eq (binds := [("self", .ref l)]) (by kernel_rfl)) rfl (by kernel_rfl) (by kernel_rfl) ?_
  intro g₁ L' env s V C D
  conv in bodyAt [26, 9] => whnf
  repeat walk_at "x"
  exact back_ (by assumption) fun D => h _ D
theorem u_push {v : Value} {ao ao' : AO} (D : Sd w h₀ L m own g os s) (hp : OPut own S ao ao' own') (hq : Pushes w ao v ao') {Q : Unit → Shared → Prop} (h : ∀ s', Sd w h₀ L m own' g os s' → Q () s') : wpAny (model pw w) A (updateSeq S (·.push v)) Q E s := by
  obtain ⟨o, h1, h2⟩ := D.get hp.at
  obtain ⟨its, n, rfl, hz, h3⟩ := hq o h2
  exact wpAny_updateSeq h1 rfl (h _ (D.set hp (Heap.SameBut.update ..) (by rw [Heap.get?_update_self _ h1 (by rw [mapSeq_push]; rfl), mapSeq_push]) h3)) hz (by rw [Array.size_push]; omega)
theorem u_seq {F : Array Value → Array Value} {vs vs' : List Value} (D : Sd w h₀ L m own g os s) (hp : OPut own S (.list vs) (.list vs') own') (hF : F vs.toArray = vs'.toArray) (hz : vs.length ≤ 100000) (hz' : vs'.length ≤ 100000) {Q : Unit → Shared → Prop} (h : ∀ s', Sd w h₀ L m own' g os s' → Q () s') : wpAny (model pw w) A (updateSeq S F) Q E s := by
  obtain ⟨o, h1, n, rfl⟩ := D.get hp.at
  have e : Obj.mapSeq F (listOf vs.toArray n) = listOf vs'.toArray (if (F vs.toArray).size == vs.toArray.size then n else n + 1) := by rw [← hF]; rfl
  exact wpAny_updateSeq h1 rfl (h _ (D.set hp (Heap.SameBut.update ..) (Heap.get?_update_self _ h1 (by rw [e]; rfl)) ⟨_, e⟩)) (by rw [List.size_toArray]; unfold sizeLine; omega) (by rw [hF, List.size_toArray]; unfold sizeLine; omega)
theorem LX.tail {p : Addr × AO} (X : LX f l d i e) : LX (fun a b => p :: f a b) l d i e := ⟨fun a a' b => .tail (X.putL a a' b), fun a b b' => .tail (X.putR a b b'), fun a b => .tail (X.lex a b), fun a b => .tail (X.str a b)⟩
theorem DQ.tail {p : Addr × AO} (X : DQ f pb fs) : DQ (fun a b => p :: f a b) pb fs := ⟨fun a b => .tail (X.pb a b), fun a b => .tail (X.fs a b)⟩
theorem FrO.tail {p : Addr × AO} {own : Os} (O : FrO A env own) : FrO A env (p :: own) := let ⟨o, h1, h2⟩ := O; ⟨o, h1, fun e he => let ⟨k, Lx, mx, q1, q2⟩ := h2 e he; ⟨k, Lx, mx, q1, .tail q2⟩⟩
theorem FrO.in1 {own : Os} (O : FrO A env own) : FrO A.in1 env own := O
theorem list_loop {ws : List Str} {r : List Nat} {st : Option LS} (hrs : Reads r st ws) (X : LX f l d i e) (Y : DQ f pb fs) (O : ∀ a b, FrO A env (f a b)) (C : Fx w n A env h₀ L path₀) (hn : n ≤ 327) (hx : x.length ≤ 100000) :
    ∀ (acc : List Str) (p : Nat) (s : Shared), acc.length + ws.length ≤ 100000 → p ≤ x.length → x.cps.toList.drop p = r → Sd w h₀ L m ((S, .strs acc) :: f (lexS w i pb fs st) (sioA w x p)) g os s →
    codeAny (model pw w) A (.builtin "list.extend.loop" ⟨[.ref S, .ref l, .none], []⟩) (fun r s' => r = .ok (.ret .none) ∧ ∃ st' p', Sd w h₀ L m ((S, .strs (acc ++ ws)) :: f (lexS w i pb fs st') (sioA w x p')) g os s') s := by
  have C1 := C.in1
  have hT : isSubtype (.type "StopIteration") (.type "StopIteration") = pure true := owsi_facts.sub
  induction hrs with
  | stop h1 h2 =>
    intro acc p s hz hp hr D
    rename_i r st R
    have X1 : LX (fun a b => (S, AO.strs acc) :: f a b) l d i e := X.tail
    have Y1 : DQ (fun a b => (S, AO.strs acc) :: f a b) pb fs := Y.tail
    obtain ⟨o, ⟨ln, T, ho⟩, hD⟩ := D.open (X1.cl _)
    have D1 := hD _ ho
    obtain ⟨es, k, I, ok⟩ := D1.inst (X1.lex _ _) X1.atL
    refine codeAny_builtin F.entry_extend_loop ?_
    rw [Around.under_plainId F.plain_extend_loop _]
    show wpAny _ A.in1 (pyNext (.ref l) >>= _) _ _ s
    refine wpAny_bind (owit_next D.fr C.gk I (by kernel_rfl) (f := 754) (by kernel_rfl) ?_)
    refine wpAny_mono (next_stop X1 Y1 C1 (fun a b => (O a b).tail) (by omega) hx hp (h1.toT hp hr) h2 D (Q := fun e' s' => ∃ ea p', e' = .ref ea ∧ s'.TypeIs (.ref ea) "StopIteration" ∧ Sd w h₀ L m ((S, .strs acc) :: f (lexS w i pb fs R.2.2.1) (sioA w x p')) g os s') (fun ea p' s' _ _ q1 q2 => ⟨ea, p', rfl, q1, q2⟩)) (fun _ _ z => z.elim) (fun e' s' z => ?_)
    obtain ⟨ea, p', rfl, q1, q2⟩ := z
    unfold OwitStop
    refine wpAny_isInstance q1 hT ?_
    rw [if_pos rfl]
    refine wpAny_pure ⟨rfl, R.2.2.1, p', ?_⟩
    rw [List.append_nil]
    exact q2
  | more h1 h2 hrest ih =>
    intro acc p s hz hp hr D
    rename_i r st R ws
    have X1 : LX (fun a b => (S, AO.strs acc) :: f a b) l d i e := X.tail
    have Y1 : DQ (fun a b => (S, AO.strs acc) :: f a b) pb fs := Y.tail
    obtain ⟨o, ⟨ln, T, ho⟩, hD⟩ := D.open (X1.cl _)
    have D1 := hD _ ho
    obtain ⟨es, k, I, ok⟩ := D1.inst (X1.lex _ _) X1.atL
    refine codeAny_builtin F.entry_extend_loop ?_
    rw [Around.under_plainId F.plain_extend_loop _]
    show wpAny _ A.in1 (pyNext (.ref l) >>= _) _ _ s
    refine wpAny_bind (owit_next D.fr C.gk I (by kernel_rfl) (f := 754) (by kernel_rfl) ?_)
    refine WP.any (next_tok X1 Y1 C1 (by omega) hx hp (h1.toT hp hr) h2 D (fun t p' s' hp' _ hr' D' => ?_))
    simp only [List.length_cons] at hz
    show wpAny _ A.in1 (updateSeq S (·.push _) >>= _) _ _ _
    refine wpAny_bind (u_push D' .head (psh_strs (by omega)) fun s2 D2 => ?_)
    refine wpAny_pure ⟨plainId_quiet F.plain_extend_loop _, ?_⟩
    have z := ih (acc ++ [⟨R.1.toArray⟩]) p' s2 (by simp only [List.length_append, List.length_cons, List.length_nil]; omega) hp' hr' D2
    rw [List.append_assoc] at z
    exact z
theorem r_listlex {ws : List Str} {Q : Value → Shared → Prop} (hrs : Reads x.cps.toList (some .sp) ws) (X : LX f l d i e) (Y : DQ f pb fs) (O : ∀ a b, FrO A env (f a b)) (C : Fx w n A env h₀ L path₀) (hn : n ≤ 320) (hx : x.length ≤ 100000) (hw : ws.length ≤ 100000)
    (D : Sd w h₀ L m (f (lexS w i pb fs (some .sp)) (sioA w x 0)) g os s)
    (h : ∀ S st' p' s', Sd w h₀ L m ((S, .strs ws) :: f (lexS w i pb fs st') (sioA w x p')) g os s' → Q (.ref S) s') : WP w A (call (.type "list") [.ref l]) Q s := by
  refine .of (callType_codes (Q₁ := fun obj s₁ => obj = .ref s.heap.objs.size ∧ s₁ = { s with heap := s.heap.push { cls := .type "list", data := .seq #[] } }) F.called_list (F.typeCall_list_1 _) F.entry_list_init
    (code_list_new _ ⟨rfl, rfl⟩) fun obj s₁ h₁ => ?_)
  obtain ⟨rfl, rfl⟩ := h₁
  have hS : (s.heap.push { cls := .type "list", data := .seq #[] }).get? s.heap.objs.size = some { cls := .type "list", data := .seq #[] } := Heap.get?_push_size _ rfl
  have hlS : l ≠ s.heap.objs.size := by
    obtain ⟨o, e, _⟩ := D.get (X.lex _ _)
    exact Nat.ne_of_lt (Heap.lt_size e)
  have D1 := D.push (o := { cls := .type "list", data := .seq #[] }) (ao := .list []) rfl ⟨0, rfl⟩ (t := s.toks)
  refine ⟨⟨_, hS, rfl⟩, F.args_list_init_2 _ _, ?_⟩
  have D1 : Sd w h₀ L m ((s.heap.objs.size, .list []) :: f (lexS w i pb fs (some .sp)) (sioA w x 0)) g os { s with heap := s.heap.push { cls := .type "list", data := .seq #[] } } := D1
  generalize ({ s with heap := s.heap.push { cls := .type "list", data := .seq #[] } } : Shared) = s1 at D1 hS ⊢
  generalize s.heap.objs.size = S at D1 hlS hS ⊢
  have C1 := C.in1
  have C2 := C1.in1
  show wpAny _ A.in1.in1 (do let old ← Builtin.List.listItems (.ref S); Builtin.List.listUpdate (.ref S) (fun _ => #[]); letGo old.toList.reverse; Builtin.List.listExtendWith (.ref S) (.ref l) .none) _ _ s1
  refine wpAny_bind ?_
  unfold Builtin.List.listItems
  obtain ⟨oS, eS, kS, rfl⟩ := D1.get .head
  refine wpAny_bind (wpAny_seqItems eS rfl (wpAny_pure ?_))
  show wpAny _ _ (updateSeq S (fun _ => #[]) >>= fun _ => letGo (#[] : Array Value).toList.reverse >>= fun _ => Builtin.List.listExtendWith (.ref S) (.ref l) .none) _ _ _
  refine wpAny_bind (u_seq D1 .head (vs' := []) rfl (by decide) (by decide) fun s2 D2 => ?_)
  refine wpAny_bind (wpAny_letGo ?_)
  unfold Builtin.List.listExtendWith
  have X1 : LX (fun a b => (S, AO.list []) :: f a b) l d i e := X.tail
  obtain ⟨o, ⟨ln, T, ho⟩, hD⟩ := D2.open (X1.cl _)
  obtain ⟨es, k, I, ok⟩ := (hD _ ho).inst (X1.lex _ _) X1.atL
  refine wpAny_bind (I.type.here ?_)
  have h1 : Builtin.List.listSameRef (.ref S) (.ref l) = false := by simp [Builtin.List.listSameRef, Ne.symm hlS]
  have h2 : (Value.ref 757 == Value.type "list") = false := by decide
  have h3 : (Value.ref 757 == Value.type "tuple") = false := by decide
  simp only [h1, h2, h3, Bool.or_false, Bool.false_eq_true, if_false]
  refine wpAny_bind (owit_iter D2.fr C.gk I (by kernel_rfl) (f := 747) (by kernel_rfl) ?_)
  refine WP.any (iter_spec C2 (by omega) D2 fun s3 D3 => ?_)
  obtain ⟨o, ⟨ln, T, ho⟩, hD⟩ := D3.open (X1.cl _)
  obtain ⟨es, k, I3, ok⟩ := (hD _ ho).inst (X1.lex _ _) X1.atL
  refine owit_it D3.fr C.gk I3 (g := .ref 754) (by kernel_rfl) ?_
  refine wpAny_bind (wpAny_holding ?_)
  unfold Builtin.List.listLengthHint
  have X3 := C.gk.keeps D3.fr.keep
  refine wpAny_bind (wpAny_bind (I3.type.here ((looks_findIn X3 (name := "__len__") (r := none) (by kernel_rfl)).here ?_)))
  show wpAny _ _ (specialOf (Value.ref l) (Str.ofString "__length_hint__") >>= _) _ _ _
  refine wpAny_bind (wpAny_bind (I3.type.here ((looks_findIn X3 (name := "__length_hint__") (r := none) (by kernel_rfl)).here ?_)))
  refine wpAny_pure ?_
  show wpAny _ _ (rule "list.extend.makes-room" >>= fun _ => Builtin.List.listTouch (.ref S) >>= fun _ => again (.builtin "list.extend.loop" ⟨[.ref S, .ref l, .none], []⟩)) _ _ _
  refine wpAny_bind (wpAny_rule ?_)
  refine wpAny_bind ?_
  show wpAny _ _ (updateSeq S (·.push .none) >>= fun _ => updateSeq S (·.pop)) _ _ _
  refine wpAny_bind (u_seq D3 .head (vs' := [.none]) rfl (by decide) (by decide) fun s4 D4 => ?_)
  refine u_seq D4 .head (vs' := []) rfl (by decide) (by decide) fun s5 D5 => ?_
  have D6 : Sd w h₀ L m ((S, .strs []) :: f (lexS w i pb fs (some .sp)) (sioA w x 0)) g os s5 := D5.re .head fun o ⟨k, e⟩ => ⟨[], k, e, .nil⟩
  refine wpAny_pure ⟨plainId_quiet F.plain_extend_loop _, codeAny_mono (list_loop (A := A.in1) hrs X Y (fun a b => (O a b).in1) C1 (by omega) hx [] 0 s5 (by simpa using hw) (Nat.zero_le _) rfl D6) fun r s6 z => ?_⟩
  obtain ⟨rfl, st', p', D7⟩ := z
  exact ⟨rfl, h _ _ _ _ D7⟩
end
end
section
section
variable {w : World} {n : Nat} {A : Around} {env env₀ : Env} {h₀ : Heap} {L : Addr} {m m' : List (Str × Value)} {own own' : List (Addr × AO)} {g : GP} {os : Osb} {s : Shared} {path₀ path : List Nat} {x y : Str} {l d i e pb fs S : Addr} {t : Tok} {f : AO → AO → Os} {pos : Pos}
theorem x_callKw {func e1 kv : PySem.Expr} {kn : Str} {kp : Pos} {Q : Value → Shared → Prop} (h : WP w A (eval func env) (fun f s₁ => WP w A (callWith pos f [] (backTo pos (starEach [e1] env)) (backToKw pos (keywordEach [⟨some kn, kv, kp⟩] env))) Q s₁) s)
    (he : eval (.Call func [e1] [⟨some kn, kv, kp⟩] pos) env = (do callWith pos (← eval func env) [] (backTo pos (starEach [e1] env)) (backToKw pos (keywordEach [⟨some kn, kv, kp⟩] env)))) : WP w A (eval (.Call func [e1] [⟨some kn, kv, kp⟩] pos) env) Q s := by
  refine .of ?_
  rw [he]
  exact wpAny_bind (wpAny_mono h.out (fun _ _ x => x.out) fun _ _ x => x)
theorem x_kKw {e1 kv : PySem.Expr} {f : Addr} {kn : Str} {kp : Pos} {Q : Value → Shared → Prop} (C : Fx w n A env₀ h₀ L path) (hk : keepIn (KK w.params) (.ref f) = true)
    (h : WP w A (eval e1 env) (fun v1 s1 => WP w A (eval kv env) (fun v2 s2 => KS w h₀ s2 ∧ WP w A (call (.ref f) [v1] [(kn, v2)]) Q s2) s1) s) (q1 : starEach [e1] env = (false, eval e1 env) :: starEach [] env)
    (q2 : backToKw pos (keywordEach [⟨some kn, kv, kp⟩] env) = [(some kn, do let v ← eval kv env; standAt pos; pure v)]) :
    WP w A (callWith pos (.ref f) [] (backTo pos (starEach [e1] env)) (backToKw pos (keywordEach [⟨some kn, kv, kp⟩] env))) Q s := by
  refine .of (callWith_KW C.gk hk (by rw [q2]; rfl) (args_cons (wpAny_mono h.out (fun v1 s1 h1 => args_nil ?_) fun _ _ x => x) q1) (by rw [q2, q1]; rfl) q1)
  rw [q2]
  refine wpAny_evalAll_cons (wpAny_bind (wpAny_mono h1.out (fun v s₁ h₂ => wpAny_bind (wpAny_standAt (wpAny_pure (wpAny_evalAll_nil ⟨KS.gk C h₂.1, ?_⟩)))) fun _ _ x => x))
  exact h₂.2.out
theorem shlex_make {Q : Value → Shared → Prop} (C : Fx w n A env₀ h₀ L path₀) (hn : n ≤ 350) (D : Sd w h₀ L m own g os s)
    (h : ∀ l d i dxi pb fs s', Sd w h₀ L m ((fs, dqA []) :: (pb, dqA []) :: (i, .inst 622 dxi) :: (dxi, sioA w x 0) :: (l, .inst 757 d) :: (d, lexA w i pb fs "#" false " " "") :: own) g os s' → Q (.ref l) s') : WP w A (call (.ref 757) [.str x t] [("posix", .bool true)]) Q s :=
  r_make C D (by kernel_rfl) (fI := 681) (by kernel_rfl) (by kernel_rfl) fun l d s' A' C' D' =>
    lex_init (f := fun a => (l, .inst 757 d) :: (d, a) :: own) C' ⟨fun a b => .tail .head⟩ (fun a => .head) D' (by omega) fun i dxi pb fs s'' D'' => ⟨rfl, h _ _ _ _ _ _ _ D''⟩
theorem split_spec {ws : List Str} {Q : Value → Shared → Prop} (hrs : Reads x.cps.toList (some .sp) ws) (C : Fx w n A env h₀ L path₀) (O : FrO A env own) (hn : n ≤ 310) (hx : x.length ≤ 100000) (hw : ws.length ≤ 100000)
    (D : Sd w h₀ L m own g os s) (h : ∀ S s', Sd w h₀ L m ((S, .strs ws) :: own) g os s' → Q (.ref S) s') : WP w A (call (.ref 769) [.str x t]) Q s := by
  refine enterF [("posix", .bool true), ("comments", .bool false), ("s", .str x t)] (fn_769 w.params) C O D (by omega) (kp_binds (K := KK w.params) (binds := [("s", .str x t), ("comments", .bool false), ("posix", .bool true)]) (C.gk.keeps D.fr.keep) (fun S => by kernel_rfl)) rfl (by kernel_rfl) (by kernel_rfl) ?_
  intro g₁ L' env own₁ s V C hdel O D
  conv in bodyAt [27] => whnf
  repeat walk_at "x"
  refine x_callKw ?_ rfl
  repeat walk_at "x"
  refine x_kKw C (by kernel_rfl) ?_ rfl rfl
  repeat walk_at "x"
  refine shlex_make C (by omega) (by assumption) ?_
  intro l d i dxi pb fs s D
  have es : (Str.ofString " ") = LS.str .sp := by kernel_rfl
  obtain ⟨o, ⟨ln, T, ho⟩, hD⟩ := D.open (f := fun a => (fs, dqA []) :: (pb, dqA []) :: (i, .inst 622 dxi) :: (dxi, sioA w x 0) :: (l, .inst 757 d) :: (d, a) :: own₁) ⟨fun a b => .tail (.tail (.tail (.tail (.tail .head))))⟩
  have D1 := hD _ ho
  clear D hD ho
  repeat walk_at "x"
  rename_i s D
  rw [es] at D
  have D2 := D.shut (f := fun a => (fs, dqA []) :: (pb, dqA []) :: (i, .inst 622 dxi) :: (dxi, sioA w x 0) :: (l, .inst 757 d) :: (d, a) :: own₁) ⟨fun a b => .tail (.tail (.tail (.tail (.tail .head))))⟩ (P := fun o => ∃ ln T, (AO.flds (lexO i pb fs (some .sp) "" ln T)).Is w o) fun o ho => ⟨_, _, ho⟩
  refine r_listlex (f := fun a b => (fs, dqA []) :: (pb, dqA []) :: (i, .inst 622 dxi) :: (dxi, b) :: (l, .inst 757 d) :: (d, a) :: own₁) hrs
    ⟨fun a a' b => .tail (.tail (.tail (.tail (.tail .head)))), fun a b b' => .tail (.tail (.tail .head)), fun a b => .tail (.tail (.tail (.tail .head))), fun a b => .tail (.tail .head)⟩
    ⟨fun a b => .tail .head, fun a b => .head⟩ (fun a b => O.tail.tail.tail.tail.tail.tail) C (by omega) hx hw D2 fun S st' p' s D => ?_
  have D3 := ((((((D.del (.tail .head)).del (.tail .head)).del (.tail .head)).del (.tail .head)).del (.tail .head)).del (.tail .head))
  exact ⟨_, _, _, _, _, D3, .tail hdel, fun D => h _ _ D⟩
end
end
section
section
variable {w : World} {n : Nat} {A : Around} {env env₀ : Env} {h₀ : Heap} {L : Addr} {m m' : List (Str × Value)} {own own' : List (Addr × AO)} {g : GP} {os : Osb} {s : Shared} {path₀ path : List Nat} {x y : Str} {a b : Addr} {ao ao' : AO} {P P' : List Value → Prop}
theorem r_addL {Q : Value → Shared → Prop} (D : Sd w h₀ L m own g os s) (ha : OAt own a ao) (hla : ListAs w ao P) (hb : OAt own b ao') (hlb : ListAs w ao' P') (k : Nat) (hk : ∀ vs us, P vs → P' us → vs.length + us.length ≤ k) (hz : k ≤ sizeLine)
    (h : ∀ vs us d s', P vs → P' us → Sd w h₀ L m ((d, .list (vs ++ us)) :: own) g os s' → Q (.ref d) s') : WP w A (binaryOp .Add (.ref a) (.ref b)) Q s := by
  obtain ⟨vs, _, _, e2, e3⟩ := D.isList ha hla
  obtain ⟨us, _, _, f2, f3⟩ := D.isList hb hlb
  obtain ⟨news, l, ow⟩ := D.led
  exact .of (add_lists l.fr l.nw e2 f2 (fun h' F N => h vs us _ _ e3 f3 (Sd.new l ow D.gens D.osq F N (fun p hp => Heap.lt_size (l.nw p hp).1) ⟨0, rfl⟩)) (Nat.le_trans (hk _ _ e3 f3) hz))
theorem las_raw {o : Obj} {vs : List Value} {k : Nat} (h : o = listOf vs.toArray k) : ListAs w (.raw o) (fun us => us = vs) := fun o' e => ⟨vs, k, (show o' = o from e).trans h, rfl⟩
theorem digs_lt : ∀ (k n : Nat), n < k → ∀ d ∈ digs n, d < 1114128
  | 0, n, h => absurd h (Nat.not_lt_zero _)
  | k + 1, n, h => by
    intro d hd
    unfold digs at hd
    split at hd
    · rename_i q
      have : d = n := by simpa using hd
      omega
    · rename_i q
      rcases List.mem_cons.mp hd with rfl | hd
      · omega
      · exact digs_lt k (n / 1114128) (by omega) d hd
theorem lawDigits_ok (ns : List Int) : (lawDigits ns).length ≤ 120 ∧ ∀ d ∈ lawDigits ns, 0 ≤ d ∧ d < 1114128 := by
  refine ⟨by unfold lawDigits; rw [List.length_take]; omega, fun d hd => ?_⟩
  obtain ⟨x, _, hx⟩ := List.mem_flatMap.mp (List.mem_of_mem_take hd)
  obtain ⟨e, he, rfl⟩ := List.mem_map.mp hx
  have := digs_lt _ _ (Nat.lt_succ_self _) e he
  exact ⟨Int.natCast_nonneg _, by show (e : Int) < 1114128; omega⟩
/-- law's five cells -/
def lawCl (n : Addr) : List (Str × Addr) := [("names", n + 4), ("back", n + 3), ("table", n + 2), ("signs", n + 1), ("first", n)]
theorem law_cl (n : Addr) : cellsFrom n (scopeAt [37]).names [] = lawCl n := by kernel_rfl
/-- law's statements from the k-th on -/
noncomputable def lawB (k : Nat) : List Stmt := (bodyAt [37]).drop k
/-- the words that law builds -/
def lawWs (ns : List Int) : List Str := lawWords (lawDigits ((ns.headD 255).fdiv 256 :: ns.drop 1))
theorem r_intQ {o : OsState} {dr : Drawn} {i : Int} {k : Nat} {pos : Pos} {Q : Value → Shared → Prop} (D : Sd w h₀ L m own g ⟨o, 0, dr⟩ s) (h : ∀ t s', Sd w h₀ L m own g ⟨o, 1, dr⟩ s' → Q (.int i t) s') : WP w A (eval (.Constant (.int i) k pos) env) Q s :=
  .of (wpAny_Constant_int (h _ _ ⟨(D.tok (s.toks + 1)).led, D.gens, D.osq, Nat.le_add_left _ _⟩))
end
section
local macro_rules | `(tactic| walk_at "x") => `(tactic| ((with_reducible show WP _ _ (eval (PySem.Expr.Constant (Const.int _) _ _) _) _ _); (with_reducible refine r_intQ (by assumption) ?_); intro _ _ _))
variable {w : World} {n : Nat} {A : Around} {env env₀ : Env} {h₀ : Heap} {L : Addr} {m m' : List (Str × Value)} {own own' : List (Addr × AO)} {g : GP} {os : Osb} {s : Shared} {path₀ path : List Nat} {x y : Str} {a b : Addr} {ao ao' : AO} {P P' : List Value → Prop}
theorem law_s1f {φ : AO → Os} {o : OsState} {dr : Drawn} {vs : List Value} {ns : List Int} {k : Nat} {Q : Flow → Shared → Prop} (V : Nv env (scopeAt [37]) (lawCl (L + 1))) (C : Fx w n A env h₀ L [37]) (hn : n ≤ 100) (hi : IntsAre vs ns) (hlen : ns.length ≤ 63) (F : Ctx φ (L + 1)) (har : ∀ x, OAt (φ x) a (.raw (listOf vs.toArray k)))
    (D : Sd w h₀ L [("script", .ref a)] (φ (.cell none)) Bare ⟨o, 0, dr⟩ s)
    (h : ∀ tf d s', Sd w h₀ L [("script", .ref a), ("words", .ref d)] ((d, .strs (lawWs ns)) :: φ (.cell (some (.int (ns.headD 255) tf)))) Bare ⟨o, 1, dr⟩ s' → WP w A (execs (lawB 2) env) Q s') :
    WP w A (execs (lawB 0) env) Q s := by
  conv in lawB 0 => whnf
  unfold lawCl at V
  have hl : ListAs w (.raw (listOf vs.toArray k)) (fun us => us = vs) := las_raw rfl
  repeat walk_at "x"
  refine r_addL (by assumption) (by walk_at "o_at") hl (by walk_at "o_at") (by walk_at "las") 64 (fun us zs e1 e2 => by subst e1; rw [hi.length, e2]; simp; omega) (by decide +kernel) ?_
  rintro us zs d s rfl rfl D
  repeat walk_at "x"
  rename_i t1 s D
  have hf0 : ∀ t0, ∃ t, (us ++ [Value.int 255 t0])[0]? = some (.int (ns.headD 255) t) := fun t0 => by
    cases hi with
    | nil => exact ⟨t0, rfl⟩
    | cons => exact ⟨_, rfl⟩
  unfold lawWs at h
  generalize ns.headD 255 = fi at hf0 h
  refine r_itemT D (by walk_at "o_at") (by walk_at "las") (by decide) (by decide) (fun vs e => ?_) rfl
  obtain ⟨tf, hf⟩ : ∃ t, vs[(0 : Int).toNat]? = some (.int fi t) := by rw [e]; exact hf0 _
  refine ⟨_, hf, ?_⟩
  clear hf hf0 e vs
  replace D := (D.del .head).del .head
  repeat walk_at "x"
  refine ⟨a, _, _, _, _, _, rfl, by assumption, by walk_at "o_at", hl, fun vs e => by rw [e, hi.length]; omega, .int _ _, .none, ?_⟩
  intro vs' d1 s e D0
  subst e
  have D := D0
  clear D0
  have hsl := slice_ints_fromW hi (x := 1) (by decide)
  refine r_addL D (by walk_at "o_at") (by walk_at "las") .head (by walk_at "las") 64 (fun vs zs e1 e2 => by rw [e1, e2, hsl.length]; simp; omega) (by decide +kernel) ?_
  rintro vs1 zs1 d2 s rfl rfl D
  replace D := D.re (ao' := .ints (fi.fdiv 256 :: ns.drop 1)) .head (fun o ⟨n, e⟩ => ⟨_, n, e, .cons _ _ hsl⟩)
  replace D := (D.del (.tail .head)).del (.tail .head)
  repeat walk_at "x"
  refine law_digits_spec C D (by omega) .head (by simp; omega) ?_
  intro d3 s D
  replace D := D.del (.tail .head)
  repeat walk_at "x"
  refine law_words_spec C (by assumption) (by omega) .head (by have := (lawDigits_ok (fi.fdiv 256 :: ns.drop 1)).1; omega) (lawDigits_ok _).2 ?_
  intro d4 s D
  replace D := D.del (.tail .head)
  walk_at "x"
  rename_i s D
  exact h _ _ _ D
theorem law_s1 {rest : Os} {o : OsState} {dr : Drawn} {vs : List Value} {ns : List Int} {k : Nat} {Q : Flow → Shared → Prop} (V : Nv env (scopeAt [37]) (lawCl (L + 1))) (C : Fx w n A env h₀ L [37]) (hn : n ≤ 100) (hi : IntsAre vs ns) (hlen : ns.length ≤ 63) (har : OAt rest a (.raw (listOf vs.toArray k)))
    (D : Sd w h₀ L [("script", .ref a)] ((L + 5, .cell none) :: (L + 4, .cell none) :: (L + 3, .cell none) :: (L + 2, .cell none) :: (L + 1, .cell none) :: rest) Bare ⟨o, 0, dr⟩ s)
    (h : ∀ tf d s', Sd w h₀ L [("script", .ref a), ("words", .ref d)] ((d, .strs (lawWs ns)) :: (L + 5, .cell none) :: (L + 4, .cell none) :: (L + 3, .cell none) :: (L + 2, .cell none) :: (L + 1, .cell (some (.int (ns.headD 255) tf))) :: rest) Bare ⟨o, 1, dr⟩ s' → WP w A (execs (lawB 2) env) Q s') :
    WP w A (execs (lawB 0) env) Q s := by
  exact law_s1f (φ := fun x => (L + 5, .cell none) :: (L + 4, .cell none) :: (L + 3, .cell none) :: (L + 2, .cell none) :: (L + 1, x) :: rest) V C hn hi hlen ⟨fun _ _ => .tail (.tail (.tail (.tail .head)))⟩ (fun _ => .tail (.tail (.tail (.tail (.tail har))))) D h
end
section
variable {w : World} {n : Nat} {A : Around} {env env₀ : Env} {h₀ : Heap} {L : Addr} {m m' : List (Str × Value)} {own own' : List (Addr × AO)} {g : GP} {os : Osb} {s : Shared} {path₀ path : List Nat} {x y : Str} {a b : Addr} {ao ao' : AO} {P P' : List Value → Prop}
theorem r_range {N : Nat} {t : Tok} {Q : Value → Shared → Prop} (D : Sd w h₀ L m own g os s) (h : ∀ r o s', (∃ t₁ u₁ v₁, o = ({ cls := .type "range", dict := none, data := .fields #[.int 0 t₁, .int N u₁, .int 1 v₁], slots := #[] } : Obj)) → Sd w h₀ L m ((r, .raw o) :: own) g os s' → Q (.ref r) s') : WP w A (call (.type "range") [.int N t]) Q s :=
  .of (call_range_1 (h _ _ _ ⟨_, _, _, rfl⟩ (D.push (ao := .raw _) rfl (show AO.Is w (.raw _) _ from rfl))))
theorem r_iterR {N : Nat} {r : Addr} {o : Obj} {Q : Value → Shared → Prop} (D : Sd w h₀ L m own g os s) (hz : N < 100000) (ho : ∃ t₁ u₁ v₁, o = ({ cls := .type "range", dict := none, data := .fields #[.int 0 t₁, .int N u₁, .int 1 v₁], slots := #[] } : Obj)) (hm : OAt own r (.raw o))
    (h : ∀ I s', Sd w h₀ L m ((I, riter 0 N 0) :: own) g os s' → Q (.ref I) s') : WP w A (pyIter (.ref r)) Q s := by
  obtain ⟨t₁, u₁, v₁, rfl⟩ := ho
  obtain ⟨o', e1, e2⟩ := D.get hm
  have e2 : o' = _ := e2
  subst e2
  refine .of (wpAny_pyIter_range e1 (small_one (by decide) (by decide) (by omega) (by omega)) (h _ _ (D.push (ao := riter 0 N 0) rfl ?_)))
  have hsz : Builtin.Range.rangeSize 0 (N : Int) 1 = (N : Int) := by rw [rangeSize_one]; split <;> omega
  show _ = _
  rw [hsz]
  simp
end
end
section
def sgn08 : List Str := ["'", "\"", " ", "b", "/", "\n", "-#", "<"]
def pick08 (f : Int) (k : Nat) : Bool := decide ((f.fdiv (2 ^ k)).fmod 2 = 1)
def lawSgN (f : Int) (i : Nat) : List Str := ((List.range i).filter (pick08 f)).map fun k => sgn08.getD k ""
/-- the table's signs -/
def lawSg (f : Int) : List Str := lawSgN f 8
theorem StrsTk.get {P : Tok → Prop} {vs : List Value} {ys : List Str} (h : StrsTk P vs ys) : ∀ i < vs.length, ∃ t, vs[i]? = some (.str (ys.getD i "") t) ∧ P t := by
  induction h with
  | nil => intro i hi; exact absurd hi (Nat.not_lt_zero _)
  | cons p _ ih =>
    intro i hi
    cases i with
    | zero => exact ⟨_, rfl, p⟩
    | succ i => exact ih i (by simpa using hi)
def TkP (B : Nat) : Tok → Prop := fun t => Nat.le 1 t ∧ Nat.le t B
theorem tkp {B t : Nat} (h1 : 1 ≤ t) (h2 : t ≤ B) : TkP B t := ⟨h1, h2⟩
theorem lawSgN_succ (f : Int) (i : Nat) : lawSgN f (i + 1) = lawSgN f i ++ (if pick08 f i = true then [sgn08.getD i ""] else []) := by
  unfold lawSgN
  rw [List.range_succ, List.filter_append, List.map_append]
  by_cases h : pick08 f i = true
  · rw [List.filter_cons_of_pos h, if_pos h]; rfl
  · rw [List.filter_cons_of_neg h, if_neg h]; rfl
theorem sw_cell {env : Env} {sc sc₁ : Scope} {cl : List (Str × Addr)} {t : Str} {e : PySem.Expr} {gs : List Comprehension} {p q : Pos} {line : Nat} (V : Nv env sc cl) (hx : sc.names.lookup t = some .cell) : swapsWith (.ListComp e gs sc₁ p) (some (.Name t q)) line env = pure false := by
  unfold swapsWith
  simp only [V.knd hx]
  have : (some NameKind.cell == some NameKind.local) = false := by decide
  rw [this]
  simp
theorem sw_loc {env : Env} {sc sc₁ : Scope} {cl : List (Str × Addr)} {t : Str} {e : PySem.Expr} {gs : List Comprehension} {p q : Pos} {line : Nat} (V : Nv env sc cl) (hx : sc.names.lookup t = some .local) (hb : env.blockKind = .function) (hl : (q.line == p.line) = true)
    (hn : (sc₁.names.any fun (n, k) => n == t && (k == .local || k == .cell)) = false) : swapsWith (.ListComp e gs sc₁ p) (some (.Name t q)) line env = pure true := by
  unfold swapsWith
  simp only [V.knd hx, hb]
  have : (some NameKind.local == some NameKind.local) = true := by decide
  rw [this, hn]
  show pure (true && true && (q.line == p.line) && !false) = _
  rw [hl]
  rfl
section
variable {w : World} {n : Nat} {A : Around} {env env₀ : Env} {h₀ : Heap} {L : Addr} {m m' : List (Str × Value)} {own own' : List (Addr × AO)} {g : GP} {o : OsState} {bd : Nat} {dr : Drawn} {s : Shared} {x : Str} {pos : Pos}
theorem r_strQ {k : Nat} {Q : Value → Shared → Prop} (D : Sd w h₀ L m own g ⟨o, bd, dr⟩ s) (h : ∀ t s', bd ≤ t → Sd w h₀ L m own g ⟨o, t + 1, dr⟩ s' → Q (.str x t) s') : WP w A (eval (.Constant (.str x) k pos) env) Q s := r_strR D h
end
section
local macro_rules | `(tactic| walk_at "x") => `(tactic| ((with_reducible show WP _ _ (eval (PySem.Expr.Constant (Const.str _) _ _) _) _ _); (with_reducible refine r_strQ (by assumption) ?_); intro _ _ _ _))
variable {w : World} {n : Nat} {A : Around} {env env₀ : Env} {h₀ : Heap} {L : Addr} {m m' : List (Str × Value)} {own own' : List (Addr × AO)} {g : GP} {o : OsState} {bd : Nat} {dr : Drawn} {s : Shared} {path₀ path : List Nat} {x y : Str} {a b : Addr} {ao ao' : AO} {P P' : List Value → Prop}
theorem law_s2f {φ : AO → Os} {d : Addr} {f : Int} {tf : Tok} {Q : Flow → Shared → Prop} (V : Nv env (scopeAt [37]) (lawCl (L + 1))) (C : Fx w n A env h₀ L [37]) (hn : n ≤ 100) (hb : 1 ≤ bd) (F : Ctx φ (L + 2)) (hf1 : ∀ x, OAt (φ x) (L + 1) (.cell (some (.int f tf))))
    (D : Sd w h₀ L [("script", .ref a), ("words", .ref d)] (φ (.cell none)) Bare ⟨o, bd, dr⟩ s)
    (h : ∀ B sg ys s', StrsTk (TkP B) ys (lawSg f) → Sd w h₀ L [("script", .ref a), ("words", .ref d)] ((sg, .list ys) :: φ (.cell (some (.ref sg)))) Bare ⟨o, B + 1, dr⟩ s' → WP w A (execs (lawB 4) env) Q s') :
    WP w A (execs (lawB 2) env) Q s := by
  conv in lawB 2 => whnf
  unfold lawCl at V
  repeat walk_at "x"
  rename_i t1 _ k1 _ t2 _ k2 _ t3 _ k3 _ t4 _ k4 _ t5 _ k5 _ t6 _ k6 _ t7 _ k7 _ t8 _ k8 _ l0 _ _ s D
  obtain ⟨lv, hlv, D⟩ : ∃ lv, StrsTk (TkP t8) lv sgn08 ∧ Sd w h₀ L [("script", .ref a), ("words", .ref d)] ((l0, .list lv) :: φ (.cell (some (.ref l0)))) Bare ⟨o, t8 + 1, dr⟩ s :=
    ⟨_, .cons (tkp (by omega) (by omega)) (.cons (tkp (by omega) (by omega)) (.cons (tkp (by omega) (by omega)) (.cons (tkp (by omega) (by omega)) (.cons (tkp (by omega) (by omega)) (.cons (tkp (by omega) (by omega)) (.cons (tkp (by omega) (by omega)) (.cons (tkp (by omega) (by omega)) .nil))))))), D⟩
  have hl8 : lv.length = 8 := by rw [hlv.are.length]; rfl
  refine x_asg ?_ (sw_cell V (by kernel_rfl))
  refine x_comp [("signs", L + 2), ("first", L + 1)] V (by assumption) ?_ (by kernel_rfl!) (by kernel_rfl) (by kernel_rfl) (by kernel_rfl) (by kernel_rfl) (fun _ => rfl)
  repeat walk_at "x"
  refine r_range (N := 8) (by assumption) ?_
  intro r ro s ho D
  refine r_iterR (N := 8) D (by decide) ho .head ?_
  intro I s D
  replace D := D.del (.tail .head)
  refine ⟨I, 8, _, _, _, fun i ys => StrsTk (TkP t8) ys (lawSgN f i), _, rfl, it_range C.hand, D, trivial, .nil, by decide, ?_, ?_⟩
  · rintro i v ys cenv Dd s hi ⟨u, rfl⟩ hJ V2 D
    have e0 : (0 + (i : Int)) = (i : Int) := by omega
    rw [e0] at D ⊢
    repeat walk_at "x"
    have eb : Builtin.Int.intBits 2 = 2 := by decide +kernel
    refine r_pow (by assumption) (by omega) (by rw [eb]; omega) ?_
    intro tp s D
    have hp2 : ∀ j < 8, (2 : Int) ^ j ≠ 0 ∧ ((2 : Int) ^ j).natAbs < 1073741824 := by decide +kernel
    rw [Int.toNat_natCast]
    refine r_fdiv D (hp2 i hi).1 (hp2 i hi).2 ?_
    intro tq s D
    repeat walk_at "x"
    by_cases hk : pick08 f i = true
    · refine ite_kt (by unfold pick08 at hk; simpa using hk) ?_
      repeat walk_at "x"
      obtain ⟨ti, h1, h2⟩ := hlv.get i (by omega)
      refine r_itemT (by assumption) (by walk_at "o_at") (by walk_at "las") (by omega) (by omega) (fun vs e => ⟨.str (sgn08.getD i "") ti, by rw [e, Int.toNat_natCast]; exact h1, ?_⟩) rfl
      refine ⟨?_, by assumption⟩
      show StrsTk _ _ (lawSgN f (i + 1))
      rw [lawSgN_succ, if_pos hk]
      exact hJ.append (.cons h2 .nil)
    · refine ite_kf (by unfold pick08 at hk; simpa using hk) ?_
      refine ⟨?_, by assumption⟩
      show StrsTk _ _ (lawSgN f (i + 1))
      rw [lawSgN_succ, if_neg hk, List.append_nil]
      exact hJ
  · intro D0 ys C0 mC s hJ _ s' D
    walk_at "x"
    rename_i s D
    exact h _ _ _ _ hJ (D.del (.tail .head))
theorem law_s2 {rest : Os} {ws : List Str} {d : Addr} {f : Int} {tf : Tok} {Q : Flow → Shared → Prop} (V : Nv env (scopeAt [37]) (lawCl (L + 1))) (C : Fx w n A env h₀ L [37]) (hn : n ≤ 100) (hb : 1 ≤ bd)
    (D : Sd w h₀ L [("script", .ref a), ("words", .ref d)] ((d, .strs ws) :: (L + 5, .cell none) :: (L + 4, .cell none) :: (L + 3, .cell none) :: (L + 2, .cell none) :: (L + 1, .cell (some (.int f tf))) :: rest) Bare ⟨o, bd, dr⟩ s)
    (h : ∀ B sg ys s', StrsTk (TkP B) ys (lawSg f) → Sd w h₀ L [("script", .ref a), ("words", .ref d)] ((sg, .list ys) :: (d, .strs ws) :: (L + 5, .cell none) :: (L + 4, .cell none) :: (L + 3, .cell none) :: (L + 2, .cell (some (.ref sg))) :: (L + 1, .cell (some (.int f tf))) :: rest) Bare ⟨o, B + 1, dr⟩ s' → WP w A (execs (lawB 4) env) Q s') :
    WP w A (execs (lawB 2) env) Q s := by
  exact law_s2f (φ := fun x => (d, .strs ws) :: (L + 5, .cell none) :: (L + 4, .cell none) :: (L + 3, .cell none) :: (L + 2, x) :: (L + 1, .cell (some (.int f tf))) :: rest) V C hn hb ⟨fun _ _ => .tail (.tail (.tail (.tail .head)))⟩ (fun _ => .tail (.tail (.tail (.tail (.tail .head))))) D h
end
end
section
/-- the part of law's names that the loop over the signs may leave -/
structure TlS (tl : Ls) : Prop where
  put : ∀ (x : Str) (v : Value) (r r' : Ls), (x == ("sign" : Str)) = false → MPut r x v r' → MPut (tl ++ r) x v (tl ++ r')
  at_ : ∀ (x : Str) (v : Value) (r : Ls), (x == ("sign" : Str)) = false → MAt r x v → MAt (tl ++ r) x v
theorem TlS.nil : TlS [] := ⟨fun _ _ _ _ _ h => h, fun _ _ _ _ h => h⟩
theorem TlS.one {u : Value} : TlS [("sign", u)] := ⟨fun _ _ _ _ e h => .tail e h, fun _ _ _ e h => .tail e h⟩
/-- a sign's reference -/
def refP (c : Nat) : Str := ("&#" : Str) ++ (toString (c : Int) : String) ++ (";" : Str)
def refT (x : Str) : Str := Txt.join "" (x.cps.toList.map refP)
def tblOf (sgs : List Str) : List (Str × Str) := sgs.map fun x => (x, refT x)
def bckOf (sgs : List Str) : List (Str × Str) := sgs.map fun x => (refT x, x)
def TkR (B : Nat) : Tok → Prop := fun t => Nat.lt B t
section
variable {w : World} {n : Nat} {A : Around} {env env₀ : Env} {h₀ : Heap} {L : Addr} {m m' : List (Str × Value)} {own own' : List (Addr × AO)} {g : GP} {os : Osb} {s : Shared} {path₀ path : List Nat} {x y : Str} {a b l : Addr} {ao ao' : AO} {P P' : List Value → Prop} {pos : Pos}
theorem x_dict0 {P R : Tok → Prop} {Q : Value → Shared → Prop} (D : Sd w h₀ L m own g os s) (h : ∀ d s', Sd w h₀ L m ((d, tabA w P R []) :: own) g os s' → Q (.ref d) s') : WP w A (eval (.Dict [] [] pos) env) Q s :=
  .of (wpAny_Dict_empty (h _ _ (D.push (ao := tabA w P R []) rfl ⟨[], 0, rfl, .nil, List.nodup_nil⟩)))
inductive ForL2 (w : World) (A : Around) (h₀ : Heap) (L : Addr) (g : GP) (os : Osb) (env : Env) (x : Str) (body : List Stmt) (Q : Flow → Shared → Prop) (l : Addr) (ao : AO) (P : List Value → Prop) (k : Nat) (J : Nat → List (Str × Value) → List (Addr × AO) → Prop) : Prop
  | mk (hneed : ∀ i m own, J i m own → OAt own l ao ∧ (m.all fun p => p.1 != x) = true)
    (step : ∀ i vs v mb own s I, i < k → P vs → vs[i]? = some v → J i mb own → Sd w h₀ L (mb ++ [(x, v)]) ((I, liter l (i + 1)) :: own) g os s →
    WP w A (execs body env) (fun fl s'' => match fl with
      | .next | .cont => ∃ mb' v' own', J (i + 1) mb' own' ∧ Sd w h₀ L (mb' ++ [(x, v')]) ((I, liter l (i + 1)) :: own') g os s''
      | .brk => False
      | .ret v => Q (.ret v) s'') s)
    (fin : ∀ mb me own s, J k mb own → (me = [] ∨ ∃ u, me = [(x, u)]) → Sd w h₀ L (mb ++ me) own g os s → Q .next s) : ForL2 w A h₀ L g os env x body Q l ao P k J
theorem for_list2 {path : List Nat} {body : List Stmt} {Q : Flow → Shared → Prop} {P : List Value → Prop} (k : Nat) (J : Nat → List (Str × Value) → List (Addr × AO) → Prop) (C : Fx w n A env h₀ L path) (D : Sd w h₀ L m own g os s)
    (hl : ListAs w ao P) (hm : OAt own l ao) (hx : (scopeAt path).names.lookup x = some .local) (hk : ∀ vs, P vs → vs.length = k) (h0 : J 0 m own) (h : ForL2 w A h₀ L g os env x body Q l ao P k J) :
    WP w A (pyIter (.ref l)) (fun it s₂ => ForAt w A h₀ L g os env x body Q it s₂) s := by
  obtain ⟨hneed, step, fin⟩ := h
  refine r_iter D hm hl fun I s D => ?_
  refine ⟨I, k, _, _, _, fun i m own => ∃ mb, J i mb own ∧ (m = mb ∨ ∃ u, m = mb ++ [(x, u)]), m, own, rfl, it_list C.hand hl hk, D, ⟨m, h0, .inl rfl⟩, ?_, ?_, ?_⟩
  · rintro i m own ⟨mb, hJ, _⟩
    exact (hneed i mb own hJ).1
  · rintro i v m own s hi ⟨vs, hp, hv⟩ ⟨mb, hJ, hmb⟩ D
    have hp' : MPut m x v (mb ++ [(x, v)]) := by
      rcases hmb with rfl | ⟨u, rfl⟩
      · exact mput_end (hneed i _ own hJ).2
      · exact mput_end2 (hneed i _ own hJ).2
    refine r_st C D hp' hx fun s D => ?_
    refine (step i vs v mb own s I hi hp hv hJ D).mono fun fl s'' hh => ?_
    cases fl with
    | next => obtain ⟨mb', v', own', j, D'⟩ := hh; exact ⟨_, own', ⟨mb', j, .inr ⟨v', rfl⟩⟩, D'⟩
    | cont => obtain ⟨mb', v', own', j, D'⟩ := hh; exact ⟨_, own', ⟨mb', j, .inr ⟨v', rfl⟩⟩, D'⟩
    | brk => exact hh.elim
    | ret v => exact hh
  · rintro m own s ⟨mb, hJ, hmb⟩ D
    rcases hmb with rfl | ⟨u, rfl⟩
    · exact fin m [] own s hJ (.inl rfl) (by rw [List.append_nil]; exact D)
    · exact fin mb _ own s hJ (.inr ⟨u, rfl⟩) D
end
/-- what holds of the signs, by looking -/
def sgnCs : List Nat := [39, 34, 32, 98, 47, 10, 45, 35, 60]
theorem sgn_mem {f : Int} {i : Nat} : ∀ x ∈ lawSgN f i, i ≤ 8 → x ∈ sgn08 := by
  intro x hx hi
  obtain ⟨k, hk, rfl⟩ := List.mem_map.mp hx
  have h1 := List.mem_range.mp (List.mem_filter.mp hk).1
  have : ∀ k < 8, sgn08.getD k "" ∈ sgn08 := by decide +kernel
  exact this k (by omega)
theorem sgn_cs : ∀ x ∈ sgn08, ∀ c ∈ x.cps.toList, c ∈ sgnCs := by decide +kernel
theorem ref_ok : ∀ c ∈ sgnCs, ((toString (c : Int) : String) : Str).length ≠ 0 ∧ ((toString (c : Int) : String) : Str).length ≤ 10 ∧ (c : Int).natAbs.log2 < 1920 := by decide +kernel
theorem lk_none {x : Str} {k v : Str → Str} : ∀ {l : List Str}, (∀ y ∈ l, k y ≠ x) → (l.map fun y => (k y, v y)).lookup x = none
  | [], _ => rfl
  | y :: r, h => by
    rw [List.map_cons, List.lookup_cons]
    rw [beq_false_of_ne (Ne.symm (h y (.head _)))]
    exact lk_none fun z hz => h z (.tail _ hz)
theorem sgn_size : ∀ x ∈ sgn08, x.cps.size ≤ 100000 := by decide +kernel
theorem join_ok : ∀ x ∈ sgn08, JoinOk "" (x.cps.toList.map refP) = true := by decide +kernel
theorem sgn_nodup {f : Int} : (lawSg f).Nodup := by
  unfold lawSg lawSgN
  refine List.pairwise_map.mpr (List.Pairwise.imp_of_mem (R := (· ≠ ·)) (fun {a b} ha hb hab e => hab ?_) (List.Pairwise.filter _ List.nodup_range))
  have h1 := List.mem_range.mp (List.mem_filter.mp ha).1
  have h2 := List.mem_range.mp (List.mem_filter.mp hb).1
  have : ∀ a < 8, ∀ b < 8, sgn08.getD a "" = sgn08.getD b "" → a = b := by decide +kernel
  exact this a h1 b h2 e
theorem ref_inj : ∀ x ∈ sgn08, ∀ y ∈ sgn08, refT x = refT y → x = y := by decide +kernel
section
variable {w : World} {n : Nat} {A : Around} {env env₀ : Env} {h₀ : Heap} {L : Addr} {m m' : List (Str × Value)} {own own' : List (Addr × AO)} {g : GP} {o : OsState} {B : Nat} {dr : Drawn} {s : Shared} {path₀ path : List Nat} {x y : Str} {a b : Addr} {ao ao' : AO}
set_option maxHeartbeats 2000000 in
theorem law_s3 {rest : Os} {ws sgs : List Str} {ys : List Value} {d sg : Addr} {f : Int} {tf : Tok} {Q : Flow → Shared → Prop} (V : Nv env (scopeAt [37]) (lawCl (L + 1))) (C : Fx w n A env h₀ L [37]) (hn : n ≤ 100)
    (hys : StrsTk (TkP B) ys sgs) (hmem : ∀ x ∈ sgs, x ∈ sgn08) (hnd : sgs.Nodup) (hsz : sgs.length ≤ 8)
    (D : Sd w h₀ L [("script", .ref a), ("words", .ref d)] ((sg, .list ys) :: (d, .strs ws) :: (L + 5, .cell none) :: (L + 4, .cell none) :: (L + 3, .cell none) :: (L + 2, .cell (some (.ref sg))) :: (L + 1, .cell (some (.int f tf))) :: rest) Bare ⟨o, B + 1, dr⟩ s)
    (h : ∀ tl tb bk s', TlS tl → Sd w h₀ L (("script", .ref a) :: ("words", .ref d) :: (tl ++ [])) ((bk, tabA w (TkR B) (TkP B) (bckOf sgs)) :: (tb, tabA w (TkP B) (TkR B) (tblOf sgs)) :: (sg, .list ys) :: (d, .strs ws) :: (L + 5, .cell none) :: (L + 4, .cell (some (.ref bk))) :: (L + 3, .cell (some (.ref tb))) :: (L + 2, .cell (some (.ref sg))) :: (L + 1, .cell (some (.int f tf))) :: rest) Bare ⟨o, B + 1, dr⟩ s' → WP w A (execs (lawB 7) env) Q s') :
    WP w A (execs (lawB 4) env) Q s := by
  conv in lawB 4 => whnf
  unfold lawCl at V
  repeat walk_at "x"
  refine x_dict0 (P := TkP B) (R := TkR B) (by assumption) ?_
  intro tb s D
  repeat walk_at "x"
  refine x_dict0 (P := TkR B) (R := TkP B) (by assumption) ?_
  intro bk s D
  repeat walk_at "x"
  rename_i s D
  refine for_list2 ys.length (fun i m own' => m = ([("script", .ref a), ("words", .ref d)] : Ls) ∧ own' = (((bk, tabA w (TkR B) (TkP B) (bckOf (sgs.take i))) :: (tb, tabA w (TkP B) (TkR B) (tblOf (sgs.take i))) :: (sg, .list ys) :: (d, .strs ws) :: (L + 5, .cell none) :: (L + 4, .cell (some (.ref bk))) :: (L + 3, .cell (some (.ref tb))) :: (L + 2, .cell (some (.ref sg))) :: (L + 1, .cell (some (.int f tf))) :: rest) : Os)) C D (ao := .list ys) las_list (.tail (.tail .head)) (by kernel_rfl!) (fun vs e => by rw [e]) ⟨rfl, rfl⟩ ⟨?_, ?_, ?_⟩
  · rintro i m own ⟨rfl, rfl⟩
    exact ⟨.tail (.tail .head), by kernel_rfl⟩
  · rintro i vs v mb own s I hi rfl hv ⟨rfl, rfl⟩ D
    simp only [List.cons_append, List.nil_append] at D ⊢
    obtain ⟨tk, h1, h2⟩ := hys.get i hi
    rw [hv] at h1
    obtain rfl := Option.some.inj h1
    have hlen : vs.length = sgs.length := hys.are.length
    have hget : sgs[i]? = some (sgs.getD i "") := by
      rw [List.getD_eq_getElem?_getD, List.getElem?_eq_getElem (by omega)]
      rfl
    generalize sgs.getD i "" = x at *
    have hxm : x ∈ sgs := List.mem_of_getElem? hget
    have hx8 := hmem x hxm
    clear h1 hv
    obtain ⟨own0, e0⟩ : ∃ o : Os, o = ((sg, AO.list vs) :: (d, .strs ws) :: (L + 5, .cell none) :: (L + 4, .cell (some (.ref bk))) :: (L + 3, .cell (some (.ref tb))) :: (L + 2, .cell (some (.ref sg))) :: (L + 1, .cell (some (.int f tf))) :: rest) := ⟨_, rfl⟩
    have hb4 : OAt own0 (L + 4) (.cell (some (.ref bk))) := by rw [e0]; walk_at "o_at"
    have hb3 : OAt own0 (L + 3) (.cell (some (.ref tb))) := by rw [e0]; walk_at "o_at"
    rw [← e0] at D ⊢
    clear e0
    refine genQ fun Q' hQ => ?_
    repeat walk_at "x"
    refine x_comp [] V (by assumption) ?_ (by kernel_rfl!) (by kernel_rfl) (by kernel_rfl) (by kernel_rfl) (by kernel_rfl) (fun _ => rfl)
    repeat walk_at "x"
    refine r_iterS (by assumption) ?_
    intro I2 s D
    refine ⟨I2, _, _, _, _, fun j zs => StrsTk (TkR B) zs ((x.cps.toList.take j).map refP), _, rfl, it_str C.hand, D, trivial, .nil, sgn_size x hx8, ?_, ?_⟩
    · rintro j v zs cenv D0 s hj ⟨c, u, hc, rfl⟩ hJ V2 D
      have hcm : c ∈ x.cps.toList := by
        rw [← Array.getElem?_toList] at hc
        exact List.mem_of_getElem? hc
      obtain ⟨r1, r2, r3⟩ := ref_ok c (sgn_cs x hx8 c hcm)
      have k2 : (Str.ofString "&#").length = 2 := by kernel_rfl
      have k1 : (Str.ofString ";").length = 1 := by kernel_rfl
      repeat walk_at "x"
      refine r_ord (by assumption) ?_
      intro to s D
      refine r_strI D r3 ?_
      intro ts s _ D
      refine r_addsT D (by kernel_rfl) (beq_false_of_ne r1) (by rw [k2]; unfold sizeLine; omega) ?_
      intro t1 s _ D
      repeat walk_at "x"
      refine r_addsT (by assumption) (by rw [Str.length_append, k2]; exact beq_false_of_ne (by omega)) (by kernel_rfl) (by rw [Str.length_append, k2, k1]; unfold sizeLine; omega) ?_
      intro t2 s hle D
      refine ⟨?_, by assumption⟩
      have ec : x.cps.toList[j]? = some c := by rw [← hc]; simp
      show StrsTk (TkR B) _ ((x.cps.toList.take (j + 1)).map refP)
      rw [List.take_add_one, ec, List.map_append]
      exact hJ.append (.cons hle .nil)
    · intro D0 zs C0 mC s hJ _ s' D
      have hJ' : StrsTk (TkR B) zs (x.cps.toList.map refP) := by
        have hJ2 : StrsTk (TkR B) zs ((x.cps.toList.take x.cps.size).map refP) := hJ
        rw [show x.cps.size = x.cps.toList.length from by simp, List.take_length] at hJ2
        exact hJ2
      refine r_join (T := TkR B) D .head las_list (fun vs e => by rw [e]; exact hJ') (fun t ht => ht) (join_ok x hx8) ?_
      intro tj s htj D
      replace D := D.del .head
      have etk : sgs.take (i + 1) = sgs.take i ++ [x] := by rw [List.take_add_one, hget]; rfl
      have hne : ∀ y ∈ sgs.take i, y ≠ x := by
        have h5 : (sgs.take (i + 1)).Nodup := hnd.sublist (List.take_sublist _ _)
        rw [etk] at h5
        intro y hy
        exact (List.pairwise_append.mp h5).2.2 y hy x (.head _)
      have hln : (sgs.take i).length ≤ 1000 := by
        rw [List.length_take]
        have := hsz
        omega
      have e1 : (tblOf (sgs.take i)).lookup x = none := lk_none (k := fun y => y) (v := refT) hne
      have e2 : (bckOf (sgs.take i)).lookup (refT x) = none := lk_none (k := refT) (v := fun y => y) fun y hy e => hne y hy (ref_inj y (hmem y (List.mem_of_mem_take hy)) x hx8 e)
      have e3 : (tblOf (sgs.take i) ++ [(x, refT x)]).lookup x = some (refT x) := by
        rw [List.lookup_append, e1]
        show (List.lookup x [(x, refT x)]) = _
        rw [List.lookup_cons_self]
      repeat walk_at "x"
      refine r_tset (kvs' := []) (y := refT x) D (.tail (.tail .head)) e1 (by unfold tblOf; rw [List.length_map]; exact hln) h2 htj ?_
      intro s D
      repeat walk_at "x"
      refine r_titem (by assumption) (.tail (.tail .head)) e3 ?_ rfl
      intro u s hu D
      refine r_tset (kvs' := []) (y := x) D (.tail .head) e2 (by unfold bckOf; rw [List.length_map]; exact hln) hu h2 ?_
      intro s D
      repeat walk_at "x"
      refine hQ _ _ ⟨_, .str x tk, _, ⟨rfl, rfl⟩, ?_⟩
      rw [etk]
      unfold tblOf bckOf at D ⊢
      rw [List.map_append, List.map_append]
      exact D
  · rintro mb me own s ⟨rfl, rfl⟩ hme D
    have e : sgs.take ys.length = sgs := by rw [hys.are.length, List.take_length]
    rw [e] at D
    rcases hme with rfl | ⟨u, rfl⟩
    · exact h [] tb bk s .nil D
    · exact h _ tb bk s .one D
end
end
section
local macro_rules | `(tactic| walk_at "m_at") => `(tactic| ((with_reducible show MAt (_ ++ _) _ _); (with_reducible apply TlS.at_); assumption; kernel_rfl; walk_at "m_at"))
local macro_rules | `(tactic| walk_at "m_put") => `(tactic| ((with_reducible show MPut (_ ++ _) _ _ _); (with_reducible apply TlS.put); assumption; kernel_rfl; walk_at "m_put"))
/-- law's own joined line -/
def ownT (ws : List Str) : Str := Txt.join " " (ws.map quoteT)
theorem quote_len {x : Str} (h : x.length ≤ 120) : (quoteT x).length ≤ 900 := by
  unfold quoteT
  split
  · omega
  · have := replace_len x "'" "'\"'\"'"
    have e : ("'\"'\"'" : Str).length = 5 := by kernel_rfl
    have e1 : ("'" : Str).length = 1 := by kernel_rfl
    rw [Str.length_append, Str.length_append, e1]
    rw [e] at this
    omega
theorem joinOk_of {sep : Str} {texts : List Str} {B : Nat} (hB : ∀ y ∈ texts, y.length ≤ B) (h : texts.length * B + texts.length * sep.length ≤ 16777216) : JoinOk sep texts = true := by
  unfold JoinOk
  rw [StrLaws.joinFits hB h]
  rfl
theorem own_ok {ws : List Str} (h : WOk 120 ws) : JoinOk " " (ws.map quoteT) = true := by
  refine joinOk_of (B := 900) (fun y hy => ?_) ?_
  · obtain ⟨x, hx, rfl⟩ := List.mem_map.mp hy
    exact quote_len (h.2 x hx).1
  · have e : (" " : Str).length = 1 := by kernel_rfl
    rw [e, List.length_map]
    have := h.1
    omega
theorem strsTk_true {vs : List Value} {ys : List Str} (h : StrsAre vs ys) : StrsTk (fun _ => True) vs ys := by
  induction h with
  | nil => exact .nil
  | cons _ _ _ ih => exact .cons trivial ih
/-- a place in a ledger -/
theorem ctx_of {own : Os} {d : Addr} {ao : AO} (h : OAt own d ao) : ∃ f, Ctx f d ∧ own = f ao := by
  induction h with
  | @head a ao r => exact ⟨fun x => (a, x) :: r, ⟨fun _ _ => .head⟩, rfl⟩
  | @tail p a ao r _ ih =>
    obtain ⟨f, F, rfl⟩ := ih
    exact ⟨fun x => p :: f x, ⟨fun _ _ => .tail (F.put _ _)⟩, rfl⟩
section
variable {w : World} {n : Nat} {A : Around} {env env₀ : Env} {h₀ : Heap} {L : Addr} {m m' : List (Str × Value)} {own own' : List (Addr × AO)} {g : GP} {os : Osb} {s : Shared} {path₀ path : List Nat} {x y : Str} {a b : Addr} {ao ao' : AO} {tl : Ls}
set_option maxHeartbeats 2000000 in
theorem law_s4 {ws : List Str} {d : Addr} {Q : Flow → Shared → Prop} (V : Nv env (scopeAt [37]) (lawCl (L + 1))) (C : Fx w n A env h₀ L [37]) (hn : n ≤ 100) (htl : TlS tl)
    (hW : WOk 120 ws) (hd : OAt own d (.strs ws))
    (D : Sd w h₀ L (("script", .ref a) :: ("words", .ref d) :: (tl ++ [])) own g os s)
    (h : ∀ t s', Sd w h₀ L (("script", .ref a) :: ("words", .ref d) :: (tl ++ ([("own", .str (ownT ws) t)] : Ls))) own g os s' → WP w A (execs (lawB 8) env) Q s') :
    WP w A (execs (lawB 7) env) Q s := by
  conv in lawB 7 => whnf
  unfold lawCl at V
  repeat walk_at "x"
  refine x_comp [] V (by assumption) ?_ (by kernel_rfl!) (by kernel_rfl) (by kernel_rfl) (by kernel_rfl) (by kernel_rfl) (fun _ => rfl)
  repeat walk_at "x"
  refine r_iter (by assumption) (by walk_at "o_at") las_strs ?_
  intro I s D
  refine ⟨I, ws.length, _, _, _, fun j zs => StrsAre zs ((ws.take j).map quoteT), _, rfl, it_list C.hand las_strs (fun vs e => e.length), D, (by exact hd), .nil, by have := hW.1; omega, ?_, ?_⟩
  · rintro j v zs cenv D0 s hj ⟨vs, hvs, hv⟩ hJ V2 D
    obtain ⟨x, t, rfl, hx⟩ := strs_at hvs hv
    have hxm : x ∈ ws := List.mem_of_getElem? hx
    obtain ⟨hx1, hx2⟩ := hW.2 x hxm
    have fin : ∀ t, StrsAre (zs ++ [.str (quoteT x) t]) ((ws.take (j + 1)).map quoteT) := fun t => by
      rw [List.take_add_one, hx, List.map_append]
      exact strsAre_append hJ (.cons _ _ .nil)
    repeat walk_at "x"
    refine is_bare_spec C (by assumption) (by omega) (by omega) hx2 ?_
    intro s D
    repeat walk_at "x"
    by_cases hb : isBare x = true
    · refine ite_kt hb ?_
      repeat walk_at "x"
      have e : quoteT x = x := by unfold quoteT; rw [if_pos hb]
      have fin' := fin t
      rw [e] at fin'
      exact ⟨fin', by assumption⟩
    · refine ite_kf (by simpa using hb) ?_
      repeat walk_at "x"
      refine r_split (by assumption) (by kernel_rfl) (by unfold sizeLine; omega) ?_
      intro b s D
      have e5 : ("'\"'\"'" : Str).length = 5 := by kernel_rfl
      have e1 : ("'" : Str).length = 1 := by kernel_rfl
      refine r_join (T := fun _ => True) D .head las_strs (fun vs e => strsTk_true e) (fun _ _ => trivial) (joinOk_of (B := 120) (fun y hy => Nat.le_trans (part_short hy) hx1) ?_) ?_
      · have := split_le x "'"
        rw [e5]
        omega
      intro tj s _ D
      replace D := D.del .head
      have ej : Txt.join "'\"'\"'" (Txt.split x "'") = Txt.replace x "'" "'\"'\"'" := by
        have e39 : (Str.ofString "'") = ⟨#[39]⟩ := by kernel_rfl
        rw [e39, StrLaws.replace_one]
        exact StrLaws.glued_eq_join _ _
      rw [ej]
      have rl := replace_len x "'" "'\"'\"'"
      rw [e5] at rl
      refine r_adds D (by rw [e1]; unfold sizeLine; omega) ?_
      intro t3 s D
      repeat walk_at "x"
      refine r_adds (by assumption) (by rw [Str.length_append, e1]; unfold sizeLine; omega) ?_
      intro t4 s D
      have e : quoteT x = ("'" : Str) ++ Txt.replace x "'" "'\"'\"'" ++ ("'" : Str) := by unfold quoteT; rw [if_neg hb]
      have fin' := fin t4
      rw [e] at fin'
      exact ⟨fin', by assumption⟩
  · intro D0 zs C0 mC s hJ _ s' D
    have hJ' : StrsAre zs (ws.map quoteT) := by
      have hJ2 : StrsAre zs ((ws.take ws.length).map quoteT) := hJ
      rw [List.take_length] at hJ2
      exact hJ2
    refine r_join (T := fun _ => True) D .head las_list (fun vs e => by rw [e]; exact strsTk_true hJ') (fun _ _ => trivial) (own_ok hW) ?_
    intro tj s _ D
    replace D := D.del .head
    walk_at "x"
    rename_i s D
    exact h _ _ D
end
end
section
local macro_rules | `(tactic| walk_at "m_at") => `(tactic| ((with_reducible show MAt (_ ++ _) _ _); (with_reducible apply TlS.at_); assumption; kernel_rfl; walk_at "m_at"))
local macro_rules | `(tactic| walk_at "m_put") => `(tactic| ((with_reducible show MPut (_ ++ _) _ _ _); (with_reducible apply TlS.put); assumption; kernel_rfl; walk_at "m_put"))
/-- the same place, and what else stands there -/
theorem ctx_of2 {own : Os} {d : Addr} {ao : AO} (h : OAt own d ao) : ∃ f, Ctx f d ∧ own = f ao ∧ ∀ b bo, b ≠ d → OAt own b bo → ∀ x, OAt (f x) b bo := by
  induction h with
  | @head a ao r =>
    refine ⟨fun x => (a, x) :: r, ⟨fun _ _ => .head⟩, rfl, fun b bo hb hat x => ?_⟩
    cases hat with
    | head => exact absurd rfl hb
    | tail h => exact .tail h
  | @tail p a ao r _ ih =>
    obtain ⟨f, F, rfl, k⟩ := ih
    refine ⟨fun x => p :: f x, ⟨fun _ _ => .tail (F.put _ _)⟩, rfl, fun b bo hb hat x => ?_⟩
    cases hat with
    | head => exact .head
    | tail h => exact .tail (k b bo hb h x)
theorem tk_apart {B : Nat} : ∀ t u, TkP B t → TkR B u → t ≠ 0 ∧ u ≠ 0 ∧ t ≠ u := fun t u h1 h2 => by
  have a : Nat.le 1 t := h1.1
  have b : Nat.le t B := h1.2
  have c : Nat.lt B u := h2
  have a' : (1 : Nat) ≤ t := a
  have b' : (t : Nat) ≤ B := b
  have c' : (B : Nat) < u := c
  refine ⟨fun e => ?_, fun e => ?_, fun e => ?_⟩ <;> subst e
  · exact absurd a' (Nat.not_succ_le_zero 0)
  · exact absurd c' (Nat.not_lt_zero _)
  · exact absurd (Nat.lt_of_lt_of_le c' b') (Nat.lt_irrefl _)
def lineT (sgs ws : List Str) : Str := replAll (ownT ws) (escK ++ tblOf sgs)
section
variable {w : World} {n : Nat} {A : Around} {env env₀ : Env} {h₀ : Heap} {L : Addr} {m m' : List (Str × Value)} {own own' : List (Addr × AO)} {g : GP} {o : OsState} {B : Nat} {dr : Drawn} {os : Osb} {s : Shared} {path₀ path : List Nat} {x y : Str} {a b : Addr} {ao ao' : AO} {tl : Ls}
theorem join_at {ws : List Str} {d : Addr} {Q : Value → Shared → Prop} (C : Fx w n A env h₀ L path) (hn : n ≤ 300) (hW : ∀ x ∈ ws, x.length ≤ 100000) (hc : ws.length ≤ 100000) (hok : JoinOk " " (ws.map quoteT) = true) (hd : OAt own d (.strs ws)) (h771 : OAt own 771 tblA)
    (D : Sd w h₀ L m own Bare os s) (h : ∀ t s', Sd w h₀ L m own Bare os s' → Q (.str (ownT ws) t) s') : WP w A (call (.ref 776) [.ref d]) Q s := by
  obtain ⟨f, F, rfl, k⟩ := ctx_of2 h771
  have ne : d ≠ 771 := by
    rintro rfl
    obtain ⟨o1, e1, vs, k, e2, _⟩ := D.get hd
    obtain ⟨o2, e3, e4⟩ := D.get h771
    rw [e1] at e3
    have := Option.some.inj e3
    subst this
    rcases e4 with e4 | ⟨c, e4⟩ <;> rw [e2] at e4 <;> exact nomatch congrArg Obj.cls e4
  exact join_spec C F D (by omega) (k d _ ne hd) las_strs (fun vs e => e) hW hc hok h
theorem escape_at {tb : Addr} {sgs : List Str} {t : Tok} {Q : Value → Shared → Prop} (C : Fx w n A env h₀ L path) (hn : n ≤ 300) (hs : sgs.length ≤ 8) (hf : FitR x (escK ++ tblOf sgs)) (htb : OAt own tb (tabA w (TkP B) (TkR B) (tblOf sgs)))
    (D : Sd w h₀ L m own g ⟨o, B + 1, dr⟩ s) (h : ∀ t s', Sd w h₀ L m own g ⟨o, B + 1, dr⟩ s' → Q (.str (replAll x (escK ++ tblOf sgs)) t) s') : WP w A (call (.ref 60) [.str x t, .ref tb]) Q s := by
  obtain ⟨f, F, rfl⟩ := ctx_of htb
  exact escape_spec C F D (by omega) (by show 1 ≤ B + 1; omega) tk_apart (by unfold tblOf; rw [List.length_map]; omega) hf h
theorem unescape_at {bk : Addr} {sgs : List Str} {t : Tok} {Q : Value → Shared → Prop} (C : Fx w n A env h₀ L path) (hn : n ≤ 300) (hs : sgs.length ≤ 8) (hf : FitR x (uneK ++ bckOf sgs ++ uneE)) (hbk : OAt own bk (tabA w (TkR B) (TkP B) (bckOf sgs)))
    (D : Sd w h₀ L m own g ⟨o, B + 1, dr⟩ s) (h : ∀ t s', Sd w h₀ L m own g ⟨o, B + 1, dr⟩ s' → Q (.str (replAll x (uneK ++ bckOf sgs ++ uneE)) t) s') : WP w A (call (.ref 69) [.str x t, .ref bk]) Q s := by
  obtain ⟨f, F, rfl⟩ := ctx_of hbk
  exact unescape_spec C F D (by omega) (by show 1 ≤ B + 1; omega) (fun t u h1 h2 => let ⟨a, b, c⟩ := tk_apart u t h2 h1; ⟨b, a, Ne.symm c⟩) (by unfold bckOf; rw [List.length_map]; omega) hf h
theorem law_s5 {ws sgs : List Str} {d tb : Addr} {to : Tok} {Q : Flow → Shared → Prop} (V : Nv env (scopeAt [37]) (lawCl (L + 1))) (C : Fx w n A env h₀ L [37]) (hn : n ≤ 100) (htl : TlS tl)
    (hW : WOk 120 ws) (hs : sgs.length ≤ 8) (hf : FitR (ownT ws) (escK ++ tblOf sgs)) (hd : OAt own d (.strs ws)) (h771 : OAt own 771 tblA) (htb : OAt own tb (tabA w (TkP B) (TkR B) (tblOf sgs))) (htc : OAt own (L + 3) (.cell (some (.ref tb))))
    (D : Sd w h₀ L (("script", .ref a) :: ("words", .ref d) :: (tl ++ ([("own", .str (ownT ws) to)] : Ls))) own Bare ⟨o, B + 1, dr⟩ s)
    (h : ∀ t s', Sd w h₀ L (("script", .ref a) :: ("words", .ref d) :: (tl ++ ([("own", .str (ownT ws) to), ("line", .str (lineT sgs ws) t)] : Ls))) own Bare ⟨o, B + 1, dr⟩ s' → WP w A (execs (lawB 9) env) Q s') :
    WP w A (execs (lawB 8) env) Q s := by
  conv in lawB 8 => whnf
  unfold lawCl at V
  repeat walk_at "x"
  refine join_at C (by omega) (fun x hx => Nat.le_trans (hW.2 x hx).1 (by omega)) (Nat.le_trans hW.1 (by omega)) (own_ok hW) hd h771 (by assumption) ?_
  intro t1 s D
  repeat walk_at "x"
  refine escape_at C (by omega) hs hf htb D ?_
  intro t2 s D
  walk_at "x"
  rename_i s D
  exact h _ _ D
end
end
section
def nmK : List (Str × Str) := [("&", "&amp;"), ("<", "&lt;"), (">", "&gt;")]
def nmA (w : World) : AO := .any fun o => ∃ t1 t2 t3, o.IsDictOf (strKind pw w) [("&", .str "&amp;" t1), ("<", .str "&lt;" t2), (">", .str "&gt;" t3)]
def nmD : List (PyData × PyData) := [(.str "&", .str "&amp;"), (.str "<", .str "&lt;"), (.str ">", .str "&gt;")]
theorem nm_nd : (strKeysOf nmD).Nodup := by decide +kernel
section
variable {w : World} {n : Nat} {A : Around} {env env₀ : Env} {h₀ : Heap} {L : Addr} {m m' : List (Str × Value)} {own own' : List (Addr × AO)} {g : GP} {os : Osb} {s : Shared} {path₀ path : List Nat} {x y : Str} {a b d : Addr} {ao ao' : AO} {tl : Ls} {t : Tok}
theorem x_names {pos p1 p2 p3 p4 p5 p6 : Pos} {k1 k2 k3 k4 k5 k6 : Nat} {Q : Value → Shared → Prop} (D : Sd w h₀ L m own g os s) (h : ∀ d s', Sd w h₀ L m ((d, nmA w) :: own) g os s' → Q (.ref d) s') :
    WP w A (eval (.Dict [some (.Constant (.str "&") k1 p1), some (.Constant (.str "<") k2 p2), some (.Constant (.str ">") k3 p3)] [.Constant (.str "&amp;") k4 p4, .Constant (.str "&lt;") k5 p5, .Constant (.str "&gt;") k6 p6] pos) env) Q s := by
  obtain ⟨news, l, ow⟩ := D.led
  refine .of (wpAny_with_toks (Nat.le_refl _) (Dict_lits_str (D := nmD) (by rfl) (by rfl) nm_nd rfl rfl (by simp) (show 3 ≤ 15 by decide) fun a o h₁ tk hle ho hT hk hle2 => ?_))
  obtain ⟨kvs, hd, hf⟩ := hT
  have F : Fr h₀ L h₁ (fun x => m.lookup x) := ⟨l.fr.ns.keeps hk, fun b o e => hk b o (l.fr.keep b o e), l.fr.above⟩
  have nL : a ≠ L := Nat.ne_of_gt (Nat.lt_of_lt_of_le l.fr.ns.lt hle)
  have n0 : h₀.get? a = none := by
    cases q : h₀.get? a with
    | none => rfl
    | some o => exact absurd (Nat.lt_of_lt_of_le (Heap.lt_size (l.fr.keep _ _ q)) hle) (Nat.lt_irrefl _)
  refine h _ _ (Sd.new (o := o) l ow D.gens D.osq F (fun p hp => ?_) (fun p hp => Nat.lt_of_lt_of_le (Heap.lt_size (l.nw p hp).1) hle) ?_ (Nat.le_trans D.pos hle2))
  · rcases List.mem_cons.mp hp with rfl | hp
    · exact ⟨ho, nL, n0⟩
    · exact ⟨hk _ _ (l.nw p hp).1, (l.nw p hp).2⟩
  · unfold nmD at hf
    cases hf with
    | cons f1 hf =>
      cases hf with
      | cons f2 hf =>
        cases hf with
        | cons f3 hf =>
          cases hf
          obtain ⟨t1, rfl⟩ := f1.str_inv
          obtain ⟨t2, rfl⟩ := f2.str_inv
          obtain ⟨t3, rfl⟩ := f3.str_inv
          exact ⟨t1, t2, t3, hd⟩
theorem r_nget {dv : Value} {Q : Value → Shared → Prop} (C : Fx w n A env₀ h₀ L path) (D : Sd w h₀ L m own g os s) (hm : OAt own d (nmA w))
    (h1 : ∀ y u s', nmK.lookup x = some y → Sd w h₀ L m own g os s' → Q (.str y u) s') (h2 : ∀ s', nmK.lookup x = none → Sd w h₀ L m own g os s' → Q dv s') : WP w A (call (.builtin "dict.get") [.ref d, .str x t, dv]) Q s := by
  obtain ⟨o, e1, t1, t2, t3, hd⟩ := D.get hm
  have hkey : (strKind pw w).is x (.str x t) = true := beq_self_eq_true x
  have hD : s.heap.DictOf (strKind pw w) d [("&", .str "&amp;" t1), ("<", .str "&lt;" t2), (">", .str "&gt;" t3)] := Heap.dictOf_iff.mpr ⟨o, e1, hd⟩
  refine .of (call_meetsIn PySem.F.slot_dict_get hD.typeIs PySem.F.entry_dict_get (PySem.F.args_dict_get_3 _ _ _) (meets_dict_get_default (strKind pw w) d hkey (D.notSys C hm) dv) ⟨_, hD.mapOf, ?_⟩)
  have eL : ∀ k, nmK.lookup k = if k = ("&" : Str) then some ("&amp;" : Str) else if k = ("<" : Str) then some ("&lt;" : Str) else if k = (">" : Str) then some ("&gt;" : Str) else none := fun k => by
    unfold nmK
    simp only [List.lookup]
    by_cases q1 : k = "&"
    · simp [q1]
    · rw [beq_false_of_ne q1, if_neg q1]
      by_cases q2 : k = "<"
      · simp [q2]
      · rw [beq_false_of_ne q2, if_neg q2]
        by_cases q3 : k = ">"
        · simp [q3]
        · rw [beq_false_of_ne q3, if_neg q3]
          first | done | rfl
  have eV : valueAt ([("&", .str "&amp;" t1), ("<", .str "&lt;" t2), (">", .str "&gt;" t3)] : List (Str × Value)) x = if ("&" : Str) = x then some (.str "&amp;" t1) else if ("<" : Str) = x then some (.str "&lt;" t2) else if (">" : Str) = x then some (.str "&gt;" t3) else none := by
    unfold valueAt
    simp only [List.find?]
    by_cases q1 : ("&" : Str) = x
    · simp [q1]
    · rw [decide_eq_false q1, if_neg q1]
      by_cases q2 : ("<" : Str) = x
      · simp [q2]
      · rw [decide_eq_false q2, if_neg q2]
        by_cases q3 : (">" : Str) = x
        · simp [q3]
        · rw [decide_eq_false q3, if_neg q3]
          rfl
  rw [eV]
  have hl := eL x
  by_cases q1 : ("&" : Str) = x
  · rw [if_pos q1]
    exact h1 "&amp;" t1 _ (by rw [hl, if_pos q1.symm]) (D.tok _)
  · rw [if_neg q1]
    rw [if_neg (Ne.symm q1)] at hl
    by_cases q2 : ("<" : Str) = x
    · rw [if_pos q2]
      exact h1 "&lt;" t2 _ (by rw [hl, if_pos q2.symm]) (D.tok _)
    · rw [if_neg q2]
      rw [if_neg (Ne.symm q2)] at hl
      by_cases q3 : (">" : Str) = x
      · rw [if_pos q3]
        exact h1 "&gt;" t3 _ (by rw [hl, if_pos q3.symm]) (D.tok _)
      · rw [if_neg q3]
        rw [if_neg (Ne.symm q3)] at hl
        exact h2 _ hl (D.tok _)
end
end
section
local macro_rules | `(tactic| walk_at "m_at") => `(tactic| ((with_reducible show MAt (_ ++ _) _ _); (with_reducible apply TlS.at_); assumption; kernel_rfl; walk_at "m_at"))
local macro_rules | `(tactic| walk_at "m_put") => `(tactic| ((with_reducible show MPut (_ ++ _) _ _ _); (with_reducible apply TlS.put); assumption; kernel_rfl; walk_at "m_put"))
def mapC (sgs : List Str) (c : Nat) : Str := match nmK.lookup ⟨#[c]⟩ with
  | some y => y
  | none => match (tblOf sgs).lookup ⟨#[c]⟩ with
    | some y => y
    | none => ⟨#[c]⟩
def partT (sgs : List Str) (y : Str) : Str := Txt.join "" (y.cps.toList.map (mapC sgs))
def partsT (sgs ws : List Str) : List Str := (Txt.split (ownT ws) "-#").map (partT sgs)
theorem lookup_mem {x y : Str} : ∀ {l : List (Str × Str)}, l.lookup x = some y → (x, y) ∈ l
  | [], h => nomatch h
  | (a, b) :: r, h => by
    rw [List.lookup_cons] at h
    by_cases q : x = a
    · subst q
      rw [beq_self_eq_true] at h
      cases h
      exact .head _
    · rw [beq_false_of_ne q] at h
      exact .tail _ (lookup_mem h)
theorem mapC_len {sgs : List Str} (hmem : ∀ x ∈ sgs, x ∈ sgn08) (c : Nat) : (mapC sgs c).length ≤ 10 := by
  unfold mapC
  split
  · rename_i y h
    have : ∀ p ∈ nmK, p.2.length ≤ 10 := by decide +kernel
    exact this _ (lookup_mem h)
  · split
    · rename_i y h
      obtain ⟨x, hx, e⟩ := List.mem_map.mp (lookup_mem h)
      cases e
      have : ∀ x ∈ sgn08, (refT x).length ≤ 10 := by decide +kernel
      exact this _ (hmem _ hx)
    · exact Nat.le_of_ble_eq_true rfl
section
variable {w : World} {n : Nat} {A : Around} {env env₀ : Env} {h₀ : Heap} {L : Addr} {m m' : List (Str × Value)} {own own' : List (Addr × AO)} {g : GP} {o : OsState} {B : Nat} {dr : Drawn} {os : Osb} {s : Shared} {path₀ path : List Nat} {x y : Str} {a b d : Addr} {ao ao' : AO} {tl : Ls}
theorem r_nmeth {pl : Sem Bool} {Q : Value × List Value → Shared → Prop} (D : Sd w h₀ L m own g os s) (hm : OAt own d (nmA w)) (h : Q (.builtin "dict.get", [.ref d]) s) : WP w A (getMethod (.ref d) "get" pl) Q s := by
  obtain ⟨o, e1, t1, t2, t3, hd⟩ := D.get hm
  have hD : s.heap.DictOf (strKind pw w) d _ := Heap.dictOf_iff.mpr ⟨o, e1, hd⟩
  exact .of (getMethod_builtin hD.typeIs PySem.F.plainAttrs_dict PySem.F.slot_dict_get PySem.F.type_dict_get hD.mapOf.noDict h)
set_option maxHeartbeats 2000000 in
theorem law_s6 {ws sgs : List Str} {d tb : Addr} {to tln : Tok} {f : AO → Os} {Q : Flow → Shared → Prop} (V : Nv env (scopeAt [37]) (lawCl (L + 1))) (C : Fx w n A env h₀ L [37]) (hn : n ≤ 100) (htl : TlS tl)
    (hmem : ∀ x ∈ sgs, x ∈ sgn08) (hO : (ownT ws).length ≤ 10000) (F : Ctx f (L + 5)) (htb : ∀ x, OAt (f x) tb (tabA w (TkP B) (TkR B) (tblOf sgs))) (htc : ∀ x, OAt (f x) (L + 3) (.cell (some (.ref tb))))
    (D : Sd w h₀ L (("script", .ref a) :: ("words", .ref d) :: (tl ++ ([("own", .str (ownT ws) to), ("line", .str (lineT sgs ws) tln)] : Ls))) (f (.cell none)) g os s)
    (h : ∀ pt nm s', Sd w h₀ L (("script", .ref a) :: ("words", .ref d) :: (tl ++ ([("own", .str (ownT ws) to), ("line", .str (lineT sgs ws) tln), ("parts", .ref pt)] : Ls))) ((pt, .strs (partsT sgs ws)) :: (nm, nmA w) :: f (.cell (some (.ref nm)))) g os s' → WP w A (execs (lawB 11) env) Q s') :
    WP w A (execs (lawB 9) env) Q s := by
  conv in lawB 9 => whnf
  unfold lawCl at V
  repeat walk_at "x"
  refine x_names (by assumption) ?_
  intro nm s D
  refine r_stk V D (by walk_at "c_at") (.tail (F.put _ (.cell (some (.ref nm))))) (by kernel_rfl) ?_
  intro s D
  have htb' := htb (.cell (some (.ref nm)))
  have htc' := htc (.cell (some (.ref nm)))
  have hnc := F.at (a := .cell (some (.ref nm)))
  generalize hown : f (.cell (some (.ref nm))) = own at *
  repeat walk_at "x"
  refine x_compA [("table", L + 3), ("names", L + 5)] V (by assumption) ?_ (sw_loc V (by kernel_rfl) (by unfold Env.blockKind; rw [V.kf]; rfl) (by kernel_rfl) (by kernel_rfl)) (by kernel_rfl!) (by kernel_rfl) (by kernel_rfl) (by kernel_rfl) (by kernel_rfl) (fun _ => rfl)
  repeat walk_at "x"
  refine r_split (by assumption) (by kernel_rfl) (by unfold sizeLine; omega) ?_
  intro b s D
  refine r_iter D .head las_strs ?_
  intro I s D
  have hcnt := split_le (ownT ws) "-#"
  refine ⟨I, (Txt.split (ownT ws) "-#").length, _, _, _, fun j zs => StrsAre zs (((Txt.split (ownT ws) "-#").take j).map (partT sgs)), _, rfl, it_list C.hand las_strs (fun vs e => e.length), D, .head, .nil, by omega, ?_, ?_⟩
  · rintro j v zs cenv D0 s hj ⟨vs, hvs, hv⟩ hJ V2 D
    obtain ⟨y, t, rfl, hy⟩ := strs_at hvs hv
    have hym : y ∈ Txt.split (ownT ws) "-#" := List.mem_of_getElem? hy
    have hyl : y.length ≤ 10000 := Nat.le_trans (part_short hym) hO
    have hys : y.cps.size ≤ 10000 := hyl
    repeat walk_at "x"
    refine x_comp [("table", L + 3), ("names", L + 5)] V2 (by assumption) ?_ (by kernel_rfl!) (by kernel_rfl) (by kernel_rfl) (by kernel_rfl) (by kernel_rfl) (fun _ => rfl)
    repeat walk_at "x"
    refine r_iterS (by assumption) ?_
    intro I2 s D
    refine ⟨I2, _, _, _, _, fun j zs => StrsAre zs ((y.cps.toList.take j).map (mapC sgs)), _, rfl, it_str C.hand, D, trivial, .nil, by omega, ?_, ?_⟩
    · rintro i v us cenv2 D2 s hi ⟨c, u, hc, rfl⟩ hJ2 V3 D
      have ec : y.cps.toList[i]? = some c := by rw [← hc]; simp
      have fin : ∀ t, StrsAre (us ++ [.str (mapC sgs c) t]) ((y.cps.toList.take (i + 1)).map (mapC sgs)) := fun t => by
        rw [List.take_add_one, ec, List.map_append]
        exact strsAre_append hJ2 (.cons _ _ .nil)
      unfold mapC at fin
      repeat walk_at "x"
      refine r_nmeth (by assumption) (by walk_at "o_at") ?_
      repeat walk_at "x"
      refine r_tget C (by assumption) (by walk_at "o_at") ?_ ?_
      · intro z u2 s hz _ D
        refine r_nget C D (by walk_at "o_at") ?_ ?_
        · intro z2 u3 s hz2 D
          have fin' := fin u3
          rw [hz2] at fin'
          exact ⟨fin', by assumption⟩
        · intro s hz2 D
          have fin' := fin u2
          rw [hz2, hz] at fin'
          exact ⟨fin', by assumption⟩
      · intro s hz D
        refine r_nget C D (by walk_at "o_at") ?_ ?_
        · intro z2 u3 s hz2 D
          have fin' := fin u3
          rw [hz2] at fin'
          exact ⟨fin', by assumption⟩
        · intro s hz2 D
          have fin' := fin u
          rw [hz2, hz] at fin'
          exact ⟨fin', by assumption⟩
    · intro D2 us C2 mC2 s hJ2 _ s' D
      have hJ3 : StrsAre us (y.cps.toList.map (mapC sgs)) := by
        have hJ4 : StrsAre us ((y.cps.toList.take y.cps.size).map (mapC sgs)) := hJ2
        rw [show y.cps.size = y.cps.toList.length from by simp, List.take_length] at hJ4
        exact hJ4
      refine r_join (T := fun _ => True) D .head las_list (fun vs e => by rw [e]; exact strsTk_true hJ3) (fun _ _ => trivial) (joinOk_of (B := 10) (fun z hz => ?_) ?_) ?_
      · obtain ⟨c, _, rfl⟩ := List.mem_map.mp hz
        exact mapC_len hmem c
      · have e0 : ("" : Str).length = 0 := by kernel_rfl
        have : y.cps.toList.length = y.cps.size := by simp
        rw [e0, List.length_map]
        omega
      intro tj s _ D
      refine ⟨?_, D.del .head⟩
      show StrsAre _ (((Txt.split (ownT ws) "-#").take (j + 1)).map (partT sgs))
      rw [List.take_add_one, hy, List.map_append]
      exact strsAre_append hJ (.cons _ _ .nil)
  · intro D0 zs C0 mC s hJ _ D
    have hJ3 : StrsAre zs (partsT sgs ws) := by
      have hJ4 : StrsAre zs (((Txt.split (ownT ws) "-#").take (Txt.split (ownT ws) "-#").length).map (partT sgs)) := hJ
      rw [List.take_length] at hJ4
      exact hJ4
    refine r_st C D (by walk_at "m_put") (by kernel_rfl!) ?_
    intro s D
    refine ⟨_, _, D, fun s' D => ?_⟩
    have D1 := (D.re (ao' := .strs (partsT sgs ws)) .head (fun o ⟨n, e⟩ => ⟨zs, n, e, hJ3⟩)).del (.tail .head)
    rw [← hown] at D1
    exact h _ _ _ D1
end
end
section
local macro_rules | `(tactic| walk_at "m_at") => `(tactic| ((with_reducible show MAt (_ ++ _) _ _); (with_reducible apply TlS.at_); assumption; kernel_rfl; walk_at "m_at"))
local macro_rules | `(tactic| walk_at "m_put") => `(tactic| ((with_reducible show MPut (_ ++ _) _ _ _); (with_reducible apply TlS.put); assumption; kernel_rfl; walk_at "m_put"))
def sepT (sgs : List Str) : Str := match (tblOf sgs).lookup ("-#" : Str) with
  | some y => y
  | none => "-#"
section
variable {w : World} {n : Nat} {A : Around} {env env₀ : Env} {h₀ : Heap} {L : Addr} {m m' : List (Str × Value)} {own own' : List (Addr × AO)} {g : GP} {o : OsState} {B : Nat} {dr : Drawn} {os : Osb} {s : Shared} {path₀ path : List Nat} {x y : Str} {a b d : Addr} {ao ao' : AO} {tl : Ls}
set_option maxHeartbeats 2000000 in
theorem law_s7 {ws sgs : List Str} {d tb bk pt : Addr} {to tln : Tok} {Q : Flow → Shared → Prop} (V : Nv env (scopeAt [37]) (lawCl (L + 1))) (C : Fx w n A env h₀ L [37]) (hn : n ≤ 100) (htl : TlS tl) (O : FrO A env own)
    (hW : WOk 120 ws) (hs : sgs.length ≤ 8) (hd : OAt own d (.strs ws)) (h771 : OAt own 771 tblA) (htb : OAt own tb (tabA w (TkP B) (TkR B) (tblOf sgs))) (htc : OAt own (L + 3) (.cell (some (.ref tb))))
    (hbk : OAt own bk (tabA w (TkR B) (TkP B) (bckOf sgs))) (hbc : OAt own (L + 4) (.cell (some (.ref bk)))) (hpt : OAt own pt (.strs (partsT sgs ws)))
    (hok : JoinOk (sepT sgs) (partsT sgs ws) = true) (hline : lineT sgs ws = Txt.join (sepT sgs) (partsT sgs ws)) (hf : FitR (lineT sgs ws) (uneK ++ bckOf sgs ++ uneE)) (hback : replAll (lineT sgs ws) (uneK ++ bckOf sgs ++ uneE) = ownT ws)
    (hO : (ownT ws).length ≤ 10000) (hrs : Reads (ownT ws).cps.toList (some .sp) ws)
    (D : Sd w h₀ L (("script", .ref a) :: ("words", .ref d) :: (tl ++ ([("own", .str (ownT ws) to), ("line", .str (lineT sgs ws) tln), ("parts", .ref pt)] : Ls))) own Bare ⟨o, B + 1, dr⟩ s)
    (h : ∀ s', Sd w h₀ L (("script", .ref a) :: ("words", .ref d) :: (tl ++ ([("own", .str (ownT ws) to), ("line", .str (lineT sgs ws) tln), ("parts", .ref pt)] : Ls))) own Bare ⟨o, B + 1, dr⟩ s' → WP w A (execs (lawB 13) env) Q s') :
    WP w A (execs (lawB 11) env) Q s := by
  conv in lawB 11 => whnf
  unfold lawCl at V
  repeat walk_at "x"
  refine join_at C (by omega) (fun x hx => Nat.le_trans (hW.2 x hx).1 (by omega)) (Nat.le_trans hW.1 (by omega)) (own_ok hW) hd h771 (by assumption) ?_
  intro t1 s D
  repeat walk_at "x"
  refine ite_df (by simp) ?_
  repeat walk_at "x"
  refine WP.mono (r_tget (Q := fun v s' => ∃ u, v = .str (sepT sgs) u ∧ Sd w h₀ L (("script", .ref a) :: ("words", .ref d) :: (tl ++ ([("own", .str (ownT ws) to), ("line", .str (lineT sgs ws) tln), ("parts", .ref pt)] : Ls))) own Bare ⟨o, B + 1, dr⟩ s') C (by assumption) htb (fun y u s' hz _ D => ⟨u, by unfold sepT; rw [hz], D⟩) (fun s' hz D => ⟨_, by unfold sepT; rw [hz], D⟩)) ?_
  rintro v s ⟨u, rfl, D⟩
  repeat walk_at "x"
  refine r_join (T := fun _ => True) (by assumption) hpt las_strs (fun vs e => strsTk_true e) (fun _ _ => trivial) hok ?_
  intro tj s _ D
  repeat walk_at "x"
  refine ite_df (by rw [hline]; simp) ?_
  repeat walk_at "x"
  refine unescape_at C (by omega) hs hf hbk (by assumption) ?_
  intro t2 s D
  rw [hback]
  repeat walk_at "x"
  refine split_spec hrs C O (by omega) (by omega) (by have := hW.1; omega) (by assumption) ?_
  intro S s D
  repeat walk_at "x"
  refine r_neSS C (by assumption) (by omega) hW.all hW.all .head las_strs (.tail hd) las_strs ?_
  repeat walk_at "x"
  refine ite_df (by simp) ?_
  try (refine x_nil ?_)
  exact h _ (D.del .head)
end
end
section
local macro_rules | `(tactic| walk_at "m_at") => `(tactic| ((with_reducible show MAt (_ ++ _) _ _); (with_reducible apply TlS.at_); assumption; kernel_rfl; walk_at "m_at"))
local macro_rules | `(tactic| walk_at "m_put") => `(tactic| ((with_reducible show MPut (_ ++ _) _ _ _); (with_reducible apply TlS.put); assumption; kernel_rfl; walk_at "m_put"))
/-- a word escaped -/
def escW (sgs : List Str) (x : Str) : Str := replAll x (escK ++ tblOf sgs)
def uneW (sgs : List Str) (x : Str) : Str := replAll x (uneK ++ bckOf sgs ++ uneE)
def otherT (sgs ws : List Str) : Str := ownT (ws.map (escW sgs))
section
variable {w : World} {n : Nat} {A : Around} {env env₀ : Env} {h₀ : Heap} {L : Addr} {m m' : List (Str × Value)} {own own' : List (Addr × AO)} {g : GP} {o : OsState} {B : Nat} {dr : Drawn} {os : Osb} {s : Shared} {path₀ path : List Nat} {x y : Str} {a b d : Addr} {ao ao' : AO} {tl : Ls}
set_option maxHeartbeats 2000000 in
theorem law_s8 {ws sgs : List Str} {d tb bk pt : Addr} {to tln : Tok} {Q : Flow → Shared → Prop} (V : Nv env (scopeAt [37]) (lawCl (L + 1))) (C : Fx w n A env h₀ L [37]) (hn : n ≤ 100) (htl : TlS tl) (O : FrO A env own)
    (hW : WOk 120 ws) (hs : sgs.length ≤ 8) (hd : OAt own d (.strs ws)) (h771 : OAt own 771 tblA) (htb : OAt own tb (tabA w (TkP B) (TkR B) (tblOf sgs))) (htc : OAt own (L + 3) (.cell (some (.ref tb))))
    (hbk : OAt own bk (tabA w (TkR B) (TkP B) (bckOf sgs))) (hbc : OAt own (L + 4) (.cell (some (.ref bk))))
    (hf : ∀ x ∈ ws, FitR x (escK ++ tblOf sgs)) (hf2 : ∀ x ∈ ws, FitR (escW sgs x) (uneK ++ bckOf sgs ++ uneE)) (hback : ∀ x ∈ ws, uneW sgs (escW sgs x) = x) (hel : ∀ x ∈ ws, (escW sgs x).length ≤ 10000)
    (hok : JoinOk " " ((ws.map (escW sgs)).map quoteT) = true) (hO : (otherT sgs ws).length ≤ 100000) (hrs : Reads (otherT sgs ws).cps.toList (some .sp) (ws.map (escW sgs)))
    (D : Sd w h₀ L (("script", .ref a) :: ("words", .ref d) :: (tl ++ ([("own", .str (ownT ws) to), ("line", .str (lineT sgs ws) tln), ("parts", .ref pt)] : Ls))) own Bare ⟨o, B + 1, dr⟩ s)
    (h : ∀ t s', Sd w h₀ L (("script", .ref a) :: ("words", .ref d) :: (tl ++ ([("own", .str (ownT ws) to), ("line", .str (lineT sgs ws) tln), ("parts", .ref pt), ("other", .str (otherT sgs ws) t)] : Ls))) own Bare ⟨o, B + 1, dr⟩ s' → WP w A (execs (lawB 15) env) Q s') :
    WP w A (execs (lawB 13) env) Q s := by
  conv in lawB 13 => whnf
  unfold lawCl at V
  repeat walk_at "x"
  refine x_comp [("table", L + 3)] V (by assumption) ?_ (by kernel_rfl!) (by kernel_rfl) (by kernel_rfl) (by kernel_rfl) (by kernel_rfl) (fun _ => rfl)
  repeat walk_at "x"
  refine r_iter (by assumption) hd las_strs ?_
  intro I s D
  refine ⟨I, ws.length, _, _, _, fun j zs => StrsAre zs ((ws.take j).map (escW sgs)), _, rfl, it_list C.hand las_strs (fun vs e => e.length), D, (by exact hd), .nil, by have := hW.1; omega, ?_, ?_⟩
  · rintro j v zs cenv D0 s hj ⟨vs, hvs, hv⟩ hJ V2 D
    obtain ⟨x, t, rfl, hx⟩ := strs_at hvs hv
    have hxm : x ∈ ws := List.mem_of_getElem? hx
    repeat walk_at "x"
    refine escape_at C (by omega) hs (hf x hxm) (.tail (.tail (.tail htb))) (by assumption) ?_
    intro t2 s D
    refine ⟨?_, D⟩
    show StrsAre _ ((ws.take (j + 1)).map (escW sgs))
    rw [List.take_add_one, hx, List.map_append]
    exact strsAre_append hJ (.cons _ _ .nil)
  · intro D0 zs C0 mC s hJ _ s' D
    have hJ3 : StrsAre zs (ws.map (escW sgs)) := by
      have hJ4 : StrsAre zs ((ws.take ws.length).map (escW sgs)) := hJ
      rw [List.take_length] at hJ4
      exact hJ4
    replace D := D.re (ao' := .strs (ws.map (escW sgs))) .head (fun o ⟨n, e⟩ => ⟨zs, n, e, hJ3⟩)
    repeat walk_at "x"
    refine join_at C (by omega) (fun x hx => by obtain ⟨y, hy, rfl⟩ := List.mem_map.mp hx; exact Nat.le_trans (hel y hy) (by omega)) (by rw [List.length_map]; exact Nat.le_trans hW.1 (by omega)) hok .head (.tail h771) (by assumption) ?_
    intro t1 s D
    replace D := D.del .head
    repeat walk_at "x"
    refine x_comp [("back", L + 4)] V (by assumption) ?_ (by kernel_rfl!) (by kernel_rfl) (by kernel_rfl) (by kernel_rfl) (by kernel_rfl) (fun _ => rfl)
    repeat walk_at "x"
    refine split_spec hrs C O (by omega) hO (by rw [List.length_map]; have := hW.1; omega) (by assumption) ?_
    intro S s D
    refine r_iter D .head las_strs ?_
    intro I s D
    refine ⟨I, ws.length, _, _, _, fun j zs => StrsAre zs (ws.take j), _, rfl, it_list C.hand las_strs (fun vs e => by rw [e.length, List.length_map]), D, .head, .nil, by have := hW.1; omega, ?_, ?_⟩
    · rintro j v zs cenv D1 s hj ⟨vs, hvs, hv⟩ hJ V2 D
      obtain ⟨e, t, rfl, he⟩ := strs_at hvs hv
      rw [List.getElem?_map] at he
      obtain ⟨x, hx, rfl⟩ := Option.map_eq_some_iff.mp he
      have hxm : x ∈ ws := List.mem_of_getElem? hx
      repeat walk_at "x"
      refine unescape_at C (by omega) hs (hf2 x hxm) (.tail (.tail (.tail (.tail hbk)))) (by assumption) ?_
      intro t2 s D
      refine ⟨?_, D⟩
      show StrsAre (zs ++ [.str (uneW sgs (escW sgs x)) t2]) (ws.take (j + 1))
      rw [List.take_add_one, hx, hback x hxm]
      exact strsAre_append hJ (.cons _ _ .nil)
    · intro D1 zs C1 mC s hJ _ s' D
      have hJ3 : StrsAre zs ws := by
        have hJ4 : StrsAre zs (ws.take ws.length) := hJ
        rw [List.take_length] at hJ4
        exact hJ4
      replace D := D.re (ao' := .strs ws) .head (fun o ⟨n, e⟩ => ⟨zs, n, e, hJ3⟩)
      repeat walk_at "x"
      refine r_neSS C (by assumption) (by omega) hW.all hW.all .head las_strs (.tail (.tail hd)) las_strs ?_
      repeat walk_at "x"
      refine ite_df (by simp) ?_
      try (refine x_nil ?_)
      exact h _ _ ((D.del .head).del .head)
end
end
section
local macro_rules | `(tactic| walk_at "m_at") => `(tactic| ((with_reducible show MAt (_ ++ _) _ _); (with_reducible apply TlS.at_); assumption; kernel_rfl; walk_at "m_at"))
local macro_rules | `(tactic| walk_at "m_put") => `(tactic| ((with_reducible show MPut (_ ++ _) _ _ _); (with_reducible apply TlS.put); assumption; kernel_rfl; walk_at "m_put"))
section
variable {w : World} {n : Nat} {A : Around} {env env₀ : Env} {h₀ : Heap} {L : Addr} {m m' : List (Str × Value)} {own own' : List (Addr × AO)} {g : GP} {o : OsState} {B : Nat} {dr : Drawn} {os : Osb} {s : Shared} {path₀ path : List Nat} {x y : Str} {a b d l : Addr} {ao ao' : AO} {tl : Ls} {P : List Value → Prop} {t : Tok}
theorem r_inL {ys : List Str} {Q : Value → Shared → Prop} (D : Sd w h₀ L m own g os s) (hm : OAt own l ao) (hl : ListAs w ao P) (hP : ∀ vs, P vs → StrsAre vs ys) (h : Q (.bool (ys.any (· == x))) s) : WP w A (compareOp .In (.str x t) (.ref l)) Q s := by
  obtain ⟨vs, n, e1, e2, e3⟩ := D.isList hm hl
  exact .of (in_list_strs e2 (hP vs e3) h)
theorem r_ninL {ys : List Str} {Q : Value → Shared → Prop} (D : Sd w h₀ L m own g os s) (hm : OAt own l ao) (hl : ListAs w ao P) (hP : ∀ vs, P vs → StrsAre vs ys) (h : Q (.bool (!(ys.any (· == x)))) s) : WP w A (compareOp .NotIn (.str x t) (.ref l)) Q s := by
  obtain ⟨vs, n, e1, e2, e3⟩ := D.isList hm hl
  exact .of (notin_list_strs e2 (hP vs e3) h)
theorem r_eqB {p q : Bool} {Q : Value → Shared → Prop} (h : Q (.bool (p == q)) s) : WP w A (compareOp .Eq (.bool p) (.bool q)) Q s := .of (eq_bool h)
set_option maxHeartbeats 2000000 in
theorem law_s9 {ws sgs : List Str} {ys : List Value} {d sg pt : Addr} {to tln toth : Tok} {xo xl xt : Str} {Q : Flow → Shared → Prop} (V : Nv env (scopeAt [37]) (lawCl (L + 1))) (C : Fx w n A env h₀ L [37]) (hn : n ≤ 100) (htl : TlS tl)
    (hW : WOk 120 ws) (hd : OAt own d (.strs ws)) (hsc : OAt own (L + 2) (.cell (some (.ref sg)))) (hsg : OAt own sg (.list ys)) (hys : StrsAre ys sgs)
    (D : Sd w h₀ L (("script", .ref a) :: ("words", .ref d) :: (tl ++ ([("own", .str xo to), ("line", .str xl tln), ("parts", .ref pt), ("other", .str xt toth)] : Ls))) own g os s)
    (h : ∀ br s', Sd w h₀ L (("script", .ref a) :: ("words", .ref d) :: (tl ++ ([("own", .str xo to), ("line", .str xl tln), ("parts", .ref pt), ("other", .str xt toth), ("bare", .ref br), ("same", .bool (!(sgs.any (· == " ")) || decide (ws.length < 2)))] : Ls))) ((br, .strs (ws.filter isBare)) :: own) g os s' → WP w A (execs (lawB 17) env) Q s') :
    WP w A (execs (lawB 15) env) Q s := by
  conv in lawB 15 => whnf
  unfold lawCl at V
  repeat walk_at "x"
  refine x_compA [] V (by assumption) ?_ (sw_loc V (by kernel_rfl) (by unfold Env.blockKind; rw [V.kf]; rfl) (by kernel_rfl) (by kernel_rfl)) (by kernel_rfl!) (by kernel_rfl) (by kernel_rfl) (by kernel_rfl) (by kernel_rfl) (fun _ => rfl)
  repeat walk_at "x"
  refine r_iter (by assumption) hd las_strs ?_
  intro I s D
  refine ⟨I, ws.length, _, _, _, fun j zs => StrsAre zs ((ws.take j).filter isBare), _, rfl, it_list C.hand las_strs (fun vs e => e.length), D, (by exact hd), .nil, by have := hW.1; omega, ?_, ?_⟩
  · rintro j v zs cenv D0 s hj ⟨vs, hvs, hv⟩ hJ V2 D
    obtain ⟨x, t, rfl, hx⟩ := strs_at hvs hv
    have hxm : x ∈ ws := List.mem_of_getElem? hx
    obtain ⟨hx1, hx2⟩ := hW.2 x hxm
    repeat walk_at "x"
    refine is_bare_spec C (by assumption) (by omega) (by omega) hx2 ?_
    intro s D
    repeat walk_at "x"
    have et : (ws.take (j + 1)).filter isBare = (ws.take j).filter isBare ++ [x].filter isBare := by
      rw [List.take_add_one, hx, List.filter_append]
      rfl
    by_cases hb : isBare x = true
    · refine ite_kt hb ?_
      repeat walk_at "x"
      refine ⟨?_, by assumption⟩
      show StrsAre _ ((ws.take (j + 1)).filter isBare)
      rw [et, List.filter_cons_of_pos hb]
      exact strsAre_append hJ (.cons _ _ .nil)
    · refine ite_kf (by simpa using hb) ?_
      refine ⟨?_, by assumption⟩
      show StrsAre _ ((ws.take (j + 1)).filter isBare)
      rw [et, List.filter_cons_of_neg hb, List.filter_nil, List.append_nil]
      exact hJ
  · intro D0 zs C0 mC s hJ _ D
    have hJ3 : StrsAre zs (ws.filter isBare) := by
      have hJ4 : StrsAre zs ((ws.take ws.length).filter isBare) := hJ
      rw [List.take_length] at hJ4
      exact hJ4
    refine r_st C D (by walk_at "m_put") (by kernel_rfl!) ?_
    intro s D
    refine ⟨_, _, D, fun s' D => ?_⟩
    have D1 := (D.re (ao' := .strs (ws.filter isBare)) .head (fun o ⟨n, e⟩ => ⟨zs, n, e, hJ3⟩))
    clear D
    show WP w A (execs _ env) Q s'
    repeat walk_at "x"
    refine r_ninL (by assumption) (.tail hsg) las_list (fun vs e => by rw [e]; exact hys) ?_
    cases hq : (!(sgs.any (· == Str.ofString " "))) with
    | true =>
      rw [hq, Bool.true_or] at h
      refine t_bool ?_
      refine ite_kt rfl ?_
      walk_at "x"
      rename_i s D
      exact h _ _ D
    | false =>
      rw [hq, Bool.false_or] at h
      refine t_bool ?_
      refine ite_kf rfl ?_
      have e2 : decide ((ws.length : Int) < 2) = decide (ws.length < 2) := by
        by_cases q : ws.length < 2
        · rw [decide_eq_true q, decide_eq_true (by omega)]
        · rw [decide_eq_false q, decide_eq_false (by omega)]
      repeat walk_at "x"
      refine r_len (by assumption) (.tail hd) las_strs ws.length (fun vs e => e.length) (by have := hW.1; omega) ?_
      intro t s D
      walk_at "x"
      walk_at "x"
      rw [e2]
      walk_at "x"
      rename_i s D
      exact h _ _ D
end
end
section
local macro_rules | `(tactic| walk_at "m_at") => `(tactic| ((with_reducible show MAt (_ ++ _) _ _); (with_reducible apply TlS.at_); assumption; kernel_rfl; walk_at "m_at"))
local macro_rules | `(tactic| walk_at "m_put") => `(tactic| ((with_reducible show MPut (_ ++ _) _ _ _); (with_reducible apply TlS.put); assumption; kernel_rfl; walk_at "m_put"))
/-- the table's signs in a word, sign by sign -/
def inSg (sgs : List Str) (l : List Nat) : List Str := (l.filter fun c => sgs.any (· == ⟨#[c]⟩)).map fun c => ⟨#[c]⟩
def hasS (sgs : List Str) (x : Str) : Bool := decide (inSg sgs x.cps.toList ≠ [])
theorem inSg_pos {sgs : List Str} {c : Nat} (h : (sgs.any (· == ⟨#[c]⟩)) = true) : inSg sgs [c] = [⟨#[c]⟩] := by
  unfold inSg
  simp only [List.filter_cons, List.filter_nil]
  rw [if_pos h]
  rfl
theorem inSg_neg {sgs : List Str} {c : Nat} (h : ¬ (sgs.any (· == ⟨#[c]⟩)) = true) : inSg sgs [c] = [] := by
  unfold inSg
  simp only [List.filter_cons, List.filter_nil]
  rw [if_neg h]
  rfl
theorem inSg_ok {sgs : List Str} {x : Str} (hk : PyData.strOk x = true) : (inSg sgs x.cps.toList).all PyData.strOk = true := by
  rw [List.all_eq_true]
  intro y hy
  obtain ⟨c, hc, rfl⟩ := List.mem_map.mp hy
  have hm := (List.mem_filter.mp hc).1
  have := Array.all_eq_true'.mp hk c (Array.mem_toList_iff.mp hm)
  simpa [PyData.strOk] using this
section
variable {w : World} {n : Nat} {A : Around} {env env₀ : Env} {h₀ : Heap} {L : Addr} {m m' : List (Str × Value)} {own own' : List (Addr × AO)} {g : GP} {o : OsState} {B : Nat} {dr : Drawn} {os : Osb} {s : Shared} {path₀ path : List Nat} {x y : Str} {a b d l : Addr} {ao ao' : AO} {tl : Ls} {P : List Value → Prop} {t : Tok}
set_option maxHeartbeats 2000000 in
theorem law_s10 {ws bs sgs : List Str} {ys : List Value} {d sg pt br : Addr} {to tln toth : Tok} {xo xl xt : Str} {q0 : Bool} {Q : Flow → Shared → Prop} (V : Nv env (scopeAt [37]) (lawCl (L + 1))) (C : Fx w n A env h₀ L [37]) (hn : n ≤ 100) (htl : TlS tl)
    (hW : WOk 120 bs) (hd : OAt own br (.strs bs)) (hsc : OAt own (L + 2) (.cell (some (.ref sg)))) (hsg : OAt own sg (.list ys)) (hys : StrsAre ys sgs)
    (D : Sd w h₀ L (("script", .ref a) :: ("words", .ref d) :: (tl ++ ([("own", .str xo to), ("line", .str xl tln), ("parts", .ref pt), ("other", .str xt toth), ("bare", .ref br), ("same", .bool q0)] : Ls))) own g os s)
    (h : ∀ s', Sd w h₀ L (("script", .ref a) :: ("words", .ref d) :: (tl ++ ([("own", .str xo to), ("line", .str xl tln), ("parts", .ref pt), ("other", .str xt toth), ("bare", .ref br), ("same", .bool (if bs.filter (hasS sgs) ≠ [] then false else q0))] : Ls))) own g os s' → WP w A (execs (lawB 18) env) Q s') :
    WP w A (execs (lawB 17) env) Q s := by
  conv in lawB 17 => whnf
  unfold lawCl at V
  repeat walk_at "x"
  refine x_comp [("signs", L + 2)] V (by assumption) ?_ (by kernel_rfl!) (by kernel_rfl) (by kernel_rfl) (by kernel_rfl) (by kernel_rfl) (fun _ => rfl)
  repeat walk_at "x"
  refine r_iter (by assumption) hd las_strs ?_
  intro I s D
  refine ⟨I, bs.length, _, _, _, fun j zs => StrsAre zs ((bs.take j).filter (hasS sgs)), _, rfl, it_list C.hand las_strs (fun vs e => e.length), D, (by exact hd), .nil, by have := hW.1; omega, ?_, ?_⟩
  · rintro j v zs cenv D0 s hj ⟨vs, hvs, hv⟩ hJ V2 D
    obtain ⟨x, t, rfl, hx⟩ := strs_at hvs hv
    have hxm : x ∈ bs := List.mem_of_getElem? hx
    obtain ⟨hx1, hx2⟩ := hW.2 x hxm
    have hxs : x.cps.size ≤ 120 := hx1
    repeat walk_at "x"
    refine x_comp [("signs", L + 2)] V2 (by assumption) ?_ (by kernel_rfl!) (by kernel_rfl) (by kernel_rfl) (by kernel_rfl) (by kernel_rfl) (fun _ => rfl)
    repeat walk_at "x"
    refine r_iterS (by assumption) ?_
    intro I2 s D
    refine ⟨I2, _, _, _, _, fun i us => StrsAre us (inSg sgs (x.cps.toList.take i)), _, rfl, it_str C.hand, D, trivial, .nil, by omega, ?_, ?_⟩
    · rintro i v us cenv2 D2 s hi ⟨c, u, hc, rfl⟩ hJ2 V3 D
      have ec : x.cps.toList[i]? = some c := by rw [← hc]; simp
      have et : inSg sgs (x.cps.toList.take (i + 1)) = inSg sgs (x.cps.toList.take i) ++ inSg sgs [c] := by
        unfold inSg
        rw [List.take_add_one, ec, List.filter_append, List.map_append]
        rfl
      repeat walk_at "x"
      refine r_inL (ys := sgs) (by assumption) (by walk_at "o_at") las_list (fun vs e => by rw [e]; exact hys) ?_
      repeat walk_at "x"
      by_cases hc2 : sgs.any (· == ⟨#[c]⟩) = true
      · refine ite_kt hc2 ?_
        repeat walk_at "x"
        refine ⟨?_, by assumption⟩
        show StrsAre _ (inSg sgs (x.cps.toList.take (i + 1)))
        rw [et, inSg_pos hc2]
        exact strsAre_append hJ2 (.cons _ _ .nil)
      · refine ite_kf (Bool.eq_false_iff.mpr hc2) ?_
        refine ⟨?_, by assumption⟩
        show StrsAre _ (inSg sgs (x.cps.toList.take (i + 1)))
        rw [et, inSg_neg hc2, List.append_nil]
        exact hJ2
    · intro D2 us C2 mC2 s hJ2 _ s' D
      have hJ3 : StrsAre us (inSg sgs x.cps.toList) := by
        have hJ4 : StrsAre us (inSg sgs (x.cps.toList.take x.cps.size)) := hJ2
        rw [show x.cps.size = x.cps.toList.length from by simp, List.take_length] at hJ4
        exact hJ4
      replace D := D.re (ao' := .strs (inSg sgs x.cps.toList)) .head (fun o ⟨n, e⟩ => ⟨us, n, e, hJ3⟩)
      repeat walk_at "x"
      refine r_neSS C (by assumption) (by omega) (inSg_ok hx2) (by rfl) (.tail .head) las_strs .head las_strs0 ?_
      have et2 : (bs.take (j + 1)).filter (hasS sgs) = (bs.take j).filter (hasS sgs) ++ [x].filter (hasS sgs) := by
        rw [List.take_add_one, hx, List.filter_append]
        rfl
      repeat walk_at "x"
      by_cases hb : hasS sgs x = true
      · refine ite_kt hb ?_
        rename_i s D
        replace D := (D.del .head).del .head
        repeat walk_at "x"
        refine ⟨?_, by assumption⟩
        show StrsAre _ ((bs.take (j + 1)).filter (hasS sgs))
        rw [et2, List.filter_cons_of_pos hb]
        exact strsAre_append hJ (.cons _ _ .nil)
      · refine ite_kf (Bool.eq_false_iff.mpr hb) ?_
        rename_i s D
        refine ⟨?_, (D.del .head).del .head⟩
        show StrsAre _ ((bs.take (j + 1)).filter (hasS sgs))
        rw [et2, List.filter_cons_of_neg hb, List.filter_nil, List.append_nil]
        exact hJ
  · intro D0 zs C0 mC s hJ _ s' D
    have hJ3 : StrsAre zs (bs.filter (hasS sgs)) := by
      have hJ4 : StrsAre zs ((bs.take bs.length).filter (hasS sgs)) := hJ
      rw [List.take_length] at hJ4
      exact hJ4
    replace D := D.re (ao' := .strs (bs.filter (hasS sgs))) .head (fun o ⟨n, e⟩ => ⟨zs, n, e, hJ3⟩)
    repeat walk_at "x"
    refine r_neSS C (by assumption) (by omega) (List.all_eq_true.mpr fun y hy => (hW.2 y (List.mem_filter.mp hy).1).2) (by rfl) (.tail .head) las_strs .head las_strs0 ?_
    repeat walk_at "x"
    by_cases hb : bs.filter (hasS sgs) ≠ []
    · rw [if_pos hb] at h
      refine ite_dt hb ?_
      rename_i s D
      replace D := (D.del .head).del .head
      walk_at "x"
      walk_at "x"
      walk_at "x"
      walk_at "x"
      try (refine x_nil ?_)
      rename_i s D
      exact h _ D
    · rw [if_neg hb] at h
      refine ite_df hb ?_
      try (refine x_nil ?_)
      rename_i s D
      exact h _ ((D.del .head).del .head)
end
end
section
local macro_rules | `(tactic| walk_at "m_at") => `(tactic| ((with_reducible show MAt (_ ++ _) _ _); (with_reducible apply TlS.at_); assumption; kernel_rfl; walk_at "m_at"))
local macro_rules | `(tactic| walk_at "m_put") => `(tactic| ((with_reducible show MPut (_ ++ _) _ _ _); (with_reducible apply TlS.put); assumption; kernel_rfl; walk_at "m_put"))
section
variable {w : World} {n : Nat} {A : Around} {env env₀ : Env} {h₀ : Heap} {L : Addr} {m m' : List (Str × Value)} {own own' : List (Addr × AO)} {g : GP} {o : OsState} {B : Nat} {dr : Drawn} {os : Osb} {s : Shared} {path₀ path : List Nat} {x y : Str} {a b d l : Addr} {ao ao' : AO} {tl : Ls} {P : List Value → Prop} {t : Tok}
set_option maxHeartbeats 2000000 in
theorem law_s11 {ws bs sgs : List Str} {ys : List Value} {d sg pt br : Addr} {to tln toth : Tok} {xo xl xt : Str} {q0 : Bool} {Q : Flow → Shared → Prop} (V : Nv env (scopeAt [37]) (lawCl (L + 1))) (C : Fx w n A env h₀ L [37]) (hn : n ≤ 100) (htl : TlS tl)
    (hb : bs.length ≤ 120) (hw : ws.length ≤ 120) (hbr : OAt own br (.strs bs)) (hd : OAt own d (.strs ws)) (hsc : OAt own (L + 2) (.cell (some (.ref sg)))) (hsg : OAt own sg (.list ys)) (hys : StrsAre ys sgs)
    (D : Sd w h₀ L (("script", .ref a) :: ("words", .ref d) :: (tl ++ ([("own", .str xo to), ("line", .str xl tln), ("parts", .ref pt), ("other", .str xt toth), ("bare", .ref br), ("same", .bool q0)] : Ls))) own g os s)
    (h : ∀ s', Sd w h₀ L (("script", .ref a) :: ("words", .ref d) :: (tl ++ ([("own", .str xo to), ("line", .str xl tln), ("parts", .ref pt), ("other", .str xt toth), ("bare", .ref br), ("same", .bool (if sgs.any (· == "'") = true ∧ bs.length < ws.length then false else q0))] : Ls))) own g os s' → WP w A (execs (lawB 19) env) Q s') :
    WP w A (execs (lawB 18) env) Q s := by
  conv in lawB 18 => whnf
  unfold lawCl at V
  repeat walk_at "x"
  refine r_inL (ys := sgs) (by assumption) hsg las_list (fun vs e => by rw [e]; exact hys) ?_
  repeat walk_at "x"
  rename_i s D
  by_cases hq : sgs.any (· == Str.ofString "'") = true
  · refine ite_kt hq ?_
    repeat walk_at "x"
    refine r_len (by assumption) hbr las_strs bs.length (fun vs e => e.length) (by omega) ?_
    intro t s D
    repeat walk_at "x"
    refine r_len (by assumption) hd las_strs ws.length (fun vs e => e.length) (by omega) ?_
    intro t s D
    repeat walk_at "x"
    by_cases hlt : (bs.length : Int) < (ws.length : Int)
    · rw [if_pos ⟨hq, by omega⟩] at h
      refine ite_dt hlt ?_
      walk_at "x"
      walk_at "x"
      walk_at "x"
      walk_at "x"
      walk_at "x"
      walk_at "x"
      try (refine x_nil ?_)
      rename_i s D
      exact h _ D
    · rw [if_neg (fun z => hlt (by omega))] at h
      refine ite_df hlt ?_
      try (refine x_nil ?_)
      exact h _ D
  · rw [if_neg (fun z => hq z.1)] at h
    refine ite_kf (Bool.eq_false_iff.mpr hq) ?_
    walk_at "x"
    try (refine x_nil ?_)
    exact h _ D
def hasQ (x : Str) : Bool := decide (39 ∈ x.cps.toList)
set_option maxHeartbeats 2000000 in
theorem law_s12 {ws sgs : List Str} {ys : List Value} {d sg pt br : Addr} {to tln toth : Tok} {xo xl xt : Str} {q0 : Bool} {Q : Flow → Shared → Prop} (V : Nv env (scopeAt [37]) (lawCl (L + 1))) (C : Fx w n A env h₀ L [37]) (hn : n ≤ 100) (htl : TlS tl)
    (hW : WOk 120 ws) (hd : OAt own d (.strs ws)) (hsc : OAt own (L + 2) (.cell (some (.ref sg)))) (hsg : OAt own sg (.list ys)) (hys : StrsAre ys sgs)
    (D : Sd w h₀ L (("script", .ref a) :: ("words", .ref d) :: (tl ++ ([("own", .str xo to), ("line", .str xl tln), ("parts", .ref pt), ("other", .str xt toth), ("bare", .ref br), ("same", .bool q0)] : Ls))) own g os s)
    (h : ∀ s', Sd w h₀ L (("script", .ref a) :: ("words", .ref d) :: (tl ++ ([("own", .str xo to), ("line", .str xl tln), ("parts", .ref pt), ("other", .str xt toth), ("bare", .ref br), ("same", .bool (if sgs.any (· == "\"") = true ∧ ws.filter hasQ ≠ [] then false else q0))] : Ls))) own g os s' → WP w A (execs (lawB 20) env) Q s') :
    WP w A (execs (lawB 19) env) Q s := by
  conv in lawB 19 => whnf
  unfold lawCl at V
  repeat walk_at "x"
  refine r_inL (ys := sgs) (by assumption) hsg las_list (fun vs e => by rw [e]; exact hys) ?_
  repeat walk_at "x"
  rename_i s D
  by_cases hq : sgs.any (· == Str.ofString "\"") = true
  · refine ite_kt hq ?_
    repeat walk_at "x"
    refine x_comp [] V (by assumption) ?_ (by kernel_rfl!) (by kernel_rfl) (by kernel_rfl) (by kernel_rfl) (by kernel_rfl) (fun _ => rfl)
    repeat walk_at "x"
    refine r_iter (by assumption) hd las_strs ?_
    intro I s D
    refine ⟨I, ws.length, _, _, _, fun j zs => StrsAre zs ((ws.take j).filter hasQ), _, rfl, it_list C.hand las_strs (fun vs e => e.length), D, (by exact hd), .nil, by have := hW.1; omega, ?_, ?_⟩
    · rintro j v zs cenv D0 s hj ⟨vs, hvs, hv⟩ hJ V2 D
      obtain ⟨x, t, rfl, hx⟩ := strs_at hvs hv
      have et2 : (ws.take (j + 1)).filter hasQ = (ws.take j).filter hasQ ++ [x].filter hasQ := by
        rw [List.take_add_one, hx, List.filter_append]
        rfl
      have e39 : (Str.ofString "'") = ⟨#[39]⟩ := by kernel_rfl
      repeat walk_at "x"
      rw [e39]
      repeat walk_at "x"
      by_cases hb : 39 ∈ x.cps.toList
      · refine ite_kt (decide_eq_true hb) ?_
        repeat walk_at "x"
        refine ⟨?_, by assumption⟩
        show StrsAre _ ((ws.take (j + 1)).filter hasQ)
        have hp : hasQ x = true := decide_eq_true hb
        rw [et2, List.filter_cons_of_pos hp]
        exact strsAre_append hJ (.cons _ _ .nil)
      · refine ite_kf (decide_eq_false hb) ?_
        refine ⟨?_, by assumption⟩
        show StrsAre _ ((ws.take (j + 1)).filter hasQ)
        have hp : ¬ hasQ x = true := by unfold hasQ; rw [decide_eq_false hb]; decide
        rw [et2, List.filter_cons_of_neg hp, List.filter_nil, List.append_nil]
        exact hJ
    · intro D0 zs C0 mC s hJ _ s' D
      have hJ3 : StrsAre zs (ws.filter hasQ) := by
        have hJ4 : StrsAre zs ((ws.take ws.length).filter hasQ) := hJ
        rw [List.take_length] at hJ4
        exact hJ4
      replace D := D.re (ao' := .strs (ws.filter hasQ)) .head (fun o ⟨n, e⟩ => ⟨zs, n, e, hJ3⟩)
      repeat walk_at "x"
      refine r_neSS C (by assumption) (by omega) (List.all_eq_true.mpr fun y hy => (hW.2 y (List.mem_filter.mp hy).1).2) (by rfl) (.tail .head) las_strs .head las_strs0 ?_
      repeat walk_at "x"
      by_cases hb : ws.filter hasQ ≠ []
      · rw [if_pos ⟨hq, hb⟩] at h
        refine ite_dt hb ?_
        rename_i s D
        replace D := (D.del .head).del .head
        walk_at "x"
        walk_at "x"
        walk_at "x"
        walk_at "x"
        walk_at "x"
        walk_at "x"
        try (refine x_nil ?_)
        rename_i s D
        exact h _ D
      · rw [if_neg (fun z => hb z.2)] at h
        refine ite_df hb ?_
        try (refine x_nil ?_)
        rename_i s D
        exact h _ ((D.del .head).del .head)
  · rw [if_neg (fun z => hq z.1)] at h
    refine ite_kf (Bool.eq_false_iff.mpr hq) ?_
    walk_at "x"
    try (refine x_nil ?_)
    exact h _ D
theorem law_s13 {d pt br : Addr} {to tln toth : Tok} {xo xl xt : Str} {q0 : Bool} {Q : Flow → Shared → Prop} (V : Nv env (scopeAt [37]) (lawCl (L + 1))) (C : Fx w n A env h₀ L [37]) (hn : n ≤ 100) (htl : TlS tl)
    (D : Sd w h₀ L (("script", .ref a) :: ("words", .ref d) :: (tl ++ ([("own", .str xo to), ("line", .str xl tln), ("parts", .ref pt), ("other", .str xt toth), ("bare", .ref br), ("same", .bool q0)] : Ls))) own g os s)
    (h : ∀ m s', Sd w h₀ L m own g os s' → Q (.ret (.bool (decide (xl = xt) == q0))) s') :
    WP w A (execs (lawB 20) env) Q s := by
  conv in lawB 20 => whnf
  unfold lawCl at V
  repeat walk_at "x"
  refine r_eqB ?_
  exact h _ _ (by assumption)
end
end
section
/-- what law's walk wants to know of the signs and words -/
structure LawOk (sgs ws : List Str) : Prop where
  ok : WOk 120 ws
  fitE : FitR (ownT ws) (escK ++ tblOf sgs)
  lenO : (ownT ws).length ≤ 10000
  joinP : JoinOk (sepT sgs) (partsT sgs ws) = true
  line : lineT sgs ws = Txt.join (sepT sgs) (partsT sgs ws)
  fitU : FitR (lineT sgs ws) (uneK ++ bckOf sgs ++ uneE)
  back : replAll (lineT sgs ws) (uneK ++ bckOf sgs ++ uneE) = ownT ws
  rdO : Reads (ownT ws).cps.toList (some .sp) ws
  fitW : ∀ x ∈ ws, FitR x (escK ++ tblOf sgs)
  fitV : ∀ x ∈ ws, FitR (escW sgs x) (uneK ++ bckOf sgs ++ uneE)
  backW : ∀ x ∈ ws, uneW sgs (escW sgs x) = x
  lenW : ∀ x ∈ ws, (escW sgs x).length ≤ 10000
  joinW : JoinOk " " ((ws.map (escW sgs)).map quoteT) = true
  lenT : (otherT sgs ws).length ≤ 100000
  rdT : Reads (otherT sgs ws).cps.toList (some .sp) (ws.map (escW sgs))
/-- law's own word on whether the two texts are the same -/
def sameT (sgs ws : List Str) : Bool :=
  if sgs.any (· == "\"") = true ∧ ws.filter hasQ ≠ [] then false else
  if sgs.any (· == "'") = true ∧ (ws.filter isBare).length < ws.length then false else
  if (ws.filter isBare).filter (hasS sgs) ≠ [] then false else
  (!(sgs.any (· == " ")) || decide (ws.length < 2))
section
variable {w : World} {n : Nat} {A : Around} {env env₀ : Env} {h₀ : Heap} {L : Addr} {m m' : List (Str × Value)} {own own' : List (Addr × AO)} {g : GP} {o : OsState} {B bd : Nat} {dr : Drawn} {os : Osb} {s : Shared} {path₀ path : List Nat} {x y : Str} {a b d l : Addr} {ao ao' : AO} {tl : Ls} {P : List Value → Prop} {t : Tok}
theorem law_body {rest : Os} {vs : List Value} {ns : List Int} {k : Nat} {Q : Flow → Shared → Prop} (V : Nv env (scopeAt [37]) (lawCl (L + 1))) (C : Fx w n A env h₀ L [37]) (hn : n ≤ 100) (hA : A.frames = some [env]) (hi : IntsAre vs ns) (hlen : ns.length ≤ 63) (har : OAt rest a (.raw (listOf vs.toArray k))) (h7r : OAt rest 771 tblA)
    (K : LawOk (lawSg (ns.headD 255)) (lawWs ns))
    (D : Sd w h₀ L [("script", .ref a)] ((L + 5, .cell none) :: (L + 4, .cell none) :: (L + 3, .cell none) :: (L + 2, .cell none) :: (L + 1, .cell none) :: rest) Bare ⟨o, 0, dr⟩ s)
    (h : ∀ m os' s', os'.os = o → Sd w h₀ L m rest Bare os' s' → Q (.ret (.bool (decide (lineT (lawSg (ns.headD 255)) (lawWs ns) = otherT (lawSg (ns.headD 255)) (lawWs ns)) == sameT (lawSg (ns.headD 255)) (lawWs ns)))) s') :
    WP w A (execs (lawB 0) env) Q s := by
  have O : ∀ own, FrO A env own := fun own => ⟨[], hA, fun e he => nomatch he⟩
  refine law_s1 V C hn hi hlen har D fun tf d s D => ?_
  generalize lawWs ns = ws at *
  generalize ns.headD 255 = f at *
  refine law_s2 V C hn (Nat.le_refl 1) D fun B sg ys s hys D => ?_
  have hm8 : ∀ x ∈ lawSg f, x ∈ sgn08 := fun x hx => sgn_mem (f := f) x hx (Nat.le_refl 8)
  have hs8 : (lawSg f).length ≤ 8 := by
    unfold lawSg lawSgN
    rw [List.length_map]
    exact Nat.le_trans (List.length_filter_le _ _) (by simp)
  refine law_s3 V C hn hys hm8 sgn_nodup hs8 D fun tl tb bk s htl D => ?_
  generalize lawSg f = sgs at *
  have hysA := hys.are
  refine law_s4 V C hn htl K.ok (by walk_at "o_at") D fun to s D => ?_
  refine law_s5 V C hn htl K.ok hs8 K.fitE (by walk_at "o_at") (by walk_at "o_at") (by walk_at "o_at") (by walk_at "o_at") D fun tln s D => ?_
  refine law_s6 (f := fun x => ((bk, tabA w (TkR B) (TkP B) (bckOf sgs)) :: (tb, tabA w (TkP B) (TkR B) (tblOf sgs)) :: (sg, .list ys) :: (d, .strs ws) :: (L + 5, x) :: (L + 4, .cell (some (.ref bk))) :: (L + 3, .cell (some (.ref tb))) :: (L + 2, .cell (some (.ref sg))) :: (L + 1, .cell (some (.int f tf))) :: rest))
    V C hn htl hm8 K.lenO ⟨fun _ _ => .tail (.tail (.tail (.tail .head)))⟩ (fun _ => by walk_at "o_at") (fun _ => by walk_at "o_at") D fun pt nm s D => ?_
  refine law_s7 V C hn htl (O _) K.ok hs8 (by walk_at "o_at") (by walk_at "o_at") (by walk_at "o_at") (by walk_at "o_at") (by walk_at "o_at") (by walk_at "o_at") .head K.joinP K.line K.fitU K.back K.lenO K.rdO D fun s D => ?_
  refine law_s8 V C hn htl (O _) K.ok hs8 (by walk_at "o_at") (by walk_at "o_at") (by walk_at "o_at") (by walk_at "o_at") (by walk_at "o_at") (by walk_at "o_at") K.fitW K.fitV K.backW K.lenW K.joinW K.lenT K.rdT D fun toth s D => ?_
  refine law_s9 V C hn htl K.ok (by walk_at "o_at") (by walk_at "o_at") (by walk_at "o_at") hysA D fun br s D => ?_
  have hWb : WOk 120 (ws.filter isBare) := ⟨Nat.le_trans (List.length_filter_le _ _) K.ok.1, fun x hx => K.ok.2 x (List.mem_filter.mp hx).1⟩
  refine law_s10 (ws := ws) V C hn htl hWb .head (by walk_at "o_at") (by walk_at "o_at") hysA D fun s D => ?_
  refine law_s11 V C hn htl hWb.1 K.ok.1 .head (by walk_at "o_at") (by walk_at "o_at") (by walk_at "o_at") hysA D fun s D => ?_
  refine law_s12 V C hn htl K.ok (by walk_at "o_at") (by walk_at "o_at") (by walk_at "o_at") hysA D fun s D => ?_
  refine law_s13 V C hn htl D fun m s D => ?_
  exact h m ⟨o, B + 1, dr⟩ s rfl ((((((((((((D.del .head).del .head).del .head).del .head).del .head).del .head).del .head).del .head).del .head).del .head).del .head).del .head)
end
end
section
/-- the words' signs in all -/
def tot (ws : List Str) : Nat := (ws.map (·.length)).sum
theorem tot_append (a b : List Str) : tot (a ++ b) = tot a + tot b := by unfold tot; rw [List.map_append, List.sum_append]
theorem tot_one (x : Str) : tot [x] = x.length := by unfold tot; simp
theorem step_tot (ws : List Str) (d : Int) : tot (lawStep ws d) ≤ tot ws + 1 := by
  have len : ∀ x : Str, (x ++ (⟨#[sign08 d.toNat]⟩ : Str)).length = x.length + 1 := fun x => by rw [Str.length_append]; rfl
  have e0 : (Str.ofString "").length = 0 := by kernel_rfl
  unfold lawStep
  split
  · rw [tot_append, tot_one, e0]
    omega
  · by_cases he : ws = []
    · rw [if_pos he, if_pos he, tot_append, tot_one, len, e0, he]
      exact Nat.le_refl _
    · rw [if_neg he, if_neg he, tot_append, tot_one, len]
      have hm := getLastD_mem ws (Str.ofString "") he
      have e : tot ws = tot ws.dropLast + (ws.getLastD (Str.ofString "")).length := by
        conv => lhs; rw [hm]
        rw [tot_append, tot_one]
      omega
theorem words_tot : ∀ (ds : List Int) (ws : List Str), tot (ds.foldl lawStep ws) ≤ tot ws + ds.length
  | [], _ => Nat.le_refl _
  | d :: r, ws => by
    have h1 := words_tot r (lawStep ws d)
    have h2 := step_tot ws d
    simp only [List.foldl_cons, List.length_cons]
    omega
theorem lawWs_tot (ns : List Int) : tot (lawWs ns) ≤ 120 := by
  unfold lawWs lawWords
  have h1 := words_tot (lawDigits ((ns.headD 255).fdiv 256 :: ns.drop 1)) []
  have h2 := (lawDigits_ok ((ns.headD 255).fdiv 256 :: ns.drop 1)).1
  have h3 : tot [] = 0 := rfl
  omega
theorem lawWs_ok (ns : List Int) : WOk 120 (lawWs ns) := by
  obtain ⟨h1, h2⟩ := lawDigits_ok ((ns.headD 255).fdiv 256 :: ns.drop 1)
  have h3 := words_ok 120 _ h2
  rw [List.take_of_length_le h1] at h3
  exact h3
theorem join_len (sep : Str) : ∀ ws : List Str, (Txt.join sep ws).length ≤ tot ws + ws.length * sep.length := fun ws => by
  have e : Txt.join sep ws = Str.join sep ws := StrLaws.glued_eq_join _ _
  rw [e]
  clear e
  induction ws with
  | nil => exact Nat.zero_le _
  | cons x r ih =>
    cases r with
    | nil =>
      show x.length ≤ _
      rw [tot_one]
      omega
    | cons y r =>
      show (x ++ sep ++ Str.join sep (y :: r)).length ≤ _
      have e1 : tot (x :: y :: r) = x.length + tot (y :: r) := by unfold tot; simp
      rw [Str.length_append, Str.length_append, e1]
      simp only [List.length_cons, Nat.succ_mul] at ih ⊢
      omega
theorem quote_len6 (x : Str) : (quoteT x).length ≤ 6 * x.length + 7 := by
  unfold quoteT
  split
  · omega
  · have := replace_len x "'" "'\"'\"'"
    have e : ("'\"'\"'" : Str).length = 5 := by kernel_rfl
    have e1 : ("'" : Str).length = 1 := by kernel_rfl
    rw [Str.length_append, Str.length_append, e1]
    rw [e] at this
    omega
theorem tot_quote : ∀ ws : List Str, tot (ws.map quoteT) ≤ 6 * tot ws + 7 * ws.length
  | [] => Nat.le_refl _
  | x :: r => by
    have h1 := tot_quote r
    have h2 := quote_len6 x
    have e1 : ∀ (y : Str) (l : List Str), tot (y :: l) = y.length + tot l := fun y l => by unfold tot; simp
    rw [List.map_cons, e1, e1, List.length_cons]
    omega
theorem ownT_len (ws : List Str) : (ownT ws).length ≤ 6 * tot ws + 8 * ws.length := by
  unfold ownT
  have h1 := join_len " " (ws.map quoteT)
  have h2 := tot_quote ws
  have e1 : (" " : Str).length = 1 := by kernel_rfl
  rw [List.length_map, e1] at h1
  omega
end
section
/-- replace y by S, every other sign a by f a -/
def gp (y S : List Nat) (f : Nat → List Nat) : Nat → List Nat → List Nat
  | _, [] => []
  | k + 1, _ :: r => gp y S f k r
  | 0, a :: r => if y.isPrefixOf (a :: r) then S ++ gp y S f (y.length - 1) r else f a ++ gp y S f 0 r
section
variable {y S z p l a b : List Nat} {f F : Nat → List Nat} {c n k : Nat}
theorem gp_drop : ∀ (k : Nat) (l : List Nat), gp y S f k l = gp y S f 0 (l.drop k)
  | 0, _ => rfl
  | k + 1, [] => by simp [gp]
  | k + 1, _ :: r => by rw [List.drop_succ_cons]; exact gp_drop k r
theorem gp_hit (hy : 1 ≤ y.length) (h : y <+: l) : gp y S f 0 l = S ++ gp y S f 0 (l.drop y.length) := by
  cases l with
  | nil => rw [List.prefix_nil.mp h] at hy; exact absurd hy (by simp)
  | cons a r =>
    show (if _ then _ else _) = _
    rw [if_pos (List.isPrefixOf_iff_prefix.mpr h), gp_drop]
    obtain ⟨j, e⟩ : ∃ j, y.length = j + 1 := ⟨y.length - 1, by omega⟩
    rw [e, List.drop_succ_cons, Nat.add_sub_cancel]
theorem gp_cat (hy : 1 ≤ y.length) : gp y S f 0 (y ++ l) = S ++ gp y S f 0 l := by
  rw [gp_hit hy (List.prefix_append y l), List.drop_left]
theorem gp_miss {r : List Nat} (h : ¬ y <+: c :: r) : gp y S f 0 (c :: r) = f c ++ gp y S f 0 r := by
  show (if _ then _ else _) = _
  rw [if_neg (fun q => h (List.isPrefixOf_iff_prefix.mp q))]
theorem gp_skip {l : List Nat} (n : Nat) : n ≤ l.length → (∀ k, k < n → ¬ y <+: l.drop k) → gp y S f 0 l = (l.take n).flatMap f ++ gp y S f 0 (l.drop n) := by
  revert n
  induction l with
  | nil => intro n h _; rw [Nat.le_zero.mp h]; rfl
  | cons c r ih =>
    intro n h hk
    cases n with
    | zero => rfl
    | succ n =>
      have ih := ih n (by simpa using h) (fun k hlt => by have := hk (k + 1) (by omega); rwa [List.drop_succ_cons] at this)
      rw [gp_miss (hk 0 (by omega)), ih, List.take_succ_cons, List.flatMap_cons, List.drop_succ_cons, List.append_assoc]
theorem gp_all (h : ∀ k, k < l.length → ¬ y <+: l.drop k) : gp y S f 0 l = l.flatMap f := by
  rw [gp_skip l.length (Nat.le_refl _) h, List.take_length, List.drop_length]
  show _ ++ [] = _
  rw [List.append_nil]
theorem gp_one : ∀ l : List Nat, gp [c] S f 0 l = l.flatMap fun a => if a = c then S else f a
  | [] => rfl
  | a :: r => by
    have ih := gp_one r
    rw [List.flatMap_cons, ← ih]
    by_cases h : a = c
    · subst h
      rw [if_pos rfl]
      exact gp_cat (y := [a]) (l := r) (by simp)
    · rw [if_neg h, gp_miss]
      rintro ⟨t, ht⟩
      simp at ht
      exact h ht.1.symm
end
open PySem.StrLaws in
section
open Builtin Builtin.Str
variable {x y z S : Str} {f : Nat → List Nat}
theorem at_iff (k : Nat) : At x y x.length k ↔ y.cps.toList <+: x.cps.toList.drop k ∧ k + y.length ≤ x.length := by
  have hn : x.cps.toList.length = x.length := by simp [Str.length]
  have hm : y.cps.toList.length = y.length := by simp [Str.length]
  unfold At
  rw [subAt_eq, beq_iff_eq]
  constructor
  · rintro ⟨h1, h2⟩
    refine ⟨?_, h1⟩
    rw [← h2]
    exact List.take_prefix _ _
  · rintro ⟨h2, h1⟩
    refine ⟨h1, ?_⟩
    rw [← hm]
    exact (List.prefix_iff_eq_take.mp h2).symm
theorem not_at {k : Nat} (hy : 1 ≤ y.length) (h : ¬ At x y x.length k) : ¬ y.cps.toList <+: x.cps.toList.drop k := by
  intro q
  refine h ((at_iff k).mpr ⟨q, ?_⟩)
  have h1 := q.length_le
  have hn : x.cps.toList.length = x.length := by simp [Str.length]
  have hm : y.cps.toList.length = y.length := by simp [Str.length]
  rw [List.length_drop] at h1
  omega
/-- the parts mapped sign by sign and joined -/
theorem join_parts (hy : 1 ≤ y.length) (P : Str → Str) (hP : ∀ u, (P u).cps.toList = u.cps.toList.flatMap f) : ∀ (cuts : List Nat) (a g : Nat), a ≤ x.length → ChainG x y x.length a cuts g → (∀ k, g ≤ k → ¬ At x y x.length k) →
    (Str.join S ((partsFrom x y.length a cuts).map P)).cps.toList = gp y.cps.toList S.cps.toList f 0 (x.cps.toList.drop a)
  | [], a, g, ha, h, hn => by
    have e : g = a := h
    subst e
    show (P _).cps.toList = _
    have hl : x.cps.toList.length = x.length := by simp [Str.length]
    rw [hP, strSub_toList, gp_all, List.take_of_length_le (by rw [List.length_drop]; omega)]
    intro k hk
    rw [List.drop_drop]
    exact not_at hy (hn _ (by omega))
  | c :: r, a, g, ha, h, hn => by
    obtain ⟨h1, h2, h3, h4⟩ := h
    have hc := (at_iff c).mp h2
    have hl : x.cps.toList.length = x.length := by simp [Str.length]
    have hm : y.cps.toList.length = y.length := by simp [Str.length]
    have ih := join_parts hy P hP r (c + y.length) g hc.2 h4 hn
    obtain ⟨p, q, e⟩ := partsFrom_ne x y.length (c + y.length) r
    show (Str.join S ((strSub x a c :: partsFrom x y.length (c + y.length) r).map P)).cps.toList = _
    rw [e] at ih ⊢
    show (P (strSub x a c) ++ S ++ Str.join S ((p :: q).map P)).cps.toList = _
    rw [Str.cps_append, Array.toList_append, ih, Str.cps_append, Array.toList_append, hP, strSub_toList]
    rw [gp_skip (l := x.cps.toList.drop a) (c - a) (by rw [List.length_drop]; omega) (fun k hk => by rw [List.drop_drop]; exact not_at hy (h3 _ (by omega) (by omega)))]
    rw [List.drop_drop, show a + (c - a) = c by omega, gp_hit (by omega) hc.1, List.drop_drop, hm, List.append_assoc]
theorem replace_gp (hy : 1 ≤ y.length) : (Txt.replace x y z).cps.toList = gp y.cps.toList z.cps.toList (fun a => [a]) 0 x.cps.toList := by
  obtain ⟨g, h1, h2⟩ := occ_tight x y hy
  have key := join_parts (S := z) (f := fun a => [a]) hy id (fun u => by simp) _ 0 g (Nat.zero_le _) h1 h2
  rw [List.map_id, List.drop_zero] at key
  unfold Txt.replace
  split
  · rename_i hc
    have hy0 : (y.length == 0) = false := by simp; omega
    rw [hy0, Bool.false_and, Bool.or_false, List.isEmpty_iff] at hc
    rw [hc] at key
    rw [← key]
    show _ = (strSub x 0 x.length).cps.toList
    rw [sub_whole]
  · rw [glued_eq_join, partsBetween_eq]
    exact key
theorem split_gp (hy : 1 ≤ y.length) (hk : Builtin.Str.strKind y = 1) (P : Str → Str) (hP : ∀ u, (P u).cps.toList = u.cps.toList.flatMap f) :
    (Txt.join S ((Txt.split x y).map P)).cps.toList = gp y.cps.toList S.cps.toList f 0 x.cps.toList := by
  obtain ⟨g, h1, h2⟩ := occ_tight x y hy
  have key := join_parts (S := S) hy P hP _ 0 g (Nat.zero_le _) h1 h2
  rw [List.drop_zero] at key
  show (glued S _).cps.toList = _
  rw [glued_eq_join]
  have hl : x.cps.toList.length = x.length := by simp [Str.length]
  have hm : y.cps.toList.length = y.length := by simp [Str.length]
  unfold Txt.split
  split
  · rename_i hc
    have hkx : 1 ≤ Builtin.Str.strKind x := by
      unfold Builtin.Str.strKind
      repeat (first | omega | split)
    rw [hk, Bool.or_eq_true, decide_eq_true_eq, decide_eq_true_eq] at hc
    have hc' : x.length < y.length := by omega
    show (P x).cps.toList = _
    rw [hP, gp_all]
    intro k _ q
    have := q.length_le
    rw [List.length_drop] at this
    omega
  · split
    · rename_i hc
      rw [List.isEmpty_iff.mp hc] at key
      rw [← key]
      show (P x).cps.toList = (P (strSub x 0 x.length)).cps.toList
      rw [sub_whole]
    · rw [partsBetween_eq]
      exact key
end
end
section
abbrev LL := List (List Nat × List Nat)
def rp (p z l : List Nat) : List Nat := gp p z (fun a => [a]) 0 l
def rpAll : List Nat → LL → List Nat
  | l, [] => l
  | l, p :: r => rpAll (rp p.1 p.2 l) r
def lk (kvs : List (Str × Str)) : LL := kvs.map fun p => (p.1.cps.toList, p.2.cps.toList)
theorem rpAll_append : ∀ (a b : LL) (l : List Nat), rpAll l (a ++ b) = rpAll (rpAll l a) b
  | [], _, _ => rfl
  | _ :: a, b, _ => rpAll_append a b _
theorem replAll_rp : ∀ (kvs : List (Str × Str)) (x : Str), (∀ p ∈ kvs, 1 ≤ p.1.length) → (replAll x kvs).cps.toList = rpAll x.cps.toList (lk kvs)
  | [], _, _ => rfl
  | p :: r, x, h => by
    show (replAll (Txt.replace x p.1 p.2) r).cps.toList = rpAll (rp p.1.cps.toList p.2.cps.toList x.cps.toList) (lk r)
    rw [replAll_rp r _ (fun q hq => h q (.tail _ hq)), replace_gp (h p (.head _))]
    rfl
def pickL {α : Type} : List Bool → List α → List α
  | b :: bs, x :: xs => if b then x :: pickL bs xs else pickL bs xs
  | _, _ => []
theorem pickL_map {α β : Type} (f : α → β) : ∀ (bs : List Bool) (xs : List α), (pickL bs xs).map f = pickL bs (xs.map f)
  | [], _ => by simp [pickL]
  | _ :: _, [] => rfl
  | b :: bs, x :: xs => by
    show (if b = true then _ else _ : List α).map f = if b = true then _ else _
    rw [← pickL_map f bs xs]
    split <;> rfl
theorem pickL_mem {α : Type} {y : α} : ∀ {bs : List Bool} {xs : List α}, y ∈ pickL bs xs → y ∈ xs
  | [], _, h => by simp [pickL] at h
  | _ :: _, [], h => by simp [pickL] at h
  | b :: bs, x :: xs, h => by
    change y ∈ (if b = true then _ else _ : List α) at h
    split at h
    · rcases List.mem_cons.mp h with rfl | h
      · exact .head _
      · exact .tail _ (pickL_mem h)
    · exact .tail _ (pickL_mem h)
theorem pickL_append {α : Type} : ∀ (bs bs' : List Bool) (xs xs' : List α), bs.length = xs.length → pickL (bs ++ bs') (xs ++ xs') = pickL bs xs ++ pickL bs' xs'
  | [], _, [], _, _ => rfl
  | b :: bs, bs', x :: xs, xs', h => by
    have ih := pickL_append bs bs' xs xs' (by simpa using h)
    show (if b = true then x :: pickL (bs ++ bs') (xs ++ xs') else pickL (bs ++ bs') (xs ++ xs')) = (if b = true then x :: pickL bs xs else pickL bs xs) ++ _
    rw [ih]
    split <;> rfl
theorem pickL_filter {α β : Type} (p : α → Bool) (g : α → β) : ∀ ks : List α, (ks.filter p).map g = pickL (ks.map p) (ks.map g)
  | [] => rfl
  | k :: ks => by
    have ih := pickL_filter p g ks
    show _ = (if p k = true then _ else _ : List β)
    rw [← ih, List.filter_cons]
    split <;> rfl
theorem sgn08_get : (List.range 8).map (fun k => sgn08.getD k "") = sgn08 := by decide +kernel
/-- law's signs by eight bits -/
def bits (f : Int) : List Bool := (List.range 8).map (pick08 f)
theorem lawSg_pick (f : Int) : lawSg f = pickL (bits f) sgn08 := by
  unfold lawSg lawSgN bits
  rw [pickL_filter, sgn08_get]
def TS6 : LL := [([39], [38, 35, 51, 57, 59]), ([34], [38, 35, 51, 52, 59]), ([32], [38, 35, 51, 50, 59]), ([98], [38, 35, 57, 56, 59]), ([47], [38, 35, 52, 55, 59]), ([10], [38, 35, 49, 48, 59])]
def TSD : LL := [([45, 35], [38, 35, 52, 53, 59, 38, 35, 51, 53, 59])]
def TSL : LL := [([60], [38, 35, 54, 48, 59])]
def TS8 : LL := TS6 ++ (TSD ++ TSL)
def swp (p : List Nat × List Nat) : List Nat × List Nat := (p.2, p.1)
theorem T8_eq : sgn08.map (fun x => (x.cps.toList, (refT x).cps.toList)) = TS8 := by decide +kernel
theorem lk_tbl (bs : List Bool) : lk (tblOf (pickL bs sgn08)) = pickL bs TS8 := by
  unfold lk tblOf
  rw [List.map_map, ← T8_eq, ← pickL_map]
  rfl
theorem lk_bck (bs : List Bool) : lk (bckOf (pickL bs sgn08)) = (pickL bs TS8).map swp := by
  rw [← lk_tbl]
  unfold lk tblOf bckOf
  simp only [List.map_map]
  rfl
def AMP : List Nat := [38, 97, 109, 112, 59]
def GT : List Nat := [38, 103, 116, 59]
def LT : List Nat := [38, 108, 116, 59]
def EK : LL := [([38], AMP), ([62], GT), ([60], LT)]
def UK : LL := [(LT, [60]), (GT, [62])]
def UE : LL := [(AMP, [38])]
theorem lk_esc : lk escK = EK := by decide +kernel
theorem lk_une : lk uneK = UK ∧ lk uneE = UE := by decide +kernel
/-- a sign's text under the table -/
def mC (tb : LL) (c : Nat) : List Nat := match EK.lookup [c] with
  | some y => y
  | none => (tb.lookup [c]).getD [c]
def sC (tb : LL) : List Nat := (tb.lookup [45, 35]).getD [45, 35]
theorem str_beq (x y : Str) : (x == y) = (x.cps.toList == y.cps.toList) := by
  rw [Bool.eq_iff_iff, beq_iff_eq, beq_iff_eq]
  exact ⟨fun h => by rw [h], fun h => Str.ext' (Array.toList_inj.mp h)⟩
theorem lookup_lk (x : Str) : ∀ kvs : List (Str × Str), (lk kvs).lookup x.cps.toList = (kvs.lookup x).map (·.cps.toList)
  | [] => rfl
  | (a, b) :: r => by
    show List.lookup _ ((a.cps.toList, b.cps.toList) :: lk r) = _
    rw [List.lookup_cons, List.lookup_cons, lookup_lk x r, str_beq]
    split <;> rfl
theorem nmK_lk (c : Nat) : (nmK.lookup ⟨#[c]⟩).map (·.cps.toList) = EK.lookup [c] := by
  rw [← lookup_lk ⟨#[c]⟩ nmK]
  have e : lk nmK = [([38], AMP), ([60], LT), ([62], GT)] := by decide +kernel
  rw [e]
  simp only [EK, List.lookup_cons, List.lookup_nil]
  by_cases h1 : c = 38
  · subst h1; rfl
  by_cases h2 : c = 60
  · subst h2; rfl
  by_cases h3 : c = 62
  · subst h3; rfl
  have e1 : ([c] == [38]) = false := by simp [h1]
  have e2 : ([c] == [60]) = false := by simp [h2]
  have e3 : ([c] == [62]) = false := by simp [h3]
  rw [e1, e2, e3]
theorem mapC_mC (sgs : List Str) (c : Nat) : (mapC sgs c).cps.toList = mC (lk (tblOf sgs)) c := by
  have h1 := nmK_lk c
  have h2 := lookup_lk ⟨#[c]⟩ (tblOf sgs)
  unfold mapC mC
  change (lk (tblOf sgs)).lookup [c] = _ at h2
  rw [← h1, h2]
  cases nmK.lookup ⟨#[c]⟩ with
  | some y => rfl
  | none => cases (tblOf sgs).lookup ⟨#[c]⟩ <;> rfl
theorem sepT_sC (sgs : List Str) : (sepT sgs).cps.toList = sC (lk (tblOf sgs)) := by
  have e : ("-#" : Str).cps.toList = [45, 35] := by decide +kernel
  have h2 := lookup_lk ("-#" : Str) (tblOf sgs)
  rw [e] at h2
  unfold sepT sC
  rw [h2]
  cases h : (tblOf sgs).lookup ("-#" : Str) with
  | some y => rfl
  | none => exact e
/-- escape's text -/
def eL (tb : LL) (l : List Nat) : List Nat := gp [45, 35] (sC tb) (mC tb) 0 l
/-- single keys work sign by sign -/
theorem rp_one (c : Nat) (z l : List Nat) : rp [c] z l = l.flatMap fun a => if a = c then z else [a] := gp_one l
theorem rpAll_flat : ∀ (kvs : LL), (∀ p ∈ kvs, ∃ c, p.1 = [c]) → ∀ l, rpAll l kvs = l.flatMap fun c => rpAll [c] kvs
  | [], _, l => by
    show l = l.flatMap fun c => [c]
    simp
  | p :: r, h, l => by
    obtain ⟨c, hc⟩ := h p (.head _)
    have ih := rpAll_flat r (fun q hq => h q (.tail _ hq))
    show rpAll (rp p.1 p.2 l) r = l.flatMap fun d => rpAll (rp p.1 p.2 [d]) r
    rw [ih, hc, rp_one, List.flatMap_assoc]
    congr 1
    funext d
    rw [ih (rp [c] p.2 [d]), rp_one]
    simp
def SP : List Nat := [38, 60, 62, 39, 34, 32, 98, 47, 10, 45, 35]
theorem flat_id {f : Nat → List Nat} : ∀ {l : List Nat}, (∀ a ∈ l, f a = [a]) → l.flatMap f = l
  | [], _ => rfl
  | a :: r, h => by
    rw [List.flatMap_cons, h a (.head _), flat_id fun b hb => h b (.tail _ hb)]
    rfl
theorem rp_id {c : Nat} {z l : List Nat} (h : c ∉ l) : rp [c] z l = l := by
  rw [rp_one]
  exact flat_id fun a ha => if_neg fun e => h (by rw [← e]; exact ha)
theorem rpAll_other {c : Nat} : ∀ kvs : LL, (∀ p ∈ kvs, ∃ d, p.1 = [d] ∧ d ≠ c) → rpAll [c] kvs = [c]
  | [], _ => rfl
  | p :: r, h => by
    obtain ⟨d, hd, hne⟩ := h p (.head _)
    show rpAll (rp p.1 p.2 [c]) r = _
    rw [hd, rp_id (by simpa using hne)]
    exact rpAll_other r fun q hq => h q (.tail _ hq)
theorem T6_keys : ∀ p ∈ EK ++ TS6, ∃ c ∈ SP, p.1 = [c] := by decide +kernel
theorem T8_keys : ∀ p ∈ EK ++ TS8, p.1 = [45, 35] ∨ ∃ c ∈ SP, p.1 = [c] := by decide +kernel
theorem lookup_none {x : List Nat} : ∀ {kvs : LL}, (∀ p ∈ kvs, p.1 ≠ x) → kvs.lookup x = none
  | [], _ => rfl
  | p :: r, h => by
    have e : (x == p.1) = false := beq_false_of_ne (h p (.head _)).symm
    rw [List.lookup_cons, e]
    exact lookup_none fun q hq => h q (.tail _ hq)
theorem mC_other {bs : List Bool} {c : Nat} (hc : c ∉ SP) : mC (pickL bs TS8) c = [c] := by
  have hk : ∀ p ∈ EK ++ TS8, p.1 ≠ [c] := fun p hp e => by
    rcases T8_keys p hp with q | ⟨d, hd, q⟩
    · rw [q] at e; simp at e
    · rw [q] at e
      simp at e
      exact hc (e ▸ hd)
  unfold mC
  rw [lookup_none fun p hp => hk p (List.mem_append_left _ hp), lookup_none fun p hp => hk p (List.mem_append_right _ (pickL_mem hp))]
  rfl
theorem fin_esc : ∀ b0 b1 b2 b3 b4 b5 b6 b7 : Bool, (SP.all fun c => rpAll [c] (EK ++ pickL [b0, b1, b2, b3, b4, b5] TS6) == mC (pickL [b0, b1, b2, b3, b4, b5, b6, b7] TS8) c) = true := by decide +kernel
theorem bits8 {bs : List Bool} (h : bs.length = 8) : ∃ b0 b1 b2 b3 b4 b5 b6 b7, bs = [b0, b1, b2, b3, b4, b5, b6, b7] := by
  match bs, h with
  | [b0, b1, b2, b3, b4, b5, b6, b7], _ => exact ⟨_, _, _, _, _, _, _, _, rfl⟩
theorem rp_dash {S : List Nat} {F : Nat → List Nat} (h45 : F 45 = [45]) (h35 : F 35 = [35]) (hn : ∀ c, c ≠ 45 → 45 ∉ F c) (hh : ∀ c, c ≠ 35 → ∃ a t, F c = a :: t ∧ a ≠ 35) : ∀ l : List Nat, rp [45, 35] S (l.flatMap F) = gp [45, 35] S F 0 l
  | [] => rfl
  | [c] => by
    have e : rp [45, 35] S (F c) = F c := by
      unfold rp
      rw [gp_all]
      · simp
      · intro k hk q
        by_cases h : c = 45
        · subst h
          rw [h45] at q hk
          have := q.length_le
          simp at this hk
          omega
        · exact hn c h (List.mem_of_mem_drop (q.subset (.head _)))
    rw [List.flatMap_cons, List.flatMap_nil, List.append_nil, e, gp_miss]
    · show _ = F c ++ []
      rw [List.append_nil]
    · intro q
      have := q.length_le
      simp at this
  | c :: d :: r => by
    have ih1 := rp_dash (S := S) h45 h35 hn hh (d :: r)
    have ih2 := rp_dash (S := S) h45 h35 hn hh r
    by_cases hc : c = 45
    · subst hc
      by_cases hd : d = 35
      · subst hd
        rw [List.flatMap_cons, List.flatMap_cons, h45, h35]
        show gp _ _ _ 0 ([45, 35] ++ r.flatMap F) = gp _ _ _ 0 ([45, 35] ++ r)
        rw [gp_cat (by decide), gp_cat (by decide), ← ih2]
        rfl
      · rw [List.flatMap_cons, h45]
        show gp _ _ _ 0 (45 :: ((d :: r).flatMap F)) = _
        rw [gp_miss, gp_miss, h45, ← ih1]
        · rfl
        · intro q
          obtain ⟨t, ht⟩ := q
          simp at ht
          exact hd ht.1.symm
        · intro q
          obtain ⟨a, u, e, ha⟩ := hh d hd
          obtain ⟨t, ht⟩ := q
          rw [List.flatMap_cons, e] at ht
          simp at ht
          exact ha ht.1.symm
    · rw [List.flatMap_cons]
      have e : rp [45, 35] S (F c ++ (d :: r).flatMap F) = F c ++ rp [45, 35] S ((d :: r).flatMap F) := by
        unfold rp
        rw [gp_skip (F c).length (by simp)]
        · rw [List.take_left, List.drop_left]
          simp
        · intro k hk q
          have h1 : ((F c ++ (d :: r).flatMap F).drop k)[0]? = some 45 := by
            obtain ⟨t, ht⟩ := q
            rw [← ht]
            rfl
          rw [List.getElem?_drop, List.getElem?_append_left (by simpa using hk)] at h1
          exact hn c hc (List.mem_of_getElem? h1)
      rw [e, ih1, gp_miss (c := c) (r := d :: r)]
      intro q
      obtain ⟨t, ht⟩ := q
      simp at ht
      exact hc ht.1.symm
theorem flat_dash {F : Nat → List Nat} (h45 : F 45 = [45]) (h35 : F 35 = [35]) : ∀ l : List Nat, l.flatMap F = gp [45, 35] [45, 35] F 0 l
  | [] => rfl
  | [c] => by
    rw [gp_miss]
    · rfl
    · intro q
      have := q.length_le
      simp at this
  | c :: d :: r => by
    have ih1 := flat_dash h45 h35 (d :: r)
    have ih2 := flat_dash h45 h35 r
    by_cases h : c = 45 ∧ d = 35
    · obtain ⟨rfl, rfl⟩ := h
      show _ = gp _ _ _ 0 ([45, 35] ++ r)
      rw [gp_cat (by decide), ← ih2, List.flatMap_cons, List.flatMap_cons, h45, h35]
      rfl
    · rw [List.flatMap_cons, ih1, gp_miss (c := c) (r := d :: r)]
      intro q
      obtain ⟨t, ht⟩ := q
      simp at ht
      exact h ⟨ht.1.symm, ht.2.1.symm⟩
theorem gp_mem {y S : List Nat} {f : Nat → List Nat} {a : Nat} : ∀ (k : Nat) (l : List Nat), a ∈ gp y S f k l → a ∈ S ∨ ∃ c ∈ l, a ∈ f c
  | _, [], h => by unfold gp at h; cases h
  | k + 1, c :: r, h => by
    rcases gp_mem k r h with q | ⟨d, hd, q⟩
    · exact .inl q
    · exact .inr ⟨d, .tail _ hd, q⟩
  | 0, c :: r, h => by
    change a ∈ (if _ then _ else _) at h
    split at h
    · rcases List.mem_append.mp h with q | q
      · exact .inl q
      · rcases gp_mem _ r q with q | ⟨d, hd, q⟩
        · exact .inl q
        · exact .inr ⟨d, .tail _ hd, q⟩
    · rcases List.mem_append.mp h with q | q
      · exact .inr ⟨c, .head _, q⟩
      · rcases gp_mem 0 r q with q | ⟨d, hd, q⟩
        · exact .inl q
        · exact .inr ⟨d, .tail _ hd, q⟩
/-- what holds of a sign's text, by looking at the special ones -/
theorem fin_mC : ∀ b0 b1 b2 b3 b4 b5 b6 b7 : Bool, (let tb := pickL [b0, b1, b2, b3, b4, b5, b6, b7] TS8
    mC tb 45 == [45] && mC tb 35 == [35] && (SP.all fun c => (c == 45 || !(mC tb c).contains 45) && (c == 35 || match mC tb c with | a :: _ => a != 35 | [] => false) && !(mC tb c).contains 60) && !(sC tb).contains 60 && (b6 || sC tb == [45, 35]) && (!b6 || sC tb == [38, 35, 52, 53, 59, 38, 35, 51, 53, 59])) = true := by decide +kernel
section
variable {bs : List Bool}
theorem mC_45 (h : bs.length = 8) : mC (pickL bs TS8) 45 = [45] := by
  obtain ⟨b0, b1, b2, b3, b4, b5, b6, b7, rfl⟩ := bits8 h
  have hm := fin_mC b0 b1 b2 b3 b4 b5 b6 b7
  simp only [Bool.and_eq_true, Bool.or_eq_true, beq_iff_eq] at hm
  exact hm.1.1.1.1.1
theorem mC_35 (h : bs.length = 8) : mC (pickL bs TS8) 35 = [35] := by
  obtain ⟨b0, b1, b2, b3, b4, b5, b6, b7, rfl⟩ := bits8 h
  have hm := fin_mC b0 b1 b2 b3 b4 b5 b6 b7
  simp only [Bool.and_eq_true, Bool.or_eq_true, beq_iff_eq] at hm
  exact hm.1.1.1.1.2
theorem mC_facts (h : bs.length = 8) (c : Nat) : (c ≠ 45 → 45 ∉ mC (pickL bs TS8) c) ∧ (c ≠ 35 → ∃ a t, mC (pickL bs TS8) c = a :: t ∧ a ≠ 35) ∧ 60 ∉ mC (pickL bs TS8) c := by
  by_cases hc : c ∈ SP
  · obtain ⟨b0, b1, b2, b3, b4, b5, b6, b7, rfl⟩ := bits8 h
    have hm := fin_mC b0 b1 b2 b3 b4 b5 b6 b7
    simp only [Bool.and_eq_true, Bool.or_eq_true, beq_iff_eq] at hm
    have := List.all_eq_true.mp hm.1.1.1.2 c hc
    simp only [Bool.and_eq_true, Bool.not_eq_true', Bool.or_eq_true, beq_iff_eq] at this
    obtain ⟨⟨t1, t2⟩, t3⟩ := this
    refine ⟨fun hne q => ?_, fun hne => ?_, fun q => ?_⟩
    · rcases t1 with t1 | t1
      · exact hne t1
      · rw [List.contains_iff_mem.mpr q] at t1
        exact absurd t1 (by simp)
    · rcases t2 with t2 | t2
      · exact absurd t2 hne
      · split at t2
        · rename_i a t e
          exact ⟨a, t, e, by simpa using t2⟩
        · exact absurd t2 (by simp)
    · rw [List.contains_iff_mem.mpr q] at t3
      exact absurd t3 (by simp)
  · rw [mC_other hc]
    refine ⟨fun hne q => ?_, fun hne => ⟨c, [], rfl, hne⟩, fun q => ?_⟩
    · have : (45 : Nat) = c := by simpa using q
      exact hne this.symm
    · have : (60 : Nat) = c := by simpa using q
      exact hc (this ▸ by decide)
theorem sC_facts (h : bs.length = 8) : 60 ∉ sC (pickL bs TS8) ∧ ((bs.getD 6 false = false ∧ sC (pickL bs TS8) = [45, 35]) ∨ (bs.getD 6 false = true ∧ sC (pickL bs TS8) = [38, 35, 52, 53, 59, 38, 35, 51, 53, 59])) := by
  obtain ⟨b0, b1, b2, b3, b4, b5, b6, b7, rfl⟩ := bits8 h
  have hm := fin_mC b0 b1 b2 b3 b4 b5 b6 b7
  simp only [Bool.and_eq_true, Bool.or_eq_true, beq_iff_eq, Bool.not_eq_true'] at hm
  obtain ⟨⟨⟨_, hs60⟩, hsF⟩, hsT⟩ := hm
  refine ⟨fun q => ?_, ?_⟩
  · rw [List.contains_iff_mem.mpr q] at hs60
    exact absurd hs60 (by simp)
  · change (b6 = false ∧ _) ∨ (b6 = true ∧ _)
    cases b6 with
    | false => exact .inl ⟨rfl, hsF.resolve_left (by simp)⟩
    | true => exact .inr ⟨rfl, hsT.resolve_left (by simp)⟩
end
theorem T6_pick {bs : List Bool} {p : List Nat × List Nat} (hp : p ∈ EK ++ pickL bs TS6) : ∃ c ∈ SP, p.1 = [c] := by
  refine T6_keys p ?_
  rcases List.mem_append.mp hp with q | q
  · exact List.mem_append_left _ q
  · exact List.mem_append_right _ (pickL_mem q)
theorem escape_eL {bs : List Bool} (h : bs.length = 8) (l : List Nat) : rpAll l (EK ++ pickL bs TS8) = eL (pickL bs TS8) l := by
  have hF45 := mC_45 h
  have hF35 := mC_35 h
  have hF := mC_facts h
  obtain ⟨hS, hS6⟩ := sC_facts h
  have hFo : ∀ c, c ∉ SP → mC (pickL bs TS8) c = [c] := fun c => mC_other
  obtain ⟨b0, b1, b2, b3, b4, b5, b6, b7, rfl⟩ := bits8 h
  have hFe := fin_esc b0 b1 b2 b3 b4 b5 b6 b7
  change (b6 = false ∧ _) ∨ (b6 = true ∧ _) at hS6
  unfold eL
  have e : pickL [b0, b1, b2, b3, b4, b5, b6, b7] TS8 = pickL [b0, b1, b2, b3, b4, b5] TS6 ++ (pickL [b6] TSD ++ pickL [b7] TSL) := by
    unfold TS8
    rw [← pickL_append [b6] [b7] TSD TSL rfl]
    exact pickL_append [b0, b1, b2, b3, b4, b5] [b6, b7] TS6 _ rfl
  generalize mC (pickL [b0, b1, b2, b3, b4, b5, b6, b7] TS8) = F at *
  generalize sC (pickL [b0, b1, b2, b3, b4, b5, b6, b7] TS8) = S at *
  rw [e]
  clear e
  have e0 : (fun c => rpAll [c] (EK ++ pickL [b0, b1, b2, b3, b4, b5] TS6)) = F := by
    funext c
    by_cases hc : c ∈ SP
    · have := List.all_eq_true.mp hFe c hc
      exact eq_of_beq this
    · rw [hFo c hc]
      refine rpAll_other _ fun p hp => ?_
      obtain ⟨d, hd, e⟩ := T6_pick hp
      exact ⟨d, e, fun q => hc (q ▸ hd)⟩
  rw [← List.append_assoc, ← List.append_assoc, rpAll_append, rpAll_append, rpAll_flat _ _ l, e0]
  · have e2 : rpAll (l.flatMap F) (pickL [b6] TSD) = gp [45, 35] S F 0 l := by
      rcases hS6 with ⟨rfl, rfl⟩ | ⟨rfl, rfl⟩
      · exact flat_dash hF45 hF35 l
      · exact rp_dash hF45 hF35 (fun c => (hF c).1) (fun c => (hF c).2.1) l
    rw [e2]
    cases b7 with
    | false => rfl
    | true =>
      refine rp_id fun q => ?_
      rcases gp_mem 0 l q with q | ⟨c, _, q⟩
      · exact hS q
      · exact (hF c).2.2 q
  · intro p hp
    obtain ⟨d, _, e⟩ := T6_pick hp
    exact ⟨d, e⟩
end
section
/-- a text in signs, the two signs -# together -/
def tok : List Nat → List (List Nat)
  | [] => []
  | [c] => [[c]]
  | c :: d :: r => if c = 45 ∧ d = 35 then [45, 35] :: tok r else [c] :: tok (d :: r)
def Rt (S : List Nat) (f : Nat → List Nat) (t : List Nat) : List Nat := if t = [45, 35] then S else t.flatMap f
theorem Rt_one {S : List Nat} {f : Nat → List Nat} (c : Nat) : Rt S f [c] = f c := by
  unfold Rt
  rw [if_neg (by simp), List.flatMap_cons, List.flatMap_nil, List.append_nil]
theorem gp_tok {S : List Nat} {f : Nat → List Nat} : ∀ l : List Nat, gp [45, 35] S f 0 l = ((tok l).map (Rt S f)).flatten
  | [] => rfl
  | [c] => by
    rw [gp_miss (fun q => by have := q.length_le; simp at this)]
    show f c ++ [] = Rt S f [c] ++ []
    rw [Rt_one]
  | c :: d :: r => by
    have ih1 := gp_tok (S := S) (f := f) (d :: r)
    have ih2 := gp_tok (S := S) (f := f) r
    unfold tok
    by_cases h : c = 45 ∧ d = 35
    · rw [if_pos h]
      obtain ⟨rfl, rfl⟩ := h
      show gp _ _ _ 0 ([45, 35] ++ r) = Rt S f [45, 35] ++ _
      rw [gp_cat (by decide), ih2]
      rfl
    · rw [if_neg h, gp_miss, ih1]
      · show _ = Rt S f [c] ++ _
        rw [Rt_one]
      · rintro ⟨t, ht⟩
        simp at ht
        exact h ⟨ht.1.symm, ht.2.1.symm⟩
theorem tok_flat : ∀ l : List Nat, (tok l).flatten = l
  | [] => rfl
  | [c] => rfl
  | c :: d :: r => by
    have ih1 := tok_flat (d :: r)
    have ih2 := tok_flat r
    unfold tok
    by_cases h : c = 45 ∧ d = 35
    · rw [if_pos h, List.flatten_cons, ih2, h.1, h.2]
      rfl
    · rw [if_neg h, List.flatten_cons, ih1]
      rfl
theorem tok_mem {t : List Nat} : ∀ {l : List Nat}, t ∈ tok l → t = [45, 35] ∨ ∃ c ∈ l, t = [c]
  | [], h => by cases h
  | [c], h => .inr ⟨c, .head _, List.mem_singleton.mp h⟩
  | c :: d :: r, h => by
    unfold tok at h
    split at h
    · rcases List.mem_cons.mp h with h | h
      · exact .inl h
      · rcases tok_mem h with h | ⟨e, he, h⟩
        · exact .inl h
        · exact .inr ⟨e, .tail _ (.tail _ he), h⟩
    · rcases List.mem_cons.mp h with h | h
      · exact .inr ⟨c, .head _, h⟩
      · rcases tok_mem h with h | ⟨e, he, h⟩
        · exact .inl h
        · exact .inr ⟨e, .tail _ he, h⟩
def clash (p w : List Nat) : Bool := (p.zip w).any fun q => q.1 != q.2
theorem clash_no {v : List Nat} : ∀ {p w : List Nat}, clash p w = true → ¬ p <+: w ++ v
  | [], _, h => by simp [clash] at h
  | _ :: _, [], h => by simp [clash] at h
  | a :: p, b :: w, h => by
    rintro ⟨t, ht⟩
    simp only [List.cons_append, List.cons.injEq] at ht
    unfold clash at h
    rw [List.zip_cons_cons, List.any_cons, Bool.or_eq_true] at h
    rcases h with h | h
    · simp [ht.1] at h
    · exact clash_no (p := p) (w := w) h ⟨t, ht.2⟩
def okU (p u : List Nat) : Bool := u == p || (List.range u.length).all fun k => clash p (u.drop k)
theorem rp_unit {p z u v : List Nat} (hp : 1 ≤ p.length) (h : okU p u = true) : rp p z (u ++ v) = (if u = p then z else u) ++ rp p z v := by
  unfold rp
  by_cases e : u = p
  · rw [if_pos e, e]
    exact gp_cat hp
  · rw [if_neg e]
    unfold okU at h
    rw [Bool.or_eq_true, beq_iff_eq] at h
    have h := h.resolve_left e
    rw [gp_skip u.length (by simp)]
    · rw [List.take_left, List.drop_left]
      simp
    · intro k hk
      rw [List.drop_append_of_le_length (by omega)]
      exact clash_no (List.all_eq_true.mp h k (List.mem_range.mpr hk))
def stp (u : List Nat) (p : List Nat × List Nat) : List Nat := if u = p.1 then p.2 else u
theorem rp_units {p z : List Nat} (hp : 1 ≤ p.length) : ∀ us : List (List Nat), (∀ u ∈ us, okU p u = true) → rp p z us.flatten = (us.map fun u => stp u (p, z)).flatten
  | [], _ => rfl
  | u :: r, h => by
    have ih := rp_units (z := z) hp r fun v hv => h v (.tail _ hv)
    rw [List.flatten_cons, rp_unit hp (h u (.head _)), ih]
    rfl
def PATS : List (List Nat) := [LT, GT, AMP] ++ TS8.map (·.2)
def UN : List (List Nat) := [45, 35] :: PATS
theorem fin_ok : ∀ p ∈ PATS, (p.head? = some 38 ∧ 2 ≤ p.length) ∧ ∀ u ∈ UN, okU p u = true := by decide +kernel
def Good (u : List Nat) : Prop := u ∈ UN ∨ ∃ c, c ≠ 38 ∧ u = [c]
theorem ok_good {p u : List Nat} (hp : p ∈ PATS) (hu : Good u) : okU p u = true := by
  obtain ⟨⟨h1, h2⟩, h3⟩ := fin_ok p hp
  rcases hu with hu | ⟨c, hc, rfl⟩
  · exact h3 u hu
  · cases p with
    | nil => cases h1
    | cons a r =>
      have : a = 38 := by simpa using h1
      subst this
      unfold okU clash
      simp
      exact .inr (Ne.symm hc)
theorem rpAll_units : ∀ (kvs : LL) (us : List (List Nat)), (∀ u ∈ us, Good u) → (∀ p ∈ kvs, p.1 ∈ PATS ∧ Good p.2) → rpAll us.flatten kvs = (us.map fun u => kvs.foldl stp u).flatten ∧ ∀ u ∈ us, Good (kvs.foldl stp u)
  | [], us, hu, _ => ⟨by simp [rpAll], hu⟩
  | p :: r, us, hu, hk => by
    obtain ⟨h1, h2⟩ := hk p (.head _)
    have hs : ∀ u ∈ us, Good (stp u p) := fun u hm => by
      unfold stp
      split
      · exact h2
      · exact hu u hm
    obtain ⟨ih1, ih2⟩ := rpAll_units r (us.map fun u => stp u p) (fun v hv => by obtain ⟨u, hm, rfl⟩ := List.mem_map.mp hv; exact hs u hm) (fun q hq => hk q (.tail _ hq))
    refine ⟨?_, fun u hm => ih2 _ (List.mem_map_of_mem hm)⟩
    show rpAll (rp p.1 p.2 us.flatten) r = _
    rw [rp_units (by have := (fin_ok _ h1).1.2; omega) us (fun u hm => ok_good h1 (hu u hm)), ih1, List.map_map]
    rfl
theorem fin_back : ∀ b0 b1 b2 b3 b4 b5 b6 b7 : Bool, (let tb := pickL [b0, b1, b2, b3, b4, b5, b6, b7] TS8
    (SP.all fun c => (UN.contains (mC tb c) || (c != 38 && mC tb c == [c])) && (UK ++ tb.map swp ++ UE).foldl stp (mC tb c) == [c]) && UN.contains (sC tb) && (UK ++ tb.map swp ++ UE).foldl stp (sC tb) == [45, 35]) = true := by decide +kernel
theorem fin_swp : (∀ p ∈ UK, p.1 ∈ PATS ∧ (UN.contains p.2 || match p.2 with | [c] => c != 38 | _ => false) = true) ∧ ∀ p ∈ TS8, p.2 ∈ PATS ∧ (UN.contains p.1 || match p.1 with | [c] => c != 38 | _ => false) = true := by decide +kernel
theorem good_of {u : List Nat} (h : (UN.contains u || match u with | [c] => c != 38 | _ => false) = true) : Good u := by
  rw [Bool.or_eq_true] at h
  rcases h with h | h
  · exact .inl (List.contains_iff_mem.mp h)
  · split at h
    · exact .inr ⟨_, by simpa using h, rfl⟩
    · cases h
theorem foldl_stp_one {c : Nat} : ∀ kvs : LL, (∀ p ∈ kvs, p.1 ∈ PATS) → kvs.foldl stp [c] = [c]
  | [], _ => rfl
  | p :: r, h => by
    have h2 := (fin_ok _ (h p (.head _))).1.2
    have e : stp [c] p = [c] := by
      unfold stp
      rw [if_neg]
      intro q
      rw [← q] at h2
      simp at h2
    rw [List.foldl_cons, e]
    exact foldl_stp_one r fun q hq => h q (.tail _ hq)
theorem unescape_eL {bs : List Bool} (h : bs.length = 8) (l : List Nat) : rpAll (eL (pickL bs TS8) l) (UK ++ (pickL bs TS8).map swp ++ UE) = l := by
  have hkv : ∀ p ∈ UK ++ (pickL bs TS8).map swp, p.1 ∈ PATS ∧ Good p.2 := fun p hp => by
    rcases List.mem_append.mp hp with q | q
    · exact ⟨(fin_swp.1 p q).1, good_of (fin_swp.1 p q).2⟩
    · obtain ⟨p', hp', rfl⟩ := List.mem_map.mp q
      have := fin_swp.2 p' (pickL_mem hp')
      exact ⟨this.1, good_of this.2⟩
  have hpat : ∀ p ∈ UK ++ (pickL bs TS8).map swp ++ UE, p.1 ∈ PATS := fun p hp => by
    rcases List.mem_append.mp hp with q | q
    · exact (hkv p q).1
    · rw [List.mem_singleton.mp q]
      decide
  have key : ∀ t ∈ tok l, Good (Rt (sC (pickL bs TS8)) (mC (pickL bs TS8)) t) ∧ (UK ++ (pickL bs TS8).map swp ++ UE).foldl stp (Rt (sC (pickL bs TS8)) (mC (pickL bs TS8)) t) = t := fun t ht => by
    rcases tok_mem ht with rfl | ⟨c, _, rfl⟩
    · obtain ⟨b0, b1, b2, b3, b4, b5, b6, b7, rfl⟩ := bits8 h
      have hm := fin_back b0 b1 b2 b3 b4 b5 b6 b7
      simp only [Bool.and_eq_true, beq_iff_eq] at hm
      exact ⟨.inl (List.contains_iff_mem.mp hm.1.2), hm.2⟩
    · rw [Rt_one]
      by_cases hc : c ∈ SP
      · obtain ⟨b0, b1, b2, b3, b4, b5, b6, b7, rfl⟩ := bits8 h
        have hm := fin_back b0 b1 b2 b3 b4 b5 b6 b7
        simp only [Bool.and_eq_true, beq_iff_eq] at hm
        have := List.all_eq_true.mp hm.1.1 c hc
        simp only [Bool.and_eq_true, Bool.or_eq_true, beq_iff_eq, bne_iff_ne] at this
        refine ⟨?_, this.2⟩
        rcases this.1 with q | q
        · exact .inl (List.contains_iff_mem.mp q)
        · exact .inr ⟨c, q⟩
      · rw [mC_other hc]
        exact ⟨.inr ⟨c, fun e => hc (e ▸ by decide), rfl⟩, foldl_stp_one _ hpat⟩
  unfold eL
  rw [gp_tok, rpAll_append]
  obtain ⟨e1, e2⟩ := rpAll_units (UK ++ (pickL bs TS8).map swp) ((tok l).map (Rt (sC (pickL bs TS8)) (mC (pickL bs TS8)))) (fun u hu => by obtain ⟨t, ht, rfl⟩ := List.mem_map.mp hu; exact (key t ht).1) hkv
  rw [e1]
  show rp AMP [38] _ = _
  rw [rp_units (by decide)]
  · rw [List.map_map, List.map_map]
    conv => rhs; rw [← tok_flat l]
    congr 1
    conv => rhs; rw [← List.map_id (tok l)]
    refine List.map_congr_left fun t ht => ?_
    have := (key t ht).2
    rw [List.foldl_append] at this
    exact this
  · intro u hu
    obtain ⟨v, hv, rfl⟩ := List.mem_map.mp hu
    exact ok_good (by decide) (e2 v hv)
end
section
def bareL (l : List Nat) : Bool := decide (l.length ≠ 0) && l.all fun c => decide (c ∈ safe08.cps.toList)
def ZZ : List Nat := [39, 34, 39, 34, 39]
def qL (l : List Nat) : List Nat := if bareL l = true then l else [39] ++ rp [39] ZZ l ++ [39]
def jnS (s : List Nat) : List (List Nat) → List Nat
  | [] => []
  | [x] => x
  | x :: y :: r => x ++ s ++ jnS s (y :: r)
def tl1 (x : Str) : List Nat := x.cps.toList
theorem len_tl (x : Str) : x.cps.toList.length = x.length := by simp [Str.length]
theorem isBare_L (x : Str) : isBare x = bareL x.cps.toList := by unfold isBare bareL; rw [len_tl]
theorem quoteT_L (x : Str) : (quoteT x).cps.toList = qL x.cps.toList := by
  unfold quoteT qL
  rw [isBare_L]
  split
  · rfl
  · rw [Str.cps_append, Str.cps_append, Array.toList_append, Array.toList_append, replace_gp (by decide +kernel)]
    rfl
theorem join_L (s : Str) : ∀ xs : List Str, (Txt.join s xs).cps.toList = jnS s.cps.toList (xs.map tl1) := fun xs => by
  have e : Txt.join s xs = Str.join s xs := StrLaws.glued_eq_join _ _
  rw [e]
  clear e
  induction xs with
  | nil => rfl
  | cons x r ih =>
    cases r with
    | nil => rfl
    | cons y r =>
      show (x ++ s ++ Str.join s (y :: r)).cps.toList = _
      rw [Str.cps_append, Str.cps_append, Array.toList_append, Array.toList_append, ih]
      rfl
theorem ownT_L (ws : List Str) : (ownT ws).cps.toList = jnS [32] ((ws.map tl1).map qL) := by
  unfold ownT
  rw [join_L]
  have e : ((" " : Str)).cps.toList = [32] := by decide +kernel
  rw [e, List.map_map, List.map_map]
  congr 1
  exact List.map_congr_left fun x _ => quoteT_L x
theorem eL_cons {tb : LL} {c : Nat} {r : List Nat} (h : ¬ (c = 45 ∧ ∃ t, r = 35 :: t)) : eL tb (c :: r) = mC tb c ++ eL tb r := by
  unfold eL
  rw [gp_miss]
  rintro ⟨t, ht⟩
  simp only [List.cons_append, List.cons.injEq, List.nil_append] at ht
  exact h ⟨ht.1.symm, t, ht.2.symm⟩
theorem eL_hit {tb : LL} {r : List Nat} : eL tb (45 :: 35 :: r) = sC tb ++ eL tb r := by
  unfold eL
  exact gp_cat (y := [45, 35]) (l := r) (by decide)
theorem eL_sep {tb : LL} {c : Nat} (h1 : c ≠ 45) (h2 : c ≠ 35) : ∀ a r : List Nat, eL tb (a ++ c :: r) = eL tb a ++ (mC tb c ++ eL tb r)
  | [], r => eL_cons fun q => h1 q.1
  | [d], r => by
    show eL tb (d :: c :: r) = _
    rw [eL_cons (fun q => by obtain ⟨_, t, ht⟩ := q; simp at ht; exact h2 ht.1), eL_cons (fun q => h1 q.1), eL_cons (by rintro ⟨_, t, ht⟩; cases ht), List.append_assoc]
    rfl
  | d :: e :: a, r => by
    have ih1 := eL_sep (tb := tb) h1 h2 (e :: a) r
    have ih2 := eL_sep (tb := tb) h1 h2 a r
    by_cases h : d = 45 ∧ e = 35
    · obtain ⟨rfl, rfl⟩ := h
      show eL tb (45 :: 35 :: (a ++ c :: r)) = _
      rw [eL_hit, eL_hit, ih2, List.append_assoc]
    · show eL tb (d :: ((e :: a) ++ c :: r)) = _
      rw [eL_cons (by rintro ⟨q1, t, q2⟩; simp at q2; exact h ⟨q1, q2.1⟩), eL_cons (by rintro ⟨q1, t, q2⟩; simp at q2; exact h ⟨q1, q2.1⟩), ih1, List.append_assoc]
theorem eL_nil {tb : LL} : eL tb [] = [] := rfl
theorem eL_join {tb : LL} : ∀ xs : List (List Nat), eL tb (jnS [32] xs) = jnS (mC tb 32) (xs.map (eL tb))
  | [] => rfl
  | [x] => rfl
  | x :: y :: r => by
    have ih := eL_join (tb := tb) (y :: r)
    show eL tb (x ++ [32] ++ jnS [32] (y :: r)) = eL tb x ++ mC tb 32 ++ _
    rw [List.append_assoc]
    show eL tb (x ++ 32 :: jnS [32] (y :: r)) = _
    rw [eL_sep (by decide) (by decide), ih, List.append_assoc]
    rfl
theorem eL_quoted {tb : LL} (m : List Nat) : eL tb ([39] ++ m ++ [39]) = mC tb 39 ++ eL tb m ++ mC tb 39 := by
  show eL tb (([] ++ 39 :: m) ++ 39 :: []) = _
  rw [eL_sep (by decide) (by decide), eL_sep (by decide) (by decide), eL_nil, List.nil_append, List.append_nil]
theorem eL_tok {tb : LL} (l : List Nat) : eL tb l = ((tok l).map (Rt (sC tb) (mC tb))).flatten := gp_tok l
theorem mem_eL {tb : LL} {l t : List Nat} {a : Nat} (ht : t ∈ tok l) (ha : a ∈ Rt (sC tb) (mC tb) t) : a ∈ eL tb l := by
  rw [eL_tok]
  exact List.mem_flatten.mpr ⟨_, List.mem_map_of_mem ht, ha⟩
theorem sub_tok {l t : List Nat} {a : Nat} (ht : t ∈ tok l) (ha : a ∈ t) : a ∈ l := by
  rw [← tok_flat l]
  exact List.mem_flatten.mpr ⟨_, ht, ha⟩
theorem tok_of {l : List Nat} {a : Nat} (h : a ∈ l) : ∃ t ∈ tok l, a ∈ t := by
  rw [← tok_flat l] at h
  exact List.mem_flatten.mp h
/-- is the sign in the table -/
def inT (sgs : List Str) (c : Nat) : Bool := sgs.any (· == (⟨#[c]⟩ : Str))
theorem fin_cmp : ∀ b0 b1 b2 b3 b4 b5 b6 b7 : Bool, (let bs := [b0, b1, b2, b3, b4, b5, b6, b7]
    let tb := pickL bs TS8
    let ks := (pickL bs TS8).map (·.1)
    (SP.all fun c => (!ks.any (· == [c]) || ((mC tb c).contains 38 && !(mC tb c).contains c)) && (ks.any (· == [c]) || [38, 60, 62].contains c || mC tb c == [c]) && (![38, 60, 62].contains c || (mC tb c).contains 38) &&
      [32, 39, 34].all fun d => c == d || !(mC tb c).contains d) && ([32, 39, 34].all fun d => !(sC tb).contains d) && (sC tb).contains 35) = true := by decide +kernel
theorem inT_keys (bs : List Bool) (c : Nat) : inT (pickL bs sgn08) c = ((pickL bs TS8).map (·.1)).any (· == [c]) := by
  unfold inT
  rw [← T8_eq, ← pickL_map, List.map_map, List.any_map]
  congr 1
  funext x
  exact str_beq _ _
theorem inT_SP {bs : List Bool} {c : Nat} (hc : c ∉ SP) : inT (pickL bs sgn08) c = false := by
  rw [inT_keys, List.any_eq_false]
  intro x hx
  obtain ⟨p, hp, rfl⟩ := List.mem_map.mp hx
  have hk := T8_keys p (List.mem_append_right _ (pickL_mem hp))
  rw [beq_iff_eq]
  intro q
  rcases hk with e | ⟨d, hd, e⟩
  · rw [e] at q; simp at q
  · rw [e] at q
    simp at q
    exact hc (q ▸ hd)
section
variable {bs : List Bool}
theorem cmp_sign (h : bs.length = 8) (c : Nat) : (inT (pickL bs sgn08) c = true → 38 ∈ mC (pickL bs TS8) c ∧ c ∉ mC (pickL bs TS8) c) ∧
    (inT (pickL bs sgn08) c = false → c ≠ 38 → c ≠ 60 → c ≠ 62 → mC (pickL bs TS8) c = [c]) ∧ (c = 38 ∨ c = 60 ∨ c = 62 → 38 ∈ mC (pickL bs TS8) c) ∧ ∀ d, d = 32 ∨ d = 39 ∨ d = 34 → c ≠ d → d ∉ mC (pickL bs TS8) c := by
  by_cases hc : c ∈ SP
  · rw [inT_keys]
    obtain ⟨b0, b1, b2, b3, b4, b5, b6, b7, rfl⟩ := bits8 h
    have hm := fin_cmp b0 b1 b2 b3 b4 b5 b6 b7
    simp only [Bool.and_eq_true] at hm
    have := List.all_eq_true.mp hm.1.1 c hc
    simp only [Bool.and_eq_true] at this
    obtain ⟨⟨⟨t1, t2⟩, t3⟩, t4⟩ := this
    generalize mC (pickL [b0, b1, b2, b3, b4, b5, b6, b7] TS8) c = M at *
    generalize (List.map (fun x => x.fst) (pickL [b0, b1, b2, b3, b4, b5, b6, b7] TS8)).any (fun x => x == [c]) = K at *
    refine ⟨fun e => ?_, fun e h1 h2 h3 => ?_, fun e => ?_, fun d hd hne q => ?_⟩
    · rw [e] at t1
      simpa using t1
    · rw [e] at t2
      simpa [h1, h2, h3] using t2
    · rcases e with rfl | rfl | rfl <;> simpa using t3
    · have := List.all_eq_true.mp t4 d (by rcases hd with rfl | rfl | rfl <;> decide)
      rw [List.contains_iff_mem.mpr q] at this
      simp [hne] at this
  · rw [inT_SP hc, mC_other hc]
    refine ⟨fun e => absurd e (by simp), fun _ _ _ _ => rfl, fun e => ?_, fun d _ hne q => hne (List.mem_singleton.mp q).symm⟩
    rcases e with rfl | rfl | rfl <;> exact absurd (by decide) hc
theorem cmp_sep (h : bs.length = 8) : 35 ∈ sC (pickL bs TS8) ∧ ∀ d, d = 32 ∨ d = 39 ∨ d = 34 → d ∉ sC (pickL bs TS8) := by
  obtain ⟨b0, b1, b2, b3, b4, b5, b6, b7, rfl⟩ := bits8 h
  have hm := fin_cmp b0 b1 b2 b3 b4 b5 b6 b7
  simp only [Bool.and_eq_true] at hm
  refine ⟨List.contains_iff_mem.mp hm.2, fun d hd q => ?_⟩
  have := List.all_eq_true.mp hm.1.2 d (by rcases hd with rfl | rfl | rfl <;> decide)
  rw [List.contains_iff_mem.mpr q] at this
  simp at this
/-- a sign of the table is gone -/
theorem eL_gone (h : bs.length = 8) {d : Nat} (hd : d = 32 ∨ d = 39 ∨ d = 34) (ht : inT (pickL bs sgn08) d = true) (l : List Nat) : d ∉ eL (pickL bs TS8) l := by
  intro q
  rcases gp_mem 0 l q with q | ⟨c, _, q⟩
  · exact (cmp_sep h).2 d hd q
  · by_cases e : c = d
    · subst e
      exact ((cmp_sign h c).1 ht).2 q
    · exact (cmp_sign h c).2.2.2 d hd e q
theorem mC_keep (h : bs.length = 8) {d : Nat} (hd : d = 32 ∨ d = 39 ∨ d = 34) (ht : inT (pickL bs sgn08) d = false) : mC (pickL bs TS8) d = [d] :=
  (cmp_sign h d).2.1 ht (by omega) (by omega) (by omega)
theorem eL_count (h : bs.length = 8) {d : Nat} (hd : d = 32 ∨ d = 39 ∨ d = 34) (ht : inT (pickL bs sgn08) d = false) (l : List Nat) : (eL (pickL bs TS8) l).count d = l.count d := by
  rw [eL_tok]
  conv => rhs; rw [← tok_flat l]
  rw [List.count_flatten, List.count_flatten, List.map_map]
  congr 1
  refine List.map_congr_left fun t htk => ?_
  show List.count d (Rt _ _ t) = _
  rcases tok_mem htk with rfl | ⟨c, _, rfl⟩
  · show List.count d (sC _) = _
    rw [List.count_eq_zero.mpr ((cmp_sep h).2 d hd), List.count_eq_zero.mpr (by simp; omega)]
  · rw [Rt_one]
    by_cases e : c = d
    · subst e
      rw [mC_keep h hd ht]
    · rw [List.count_eq_zero.mpr ((cmp_sign h c).2.2.2 d hd e), List.count_eq_zero.mpr (by simpa using Ne.symm e)]
theorem safe_not : ∀ c ∈ [38, 60, 62, 39, 34, 32, 10, 35], c ∉ safe08.cps.toList := by decide +kernel
theorem bareL_iff {l : List Nat} : bareL l = true ↔ l ≠ [] ∧ ∀ c ∈ l, c ∈ safe08.cps.toList := by
  unfold bareL
  rw [Bool.and_eq_true, decide_eq_true_eq, List.all_eq_true]
  constructor
  · rintro ⟨h1, h2⟩
    exact ⟨fun e => h1 (by rw [e]; rfl), fun c hc => by simpa using h2 c hc⟩
  · rintro ⟨h1, h2⟩
    exact ⟨fun e => h1 (List.length_eq_zero_iff.mp e), fun c hc => by simpa using h2 c hc⟩
theorem bareL_no {l : List Nat} (h : bareL l ≠ true) : l = [] ∨ ∃ c ∈ l, c ∉ safe08.cps.toList := by
  by_cases e : l = []
  · exact .inl e
  · refine .inr ?_
    rcases Classical.em (∃ c ∈ l, c ∉ safe08.cps.toList) with q | q
    · exact q
    · exact absurd (bareL_iff.mpr ⟨e, fun c hc => Classical.byContradiction fun k => q ⟨c, hc, k⟩⟩) h
theorem eL_bare (h : bs.length = 8) {l : List Nat} (hb : bareL l = true) (hs : ∀ c ∈ l, inT (pickL bs sgn08) c = false) : eL (pickL bs TS8) l = l := by
  obtain ⟨_, hb⟩ := bareL_iff.mp hb
  rw [eL_tok]
  conv => rhs; rw [← tok_flat l]
  congr 1
  conv => rhs; rw [← List.map_id (tok l)]
  refine List.map_congr_left fun t ht => ?_
  rcases tok_mem ht with rfl | ⟨c, hc, rfl⟩
  · exact absurd (hb 35 (sub_tok ht (by simp))) (safe_not 35 (by decide))
  · rw [Rt_one]
    have hm := hb c hc
    exact (cmp_sign h c).2.1 (hs c hc) (fun e => safe_not c (by rw [e]; decide) hm) (fun e => safe_not c (by rw [e]; decide) hm) (fun e => safe_not c (by rw [e]; decide) hm)
theorem nb38 {l : List Nat} (h : 38 ∈ l) : bareL l ≠ true := fun q => safe_not 38 (by decide) ((bareL_iff.mp q).2 38 h)
theorem eL_sign (h : bs.length = 8) {l : List Nat} {c : Nat} (hc : c ∈ l) (hs : inT (pickL bs sgn08) c = true) : bareL (eL (pickL bs TS8) l) ≠ true := by
  obtain ⟨t, ht, hct⟩ := tok_of hc
  rcases tok_mem ht with rfl | ⟨d, _, rfl⟩
  · have e : ∀ d ∈ [45, 35], (inT (pickL bs sgn08) d) = false := by
      obtain ⟨b0, b1, b2, b3, b4, b5, b6, b7, rfl⟩ := bits8 h
      have : ∀ b0 b1 b2 b3 b4 b5 b6 b7 : Bool, ∀ d ∈ [45, 35], ((pickL [b0, b1, b2, b3, b4, b5, b6, b7] TS8).map (·.1)).any (· == [d]) = false := by decide +kernel
      intro d hd
      rw [inT_keys]
      exact this b0 b1 b2 b3 b4 b5 b6 b7 d hd
    rw [e c hct] at hs
    cases hs
  · have : c = d := by simpa using hct
    subst this
    exact nb38 (mem_eL ht (by rw [Rt_one]; exact ((cmp_sign h c).1 hs).1))
theorem eL_nonbare (h : bs.length = 8) {l : List Nat} (hb : bareL l ≠ true) : bareL (eL (pickL bs TS8) l) ≠ true := by
  rcases bareL_no hb with rfl | ⟨c, hc, hu⟩
  · exact hb
  · obtain ⟨t, ht, hct⟩ := tok_of hc
    rcases tok_mem ht with rfl | ⟨d, _, rfl⟩
    · exact fun q => safe_not 35 (by decide) ((bareL_iff.mp q).2 35 (mem_eL ht (by exact (cmp_sep h).1)))
    · have : c = d := by simpa using hct
      subst this
      by_cases h3 : c = 38 ∨ c = 60 ∨ c = 62
      · exact nb38 (mem_eL ht (by rw [Rt_one]; exact (cmp_sign h c).2.2.1 h3))
      · cases e : inT (pickL bs sgn08) c with
        | true => exact nb38 (mem_eL ht (by rw [Rt_one]; exact ((cmp_sign h c).1 e).1))
        | false =>
          intro q
          refine hu ((bareL_iff.mp q).2 c (mem_eL ht ?_))
          rw [Rt_one, (cmp_sign h c).2.1 e (fun k => h3 (.inl k)) (fun k => h3 (.inr (.inl k))) (fun k => h3 (.inr (.inr k)))]
          exact .head _
end
end
section
def Qz (c : Nat) : List Nat := if c = 39 then ZZ else [c]
theorem rpZ (l : List Nat) : rp [39] ZZ l = l.flatMap Qz := rp_one 39 ZZ l
theorem countZ (l : List Nat) : (l.flatMap Qz).count 39 = 3 * l.count 39 := by
  induction l with
  | nil => rfl
  | cons c r ih =>
    rw [List.flatMap_cons, List.count_append, ih]
    unfold Qz
    by_cases e : c = 39
    · subst e
      rw [if_pos rfl, List.count_cons_self]
      have : ZZ.count 39 = 3 := by decide
      omega
    · rw [if_neg e]
      simp [List.count_cons, e]
theorem Qz_id {l : List Nat} (h : 39 ∉ l) : l.flatMap Qz = l := by
  exact flat_id fun c hc => if_neg fun e => h (by rw [← e]; exact hc)
theorem Qz_head {c t : Nat} {r : List Nat} {X : List Nat} (h : c ≠ 35) (e : Qz c ++ X = t :: r) : t ≠ 35 := by
  unfold Qz at e
  split at e
  · unfold ZZ at e
    simp at e
    omega
  · simp at e
    omega
section
variable {bs : List Bool}
theorem eL_Z (h : bs.length = 8) (h1 : inT (pickL bs sgn08) 39 = false) (h2 : inT (pickL bs sgn08) 34 = false) (X : List Nat) : eL (pickL bs TS8) (ZZ ++ X) = ZZ ++ eL (pickL bs TS8) X := by
  have e39 := mC_keep h (.inr (.inl rfl)) h1
  have e34 := mC_keep h (.inr (.inr rfl)) h2
  show eL _ (39 :: 34 :: 39 :: 34 :: 39 :: X) = _
  rw [eL_cons (by omega), eL_cons (by omega), eL_cons (by omega), eL_cons (by omega), eL_cons (by omega), e39, e34]
  rfl
theorem eL_comm (h : bs.length = 8) (h1 : inT (pickL bs sgn08) 39 = false) (h2 : inT (pickL bs sgn08) 34 = false) : ∀ l : List Nat, eL (pickL bs TS8) (l.flatMap Qz) = (eL (pickL bs TS8) l).flatMap Qz
  | [] => rfl
  | c :: r => by
    have nS : (sC (pickL bs TS8)).flatMap Qz = sC (pickL bs TS8) := Qz_id ((cmp_sep h).2 39 (.inr (.inl rfl)))
    have one : ∀ c, eL (pickL bs TS8) (Qz c) = (mC (pickL bs TS8) c).flatMap Qz := fun c => by
      by_cases e : c = 39
      · subst e
        rw [mC_keep h (.inr (.inl rfl)) h1]
        have := eL_Z h h1 h2 []
        simp only [List.append_nil] at this
        show eL _ ZZ = ZZ ++ []
        rw [this, List.append_nil, eL_nil, List.append_nil]
      · rw [Qz_id ((cmp_sign h c).2.2.2 39 (.inr (.inl rfl)) e)]
        unfold Qz
        rw [if_neg e, eL_cons (by rintro ⟨_, t, ht⟩; cases ht), eL_nil, List.append_nil]
    cases r with
    | nil =>
      rw [List.flatMap_cons, List.flatMap_nil, List.append_nil, one, eL_cons (by rintro ⟨_, t, ht⟩; cases ht), eL_nil, List.append_nil]
    | cons d r =>
      have ih1 := eL_comm h h1 h2 (d :: r)
      have ih2 := eL_comm h h1 h2 r
      by_cases q : c = 45 ∧ d = 35
      · obtain ⟨rfl, rfl⟩ := q
        rw [List.flatMap_cons, List.flatMap_cons]
        show eL _ (45 :: 35 :: r.flatMap Qz) = _
        rw [eL_hit, eL_hit, ih2, List.flatMap_append, nS]
      · rw [eL_cons (by rintro ⟨q1, t, q2⟩; simp at q2; exact q ⟨q1, q2.1⟩), List.flatMap_append, ← ih1, List.flatMap_cons]
        by_cases e : c = 39
        · subst e
          rw [← one]
          have : Qz 39 = ZZ := rfl
          rw [this, eL_Z h h1 h2]
          have := eL_Z h h1 h2 []
          simp only [List.append_nil] at this
          rw [this, eL_nil, List.append_nil]
        · rw [Qz_id ((cmp_sign h c).2.2.2 39 (.inr (.inl rfl)) e)]
          have eQ : Qz c = [c] := if_neg e
          rw [eQ]
          show eL _ (c :: (d :: r).flatMap Qz) = _
          rw [eL_cons]
          rintro ⟨q1, t, q2⟩
          rw [List.flatMap_cons] at q2
          exact Qz_head (fun k => q ⟨q1, k⟩) q2 rfl
theorem quote_comm (h : bs.length = 8) {l : List Nat} (hs : bareL l = true → ∀ c ∈ l, inT (pickL bs sgn08) c = false) (h1 : bareL l ≠ true → inT (pickL bs sgn08) 39 = false) (h2 : inT (pickL bs sgn08) 34 = true → 39 ∉ l) :
    eL (pickL bs TS8) (qL l) = qL (eL (pickL bs TS8) l) := by
  by_cases hb : bareL l = true
  · have e := eL_bare h hb (hs hb)
    rw [e]
    have : qL l = l := if_pos hb
    rw [this, e]
  · have hb' := eL_nonbare h hb
    have h1 := h1 hb
    have e1 : qL l = [39] ++ rp [39] ZZ l ++ [39] := if_neg hb
    have e2 : qL (eL (pickL bs TS8) l) = [39] ++ rp [39] ZZ (eL (pickL bs TS8) l) ++ [39] := if_neg hb'
    rw [e1, e2, eL_quoted, mC_keep h (.inr (.inl rfl)) h1, rpZ, rpZ]
    congr 2
    cases h34 : inT (pickL bs sgn08) 34 with
    | false => exact eL_comm h h1 h34 l
    | true =>
      have := h2 h34
      rw [Qz_id this, Qz_id]
      rw [← List.count_eq_zero, eL_count h (.inr (.inl rfl)) h1, List.count_eq_zero]
      exact this
theorem quoted39 {l : List Nat} (h : bareL l ≠ true) : 39 ∈ qL l := by
  have e1 : qL l = [39] ++ rp [39] ZZ l ++ [39] := if_neg h
  rw [e1]
  simp
end
theorem mem_jn {s x : List Nat} {a : Nat} (ha : a ∈ x) : ∀ {xs : List (List Nat)}, x ∈ xs → a ∈ jnS s xs
  | [y], h => by rw [← List.mem_singleton.mp h]; exact ha
  | y :: z :: r, h => by
    show a ∈ y ++ s ++ jnS s (z :: r)
    rcases List.mem_cons.mp h with rfl | h
    · exact List.mem_append_left _ (List.mem_append_left _ ha)
    · exact List.mem_append_right _ (mem_jn ha h)
theorem count_jn {s : List Nat} {d : Nat} (h : d ∉ s) : ∀ xs : List (List Nat), (jnS s xs).count d = (xs.map fun x => x.count d).sum
  | [] => rfl
  | [x] => by simp [jnS]
  | x :: y :: r => by
    have ih := count_jn h (y :: r)
    show (x ++ s ++ jnS s (y :: r)).count d = _
    rw [List.count_append, List.count_append, ih, List.count_eq_zero.mpr h]
    simp
theorem sum_lt {α : Type} {f g : α → Nat} : ∀ {l : List α}, (∀ x ∈ l, f x ≤ g x) → (∃ x ∈ l, f x < g x) → (l.map f).sum < (l.map g).sum
  | [], _, h => by obtain ⟨x, hx, _⟩ := h; cases hx
  | y :: r, h1, h2 => by
    have hy := h1 y (.head _)
    have le : ∀ {l : List α}, (∀ x ∈ l, f x ≤ g x) → (l.map f).sum ≤ (l.map g).sum := fun {l} hl => by
      induction l with
      | nil => exact Nat.le_refl _
      | cons a l ih =>
        have := ih fun x hx => hl x (.tail _ hx)
        have := hl a (.head _)
        simp only [List.map_cons, List.sum_cons]
        omega
    simp only [List.map_cons, List.sum_cons]
    obtain ⟨x, hx, hlt⟩ := h2
    rcases List.mem_cons.mp hx with rfl | hx
    · have := le fun x hx => h1 x (.tail _ hx)
      omega
    · have := sum_lt (fun x hx => h1 x (.tail _ hx)) ⟨x, hx, hlt⟩
      omega
section
variable {bs : List Bool}
/-- the two texts, by lists of words -/
def lineL (tb : LL) (xs : List (List Nat)) : List Nat := eL tb (jnS [32] (xs.map qL))
def othL (tb : LL) (xs : List (List Nat)) : List Nat := jnS [32] ((xs.map (eL tb)).map qL)
theorem line_eq (tb : LL) (xs : List (List Nat)) : lineL tb xs = jnS (mC tb 32) (xs.map fun x => eL tb (qL x)) := by
  unfold lineL
  rw [eL_join, List.map_map]
  rfl
theorem oth_eq (tb : LL) (xs : List (List Nat)) : othL tb xs = jnS [32] (xs.map fun x => qL (eL tb x)) := by
  unfold othL
  rw [List.map_map]
  rfl
theorem jn_one {s t : List Nat} : ∀ xs : List (List Nat), xs.length < 2 → jnS s xs = jnS t xs
  | [], _ => rfl
  | [_], _ => rfl
  | _ :: _ :: _, h => by
    simp only [List.length_cons] at h
    omega
theorem same_yes (h : bs.length = 8) {xs : List (List Nat)} (h1 : ¬ (inT (pickL bs sgn08) 34 = true ∧ ∃ x ∈ xs, 39 ∈ x)) (h2 : ¬ (inT (pickL bs sgn08) 39 = true ∧ ∃ x ∈ xs, bareL x ≠ true))
    (h3 : ¬ ∃ x ∈ xs, bareL x = true ∧ ∃ c ∈ x, inT (pickL bs sgn08) c = true) (h4 : ¬ (inT (pickL bs sgn08) 32 = true ∧ 2 ≤ xs.length)) : lineL (pickL bs TS8) xs = othL (pickL bs TS8) xs := by
  rw [line_eq, oth_eq]
  have e : (xs.map fun x => eL (pickL bs TS8) (qL x)) = xs.map fun x => qL (eL (pickL bs TS8) x) := by
    refine List.map_congr_left fun x hx => quote_comm h (fun hb c hc => ?_) (fun hb => ?_) (fun h34 q => ?_)
    · cases k : inT (pickL bs sgn08) c with
      | false => rfl
      | true => exact absurd ⟨x, hx, hb, c, hc, k⟩ h3
    · cases k : inT (pickL bs sgn08) 39 with
      | false => rfl
      | true => exact absurd ⟨k, x, hx, hb⟩ h2
    · exact h1 ⟨h34, x, hx, q⟩
  rw [e]
  cases k : inT (pickL bs sgn08) 32 with
  | false => rw [mC_keep h (.inl rfl) k]
  | true =>
    refine jn_one _ ?_
    rw [List.length_map]
    have : ¬ 2 ≤ xs.length := fun q => h4 ⟨k, q⟩
    omega
theorem no_of_mem {a : Nat} {l m : List Nat} (h1 : a ∉ l) (h2 : a ∈ m) : l ≠ m := fun e => h1 (e ▸ h2)
theorem same_no2 (h : bs.length = 8) {xs : List (List Nat)} (h2 : inT (pickL bs sgn08) 39 = true ∧ ∃ x ∈ xs, bareL (eL (pickL bs TS8) x) ≠ true) : lineL (pickL bs TS8) xs ≠ othL (pickL bs TS8) xs := by
  obtain ⟨k, x, hx, hb⟩ := h2
  rw [oth_eq]
  exact no_of_mem (eL_gone h (.inr (.inl rfl)) k _) (mem_jn (quoted39 hb) (List.mem_map_of_mem hx))
theorem same_no1 (h : bs.length = 8) {xs : List (List Nat)} (h1 : inT (pickL bs sgn08) 34 = true ∧ ∃ x ∈ xs, 39 ∈ x) : lineL (pickL bs TS8) xs ≠ othL (pickL bs TS8) xs := by
  obtain ⟨k, x, hx, hq⟩ := h1
  have hb : bareL x ≠ true := fun q => safe_not 39 (by decide) ((bareL_iff.mp q).2 39 hq)
  have hb' := eL_nonbare h hb
  cases k9 : inT (pickL bs sgn08) 39 with
  | true => exact same_no2 h ⟨k9, x, hx, hb'⟩
  | false =>
    rw [oth_eq]
    refine no_of_mem (a := 34) (eL_gone h (.inr (.inr rfl)) k _) (mem_jn (x := qL (eL (pickL bs TS8) x)) ?_ (List.mem_map_of_mem (f := fun x => qL (eL (pickL bs TS8) x)) hx))
    have e1 : qL (eL (pickL bs TS8) x) = [39] ++ rp [39] ZZ (eL (pickL bs TS8) x) ++ [39] := if_neg hb'
    have h39 : 39 ∈ eL (pickL bs TS8) x := by
      rw [← List.count_pos_iff, eL_count h (.inr (.inl rfl)) k9, List.count_pos_iff]
      exact hq
    rw [e1, rpZ]
    refine List.mem_append_left _ (List.mem_append_right _ (List.mem_flatMap.mpr ⟨39, h39, ?_⟩))
    decide
theorem same_no3 (h : bs.length = 8) {xs : List (List Nat)} (h3 : ∃ x ∈ xs, bareL x = true ∧ ∃ c ∈ x, inT (pickL bs sgn08) c = true) : lineL (pickL bs TS8) xs ≠ othL (pickL bs TS8) xs := by
  obtain ⟨x, hx, hb, c, hc, hs⟩ := h3
  have hb' := eL_sign h hc hs
  cases k9 : inT (pickL bs sgn08) 39 with
  | true => exact same_no2 h ⟨k9, x, hx, hb'⟩
  | false =>
    intro e
    have e := congrArg (List.count 39) e
    have hk := mC_keep h (d := 32) (.inl rfl)
    rw [line_eq, oth_eq, count_jn ((cmp_sign h 32).2.2.2 39 (.inr (.inl rfl)) (by decide)), count_jn (by decide), List.map_map, List.map_map] at e
    have q0 : ∀ y : List Nat, bareL y = true → (qL y).count 39 = 0 := fun y hy => by
      have e1 : qL y = y := if_pos hy
      rw [e1, List.count_eq_zero]
      exact fun q => safe_not 39 (by decide) ((bareL_iff.mp hy).2 39 q)
    have q1 : ∀ y : List Nat, bareL y ≠ true → (qL y).count 39 = 2 + 3 * y.count 39 := fun y hy => by
      have e1 : qL y = [39] ++ rp [39] ZZ y ++ [39] := if_neg hy
      rw [e1, rpZ, List.count_append, List.count_append, countZ]
      simp
      omega
    refine Nat.ne_of_lt (sum_lt (fun y _ => ?_) ⟨x, hx, ?_⟩) e
    · show (eL _ (qL y)).count 39 ≤ (qL (eL _ y)).count 39
      rw [eL_count h (.inr (.inl rfl)) k9]
      by_cases hy : bareL y = true
      · rw [q0 y hy]
        exact Nat.zero_le _
      · rw [q1 y hy, q1 _ (eL_nonbare h hy), eL_count h (.inr (.inl rfl)) k9]
        exact Nat.le_refl _
    · show (eL _ (qL x)).count 39 < (qL (eL _ x)).count 39
      rw [eL_count h (.inr (.inl rfl)) k9, q0 x hb, q1 _ hb']
      omega
theorem same_no4 (h : bs.length = 8) {xs : List (List Nat)} (h4 : inT (pickL bs sgn08) 32 = true ∧ 2 ≤ xs.length) : lineL (pickL bs TS8) xs ≠ othL (pickL bs TS8) xs := by
  obtain ⟨k, hl⟩ := h4
  rw [oth_eq]
  refine no_of_mem (eL_gone h (.inl rfl) k _) ?_
  match xs, hl with
  | x :: y :: r, _ =>
    show 32 ∈ qL _ ++ [32] ++ _
    simp
end
end
section
theorem safe_rd : ∀ c ∈ safe08.cps.toList, isWs c = false ∧ c ≠ 92 ∧ c ≠ 39 ∧ c ≠ 34 := by decide +kernel
theorem rd_bare {q : Bool} {v : List Nat} : ∀ (r tk : List Nat), (∀ c ∈ r, c ∈ safe08.cps.toList) → rd .wd tk q (r ++ v) = rd .wd (tk ++ r) q v
  | [], tk, _ => by rw [List.append_nil]; rfl
  | c :: r, tk, h => by
    obtain ⟨h1, h2, h3, h4⟩ := safe_rd c (h c (.head _))
    show rd .wd tk q (c :: (r ++ v)) = _
    rw [rd, if_neg (by simp [h1]), if_neg h2, if_neg h3, if_neg h4, rd_bare r _ fun d hd => h d (.tail _ hd), List.append_assoc]
    rfl
theorem rd_sq {v : List Nat} : ∀ (x tk : List Nat) (q : Bool), rd .sq tk q (x.flatMap Qz ++ 39 :: v) = rd .wd (tk ++ x) true v
  | [], tk, q => by
    show rd .sq tk q (39 :: v) = _
    rw [rd, if_pos rfl, List.append_nil]
  | c :: r, tk, q => by
    rw [List.flatMap_cons, List.append_assoc]
    by_cases e : c = 39
    · subst e
      show rd .sq tk q (39 :: 34 :: 39 :: 34 :: 39 :: (r.flatMap Qz ++ 39 :: v)) = _
      rw [rd, if_pos rfl, rd, if_neg (by decide), if_neg (by decide), if_neg (by decide), if_pos rfl, rd, if_neg (by decide), if_neg (by decide), rd, if_pos rfl, rd, if_neg (by decide), if_neg (by decide), if_pos rfl, rd_sq r, List.append_assoc]
      rfl
    · have eQ : Qz c = [c] := if_neg e
      rw [eQ]
      show rd .sq tk q (c :: (r.flatMap Qz ++ 39 :: v)) = _
      rw [rd, if_neg e, rd_sq r, List.append_assoc]
      rfl
theorem rd_end {tk : List Nat} {q : Bool} {v : List Nat} (hv : v = [] ∨ ∃ u, v = 32 :: u) (h : ¬ (tk = [] ∧ q = false)) : rd .wd tk q v = some (tk, q, (if v = [] then none else some .sp), v.tail) := by
  rcases hv with rfl | ⟨u, rfl⟩
  · rfl
  · have h' : tk ≠ [] ∨ q = true := by
      by_cases e : tk = []
      · refine .inr ?_
        cases q with
        | true => rfl
        | false => exact absurd ⟨e, rfl⟩ h
      · exact .inl e
    rw [rd, if_pos (by decide), if_pos h', if_neg (by simp)]
    rfl
theorem rd_word (x : List Nat) {v : List Nat} (hv : v = [] ∨ ∃ u, v = 32 :: u) : ∃ q, rd .sp [] false (qL x ++ v) = some (x, q, (if v = [] then none else some .sp), v.tail) ∧ ¬ (x = [] ∧ q = false) := by
  by_cases hb : bareL x = true
  · obtain ⟨h0, hs⟩ := bareL_iff.mp hb
    have e1 : qL x = x := if_pos hb
    have hq : ¬ (x = [] ∧ false = false) := fun k => h0 k.1
    refine ⟨false, ?_, hq⟩
    rw [e1, ← rd_end hv hq]
    cases x with
    | nil => exact absurd rfl h0
    | cons c r =>
      obtain ⟨h1, h2, h3, h4⟩ := safe_rd c (hs c (.head _))
      show rd .sp [] false (c :: (r ++ v)) = _
      rw [rd, if_neg (by simp [h1]), if_neg h2, if_neg h3, if_neg h4, rd_bare r _ fun d hd => hs d (.tail _ hd)]
      rfl
  · have e1 : qL x = [39] ++ rp [39] ZZ x ++ [39] := if_neg hb
    have hq : ¬ (x = [] ∧ true = false) := fun k => by simp at k
    refine ⟨true, ?_, hq⟩
    rw [e1, rpZ, ← rd_end hv hq]
    have e2 : [39] ++ x.flatMap Qz ++ [39] ++ v = 39 :: (x.flatMap Qz ++ 39 :: v) := by simp
    rw [e2, rd, if_neg (by decide), if_neg (by decide), if_pos rfl, rd_sq]
    rfl
theorem mk_tl (x : Str) : (⟨x.cps.toList.toArray⟩ : Str) = x := by cases x; simp
theorem reads_own : ∀ ws : List Str, Reads (jnS [32] ((ws.map tl1).map qL)) (some .sp) ws
  | [] => .stop (R := ([], false, none, [])) (.inl ⟨rfl, rfl⟩) ⟨rfl, rfl⟩
  | [x] => by
    obtain ⟨q, h1, h2⟩ := rd_word (tl1 x) (v := []) (.inl rfl)
    rw [List.append_nil] at h1
    have := Reads.more (ws := []) (R := (tl1 x, q, none, [])) (.inl ⟨rfl, h1⟩) h2 (.stop (R := ([], false, none, [])) (.inr ⟨rfl, rfl, rfl⟩) ⟨rfl, rfl⟩)
    rw [show (⟨(tl1 x).toArray⟩ : Str) = x from mk_tl x] at this
    exact this
  | x :: y :: r => by
    have ih := reads_own (y :: r)
    obtain ⟨q, h1, h2⟩ := rd_word (tl1 x) (v := 32 :: jnS [32] (((y :: r).map tl1).map qL)) (.inr ⟨_, rfl⟩)
    have := Reads.more (R := (tl1 x, q, some .sp, jnS [32] (((y :: r).map tl1).map qL))) (.inl ⟨rfl, h1⟩) h2 ih
    rw [show (⟨(tl1 x).toArray⟩ : Str) = x from mk_tl x] at this
    have e : jnS [32] (((x :: y :: r).map tl1).map qL) = qL (tl1 x) ++ 32 :: jnS [32] (((y :: r).map tl1).map qL) := by
      show qL (tl1 x) ++ [32] ++ jnS [32] (((y :: r).map tl1).map qL) = _
      rw [List.append_assoc]
      rfl
    rw [e]
    exact this
theorem own_reads (ws : List Str) : Reads (ownT ws).cps.toList (some .sp) ws := by
  rw [ownT_L]
  exact reads_own ws
end
section
theorem gp_grow {p z : List Nat} (h1 : 1 ≤ p.length) (h : p.length ≤ z.length) : ∀ (k : Nat) (l : List Nat), l.length ≤ (gp p z (fun a => [a]) k l).length + k
  | _, [] => Nat.zero_le _
  | k + 1, c :: r => by
    have := gp_grow h1 h k r
    show r.length + 1 ≤ (gp p z _ k r).length + (k + 1)
    omega
  | 0, c :: r => by
    have a1 := gp_grow h1 h (p.length - 1) r
    have a2 := gp_grow h1 h 0 r
    show r.length + 1 ≤ (if _ then _ else _ : List Nat).length + 0
    split
    · rw [List.length_append]
      omega
    · rw [List.length_append, List.length_singleton]
      omega
theorem gp_shrink {p z : List Nat} (h1 : 1 ≤ p.length) (h : z.length ≤ p.length) : ∀ (k : Nat) (l : List Nat), k ≤ l.length → (gp p z (fun a => [a]) k l).length + k ≤ l.length
  | k, [], hk => by
    have : k = 0 := Nat.le_zero.mp hk
    subst this
    exact Nat.le_refl _
  | k + 1, c :: r, hk => by
    have := gp_shrink h1 h k r (by simpa using hk)
    show (gp p z _ k r).length + (k + 1) ≤ r.length + 1
    omega
  | 0, c :: r, _ => by
    have a2 := gp_shrink h1 h 0 r (Nat.zero_le _)
    show (if _ then _ else _ : List Nat).length + 0 ≤ r.length + 1
    split
    · rename_i hp
      have hl := (List.isPrefixOf_iff_prefix.mp hp).length_le
      simp only [List.length_cons] at hl
      have a1 := gp_shrink h1 h (p.length - 1) r (by omega)
      rw [List.length_append]
      omega
    · rw [List.length_append, List.length_singleton]
      omega
theorem rep_grow {x y z : Str} (h1 : 1 ≤ y.length) (h : y.length ≤ z.length) : x.length ≤ (Txt.replace x y z).length := by
  rw [← len_tl, ← len_tl, replace_gp h1]
  exact gp_grow (by rw [len_tl]; exact h1) (by rw [len_tl, len_tl]; exact h) 0 _
theorem rep_shrink {x y z : Str} (h1 : 1 ≤ y.length) (h : z.length ≤ y.length) : (Txt.replace x y z).length ≤ x.length := by
  rw [← len_tl, ← len_tl, replace_gp h1]
  exact gp_shrink (by rw [len_tl]; exact h1) (by rw [len_tl, len_tl]; exact h) 0 _ (Nat.zero_le _)
theorem all_grow : ∀ (kvs : List (Str × Str)) (x : Str), (∀ p ∈ kvs, 1 ≤ p.1.length ∧ p.1.length ≤ p.2.length) → x.length ≤ (replAll x kvs).length
  | [], _, _ => Nat.le_refl _
  | p :: r, x, h => Nat.le_trans (rep_grow (h p (.head _)).1 (h p (.head _)).2) (all_grow r _ fun q hq => h q (.tail _ hq))
theorem fit_grow : ∀ (kvs : List (Str × Str)) (x : Str), (∀ p ∈ kvs, (1 ≤ p.1.length ∧ p.1.length ≤ p.2.length) ∧ p.2.length ≤ 10 ∧ (p.1 == p.2) = false) → (replAll x kvs).length ≤ 100000 → FitR x kvs
  | [], _, _, _ => trivial
  | p :: r, x, h, hl => by
    obtain ⟨h1, h2, h3⟩ := h p (.head _)
    have hx : x.length ≤ 100000 := Nat.le_trans (all_grow (p :: r) x fun q hq => (h q hq).1) hl
    have hm : (x.length + 1) * p.2.length ≤ (x.length + 1) * 10 := Nat.mul_le_mul_left _ h2
    exact ⟨by omega, h3, fit_grow r _ (fun q hq => h q (.tail _ hq)) hl⟩
theorem fit_shrink : ∀ (kvs : List (Str × Str)) (x : Str), (∀ p ∈ kvs, (1 ≤ p.1.length ∧ p.2.length ≤ p.1.length) ∧ p.2.length ≤ 10 ∧ (p.1 == p.2) = false) → x.length ≤ 100000 → FitR x kvs
  | [], _, _, _ => trivial
  | p :: r, x, h, hx => by
    obtain ⟨h1, h2, h3⟩ := h p (.head _)
    have hm : (x.length + 1) * p.2.length ≤ (x.length + 1) * 10 := Nat.mul_le_mul_left _ h2
    exact ⟨by omega, h3, fit_shrink r _ (fun q hq => h q (.tail _ hq)) (Nat.le_trans (rep_shrink h1.1 h1.2) hx)⟩
theorem kvE_ok : ∀ p ∈ escK ++ tblOf sgn08, (1 ≤ p.1.length ∧ p.1.length ≤ p.2.length) ∧ p.2.length ≤ 10 ∧ (p.1 == p.2) = false := by decide +kernel
theorem kvU_ok : ∀ p ∈ uneK ++ bckOf sgn08 ++ uneE, (1 ≤ p.1.length ∧ p.2.length ≤ p.1.length) ∧ p.2.length ≤ 10 ∧ (p.1 == p.2) = false := by decide +kernel
theorem bits_len (f : Int) : (bits f).length = 8 := by unfold bits; rw [List.length_map, List.length_range]
section
variable {bs : List Bool}
theorem kvE {p : Str × Str} (hp : p ∈ escK ++ tblOf (pickL bs sgn08)) : (1 ≤ p.1.length ∧ p.1.length ≤ p.2.length) ∧ p.2.length ≤ 10 ∧ (p.1 == p.2) = false := by
  refine kvE_ok p ?_
  rcases List.mem_append.mp hp with q | q
  · exact List.mem_append_left _ q
  · obtain ⟨x, hx, rfl⟩ := List.mem_map.mp q
    exact List.mem_append_right _ (List.mem_map_of_mem (pickL_mem hx))
theorem kvU {p : Str × Str} (hp : p ∈ uneK ++ bckOf (pickL bs sgn08) ++ uneE) : (1 ≤ p.1.length ∧ p.2.length ≤ p.1.length) ∧ p.2.length ≤ 10 ∧ (p.1 == p.2) = false := by
  refine kvU_ok p ?_
  rcases List.mem_append.mp hp with q | q
  · rcases List.mem_append.mp q with q | q
    · exact List.mem_append_left _ (List.mem_append_left _ q)
    · obtain ⟨x, hx, rfl⟩ := List.mem_map.mp q
      exact List.mem_append_left _ (List.mem_append_right _ (List.mem_map_of_mem (pickL_mem hx)))
  · exact List.mem_append_right _ q
theorem esc_L (h : bs.length = 8) (x : Str) : (replAll x (escK ++ tblOf (pickL bs sgn08))).cps.toList = eL (pickL bs TS8) x.cps.toList := by
  rw [replAll_rp _ _ fun p hp => (kvE hp).1.1, ← escape_eL h, ← lk_tbl, ← lk_esc]
  unfold lk
  rw [List.map_append]
theorem une_L (h : bs.length = 8) {x y : Str} (e : y.cps.toList = eL (pickL bs TS8) x.cps.toList) : replAll y (uneK ++ bckOf (pickL bs sgn08) ++ uneE) = x := by
  apply Str.ext'
  apply Array.toList_inj.mp
  rw [replAll_rp _ _ fun p hp => (kvU hp).1.1, e]
  conv => rhs; rw [← unescape_eL h x.cps.toList]
  rw [← lk_bck, ← lk_une.1, ← lk_une.2]
  unfold lk
  rw [List.map_append, List.map_append]
theorem mC_len (c : Nat) : (mC (pickL bs TS8) c).length ≤ 10 := by
  rw [← lk_tbl, ← mapC_mC, len_tl]
  exact mapC_len (fun x hx => pickL_mem hx) c
theorem sC_len (h : bs.length = 8) : (sC (pickL bs TS8)).length ≤ 10 := by
  rcases (sC_facts h).2 with ⟨_, e⟩ | ⟨_, e⟩ <;> rw [e] <;> decide
theorem eL_len (h : bs.length = 8) (l : List Nat) : (eL (pickL bs TS8) l).length ≤ 10 * l.length := by
  rw [eL_tok]
  conv => rhs; rw [← tok_flat l]
  have : ∀ ts : List (List Nat), (∀ t ∈ ts, t = [45, 35] ∨ ∃ c ∈ l, t = [c]) → ((ts.map (Rt (sC (pickL bs TS8)) (mC (pickL bs TS8)))).flatten).length ≤ 10 * ts.flatten.length := fun ts => by
    induction ts with
    | nil => intro _; exact Nat.le_refl _
    | cons t r ih =>
      intro ht
      have ih := ih fun u hu => ht u (.tail _ hu)
      have h1 : (Rt (sC (pickL bs TS8)) (mC (pickL bs TS8)) t).length ≤ 10 * t.length := by
        rcases ht t (.head _) with rfl | ⟨c, _, rfl⟩
        · have := sC_len h
          show (sC _).length ≤ 20
          omega
        · rw [Rt_one]
          exact mC_len c
      rw [List.map_cons, List.flatten_cons, List.flatten_cons, List.length_append, List.length_append]
      omega
  exact this _ fun t ht => tok_mem ht
theorem escT_len (h : bs.length = 8) (x : Str) : (replAll x (escK ++ tblOf (pickL bs sgn08))).length ≤ 10 * x.length := by
  rw [← len_tl, esc_L h, ← len_tl x]
  exact eL_len h _
end
theorem jn_total (s : Str) : ∀ xs : List Str, xs ≠ [] → (xs.map (·.length)).sum + xs.length * s.length = (Str.join s xs).length + s.length
  | [], h => absurd rfl h
  | [x], _ => by simp [Str.join]
  | x :: y :: r, _ => by
    have ih := jn_total s (y :: r) (by simp)
    show _ = (x ++ s ++ Str.join s (y :: r)).length + _
    rw [Str.length_append, Str.length_append]
    simp only [List.map_cons, List.sum_cons, List.length_cons, Nat.succ_mul] at ih ⊢
    omega
theorem joinOk_tot {s : Str} {xs : List Str} (h : (Txt.join s xs).length + s.length ≤ 1000000) : JoinOk s xs = true := by
  have e : Txt.join s xs = Str.join s xs := StrLaws.glued_eq_join _ _
  rw [e] at h
  unfold JoinOk
  rw [Bool.not_eq_true', StrLaws.joinTotal]
  unfold Builtin.Str.tooLong sizeLine
  refine decide_eq_false ?_
  by_cases hx : xs = []
  · subst hx
    simp
  · rw [jn_total s xs hx]
    omega
theorem partT_L (sgs : List Str) (y : Str) : (partT sgs y).cps.toList = y.cps.toList.flatMap (mC (lk (tblOf sgs))) := by
  unfold partT
  rw [join_L]
  have e : (("" : Str)).cps.toList = [] := by decide +kernel
  have j : ∀ xs : List (List Nat), jnS [] xs = xs.flatten := fun xs => by
    induction xs with
    | nil => rfl
    | cons x r ih =>
      cases r with
      | nil => simp [jnS]
      | cons y r =>
        show x ++ [] ++ jnS [] (y :: r) = _
        rw [ih, List.append_nil]
        rfl
  rw [e, j, List.map_map, List.flatMap_def]
  congr 1
  exact List.map_congr_left fun c _ => mapC_mC sgs c
theorem parts_L {bs : List Bool} (ws : List Str) : (Txt.join (sepT (pickL bs sgn08)) (partsT (pickL bs sgn08) ws)).cps.toList = eL (pickL bs TS8) (ownT ws).cps.toList := by
  unfold partsT
  rw [split_gp (f := mC (lk (tblOf (pickL bs sgn08)))) (by decide +kernel) (by decide +kernel) _ (partT_L _), sepT_sC, lk_tbl]
  have e : (("-#" : Str)).cps.toList = [45, 35] := by decide +kernel
  rw [e]
  rfl
theorem tot_esc {bs : List Bool} (h : bs.length = 8) : ∀ ws : List Str, tot (ws.map (escW (pickL bs sgn08))) ≤ 10 * tot ws
  | [] => Nat.le_refl _
  | x :: r => by
    have ih := tot_esc h r
    have h1 := escT_len h x
    have e1 : ∀ (y : Str) (l : List Str), tot (y :: l) = y.length + tot l := fun y l => by unfold tot; simp
    rw [List.map_cons, e1, e1]
    unfold escW at *
    omega
theorem law_ok {bs : List Bool} (h : bs.length = 8) {ws : List Str} (hW : WOk 120 ws) (ht : tot ws ≤ 120) : LawOk (pickL bs sgn08) ws := by
  have hO : (ownT ws).length ≤ 2000 := by
    have h1 := ownT_len ws
    have h2 := hW.1
    omega
  have hl := esc_L h (ownT ws)
  have hL : (lineT (pickL bs sgn08) ws).length ≤ 20000 := by
    have := escT_len h (ownT ws)
    unfold lineT
    omega
  have hw : ∀ x ∈ ws, (escW (pickL bs sgn08) x).length ≤ 1200 := fun x hx => by
    have h1 := escT_len h x
    have h2 := (hW.2 x hx).1
    unfold escW
    omega
  have hT : (otherT (pickL bs sgn08) ws).length ≤ 10000 := by
    have h1 := ownT_len (ws.map (escW (pickL bs sgn08)))
    have h2 := tot_esc h ws
    have h3 := hW.1
    rw [List.length_map] at h1
    unfold otherT
    omega
  have hline : lineT (pickL bs sgn08) ws = Txt.join (sepT (pickL bs sgn08)) (partsT (pickL bs sgn08) ws) := by
    apply Str.ext'
    apply Array.toList_inj.mp
    rw [parts_L]
    exact hl
  refine ⟨hW, fit_grow _ _ (fun p hp => kvE hp) (by exact Nat.le_trans hL (by decide)), by omega, joinOk_tot ?_, hline, fit_shrink _ _ (fun p hp => kvU hp) (by omega), une_L h hl, own_reads ws, fun x hx => fit_grow _ _ (fun p hp => kvE hp) ?_, fun x hx => fit_shrink _ _ (fun p hp => kvU hp) ?_, fun x hx => une_L h (esc_L h x), fun x hx => ?_, joinOk_tot ?_, by omega, own_reads _⟩
  · rw [← hline]
    have : (sepT (pickL bs sgn08)).length ≤ 10 := by
      rw [← len_tl, sepT_sC, lk_tbl]
      exact sC_len h
    omega
  · have := hw x hx
    unfold escW at this
    omega
  · have := hw x hx
    omega
  · have := hw x hx
    omega
  · have e1 : (" " : Str).length = 1 := by kernel_rfl
    rw [e1]
    unfold otherT ownT at hT
    omega
theorem map_tl_mem {ws : List Str} {P : List Nat → Prop} : (∃ x ∈ ws.map tl1, P x) ↔ ∃ x ∈ ws, P x.cps.toList := by
  constructor
  · rintro ⟨x, hx, hp⟩
    obtain ⟨y, hy, rfl⟩ := List.mem_map.mp hx
    exact ⟨y, hy, hp⟩
  · rintro ⟨x, hx, hp⟩
    exact ⟨_, List.mem_map_of_mem hx, hp⟩
theorem filter_ne {α : Type} {p : α → Bool} {l : List α} : l.filter p ≠ [] ↔ ∃ x ∈ l, p x = true := by
  rw [ne_eq, List.filter_eq_nil_iff]
  constructor
  · intro h
    exact Classical.byContradiction fun q => h fun x hx hp => q ⟨x, hx, hp⟩
  · rintro ⟨x, hx, hp⟩ h
    exact h x hx hp
theorem filter_lt {α : Type} {p : α → Bool} : ∀ {l : List α}, (l.filter p).length < l.length ↔ ∃ x ∈ l, p x ≠ true
  | [] => by simp
  | x :: r => by
    have ih := filter_lt (p := p) (l := r)
    have hle := List.length_filter_le p r
    rw [List.filter_cons]
    split
    · rename_i hp
      rw [List.length_cons, List.length_cons, Nat.add_lt_add_iff_right, ih]
      constructor
      · rintro ⟨y, hy, q⟩
        exact ⟨y, .tail _ hy, q⟩
      · rintro ⟨y, hy, q⟩
        rcases List.mem_cons.mp hy with rfl | hy
        · exact absurd hp q
        · exact ⟨y, hy, q⟩
    · rename_i hp
      rw [List.length_cons]
      exact ⟨fun _ => ⟨x, .head _, hp⟩, fun _ => by omega⟩
theorem one_eq : ("\"" : Str) = ⟨#[34]⟩ ∧ ("'" : Str) = ⟨#[39]⟩ ∧ (" " : Str) = ⟨#[32]⟩ := by decide +kernel
theorem hasS_iff {sgs : List Str} {x : Str} : hasS sgs x = true ↔ ∃ c ∈ x.cps.toList, inT sgs c = true := by
  unfold hasS inSg
  rw [decide_eq_true_eq, ne_eq, List.map_eq_nil_iff]
  exact filter_ne
theorem law_same {bs : List Bool} (h : bs.length = 8) (ws : List Str) : (decide (lineT (pickL bs sgn08) ws = otherT (pickL bs sgn08) ws) == sameT (pickL bs sgn08) ws) = true := by
  have hline : (lineT (pickL bs sgn08) ws).cps.toList = lineL (pickL bs TS8) (ws.map tl1) := by
    unfold lineL lineT
    rw [esc_L h, ownT_L]
  have hoth : (otherT (pickL bs sgn08) ws).cps.toList = othL (pickL bs TS8) (ws.map tl1) := by
    unfold othL otherT
    rw [ownT_L]
    congr 2
    rw [List.map_map, List.map_map]
    exact List.map_congr_left fun x _ => esc_L h x
  have hne : lineL (pickL bs TS8) (ws.map tl1) ≠ othL (pickL bs TS8) (ws.map tl1) → decide (lineT (pickL bs sgn08) ws = otherT (pickL bs sgn08) ws) = false := fun k => decide_eq_false fun e => k (by rw [← hline, ← hoth, e])
  have c1 : (pickL bs sgn08).any (· == "\"") = true ∧ ws.filter hasQ ≠ [] ↔ inT (pickL bs sgn08) 34 = true ∧ ∃ x ∈ ws.map tl1, 39 ∈ x := by
    unfold inT
    rw [one_eq.1, filter_ne, map_tl_mem]
    simp only [hasQ, decide_eq_true_eq]
  have c2 : (pickL bs sgn08).any (· == "'") = true ∧ (ws.filter isBare).length < ws.length ↔ inT (pickL bs sgn08) 39 = true ∧ ∃ x ∈ ws.map tl1, bareL x ≠ true := by
    unfold inT
    rw [one_eq.2.1, filter_lt, map_tl_mem]
    simp only [isBare_L]
  have c3 : (ws.filter isBare).filter (hasS (pickL bs sgn08)) ≠ [] ↔ ∃ x ∈ ws.map tl1, bareL x = true ∧ ∃ c ∈ x, inT (pickL bs sgn08) c = true := by
    rw [filter_ne, map_tl_mem]
    constructor
    · rintro ⟨x, hx, hs⟩
      obtain ⟨h1, h2⟩ := List.mem_filter.mp hx
      rw [isBare_L] at h2
      exact ⟨x, h1, h2, hasS_iff.mp hs⟩
    · rintro ⟨x, h1, h2, hs⟩
      rw [← isBare_L] at h2
      exact ⟨x, List.mem_filter.mpr ⟨h1, h2⟩, hasS_iff.mpr hs⟩
  have c4 : (!((pickL bs sgn08).any (· == " ")) || decide (ws.length < 2)) = true ↔ ¬ (inT (pickL bs sgn08) 32 = true ∧ 2 ≤ (ws.map tl1).length) := by
    unfold inT
    rw [one_eq.2.2, List.length_map, Bool.or_eq_true, Bool.not_eq_true', decide_eq_true_eq]
    cases (pickL bs sgn08).any (· == (⟨#[32]⟩ : Str)) <;> simp
  have step : ∀ {C : Prop} [Decidable C] {b : Bool}, (C → lineL (pickL bs TS8) (ws.map tl1) ≠ othL (pickL bs TS8) (ws.map tl1)) → (¬ C → (decide (lineT (pickL bs sgn08) ws = otherT (pickL bs sgn08) ws) == b) = true) →
      (decide (lineT (pickL bs sgn08) ws = otherT (pickL bs sgn08) ws) == (if C then false else b)) = true := fun {C} _ {b} k1 k2 => by
    by_cases hC : C
    · rw [if_pos hC, hne (k1 hC)]
      rfl
    · rw [if_neg hC]
      exact k2 hC
  unfold sameT
  refine step (fun k => same_no1 h (c1.mp k)) fun k1 => step (fun k => ?_) fun k2 => step (fun k => same_no3 h (c3.mp k)) fun k3 => ?_
  · obtain ⟨k9, x, hx, hb⟩ := c2.mp k
    exact same_no2 h ⟨k9, x, hx, eL_nonbare h hb⟩
  · cases k : (!((pickL bs sgn08).any (· == " ")) || decide (ws.length < 2)) with
    | true =>
      rw [beq_iff_eq, decide_eq_true_eq]
      apply Str.ext'
      apply Array.toList_inj.mp
      rw [hline, hoth]
      exact same_yes h (fun q => k1 (c1.mpr q)) (fun q => k2 (c2.mpr q)) (fun q => k3 (c3.mpr q)) (c4.mp k)
    | false =>
      rw [hne (same_no4 h (Classical.byContradiction fun q => ?_))]
      · rfl
      · rw [c4.mpr q] at k
        cases k
theorem law_holds (ns : List Int) : LawOk (lawSg (ns.headD 255)) (lawWs ns) := by
  rw [lawSg_pick]
  exact law_ok (bits_len _) (lawWs_ok ns) (lawWs_tot ns)
theorem law_true (ns : List Int) : (decide (lineT (lawSg (ns.headD 255)) (lawWs ns) = otherT (lawSg (ns.headD 255)) (lawWs ns)) == sameT (lawSg (ns.headD 255)) (lawWs ns)) = true := by
  rw [lawSg_pick]
  exact law_same (bits_len _) _
end
section
theorem kk_all (P : Params) : (KK P).map (fun p => (H1 P).get? p.1) = (KK P).map (fun p => some p.2) := by kernel_rfl
theorem mem_of_lookup {α : Type} {a : Addr} {o : α} : ∀ {K : List (Addr × α)}, K.lookup a = some o → (a, o) ∈ K
  | [], h => nomatch h
  | (b, x) :: r, h => by
    rw [List.lookup_cons] at h
    by_cases q : a = b
    · subst q
      rw [beq_self_eq_true] at h
      cases h
      exact .head _
    · rw [beq_false_of_ne q] at h
      exact .tail _ (mem_of_lookup h)
theorem kk_in (P : Params) : (KK P).In (H1 P) := fun a o e => by
  obtain ⟨i, hi⟩ := List.getElem?_of_mem (mem_of_lookup e)
  have h := congrArg (fun l => l[i]?) (kk_all P)
  simp only [List.getElem?_map, hi, Option.map_some] at h
  exact Option.some.inj h
theorem kk_nolist (P : Params) : ((KK P).all fun p => p.2.cls != .type "list") = true := by kernel_rfl
theorem kk_no771 (P : Params) : ((KK P).all fun p => p.1 != 771) = true := by kernel_rfl
theorem oldk_end {w : World} {h h' : Heap} (X : GK w h) (h771 : h.get? 771 = some { cls := .none, data := .fields #[] }) (hk : ∀ b o, b ≠ 771 → h.get? b = some o → h'.get? b = some o) (ht : ∃ o, h'.get? 771 = some o ∧ tblO o) : OldK h h' := by
  obtain ⟨o', e1, e2⟩ := ht
  have T := (codeJoin X h771 (show TriplesOk _ from trivial)).2
  refine ⟨fun b o e => ?_, fun b o e => ?_⟩
  · by_cases q : b = 771
    · subst q
      rw [h771] at e
      cases e
      refine .inr (.inl ⟨T.isCodeTable, rfl, #[], ?_⟩)
      rcases e2 with rfl | ⟨c, rfl⟩
      · exact ⟨#[], rfl, e1⟩
      · exact ⟨#[rawInt 752, rawInt 20, .ref c], rfl, e1⟩
    · exact .inl (hk b o q e)
  · by_cases q : b = 771
    · exact ⟨o', q ▸ e1⟩
    · exact ⟨o, hk b o q e⟩
/-- the ledger that law starts with: the argument's list and join's table -/
theorem top_rest {w : World} {h : Heap} {a : Addr} {o : Obj} (hl : h.get? a = some o) (h771 : h.get? 771 = some { cls := .none, data := .fields #[] }) (ha : a ≠ 771) :
    ∃ (rest : Os) (news : List (Addr × Obj)), OAt rest a (.raw o) ∧ OAt rest 771 tblA ∧ Own w news rest ∧ (∀ p ∈ news, h.get? p.1 = some p.2) ∧ (news.map (·.1)).Pairwise (· > ·) ∧ ∀ b, b ∈ news.map (·.1) ↔ b = a ∨ b = 771 := by
  rcases Nat.lt_or_ge a 771 with q | q
  · refine ⟨[(771, tblA), (a, .raw o)], [(771, _), (a, o)], .tail .head, .head, .cons (.inl rfl) (.cons rfl .nil), fun p hp => ?_, ?_, fun b => ?_⟩
    · rcases List.mem_cons.mp hp with rfl | hp
      · exact h771
      · rw [List.mem_singleton.mp hp]; exact hl
    · exact .cons (fun b hb => by rw [List.mem_singleton.mp hb]; exact q) (.cons (fun _ hb => nomatch hb) .nil)
    · simp only [List.map_cons, List.map_nil, List.mem_cons, List.not_mem_nil, or_false]
      exact Or.comm
  · have q' : 771 < a := Nat.lt_of_le_of_ne q (Ne.symm ha)
    refine ⟨[(a, .raw o), (771, tblA)], [(a, o), (771, _)], .head, .tail .head, .cons rfl (.cons (.inl rfl) .nil), fun p hp => ?_, ?_, fun b => ?_⟩
    · rcases List.mem_cons.mp hp with rfl | hp
      · exact hl
      · rw [List.mem_singleton.mp hp]; exact h771
    · exact .cons (fun b hb => by rw [List.mem_singleton.mp hb]; exact q') (.cons (fun _ hb => nomatch hb) .nil)
    · simp only [List.map_cons, List.map_nil, List.mem_cons, List.not_mem_nil, or_false]
theorem law_top {w : World} {s : Shared} {a : Addr} {vs : List Value} {ns : List Int} {k : Nat} (hK : ∀ b o, (H1 w.params).get? b = some o → s.heap.get? b = some o)
    (hl : s.heap.get? a = some (listOf vs.toArray k)) (hi : IntsAre vs ns) (hlen : ns.length ≤ 63) (hg : s.gens = #[]) :
    wpAny (model pw w) callerA (call (.ref 815) [.ref a]) (fun v s' => v = .bool true ∧ OldK s.heap s'.heap ∧ s'.os = s.os ∧ AllBare s'.gens) (fun _ _ => False) s := by
  have X : GK w s.heap := fun b o e => hK b o (kk_in _ b o e)
  have h771 : s.heap.get? 771 = some { cls := .none, data := .fields #[] } := hK _ _ (by kernel_rfl)
  have ha : a ≠ 771 := fun e => by
    subst e
    rw [h771] at hl
    have := congrArg Obj.cls (Option.some.inj hl)
    cases this
  have haK : ∀ b o, (KK w.params).lookup b = some o → b ≠ a ∧ b ≠ 771 := fun b o e => by
    have hm := mem_of_lookup e
    refine ⟨fun q => ?_, fun q => ?_⟩
    · subst q
      have h1 := X _ _ e
      rw [hl] at h1
      have h2 := List.all_eq_true.mp (kk_nolist w.params) _ hm
      rw [← Option.some.inj h1] at h2
      simp at h2
    · subst q
      have h2 := List.all_eq_true.mp (kk_no771 w.params) _ hm
      simp at h2
  obtain ⟨rest, news, r1, r2, ow, hn, hord, hmem⟩ := top_rest (w := w) hl h771 ha
  have F := fn_815 w.params
  have X0 : GK w (hideAll s.heap (news.map (·.1))) := fun b o e => hideAll_get _ (X b o e) fun q => by
    rcases (hmem b).mp q with q | q
    · exact (haK b o e).1 q
    · exact (haK b o e).2 q
  refine wpAny_call ?_
  have hroom : callerA.depth < recursionLimit := by decide
  refine codeAny_mono (codeAny_call_function (R := fun r s' => match r with | .ok (.ret v) => (v = .bool true ∧ OldK s.heap s'.heap ∧ s'.os = s.os ∧ AllBare s'.gens) | _ => False) hroom (X _ _ F.here) rfl F.co F.gen rfl (codeRec_of X F.code) ((BindsTo.of_eq (binds := [("script", .ref a)]) (by kernel_rfl)) _ _ _ _ ?_)) fun r s' z => by
    rcases r with e | (v | _ | _ | _) <;> first | exact z | exact z.elim
  have hx : (scopeAt [37]).names.lookup ("script" : Str) = some .local := by kernel_rfl
  refine wpAny_newFunctionEnv_cells F.kind (fun y hy => by rw [List.mem_singleton.mp hy]; exact .inl hx) fun env' he s' xx => ?_
  subst he
  refine ⟨(gk_lim X).keeps xx.toInCall.keep, codeAny_func ?_⟩
  obtain ⟨h₁, tk, rfl, _⟩ := xx.done
  have hk₁ := xx.toInCall.keep
  have hnd0 : ((cellsFrom 0 (scopeAt [37]).names []).map (·.1)).Nodup := by rw [law_cl]; decide +kernel
  have hnd1 : ((cellsFrom (s.heap.objs.size + 1) (scopeAt [37]).names []).map (·.1)).Nodup := cellsFrom_names (scopeAt [37]).names 0 (s.heap.objs.size + 1) [] [] rfl ▸ hnd0
  obtain ⟨cells, NC, Y⟩ := Cl.news (h₀ := s.heap) (Nat.le_refl _) fun n c hm => ⟨xx.cell n c (lookup_of_mem_nodup hnd1 hm), xx.above n c hm⟩
  have F' : Fr (hideAll s.heap (news.map (·.1))) s.heap.objs.size h₁ (bindL (envOfC "law" (scopeAt [37]) s.heap.objs.size 815 (.ref 814)).kindOf [("script", .ref a)] fun _ => none) := ⟨xx.toInCall.ns, fun b o e => hk₁ b o (of_hideAll _ e), Nat.le_of_eq (hideAll_size _ _)⟩
  have lt : ∀ p ∈ news, p.1 < s.heap.objs.size := fun p hp => Heap.lt_size (hn p hp)
  have N' : News (hideAll s.heap (news.map (·.1))) s.heap.objs.size h₁ (cells ++ news) := fun p hp => by
    rcases List.mem_append.mp hp with hp | hp
    · refine ⟨(NC p hp).1, (NC p hp).2.1, ?_⟩
      cases q : (hideAll s.heap (news.map (·.1))).get? p.1 with
      | none => rfl
      | some o => have := of_hideAll _ q; rw [(NC p hp).2.2] at this; cases this
    · exact ⟨hk₁ _ _ (hn p hp), Nat.ne_of_lt (Heap.lt_size (hn p hp)), hideAll_none _ (List.mem_map_of_mem hp)⟩
  have back : ∀ (s2 : Shared) m os', os'.os = s.os → Sd w (hideAll s.heap (news.map (·.1))) s.heap.objs.size m rest Bare os' s2 → OldK s.heap s2.heap ∧ s2.os = s.os ∧ AllBare s2.gens := fun s2 m os' e D2 => by
    refine ⟨oldk_end X h771 (fun b o hb hbo => ?_) (D2.get r2), D2.osq.1.trans e, D2.gens⟩
    by_cases q : b = a
    · subst q
      obtain ⟨o', e1, e2⟩ := D2.get r1
      have e2 : o' = _ := e2
      rw [e1, e2, ← hl]
      exact hbo
    · exact D2.fr.keep b o (hideAll_get _ hbo fun z => by
        rcases (hmem b).mp z with z | z
        · exact q z
        · exact hb z)
  generalize hideAll s.heap (news.map (·.1)) = g₁ at *
  revert F' N' Y lt hk₁ back
  clear NC hnd1 xx hroom
  generalize s.heap.objs.size = L'
  intro hk₁ Y lt F' N' back
  have kx : (envOfC "law" (scopeAt [37]) L' 815 (.ref 814)).kindOf ("script" : Str) = some .local := hx
  have eL : bindL (envOfC "law" (scopeAt [37]) L' 815 (.ref 814)).kindOf [("script", .ref a)] (fun _ => none) = fun y => ([("script", .ref a)] : Ls).lookup y := by
    simp only [bindL]
    rw [if_pos kx]
    exact (MPut.nil (x := "script") (v := .ref a)).lookup
  have eC : ∀ y, bindC (envOfC "law" (scopeAt [37]) L' 815 (.ref 814)).kindOf [("script", .ref a)] (fun _ => none) y = none := by
    intro y
    simp only [bindC]
    rw [if_pos kx]
  rw [eL] at F'
  rw [law_cl] at Y
  have ordL : ∀ n, ((lawCl n).map (·.2)).Pairwise (· > ·) ∧ ∀ b ∈ (lawCl n).map (·.2), n ≤ b := fun n => ⟨by simp [lawCl], by simp [lawCl]⟩
  have D' : Sd w g₁ L' [("script", .ref a)] ((lawCl (L' + 1)).map (fun p => (p.2, AO.cell none)) ++ rest) Bare ⟨s.os, 0, s.drawn⟩ { s with heap := h₁, toks := tk } := by
    refine ⟨⟨cells ++ news, ⟨F', N', ?_⟩, own_cells Y eC ow⟩, by rw [show ({ s with heap := h₁, toks := tk } : Shared).gens = s.gens from rfl, hg]; exact fun _ hm => by simp at hm, ⟨rfl, rfl⟩, Nat.zero_le _⟩
    rw [List.map_append, cells_addr Y]
    refine List.pairwise_append.mpr ⟨(ordL _).1, hord, fun x hx b hb => ?_⟩
    obtain ⟨p, hp, rfl⟩ := List.mem_map.mp hb
    have h1 := lt p hp
    have h2 := (ordL (L' + 1)).2 x hx
    exact Nat.lt_of_lt_of_le (Nat.lt_succ_of_lt h1) h2
  have C' : Fx w 0 (callerA.deeper (envOfC "law" (scopeAt [37]) L' 815 (.ref 814))) (envOfC "law" (scopeAt [37]) L' 815 (.ref 814)) g₁ L' [37] :=
    ⟨rfl, rfl, F.kind, rfl, rfl, rfl, X0, rfl, by show callerA.depth + 1 ≤ _; decide, by show callerA.units + 3 ≤ _; decide⟩
  have V' : Nv (envOfC "law" (scopeAt [37]) L' 815 (.ref 814)) (scopeAt [37]) (lawCl (L' + 1)) := ⟨rfl, F.kind, rfl, rfl, by rw [← law_cl]; rfl⟩
  refine wpAny_mono (law_body (Q := fun fl s2 => fl = .ret (.bool true) ∧ OldK s.heap s2.heap ∧ s2.os = s.os ∧ AllBare s2.gens) V' C' (by decide) rfl hi hlen r1 r2 (law_holds ns) D' (fun m os' s2 e D2 => ?_)).out (fun fl s2 hb => ?_) fun _ _ x => x.elim
  · rw [law_true]
    exact ⟨rfl, back s2 m os' e D2⟩
  · obtain ⟨rfl, h1, h2, h3⟩ := hb
    exact ⟨rfl, h1, h2, h3⟩
end
section
theorem ints_of {P : Params} {h : Heap} : ∀ {vs : List Value} {xs : List WData}, WellAll P h vs xs → WShape.hasItems [] xs .int = true → ∃ ns : List Int, IntsAre vs ns ∧ ns.length = xs.length
  | _, _, .nil, _ => ⟨[], .nil, rfl⟩
  | _, _, .cons (d := d) a r, hx => by
    simp only [WShape.hasItems, Bool.and_eq_true] at hx
    obtain ⟨i, rfl⟩ := hasW_int hx.1
    obtain ⟨ns, h1, h2⟩ := ints_of r hx.2
    cases a with
    | int i t => exact ⟨i :: ns, .cons i t h1, by simp [h2]⟩
theorem len_of {xs : List WData} (h : PySem.Challenge.rw_dn0059_08.row.pre.holds [] { args := [.list xs] } = true) : xs.length ≤ 63 := by
  have e : PySem.Challenge.rw_dn0059_08.row.pre = .and (.not (.lt (.lit (.int 63)) (.len (.arg 0)))) (.lit (.bool true)) := rfl
  rw [e] at h
  by_cases q : xs.length ≤ 63
  · exact q
  · have q' : (63 : Int) < xs.length := by omega
    simp [WTm.holds, WTm.value, less?, Num.less?, q'] at h
theorem post_of (xs ds : List WData) : PySem.Challenge.rw_dn0059_08.row.toRowW.claim.post xs (.bool true) ds = true := by
  simp [RowW.claim, OpenLaw.row, WTm.holds, WTm.value, same, WShape.has, WShape.arms]
theorem law_done : PySem.Challenge.rw_dn0059_08.Holds := by
  refine hd fun w s₀ s₁ mg mb G Y a o pm cd doc dV kV ho hod hcd hD hmg hg args vals as hpre hlay hrd hwl hlo => ?_
  have X : GK w s₁.heap := fun b o e => Y b o (kk_in _ b o e)
  have hname : dlaw.name = "law" := by kernel_rfl
  have ea : a = 815 := by
    have h1 := G.T.g.agree (gk_ns X) "law"
    rw [hname] at hmg
    rw [hmg] at h1
    have h2 : nsFind (esIn (KK w.params) 3) "law" = some (.ref 815) := by kernel_rfl
    rw [h2] at h1
    cases h1
    rfl
  subst ea
  obtain ⟨hs, hp⟩ := pre_splitW hpre
  obtain ⟨d, r, rfl, hd, hr⟩ := hasAllW_cons (e := .list .int) (es := []) hs
  obtain ⟨xs, rfl, hxs⟩ := hasW_list hd
  have := hasAllW_nil hr
  subst this
  have hlen := len_of hp
  cases hwl with
  | cons hv hnil =>
    cases hnil
    cases hv with
    | list hl hall =>
      obtain ⟨ns, hi, hln⟩ := ints_of hall hxs
      refine wpAny_mono (law_top (k := 0) Y hl hi (by omega) hg) (fun v s' hh => ?_) fun _ _ x => x.elim
      obtain ⟨rfl, h1, h2, h3⟩ := hh
      exact ⟨.inl ⟨.bool true, .bool true, [], rfl, fun _ => rfl, .bool _, post_of _ _, fun _ => ⟨List.nodup_nil, fun _ hm => nomatch hm⟩⟩, h1, h2, h3⟩
end
end Mine
end
theorem PySem.Challenge.cw_dn0059_08_holds : PySem.Challenge.rw_dn0059_08.Holds :=
  Mine.law_done
