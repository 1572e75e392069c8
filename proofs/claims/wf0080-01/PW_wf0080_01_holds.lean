import PyProof.Rows.All
import Wide.All
import OpenK.AllK
import Wide.FinOn
import PySem.Challenge.RW_wf0080_01
set_option Elab.async false
set_option maxRecDepth 100000
set_option linter.all false
section
set_option maxHeartbeats 0
open PySem PySem.W PyProof.Rows
section
namespace Mine
noncomputable abbrev pw : Program := PySem.Challenge.pw_wf0080_01
noncomputable def stTop (i : Nat) : Stmt := (pw.main.body.drop i).headD (.Pass default)
noncomputable def stIn (i j : Nat) : Stmt := match stTop i with
  | .ClassDef _ _ _ body .. => (body.drop j).headD (.Pass default)
  | _ => .Pass default
noncomputable def fnRec (st : Stmt) (name qual : Str) (gl : Addr) (dflt kwd doc pm : Value) (an : Option Addr) (code ct : Value) (bu : Addr) (cl : List (Str × Addr)) : FuncData := match st with
  | .FunctionDef _ args body _ _ _ scope _ _ _ => { name := name, qualname := qual, params := args, body := .stmts body, scope := scope, globals := gl, closure := cl, defaults := dflt, kwdefaults := kwd, doc := doc, pyModule := pm, annotations := an, code := code, closureTuple := ct, builtins := bu }
  | _ => default
noncomputable abbrev en (P : Params) (x : Str) (t : Tok) (v : Value) : DictEntry := ⟨PyData.keyHash P x, .str x t, v⟩
noncomputable abbrev lifeM : Life := { }
noncomputable def o0 (P : Params) : Obj := ⟨(.type "dict"), none, (.dict #[en P "__name__" 1 (.str "builtins" 160), en P "__doc__" 2 (.builtin "builtins.__doc__:str#opaque"), en P "__package__" 3 (.builtin "builtins.__package__:str#opaque"), en P "__loader__" 4 (.builtin "builtins.__loader__:shared#opaque"), en P "__spec__" 5 (.builtin "builtins.__spec__#opaque"), en P "__build_class__" 6 (.builtin "__build_class__"), en P "__import__" 7 (.builtin "__import__"), en P "abs" 8 (.builtin "abs"), en P "all" 9 (.builtin "all"), en P "any" 10 (.builtin "any"), en P "ascii" 11 (.builtin "ascii"), en P "bin" 12 (.builtin "bin"), en P "breakpoint" 13 (.builtin "breakpoint"), en P "callable" 14 (.builtin "callable"), en P "chr" 15 (.builtin "chr"), en P "compile" 16 (.builtin "compile"), en P "delattr" 17 (.builtin "delattr"), en P "dir" 18 (.builtin "dir"), en P "divmod" 19 (.builtin "divmod"), en P "eval" 20 (.builtin "eval"), en P "exec" 21 (.builtin "exec"), en P "format" 22 (.builtin "format"), en P "getattr" 23 (.builtin "getattr"), en P "globals" 24 (.builtin "globals"), en P "hasattr" 25 (.builtin "hasattr"), en P "hash" 26 (.builtin "hash"), en P "hex" 27 (.builtin "hex"), en P "id" 28 (.builtin "id"), en P "input" 29 (.builtin "input"), en P "isinstance" 30 (.builtin "isinstance"), en P "issubclass" 31 (.builtin "issubclass"), en P "iter" 32 (.builtin "iter"), en P "aiter" 33 (.builtin "aiter"), en P "len" 34 (.builtin "len"), en P "locals" 35 (.builtin "locals"), en P "max" 36 (.builtin "max"), en P "min" 37 (.builtin "min"), en P "next" 38 (.builtin "next"), en P "anext" 39 (.builtin "anext"), en P "oct" 40 (.builtin "oct"), en P "ord" 41 (.builtin "ord"), en P "pow" 42 (.builtin "pow"), en P "print" 43 (.builtin "print"), en P "repr" 44 (.builtin "repr"), en P "round" 45 (.builtin "round"), en P "setattr" 46 (.builtin "setattr"), en P "sorted" 47 (.builtin "sorted"), en P "sum" 48 (.builtin "sum"), en P "vars" 49 (.builtin "vars"), en P "None" 50 .none, en P "Ellipsis" 51 .ellipsis, en P "NotImplemented" 52 .notImplemented, en P "False" 53 (.bool false), en P "True" 54 (.bool true), en P "bool" 55 (.type "bool"), en P "memoryview" 56 (.type "memoryview"), en P "bytearray" 57 (.type "bytearray"), en P "bytes" 58 (.type "bytes"), en P "classmethod" 59 (.type "classmethod"), en P "complex" 60 (.type "complex"), en P "dict" 61 (.type "dict"), en P "enumerate" 62 (.type "enumerate"), en P "filter" 63 (.type "filter"), en P "float" 64 (.type "float"), en P "frozenset" 65 (.type "frozenset"), en P "property" 66 (.type "property"), en P "int" 67 (.type "int"), en P "list" 68 (.type "list"), en P "map" 69 (.type "map"), en P "object" 70 (.type "object"), en P "range" 71 (.type "range"), en P "reversed" 72 (.type "reversed"), en P "set" 73 (.type "set"), en P "slice" 74 (.type "slice"), en P "staticmethod" 75 (.type "staticmethod"), en P "str" 76 (.type "str"), en P "super" 77 (.type "super"), en P "tuple" 78 (.type "tuple"), en P "type" 79 (.type "type"), en P "zip" 80 (.type "zip"), en P "__debug__" 81 (.bool true), en P "BaseException" 82 (.type "BaseException"), en P "BaseExceptionGroup" 83 (.type "BaseExceptionGroup"), en P "Exception" 84 (.type "Exception"), en P "GeneratorExit" 85 (.type "GeneratorExit"), en P "KeyboardInterrupt" 86 (.type "KeyboardInterrupt"), en P "SystemExit" 87 (.type "SystemExit"), en P "ArithmeticError" 88 (.type "ArithmeticError"), en P "AssertionError" 89 (.type "AssertionError"), en P "AttributeError" 90 (.type "AttributeError"), en P "BufferError" 91 (.type "BufferError"), en P "EOFError" 92 (.type "EOFError"), en P "ImportError" 93 (.type "ImportError"), en P "LookupError" 94 (.type "LookupError"), en P "MemoryError" 95 (.type "MemoryError"), en P "NameError" 96 (.type "NameError"), en P "OSError" 97 (.type "OSError"), en P "ReferenceError" 98 (.type "ReferenceError"), en P "RuntimeError" 99 (.type "RuntimeError"), en P "StopAsyncIteration" 100 (.type "StopAsyncIteration"), en P "StopIteration" 101 (.type "StopIteration"), en P "SyntaxError" 102 (.type "SyntaxError"), en P "SystemError" 103 (.type "SystemError"), en P "TypeError" 104 (.type "TypeError"), en P "ValueError" 105 (.type "ValueError"), en P "Warning" 106 (.type "Warning"), en P "FloatingPointError" 107 (.type "FloatingPointError"), en P "OverflowError" 108 (.type "OverflowError"), en P "ZeroDivisionError" 109 (.type "ZeroDivisionError"), en P "BytesWarning" 110 (.type "BytesWarning"), en P "DeprecationWarning" 111 (.type "DeprecationWarning"), en P "EncodingWarning" 112 (.type "EncodingWarning"), en P "FutureWarning" 113 (.type "FutureWarning"), en P "ImportWarning" 114 (.type "ImportWarning"), en P "PendingDeprecationWarning" 115 (.type "PendingDeprecationWarning"), en P "ResourceWarning" 116 (.type "ResourceWarning"), en P "RuntimeWarning" 117 (.type "RuntimeWarning"), en P "SyntaxWarning" 118 (.type "SyntaxWarning"), en P "UnicodeWarning" 119 (.type "UnicodeWarning"), en P "UserWarning" 120 (.type "UserWarning"), en P "BlockingIOError" 121 (.type "BlockingIOError"), en P "ChildProcessError" 122 (.type "ChildProcessError"), en P "ConnectionError" 123 (.type "ConnectionError"), en P "FileExistsError" 124 (.type "FileExistsError"), en P "FileNotFoundError" 125 (.type "FileNotFoundError"), en P "InterruptedError" 126 (.type "InterruptedError"), en P "IsADirectoryError" 127 (.type "IsADirectoryError"), en P "NotADirectoryError" 128 (.type "NotADirectoryError"), en P "PermissionError" 129 (.type "PermissionError"), en P "ProcessLookupError" 130 (.type "ProcessLookupError"), en P "TimeoutError" 131 (.type "TimeoutError"), en P "IndentationError" 132 (.type "IndentationError"), en P "_IncompleteInputError" 133 (.type "_IncompleteInputError"), en P "IndexError" 134 (.type "IndexError"), en P "KeyError" 135 (.type "KeyError"), en P "ModuleNotFoundError" 136 (.type "ModuleNotFoundError"), en P "NotImplementedError" 137 (.type "NotImplementedError"), en P "PythonFinalizationError" 138 (.type "PythonFinalizationError"), en P "RecursionError" 139 (.type "RecursionError"), en P "UnboundLocalError" 140 (.type "UnboundLocalError"), en P "UnicodeError" 141 (.type "UnicodeError"), en P "BrokenPipeError" 142 (.type "BrokenPipeError"), en P "ConnectionAbortedError" 143 (.type "ConnectionAbortedError"), en P "ConnectionRefusedError" 144 (.type "ConnectionRefusedError"), en P "ConnectionResetError" 145 (.type "ConnectionResetError"), en P "TabError" 146 (.type "TabError"), en P "UnicodeDecodeError" 147 (.type "UnicodeDecodeError"), en P "UnicodeEncodeError" 148 (.type "UnicodeEncodeError"), en P "UnicodeTranslateError" 149 (.type "UnicodeTranslateError"), en P "ExceptionGroup" 150 (.type "ExceptionGroup"), en P "EnvironmentError" 151 (.type "OSError"), en P "IOError" 152 (.type "OSError"), en P "open" 153 (.builtin "open"), en P "quit" 154 (.builtin "builtins.quit#opaque"), en P "exit" 155 (.builtin "builtins.exit#opaque"), en P "copyright" 156 (.builtin "builtins.copyright#opaque"), en P "credits" 157 (.builtin "builtins.credits#opaque"), en P "license" 158 (.builtin "builtins.license#opaque"), en P "help" 159 (.builtin "builtins.help#opaque")] 159), #[]⟩
noncomputable def o1 (P : Params) : Obj := ⟨(.type "dict"), none, (.dict #[en P "builtins" 162 (.ref 4), en P "__main__" 163 (.ref 5), en P "_sre" 244 (.ref 12)] 3), #[]⟩
noncomputable def o2 (P : Params) : Obj := ⟨.none, none, (.dict #[en P (.mk #[105, 109, 112, 111, 114, 116, 46, 108, 111, 97, 100, 101, 100, 46, 95, 115, 114, 101]) 183 (.bool true), en P "class._frozen_importlib.BuiltinImporter" 185 (.ref 14), en P (.mk #[119, 97, 116, 99, 104, 101, 100, 46, 105, 109, 112, 111, 114, 116]) 206 (.ref 18), en P "class._frozen_importlib.ModuleSpec" 216 (.ref 22), en P "sys.modules.booked-epoch" 245 (.int 3 0), en P (.mk #[105, 109, 112, 111, 114, 116, 46, 108, 97, 116, 101, 114, 45, 108, 97, 105, 100, 46, 95, 115, 114, 101]) 270 (.bool true), en P "watched.library" 272 (.ref 27), en P "watched.library-objects" 0 (.str (.mk #[12]) 0), en P "watched.library-deep._sre" 273 (.str (.mk #[4, 0, 0, 11, 4, 0, 0, 11, 4, 0, 0, 3, 4, 0, 0, 11, 8, 4, 100, 105, 99, 116, 2]) 0)] 9), #[]⟩
noncomputable def o3 (P : Params) : Obj := ⟨(.type "dict"), none, (.dict #[en P "__name__" 165 (.str "__main__" 164), en P "__doc__" 166 .none, en P "__package__" 167 .none, en P "__loader__" 168 (.builtin "__main__.__loader__#opaque"), en P "__spec__" 169 .none, en P "__annotations__" 170 (.ref 6), en P "__builtins__" 171 (.ref 4), en P "__file__" 173 (.str "/claim/cut.py" 172), en P "__cached__" 174 .none, en P "_sre" 275 (.ref 12)] 10), #[]⟩
noncomputable def o4 (P : Params) : Obj := ⟨(.type "module"), (some 0), .plain, #[]⟩
noncomputable def o5 (P : Params) : Obj := ⟨(.type "module"), (some 3), .plain, #[]⟩
noncomputable def o6 (P : Params) : Obj := ⟨(.type "dict"), none, (.dict #[] 0), #[]⟩
noncomputable def o7 (P : Params) : Obj := ⟨(.type "tuple"), none, (.seq #[] 0), #[]⟩
noncomputable def o8 (P : Params) : Obj := ⟨.none, none, (.fields #[]), #[]⟩
noncomputable def o9 (P : Params) : Obj := ⟨(.type "code"), none, (.fields #[(.str "<module>" 176), (.str "<module>" 177), (.str "/claim/cut.py" 178), (.int 1 0), (.int 0 0), (.int 0 0), (.int 0 0), (.int 0 0), (.ref 7), (.bool false), (.int 175 0), (.ref 8), .none, .none, .none, .none, (.int 179 0), (.int 1 0), (.str "/claim/cut.py" 180)]), #[]⟩
noncomputable def o10 (P : Params) : Obj := ⟨(.type "frame"), none, .plain, #[(some (.ref 9)), (some (.ref 3)), (some (.ref 3)), none, (some (.str "__main__" 164)), none, (some (.ref 0))]⟩
noncomputable def o11 (P : Params) : Obj := ⟨(.type "dict"), none, (.dict #[en P "__name__" 247 (.str "_sre" 246), en P "__doc__" 248 .none, en P "__package__" 250 (.str "" 249), en P "__loader__" 251 (.builtin "off-the-table:_sre.__loader__:shared#opaque"), en P "__spec__" 252 (.builtin "off-the-table:_sre.__spec__:shared#opaque"), en P "compile" 253 (.builtin "_sre.compile"), en P "template" 254 (.builtin "off-the-table:_sre.template:shared#opaque"), en P "getcodesize" 255 (.builtin "off-the-table:_sre.getcodesize:shared#opaque"), en P "ascii_iscased" 256 (.builtin "off-the-table:_sre.ascii_iscased:shared#opaque"), en P "unicode_iscased" 257 (.builtin "off-the-table:_sre.unicode_iscased:shared#opaque"), en P "ascii_tolower" 258 (.builtin "off-the-table:_sre.ascii_tolower:shared#opaque"), en P "unicode_tolower" 259 (.builtin "off-the-table:_sre.unicode_tolower:shared#opaque"), en P "MAGIC" 261 (.int 20230612 260), en P "CODESIZE" 263 (.int 4 262), en P "MAXREPEAT" 265 (.int 4294967295 264), en P "MAXGROUPS" 267 (.int 1073741823 266), en P "copyright" 269 (.str " SRE 2.2.2 Copyright (c) 1997-2002 by Secret Labs AB " 268)] 17), #[]⟩
noncomputable def o12 (P : Params) : Obj := ⟨(.type "module"), (some 11), .plain, #[]⟩
noncomputable def o13 (P : Params) : Obj := ⟨(.type "dict"), none, (.dict #[en P "__module__" 189 (.str "_frozen_importlib" 186), en P "__firstlineno__" 190 (.int 971 187), en P "__doc__" 191 (.builtin "_frozen_importlib.BuiltinImporter.__doc__:str#opaque"), en P "_ORIGIN" 192 (.str "built-in" 188), en P "find_spec" 193 (.builtin "_frozen_importlib.BuiltinImporter.find_spec#opaque"), en P "create_module" 194 (.builtin "_frozen_importlib.BuiltinImporter.create_module#opaque"), en P "exec_module" 195 (.builtin "_frozen_importlib.BuiltinImporter.exec_module#opaque"), en P "get_code" 196 (.builtin "_frozen_importlib.BuiltinImporter.get_code#opaque"), en P "get_source" 197 (.builtin "_frozen_importlib.BuiltinImporter.get_source#opaque"), en P "is_package" 198 (.builtin "_frozen_importlib.BuiltinImporter.is_package#opaque"), en P "load_module" 199 (.builtin "_frozen_importlib.BuiltinImporter.load_module#opaque"), en P "__static_attributes__" 200 (.ref 15), en P "__dict__" 202 (.ref 16), en P "__weakref__" 204 (.ref 17)] 14), #[]⟩
noncomputable def o14 (P : Params) : Obj := ⟨(.type "type"), none, (.cls { name := "BuiltinImporter", bases := [(.type "object")], mro := [(.ref 14), (.type "object")], ns := 13, qualname := "BuiltinImporter", hasDict := true, slotNames := [], subclasses := [], abstract := false, collection := none, hasDel := false }), #[]⟩
noncomputable def o15 (P : Params) : Obj := ⟨(.type "tuple"), none, (.seq #[] 0), #[]⟩
noncomputable def o16 (P : Params) : Obj := ⟨(.type "getset_descriptor"), none, (.fields #[(.str "__dict__" 201), (.ref 14), (.builtin "function.__dict__"), (.builtin "function.__dict__#set")]), #[]⟩
noncomputable def o17 (P : Params) : Obj := ⟨(.type "getset_descriptor"), none, (.fields #[(.str "__weakref__" 203), (.ref 14), (.builtin "ExceptionGroup.__weakref__"), .none]), #[]⟩
noncomputable def o18 (P : Params) : Obj := ⟨.none, none, (.seq #[(.int 13 0), (.str (.mk #[6, 189, 10, 95, 95, 109, 111, 100, 117, 108, 101, 95, 95, 6, 186, 17, 95, 102, 114, 111, 122, 101, 110, 95, 105, 109, 112, 111, 114, 116, 108, 105, 98, 6, 190, 15, 95, 95, 102, 105, 114, 115, 116, 108, 105, 110, 101, 110, 111, 95, 95, 4, 187, 0, 971, 6, 191, 7, 95, 95, 100, 111, 99, 95, 95, 9, 52, 95, 102, 114, 111, 122, 101, 110, 95, 105, 109, 112, 111, 114, 116, 108, 105, 98, 46, 66, 117, 105, 108, 116, 105, 110, 73, 109, 112, 111, 114, 116, 101, 114, 46, 95, 95, 100, 111, 99, 95, 95, 58, 115, 116, 114, 35, 111, 112, 97, 113, 117, 101, 6, 192, 7, 95, 79, 82, 73, 71, 73, 78, 6, 188, 8, 98, 117, 105, 108, 116, 45, 105, 110, 6, 193, 9, 102, 105, 110, 100, 95, 115, 112, 101, 99, 9, 50, 95, 102, 114, 111, 122, 101, 110, 95, 105, 109, 112, 111, 114, 116, 108, 105, 98, 46, 66, 117, 105, 108, 116, 105, 110, 73, 109, 112, 111, 114, 116, 101, 114, 46, 102, 105, 110, 100, 95, 115, 112, 101, 99, 35, 111, 112, 97, 113, 117, 101, 6, 194, 13, 99, 114, 101, 97, 116, 101, 95, 109, 111, 100, 117, 108, 101, 9, 54, 95, 102, 114, 111, 122, 101, 110, 95, 105, 109, 112, 111, 114, 116, 108, 105, 98, 46, 66, 117, 105, 108, 116, 105, 110, 73, 109, 112, 111, 114, 116, 101, 114, 46, 99, 114, 101, 97, 116, 101, 95, 109, 111, 100, 117, 108, 101, 35, 111, 112, 97, 113, 117, 101, 6, 195, 11, 101, 120, 101, 99, 95, 109, 111, 100, 117, 108, 101, 9, 52, 95, 102, 114, 111, 122, 101, 110, 95, 105, 109, 112, 111, 114, 116, 108, 105, 98, 46, 66, 117, 105, 108, 116, 105, 110, 73, 109, 112, 111, 114, 116, 101, 114, 46, 101, 120, 101, 99, 95, 109, 111, 100, 117, 108, 101, 35, 111, 112, 97, 113, 117, 101, 6, 196, 8, 103, 101, 116, 95, 99, 111, 100, 101, 9, 49, 95, 102, 114, 111, 122, 101, 110, 95, 105, 109, 112, 111, 114, 116, 108, 105, 98, 46, 66, 117, 105, 108, 116, 105, 110, 73, 109, 112, 111, 114, 116, 101, 114, 46, 103, 101, 116, 95, 99, 111, 100, 101, 35, 111, 112, 97, 113, 117, 101, 6, 197, 10, 103, 101, 116, 95, 115, 111, 117, 114, 99, 101, 9, 51, 95, 102, 114, 111, 122, 101, 110, 95, 105, 109, 112, 111, 114, 116, 108, 105, 98, 46, 66, 117, 105, 108, 116, 105, 110, 73, 109, 112, 111, 114, 116, 101, 114, 46, 103, 101, 116, 95, 115, 111, 117, 114, 99, 101, 35, 111, 112, 97, 113, 117, 101, 6, 198, 10, 105, 115, 95, 112, 97, 99, 107, 97, 103, 101, 9, 51, 95, 102, 114, 111, 122, 101, 110, 95, 105, 109, 112, 111, 114, 116, 108, 105, 98, 46, 66, 117, 105, 108, 116, 105, 110, 73, 109, 112, 111, 114, 116, 101, 114, 46, 105, 115, 95, 112, 97, 99, 107, 97, 103, 101, 35, 111, 112, 97, 113, 117, 101, 6, 199, 11, 108, 111, 97, 100, 95, 109, 111, 100, 117, 108, 101, 9, 52, 95, 102, 114, 111, 122, 101, 110, 95, 105, 109, 112, 111, 114, 116, 108, 105, 98, 46, 66, 117, 105, 108, 116, 105, 110, 73, 109, 112, 111, 114, 116, 101, 114, 46, 108, 111, 97, 100, 95, 109, 111, 100, 117, 108, 101, 35, 111, 112, 97, 113, 117, 101, 6, 200, 21, 95, 95, 115, 116, 97, 116, 105, 99, 95, 97, 116, 116, 114, 105, 98, 117, 116, 101, 115, 95, 95, 4, 0, 0, 15, 6, 202, 8, 95, 95, 100, 105, 99, 116, 95, 95, 4, 0, 0, 16, 6, 204, 11, 95, 95, 119, 101, 97, 107, 114, 101, 102, 95, 95, 4, 0, 0, 17]) 0), (.bool true), (.bool true), (.str "" 205), (.int 21 0), (.str (.mk #[6, 227, 10, 95, 95, 109, 111, 100, 117, 108, 101, 95, 95, 6, 217, 17, 95, 102, 114, 111, 122, 101, 110, 95, 105, 109, 112, 111, 114, 116, 108, 105, 98, 6, 228, 15, 95, 95, 102, 105, 114, 115, 116, 108, 105, 110, 101, 110, 111, 95, 95, 4, 218, 0, 562, 6, 229, 7, 95, 95, 100, 111, 99, 95, 95, 9, 47, 95, 102, 114, 111, 122, 101, 110, 95, 105, 109, 112, 111, 114, 116, 108, 105, 98, 46, 77, 111, 100, 117, 108, 101, 83, 112, 101, 99, 46, 95, 95, 100, 111, 99, 95, 95, 58, 115, 116, 114, 35, 111, 112, 97, 113, 117, 101, 6, 230, 8, 95, 95, 105, 110, 105, 116, 95, 95, 9, 44, 95, 102, 114, 111, 122, 101, 110, 95, 105, 109, 112, 111, 114, 116, 108, 105, 98, 46, 77, 111, 100, 117, 108, 101, 83, 112, 101, 99, 46, 95, 95, 105, 110, 105, 116, 95, 95, 35, 111, 112, 97, 113, 117, 101, 6, 231, 8, 95, 95, 114, 101, 112, 114, 95, 95, 9, 44, 95, 102, 114, 111, 122, 101, 110, 95, 105, 109, 112, 111, 114, 116, 108, 105, 98, 46, 77, 111, 100, 117, 108, 101, 83, 112, 101, 99, 46, 95, 95, 114, 101, 112, 114, 95, 95, 35, 111, 112, 97, 113, 117, 101, 6, 232, 6, 95, 95, 101, 113, 95, 95, 9, 42, 95, 102, 114, 111, 122, 101, 110, 95, 105, 109, 112, 111, 114, 116, 108, 105, 98, 46, 77, 111, 100, 117, 108, 101, 83, 112, 101, 99, 46, 95, 95, 101, 113, 95, 95, 35, 111, 112, 97, 113, 117, 101, 6, 233, 6, 99, 97, 99, 104, 101, 100, 9, 42, 95, 102, 114, 111, 122, 101, 110, 95, 105, 109, 112, 111, 114, 116, 108, 105, 98, 46, 77, 111, 100, 117, 108, 101, 83, 112, 101, 99, 46, 99, 97, 99, 104, 101, 100, 35, 111, 112, 97, 113, 117, 101, 6, 234, 6, 112, 97, 114, 101, 110, 116, 9, 42, 95, 102, 114, 111, 122, 101, 110, 95, 105, 109, 112, 111, 114, 116, 108, 105, 98, 46, 77, 111, 100, 117, 108, 101, 83, 112, 101, 99, 46, 112, 97, 114, 101, 110, 116, 35, 111, 112, 97, 113, 117, 101, 6, 235, 12, 104, 97, 115, 95, 108, 111, 99, 97, 116, 105, 111, 110, 9, 48, 95, 102, 114, 111, 122, 101, 110, 95, 105, 109, 112, 111, 114, 116, 108, 105, 98, 46, 77, 111, 100, 117, 108, 101, 83, 112, 101, 99, 46, 104, 97, 115, 95, 108, 111, 99, 97, 116, 105, 111, 110, 35, 111, 112, 97, 113, 117, 101, 6, 236, 21, 95, 95, 115, 116, 97, 116, 105, 99, 95, 97, 116, 116, 114, 105, 98, 117, 116, 101, 115, 95, 95, 4, 0, 0, 23, 6, 238, 8, 95, 95, 100, 105, 99, 116, 95, 95, 4, 0, 0, 24, 6, 240, 11, 95, 95, 119, 101, 97, 107, 114, 101, 102, 95, 95, 4, 0, 0, 25, 6, 241, 8, 95, 95, 104, 97, 115, 104, 95, 95, 0]) 0), (.bool true), (.bool true), (.str "" 242)] 1), #[]⟩
noncomputable def o19 (P : Params) : Obj := ⟨(.type "list"), none, (.seq #[] 0), #[]⟩
noncomputable def o20 (P : Params) : Obj := ⟨(.type "dict"), none, (.dict #[en P "name" 208 (.str "_sre" 207), en P "loader" 209 (.ref 14), en P "origin" 210 (.str "built-in" 184), en P "loader_state" 211 .none, en P "submodule_search_locations" 212 .none, en P "_uninitialized_submodules" 213 (.ref 19), en P "_set_fileattr" 214 (.bool false), en P "_cached" 215 .none, en P "_initializing" 243 (.bool false)] 9), #[]⟩
noncomputable def o21 (P : Params) : Obj := ⟨(.type "dict"), none, (.dict #[en P "__module__" 227 (.str "_frozen_importlib" 217), en P "__firstlineno__" 228 (.int 562 218), en P "__doc__" 229 (.builtin "_frozen_importlib.ModuleSpec.__doc__:str#opaque"), en P "__init__" 230 (.builtin "_frozen_importlib.ModuleSpec.__init__#opaque"), en P "__repr__" 231 (.builtin "_frozen_importlib.ModuleSpec.__repr__#opaque"), en P "__eq__" 232 (.builtin "_frozen_importlib.ModuleSpec.__eq__#opaque"), en P "cached" 233 (.builtin "_frozen_importlib.ModuleSpec.cached#opaque"), en P "parent" 234 (.builtin "_frozen_importlib.ModuleSpec.parent#opaque"), en P "has_location" 235 (.builtin "_frozen_importlib.ModuleSpec.has_location#opaque"), en P "__static_attributes__" 236 (.ref 23), en P "__dict__" 238 (.ref 24), en P "__weakref__" 240 (.ref 25), en P "__hash__" 241 .none] 13), #[]⟩
noncomputable def o22 (P : Params) : Obj := ⟨(.type "type"), none, (.cls { name := "ModuleSpec", bases := [(.type "object")], mro := [(.ref 22), (.type "object")], ns := 21, qualname := "ModuleSpec", hasDict := true, slotNames := [], subclasses := [], abstract := false, collection := none, hasDel := false }), #[]⟩
noncomputable def o23 (P : Params) : Obj := ⟨(.type "tuple"), none, (.seq #[(.str "_cached" 219), (.str "_set_fileattr" 220), (.str "_uninitialized_submodules" 221), (.str "loader" 222), (.str "loader_state" 223), (.str "name" 224), (.str "origin" 225), (.str "submodule_search_locations" 226)] 0), #[]⟩
noncomputable def o24 (P : Params) : Obj := ⟨(.type "getset_descriptor"), none, (.fields #[(.str "__dict__" 237), (.ref 22), (.builtin "function.__dict__"), (.builtin "function.__dict__#set")]), #[]⟩
noncomputable def o25 (P : Params) : Obj := ⟨(.type "getset_descriptor"), none, (.fields #[(.str "__weakref__" 239), (.ref 22), (.builtin "ExceptionGroup.__weakref__"), .none]), #[]⟩
noncomputable def o26 (P : Params) : Obj := ⟨(.ref 22), (some 20), .plain, #[]⟩
noncomputable def o27 (P : Params) : Obj := ⟨.none, none, (.seq #[(.int 11 0), (.str (.mk #[6, 247, 8, 95, 95, 110, 97, 109, 101, 95, 95, 6, 246, 4, 95, 115, 114, 101, 6, 248, 7, 95, 95, 100, 111, 99, 95, 95, 0, 6, 250, 11, 95, 95, 112, 97, 99, 107, 97, 103, 101, 95, 95, 6, 249, 0, 6, 251, 10, 95, 95, 108, 111, 97, 100, 101, 114, 95, 95, 4, 0, 0, 14, 6, 252, 8, 95, 95, 115, 112, 101, 99, 95, 95, 4, 0, 0, 26, 6, 253, 7, 99, 111, 109, 112, 105, 108, 101, 9, 12, 95, 115, 114, 101, 46, 99, 111, 109, 112, 105, 108, 101, 6, 254, 8, 116, 101, 109, 112, 108, 97, 116, 101, 9, 13, 95, 115, 114, 101, 46, 116, 101, 109, 112, 108, 97, 116, 101, 6, 255, 11, 103, 101, 116, 99, 111, 100, 101, 115, 105, 122, 101, 9, 16, 95, 115, 114, 101, 46, 103, 101, 116, 99, 111, 100, 101, 115, 105, 122, 101, 6, 256, 13, 97, 115, 99, 105, 105, 95, 105, 115, 99, 97, 115, 101, 100, 9, 18, 95, 115, 114, 101, 46, 97, 115, 99, 105, 105, 95, 105, 115, 99, 97, 115, 101, 100, 6, 257, 15, 117, 110, 105, 99, 111, 100, 101, 95, 105, 115, 99, 97, 115, 101, 100, 9, 20, 95, 115, 114, 101, 46, 117, 110, 105, 99, 111, 100, 101, 95, 105, 115, 99, 97, 115, 101, 100, 6, 258, 13, 97, 115, 99, 105, 105, 95, 116, 111, 108, 111, 119, 101, 114, 9, 18, 95, 115, 114, 101, 46, 97, 115, 99, 105, 105, 95, 116, 111, 108, 111, 119, 101, 114, 6, 259, 15, 117, 110, 105, 99, 111, 100, 101, 95, 116, 111, 108, 111, 119, 101, 114, 9, 20, 95, 115, 114, 101, 46, 117, 110, 105, 99, 111, 100, 101, 95, 116, 111, 108, 111, 119, 101, 114, 6, 261, 5, 77, 65, 71, 73, 67, 4, 260, 0, 20230612, 6, 263, 8, 67, 79, 68, 69, 83, 73, 90, 69, 4, 262, 0, 4, 6, 265, 9, 77, 65, 88, 82, 69, 80, 69, 65, 84, 4, 264, 0, 4294967295, 6, 267, 9, 77, 65, 88, 71, 82, 79, 85, 80, 83, 4, 266, 0, 1073741823, 6, 269, 9, 99, 111, 112, 121, 114, 105, 103, 104, 116, 6, 268, 53, 32, 83, 82, 69, 32, 50, 46, 50, 46, 50, 32, 67, 111, 112, 121, 114, 105, 103, 104, 116, 32, 40, 99, 41, 32, 49, 57, 57, 55, 45, 50, 48, 48, 50, 32, 98, 121, 32, 83, 101, 99, 114, 101, 116, 32, 76, 97, 98, 115, 32, 65, 66, 32]) 0), (.bool true), (.bool false), (.str "_sre" 271)] 0), #[]⟩
noncomputable def o28 (P : Params) : Obj := ⟨(.type "tuple"), none, (.seq #[] 0), #[]⟩
noncomputable def o29 (P : Params) : Obj := ⟨.none, none, (.fields #[]), #[]⟩
noncomputable def o30 (P : Params) : Obj := ⟨(.type "code"), none, (.fields #[(.str "<module>" 277), (.str "<module>" 278), (.str "/claim/cut.py" 279), (.int 1 0), (.int 0 0), (.int 0 0), (.int 0 0), (.int 0 0), (.ref 28), (.bool false), (.int 276 0), (.ref 29), .none, .none, .none, .none, (.int 280 0), (.int 1 0), (.str "/claim/cut.py" 281)]), #[]⟩
noncomputable def o31 (P : Params) : Obj := ⟨(.type "frame"), none, .plain, #[(some (.ref 30)), (some (.ref 3)), (some (.ref 3)), none, (some (.str "__main__" 164)), none, (some (.ref 0))]⟩
noncomputable def o3c0 (P : Params) : Obj := ⟨(.type "dict"), none, (.dict #[en P "__name__" 165 (.str "cpy313.wsgiref.headers" 289), en P "__doc__" 166 .none, en P "__package__" 167 .none, en P "__loader__" 168 (.builtin "__main__.__loader__#opaque"), en P "__spec__" 169 .none, en P "__annotations__" 170 (.ref 6), en P "__builtins__" 171 (.ref 4), en P "__file__" 173 (.str "/claim/cut.py" 172), en P "__cached__" 174 .none, en P "_sre" 275 (.ref 12), en P "_wall" 288 (.ref 38), en P "tspecials" 324 (.ref 43), en P "_name_disallowed_re" 350 (.ref 48), en P "_value_disallowed_re" 384 (.ref 53), en P "_formatparam" 394 (.ref 61)] 15), #[]⟩
noncomputable def o29c0 (P : Params) : Obj := ⟨.none, none, (.fields #[(.int 2 0), (.int 0 0), (.ref 37), (.int 9 0), (.int 0 0), (.ref 60)]), #[]⟩
noncomputable def o32 (P : Params) : Obj := ⟨(.type "tuple"), none, (.seq #[] 0), #[]⟩
noncomputable def o33 (P : Params) : Obj := ⟨.none, none, (.fields #[]), #[]⟩
noncomputable def o34 (P : Params) : Obj := ⟨(.type "tuple"), none, (.seq #[(.str "k" 285)] 0), #[]⟩
noncomputable def o35 (P : Params) : Obj := ⟨(.type "tuple"), none, (.seq #[] 0), #[]⟩
noncomputable def o36 (P : Params) : Obj := ⟨.none, none, (.func (fnRec (stTop 1) "_wall" "_wall" 0 .none .none .none .none none .none .none 0 [])), #[]⟩
noncomputable def o37 (P : Params) : Obj := ⟨(.type "code"), none, (.fields #[(.str "_wall" 282), (.str "_wall" 283), (.str "/claim/cut.py" 284), (.int 2 0), (.int 1 0), (.int 0 0), (.int 0 0), (.int 3 0), (.ref 32), (.bool true), (.int 276 0), (.ref 33), .none, (.ref 34), (.ref 35), (.ref 36), (.int 286 0), (.int 2 0), (.str "/claim/cut.py" 287)]), #[]⟩
noncomputable def o38 (P : Params) : Obj := ⟨(.type "function"), none, (.func (fnRec (stTop 1) "_wall" "_wall" 3 .none .none .none (.str "__main__" 164) none (.ref 37) .none 0 [])), #[]⟩
noncomputable def o39 (P : Params) : Obj := ⟨(.type "list"), none, (.seq #[(.int 14 294), (.int 14 295), (.int 4 296), (.int 1 297), (.int 1 298), (.int 9 299), (.int 0 300), (.int 4227896069 301), (.int 939524097 302), (.int 0 303), (.int 0 304), (.int 0 305), (.int 0 306), (.int 0 307), (.int 0 308), (.int 13 309), (.int 11 310), (.int 9 311), (.int 0 312), (.int 4227896069 313), (.int 939524097 314), (.int 0 315), (.int 0 316), (.int 0 317), (.int 0 318), (.int 0 319), (.int 0 320), (.int 1 321)] 0), #[]⟩
noncomputable def o40 (P : Params) : Obj := ⟨(.type "dict"), none, (.dict #[] 0), #[]⟩
noncomputable def o41 (P : Params) : Obj := ⟨(.type "tuple"), none, (.seq #[.none] 0), #[]⟩
noncomputable def o42 (P : Params) : Obj := ⟨(.type "tuple"), none, (.seq #[(.int 14 0), (.int 14 0), (.int 4 0), (.int 1 0), (.int 1 0), (.int 9 0), (.int 0 0), (.int 4227896069 0), (.int 939524097 0), (.int 0 0), (.int 0 0), (.int 0 0), (.int 0 0), (.int 0 0), (.int 0 0), (.int 13 0), (.int 11 0), (.int 9 0), (.int 0 0), (.int 4227896069 0), (.int 939524097 0), (.int 0 0), (.int 0 0), (.int 0 0), (.int 0 0), (.int 0 0), (.int 0 0), (.int 1 0)] 0), #[]⟩
noncomputable def o43 (P : Params) : Obj := ⟨(.type "re.Pattern"), none, (.fields #[(.str "[ \\(\\)<>@,;:\\\\\"/\\[\\]\\?=]" 292), (.int 32 323), (.int 0 0), .none, .none, (.ref 42), (.int 0 0)]), #[]⟩
noncomputable def o44 (P : Params) : Obj := ⟨(.type "list"), none, (.seq #[(.int 14 328), (.int 10 329), (.int 4 330), (.int 1 331), (.int 1 332), (.int 22 333), (.int 0 334), (.int 31 335), (.int 16 336), (.int 127 337), (.int 0 338), (.int 13 339), (.int 7 340), (.int 22 341), (.int 0 342), (.int 31 343), (.int 16 344), (.int 127 345), (.int 0 346), (.int 1 347)] 0), #[]⟩
noncomputable def o45 (P : Params) : Obj := ⟨(.type "dict"), none, (.dict #[] 0), #[]⟩
noncomputable def o46 (P : Params) : Obj := ⟨(.type "tuple"), none, (.seq #[.none] 0), #[]⟩
noncomputable def o47 (P : Params) : Obj := ⟨(.type "tuple"), none, (.seq #[(.int 14 0), (.int 10 0), (.int 4 0), (.int 1 0), (.int 1 0), (.int 22 0), (.int 0 0), (.int 31 0), (.int 16 0), (.int 127 0), (.int 0 0), (.int 13 0), (.int 7 0), (.int 22 0), (.int 0 0), (.int 31 0), (.int 16 0), (.int 127 0), (.int 0 0), (.int 1 0)] 0), #[]⟩
noncomputable def o48 (P : Params) : Obj := ⟨(.type "re.Pattern"), none, (.fields #[(.str "[\\x00-\\x1F\\x7F]" 326), (.int 32 349), (.int 0 0), .none, .none, (.ref 47), (.int 0 0)]), #[]⟩
noncomputable def o49 (P : Params) : Obj := ⟨(.type "list"), none, (.seq #[(.int 14 354), (.int 14 355), (.int 4 356), (.int 1 357), (.int 1 358), (.int 9 359), (.int 4294966783 360), (.int 0 361), (.int 0 362), (.int 2147483648 363), (.int 0 364), (.int 0 365), (.int 0 366), (.int 0 367), (.int 0 368), (.int 13 369), (.int 11 370), (.int 9 371), (.int 4294966783 372), (.int 0 373), (.int 0 374), (.int 2147483648 375), (.int 0 376), (.int 0 377), (.int 0 378), (.int 0 379), (.int 0 380), (.int 1 381)] 0), #[]⟩
noncomputable def o50 (P : Params) : Obj := ⟨(.type "dict"), none, (.dict #[] 0), #[]⟩
noncomputable def o51 (P : Params) : Obj := ⟨(.type "tuple"), none, (.seq #[.none] 0), #[]⟩
noncomputable def o52 (P : Params) : Obj := ⟨(.type "tuple"), none, (.seq #[(.int 14 0), (.int 14 0), (.int 4 0), (.int 1 0), (.int 1 0), (.int 9 0), (.int 4294966783 0), (.int 0 0), (.int 0 0), (.int 2147483648 0), (.int 0 0), (.int 0 0), (.int 0 0), (.int 0 0), (.int 0 0), (.int 13 0), (.int 11 0), (.int 9 0), (.int 4294966783 0), (.int 0 0), (.int 0 0), (.int 2147483648 0), (.int 0 0), (.int 0 0), (.int 0 0), (.int 0 0), (.int 0 0), (.int 1 0)] 0), #[]⟩
noncomputable def o53 (P : Params) : Obj := ⟨(.type "re.Pattern"), none, (.fields #[(.str "[\\x00-\\x08\\x0A-\\x1F\\x7F]" 352), (.int 32 383), (.int 0 0), .none, .none, (.ref 52), (.int 0 0)]), #[]⟩
noncomputable def o54 (P : Params) : Obj := ⟨(.type "tuple"), none, (.seq #[.none, (.int 1 385)] 0), #[]⟩
noncomputable def o55 (P : Params) : Obj := ⟨(.type "tuple"), none, (.seq #[] 0), #[]⟩
noncomputable def o56 (P : Params) : Obj := ⟨.none, none, (.fields #[]), #[]⟩
noncomputable def o57 (P : Params) : Obj := ⟨(.type "tuple"), none, (.seq #[(.str "param" 389), (.str "value" 390), (.str "quote" 391)] 0), #[]⟩
noncomputable def o58 (P : Params) : Obj := ⟨(.type "tuple"), none, (.seq #[] 0), #[]⟩
noncomputable def o59 (P : Params) : Obj := ⟨.none, none, (.func (fnRec (stTop 6) "_formatparam" "_formatparam" 0 .none .none .none .none none .none .none 0 [])), #[]⟩
noncomputable def o60 (P : Params) : Obj := ⟨(.type "code"), none, (.fields #[(.str "_formatparam" 386), (.str "_formatparam" 387), (.str "/claim/cut.py" 388), (.int 9 0), (.int 3 0), (.int 0 0), (.int 0 0), (.int 3 0), (.ref 55), (.bool true), (.int 276 0), (.ref 56), .none, (.ref 57), (.ref 58), (.ref 59), (.int 392 0), (.int 9 0), (.str "/claim/cut.py" 393)]), #[]⟩
noncomputable def o61 (P : Params) : Obj := ⟨(.type "function"), none, (.func (fnRec (stTop 6) "_formatparam" "_formatparam" 3 (.ref 54) .none .none (.str "cpy313.wsgiref.headers" 289) none (.ref 60) .none 0 [])), #[]⟩
noncomputable def o3c1 (P : Params) : Obj := ⟨(.type "dict"), none, (.dict #[en P "__name__" 165 (.str "cpy313.wsgiref.headers" 289), en P "__doc__" 166 .none, en P "__package__" 167 .none, en P "__loader__" 168 (.builtin "__main__.__loader__#opaque"), en P "__spec__" 169 .none, en P "__annotations__" 170 (.ref 6), en P "__builtins__" 171 (.ref 4), en P "__file__" 173 (.str "/claim/cut.py" 172), en P "__cached__" 174 .none, en P "_sre" 275 (.ref 12), en P "_wall" 288 (.ref 38), en P "tspecials" 324 (.ref 43), en P "_name_disallowed_re" 350 (.ref 48), en P "_value_disallowed_re" 384 (.ref 53), en P "_formatparam" 394 (.ref 61), en P "Headers" 551 (.ref 182)] 16), #[]⟩
noncomputable def o29c1 (P : Params) : Obj := ⟨.none, none, (.fields #[(.int 2 0), (.int 0 0), (.ref 37), (.int 9 0), (.int 0 0), (.ref 60), (.int 18 0), (.int 0 0), (.ref 67)]), #[]⟩
noncomputable def o62 (P : Params) : Obj := ⟨(.type "tuple"), none, (.seq #[] 0), #[]⟩
noncomputable def o63 (P : Params) : Obj := ⟨(.type "builtin_function_or_method"), none, (.fields #[(.builtin "type.__prepare__"), (.type "type")]), #[]⟩
noncomputable def o64 (P : Params) : Obj := ⟨(.type "dict"), none, (.dict #[en P "__module__" 402 (.str "cpy313.wsgiref.headers" 289), en P "__qualname__" 404 (.str "Headers" 403), en P "__firstlineno__" 406 (.int 18 405), en P "__init__" 416 (.ref 76), en P "_convert_string_type" 426 (.ref 83), en P "__len__" 433 (.ref 90), en P "__setitem__" 442 (.ref 97), en P "__delitem__" 448 (.ref 102), en P "__getitem__" 456 (.ref 109), en P "__contains__" 464 (.ref 116), en P "get_all" 470 (.ref 121), en P "get" 481 (.ref 129), en P "keys" 487 (.ref 134), en P "values" 493 (.ref 139), en P "items" 500 (.ref 146), en P "__repr__" 507 (.ref 153), en P "__str__" 513 (.ref 158), en P "__bytes__" 520 (.ref 165), en P "setdefault" 529 (.ref 172), en P "add_header" 542 (.ref 179), en P "__static_attributes__" 544 (.ref 180)] 21), #[]⟩
noncomputable def o65 (P : Params) : Obj := ⟨(.type "tuple"), none, (.seq #[] 0), #[]⟩
noncomputable def o66 (P : Params) : Obj := ⟨.none, none, (.fields #[(.int 20 0), (.int 4 0), (.ref 75), (.int 30 0), (.int 4 0), (.ref 82), (.int 38 0), (.int 4 0), (.ref 89), (.int 41 0), (.int 4 0), (.ref 96), (.int 45 0), (.int 4 0), (.ref 101), (.int 49 0), (.int 4 0), (.ref 108), (.int 52 0), (.int 4 0), (.ref 115), (.int 55 0), (.int 4 0), (.ref 120), (.int 59 0), (.int 4 0), (.ref 128), (.int 66 0), (.int 4 0), (.ref 133), (.int 69 0), (.int 4 0), (.ref 138), (.int 72 0), (.int 4 0), (.ref 145), (.int 75 0), (.int 4 0), (.ref 152), (.int 78 0), (.int 4 0), (.ref 157), (.int 81 0), (.int 4 0), (.ref 164), (.int 84 0), (.int 4 0), (.ref 171), (.int 87 0), (.int 4 0), (.ref 178)]), #[]⟩
noncomputable def o67 (P : Params) : Obj := ⟨(.type "code"), none, (.fields #[(.str "Headers" 397), (.str "Headers" 398), (.str "/claim/cut.py" 399), (.int 18 0), (.int 0 0), (.int 0 0), (.int 0 0), (.int 0 0), (.ref 65), (.bool false), (.int 276 0), (.ref 66), .none, .none, .none, .none, (.int 400 0), (.int 18 0), (.str "/claim/cut.py" 401)]), #[]⟩
noncomputable def o68 (P : Params) : Obj := ⟨(.type "frame"), none, .plain, #[(some (.ref 67)), (some (.ref 3)), (some (.ref 64)), none, (some (.str "cpy313.wsgiref.headers" 289)), none, (some (.ref 0))]⟩
noncomputable def o69 (P : Params) : Obj := ⟨(.type "tuple"), none, (.seq #[.none] 0), #[]⟩
noncomputable def o70 (P : Params) : Obj := ⟨(.type "tuple"), none, (.seq #[] 0), #[]⟩
noncomputable def o71 (P : Params) : Obj := ⟨.none, none, (.fields #[]), #[]⟩
noncomputable def o72 (P : Params) : Obj := ⟨(.type "tuple"), none, (.seq #[(.str "self" 410), (.str "headers" 411), (.str "k" 412), (.str "v" 413)] 0), #[]⟩
noncomputable def o73 (P : Params) : Obj := ⟨(.type "tuple"), none, (.seq #[] 0), #[]⟩
noncomputable def o74 (P : Params) : Obj := ⟨.none, none, (.func (fnRec (stIn 7 0) "__init__" "Headers.__init__" 0 .none .none .none .none none .none .none 0 [])), #[]⟩
noncomputable def o75 (P : Params) : Obj := ⟨(.type "code"), none, (.fields #[(.str "__init__" 407), (.str "Headers.__init__" 408), (.str "/claim/cut.py" 409), (.int 20 0), (.int 2 0), (.int 0 0), (.int 0 0), (.int 3 0), (.ref 70), (.bool true), (.int 276 0), (.ref 71), .none, (.ref 72), (.ref 73), (.ref 74), (.int 414 0), (.int 20 0), (.str "/claim/cut.py" 415)]), #[]⟩
noncomputable def o76 (P : Params) : Obj := ⟨(.type "function"), none, (.func (fnRec (stIn 7 0) "__init__" "Headers.__init__" 3 (.ref 69) .none .none (.str "cpy313.wsgiref.headers" 289) none (.ref 75) .none 0 [])), #[]⟩
noncomputable def o77 (P : Params) : Obj := ⟨(.type "tuple"), none, (.seq #[] 0), #[]⟩
noncomputable def o78 (P : Params) : Obj := ⟨.none, none, (.fields #[]), #[]⟩
noncomputable def o79 (P : Params) : Obj := ⟨(.type "tuple"), none, (.seq #[(.str "self" 420), (.str "value" 421), (.str "name" 422), (.str "regex" 423)] 0), #[]⟩
noncomputable def o80 (P : Params) : Obj := ⟨(.type "tuple"), none, (.seq #[] 0), #[]⟩
noncomputable def o81 (P : Params) : Obj := ⟨.none, none, (.func (fnRec (stIn 7 1) "_convert_string_type" "Headers._convert_string_type" 0 .none .none .none .none none .none .none 0 [])), #[]⟩
noncomputable def o82 (P : Params) : Obj := ⟨(.type "code"), none, (.fields #[(.str "_convert_string_type" 417), (.str "Headers._convert_string_type" 418), (.str "/claim/cut.py" 419), (.int 30 0), (.int 2 0), (.int 0 0), (.int 1 0), (.int 3 0), (.ref 77), (.bool true), (.int 276 0), (.ref 78), .none, (.ref 79), (.ref 80), (.ref 81), (.int 424 0), (.int 30 0), (.str "/claim/cut.py" 425)]), #[]⟩
noncomputable def o83 (P : Params) : Obj := ⟨(.type "function"), none, (.func (fnRec (stIn 7 1) "_convert_string_type" "Headers._convert_string_type" 3 .none .none .none (.str "cpy313.wsgiref.headers" 289) none (.ref 82) .none 0 [])), #[]⟩
noncomputable def o84 (P : Params) : Obj := ⟨(.type "tuple"), none, (.seq #[] 0), #[]⟩
noncomputable def o85 (P : Params) : Obj := ⟨.none, none, (.fields #[]), #[]⟩
noncomputable def o86 (P : Params) : Obj := ⟨(.type "tuple"), none, (.seq #[(.str "self" 430)] 0), #[]⟩
noncomputable def o87 (P : Params) : Obj := ⟨(.type "tuple"), none, (.seq #[] 0), #[]⟩
noncomputable def o88 (P : Params) : Obj := ⟨.none, none, (.func (fnRec (stIn 7 2) "__len__" "Headers.__len__" 0 .none .none .none .none none .none .none 0 [])), #[]⟩
noncomputable def o89 (P : Params) : Obj := ⟨(.type "code"), none, (.fields #[(.str "__len__" 427), (.str "Headers.__len__" 428), (.str "/claim/cut.py" 429), (.int 38 0), (.int 1 0), (.int 0 0), (.int 0 0), (.int 3 0), (.ref 84), (.bool true), (.int 276 0), (.ref 85), .none, (.ref 86), (.ref 87), (.ref 88), (.int 431 0), (.int 38 0), (.str "/claim/cut.py" 432)]), #[]⟩
noncomputable def o90 (P : Params) : Obj := ⟨(.type "function"), none, (.func (fnRec (stIn 7 2) "__len__" "Headers.__len__" 3 .none .none .none (.str "cpy313.wsgiref.headers" 289) none (.ref 89) .none 0 [])), #[]⟩
noncomputable def o91 (P : Params) : Obj := ⟨(.type "tuple"), none, (.seq #[] 0), #[]⟩
noncomputable def o92 (P : Params) : Obj := ⟨.none, none, (.fields #[]), #[]⟩
noncomputable def o93 (P : Params) : Obj := ⟨(.type "tuple"), none, (.seq #[(.str "self" 437), (.str "name" 438), (.str "val" 439)] 0), #[]⟩
noncomputable def o94 (P : Params) : Obj := ⟨(.type "tuple"), none, (.seq #[] 0), #[]⟩
noncomputable def o95 (P : Params) : Obj := ⟨.none, none, (.func (fnRec (stIn 7 3) "__setitem__" "Headers.__setitem__" 0 .none .none .none .none none .none .none 0 [])), #[]⟩
noncomputable def o96 (P : Params) : Obj := ⟨(.type "code"), none, (.fields #[(.str "__setitem__" 434), (.str "Headers.__setitem__" 435), (.str "/claim/cut.py" 436), (.int 41 0), (.int 3 0), (.int 0 0), (.int 0 0), (.int 3 0), (.ref 91), (.bool true), (.int 276 0), (.ref 92), .none, (.ref 93), (.ref 94), (.ref 95), (.int 440 0), (.int 41 0), (.str "/claim/cut.py" 441)]), #[]⟩
noncomputable def o97 (P : Params) : Obj := ⟨(.type "function"), none, (.func (fnRec (stIn 7 3) "__setitem__" "Headers.__setitem__" 3 .none .none .none (.str "cpy313.wsgiref.headers" 289) none (.ref 96) .none 0 [])), #[]⟩
noncomputable def o98 (P : Params) : Obj := ⟨(.type "tuple"), none, (.seq #[] 0), #[]⟩
noncomputable def o99 (P : Params) : Obj := ⟨.none, none, (.fields #[]), #[]⟩
noncomputable def o100 (P : Params) : Obj := ⟨.none, none, (.func (fnRec (stIn 7 4) "__delitem__" "Headers.__delitem__" 0 .none .none .none .none none .none .none 0 [])), #[]⟩
noncomputable def o101 (P : Params) : Obj := ⟨(.type "code"), none, (.fields #[(.str "__delitem__" 443), (.str "Headers.__delitem__" 444), (.str "/claim/cut.py" 445), (.int 45 0), (.int 2 0), (.int 0 0), (.int 0 0), (.int 3 0), (.ref 98), (.bool true), (.int 276 0), (.ref 99), .none, .none, .none, (.ref 100), (.int 446 0), (.int 45 0), (.str "/claim/cut.py" 447)]), #[]⟩
noncomputable def o102 (P : Params) : Obj := ⟨(.type "function"), none, (.func (fnRec (stIn 7 4) "__delitem__" "Headers.__delitem__" 3 .none .none .none (.str "cpy313.wsgiref.headers" 289) none (.ref 101) .none 0 [])), #[]⟩
noncomputable def o103 (P : Params) : Obj := ⟨(.type "tuple"), none, (.seq #[] 0), #[]⟩
noncomputable def o104 (P : Params) : Obj := ⟨.none, none, (.fields #[]), #[]⟩
noncomputable def o105 (P : Params) : Obj := ⟨(.type "tuple"), none, (.seq #[(.str "self" 452), (.str "name" 453)] 0), #[]⟩
noncomputable def o106 (P : Params) : Obj := ⟨(.type "tuple"), none, (.seq #[] 0), #[]⟩
noncomputable def o107 (P : Params) : Obj := ⟨.none, none, (.func (fnRec (stIn 7 5) "__getitem__" "Headers.__getitem__" 0 .none .none .none .none none .none .none 0 [])), #[]⟩
noncomputable def o108 (P : Params) : Obj := ⟨(.type "code"), none, (.fields #[(.str "__getitem__" 449), (.str "Headers.__getitem__" 450), (.str "/claim/cut.py" 451), (.int 49 0), (.int 2 0), (.int 0 0), (.int 0 0), (.int 3 0), (.ref 103), (.bool true), (.int 276 0), (.ref 104), .none, (.ref 105), (.ref 106), (.ref 107), (.int 454 0), (.int 49 0), (.str "/claim/cut.py" 455)]), #[]⟩
noncomputable def o109 (P : Params) : Obj := ⟨(.type "function"), none, (.func (fnRec (stIn 7 5) "__getitem__" "Headers.__getitem__" 3 .none .none .none (.str "cpy313.wsgiref.headers" 289) none (.ref 108) .none 0 [])), #[]⟩
noncomputable def o110 (P : Params) : Obj := ⟨(.type "tuple"), none, (.seq #[] 0), #[]⟩
noncomputable def o111 (P : Params) : Obj := ⟨.none, none, (.fields #[]), #[]⟩
noncomputable def o112 (P : Params) : Obj := ⟨(.type "tuple"), none, (.seq #[(.str "self" 460), (.str "name" 461)] 0), #[]⟩
noncomputable def o113 (P : Params) : Obj := ⟨(.type "tuple"), none, (.seq #[] 0), #[]⟩
noncomputable def o114 (P : Params) : Obj := ⟨.none, none, (.func (fnRec (stIn 7 6) "__contains__" "Headers.__contains__" 0 .none .none .none .none none .none .none 0 [])), #[]⟩
noncomputable def o115 (P : Params) : Obj := ⟨(.type "code"), none, (.fields #[(.str "__contains__" 457), (.str "Headers.__contains__" 458), (.str "/claim/cut.py" 459), (.int 52 0), (.int 2 0), (.int 0 0), (.int 0 0), (.int 3 0), (.ref 110), (.bool true), (.int 276 0), (.ref 111), .none, (.ref 112), (.ref 113), (.ref 114), (.int 462 0), (.int 52 0), (.str "/claim/cut.py" 463)]), #[]⟩
noncomputable def o116 (P : Params) : Obj := ⟨(.type "function"), none, (.func (fnRec (stIn 7 6) "__contains__" "Headers.__contains__" 3 .none .none .none (.str "cpy313.wsgiref.headers" 289) none (.ref 115) .none 0 [])), #[]⟩
noncomputable def o117 (P : Params) : Obj := ⟨(.type "tuple"), none, (.seq #[] 0), #[]⟩
noncomputable def o118 (P : Params) : Obj := ⟨.none, none, (.fields #[]), #[]⟩
noncomputable def o119 (P : Params) : Obj := ⟨.none, none, (.func (fnRec (stIn 7 7) "get_all" "Headers.get_all" 0 .none .none .none .none none .none .none 0 [])), #[]⟩
noncomputable def o120 (P : Params) : Obj := ⟨(.type "code"), none, (.fields #[(.str "get_all" 465), (.str "Headers.get_all" 466), (.str "/claim/cut.py" 467), (.int 55 0), (.int 2 0), (.int 0 0), (.int 0 0), (.int 3 0), (.ref 117), (.bool true), (.int 276 0), (.ref 118), .none, .none, .none, (.ref 119), (.int 468 0), (.int 55 0), (.str "/claim/cut.py" 469)]), #[]⟩
noncomputable def o121 (P : Params) : Obj := ⟨(.type "function"), none, (.func (fnRec (stIn 7 7) "get_all" "Headers.get_all" 3 .none .none .none (.str "cpy313.wsgiref.headers" 289) none (.ref 120) .none 0 [])), #[]⟩
noncomputable def o122 (P : Params) : Obj := ⟨(.type "tuple"), none, (.seq #[.none] 0), #[]⟩
noncomputable def o123 (P : Params) : Obj := ⟨(.type "tuple"), none, (.seq #[] 0), #[]⟩
noncomputable def o124 (P : Params) : Obj := ⟨.none, none, (.fields #[]), #[]⟩
noncomputable def o125 (P : Params) : Obj := ⟨(.type "tuple"), none, (.seq #[(.str "self" 474), (.str "name" 475), (.str "default" 476), (.str "k" 477), (.str "v" 478)] 0), #[]⟩
noncomputable def o126 (P : Params) : Obj := ⟨(.type "tuple"), none, (.seq #[] 0), #[]⟩
noncomputable def o127 (P : Params) : Obj := ⟨.none, none, (.func (fnRec (stIn 7 8) "get" "Headers.get" 0 .none .none .none .none none .none .none 0 [])), #[]⟩
noncomputable def o128 (P : Params) : Obj := ⟨(.type "code"), none, (.fields #[(.str "get" 471), (.str "Headers.get" 472), (.str "/claim/cut.py" 473), (.int 59 0), (.int 3 0), (.int 0 0), (.int 0 0), (.int 3 0), (.ref 123), (.bool true), (.int 276 0), (.ref 124), .none, (.ref 125), (.ref 126), (.ref 127), (.int 479 0), (.int 59 0), (.str "/claim/cut.py" 480)]), #[]⟩
noncomputable def o129 (P : Params) : Obj := ⟨(.type "function"), none, (.func (fnRec (stIn 7 8) "get" "Headers.get" 3 (.ref 122) .none .none (.str "cpy313.wsgiref.headers" 289) none (.ref 128) .none 0 [])), #[]⟩
noncomputable def o130 (P : Params) : Obj := ⟨(.type "tuple"), none, (.seq #[] 0), #[]⟩
noncomputable def o131 (P : Params) : Obj := ⟨.none, none, (.fields #[]), #[]⟩
noncomputable def o132 (P : Params) : Obj := ⟨.none, none, (.func (fnRec (stIn 7 9) "keys" "Headers.keys" 0 .none .none .none .none none .none .none 0 [])), #[]⟩
noncomputable def o133 (P : Params) : Obj := ⟨(.type "code"), none, (.fields #[(.str "keys" 482), (.str "Headers.keys" 483), (.str "/claim/cut.py" 484), (.int 66 0), (.int 1 0), (.int 0 0), (.int 0 0), (.int 3 0), (.ref 130), (.bool true), (.int 276 0), (.ref 131), .none, .none, .none, (.ref 132), (.int 485 0), (.int 66 0), (.str "/claim/cut.py" 486)]), #[]⟩
noncomputable def o134 (P : Params) : Obj := ⟨(.type "function"), none, (.func (fnRec (stIn 7 9) "keys" "Headers.keys" 3 .none .none .none (.str "cpy313.wsgiref.headers" 289) none (.ref 133) .none 0 [])), #[]⟩
noncomputable def o135 (P : Params) : Obj := ⟨(.type "tuple"), none, (.seq #[] 0), #[]⟩
noncomputable def o136 (P : Params) : Obj := ⟨.none, none, (.fields #[]), #[]⟩
noncomputable def o137 (P : Params) : Obj := ⟨.none, none, (.func (fnRec (stIn 7 10) "values" "Headers.values" 0 .none .none .none .none none .none .none 0 [])), #[]⟩
noncomputable def o138 (P : Params) : Obj := ⟨(.type "code"), none, (.fields #[(.str "values" 488), (.str "Headers.values" 489), (.str "/claim/cut.py" 490), (.int 69 0), (.int 1 0), (.int 0 0), (.int 0 0), (.int 3 0), (.ref 135), (.bool true), (.int 276 0), (.ref 136), .none, .none, .none, (.ref 137), (.int 491 0), (.int 69 0), (.str "/claim/cut.py" 492)]), #[]⟩
noncomputable def o139 (P : Params) : Obj := ⟨(.type "function"), none, (.func (fnRec (stIn 7 10) "values" "Headers.values" 3 .none .none .none (.str "cpy313.wsgiref.headers" 289) none (.ref 138) .none 0 [])), #[]⟩
noncomputable def o140 (P : Params) : Obj := ⟨(.type "tuple"), none, (.seq #[] 0), #[]⟩
noncomputable def o141 (P : Params) : Obj := ⟨.none, none, (.fields #[]), #[]⟩
noncomputable def o142 (P : Params) : Obj := ⟨(.type "tuple"), none, (.seq #[(.str "self" 497)] 0), #[]⟩
noncomputable def o143 (P : Params) : Obj := ⟨(.type "tuple"), none, (.seq #[] 0), #[]⟩
noncomputable def o144 (P : Params) : Obj := ⟨.none, none, (.func (fnRec (stIn 7 11) "items" "Headers.items" 0 .none .none .none .none none .none .none 0 [])), #[]⟩
noncomputable def o145 (P : Params) : Obj := ⟨(.type "code"), none, (.fields #[(.str "items" 494), (.str "Headers.items" 495), (.str "/claim/cut.py" 496), (.int 72 0), (.int 1 0), (.int 0 0), (.int 0 0), (.int 3 0), (.ref 140), (.bool true), (.int 276 0), (.ref 141), .none, (.ref 142), (.ref 143), (.ref 144), (.int 498 0), (.int 72 0), (.str "/claim/cut.py" 499)]), #[]⟩
noncomputable def o146 (P : Params) : Obj := ⟨(.type "function"), none, (.func (fnRec (stIn 7 11) "items" "Headers.items" 3 .none .none .none (.str "cpy313.wsgiref.headers" 289) none (.ref 145) .none 0 [])), #[]⟩
noncomputable def o147 (P : Params) : Obj := ⟨(.type "tuple"), none, (.seq #[] 0), #[]⟩
noncomputable def o148 (P : Params) : Obj := ⟨.none, none, (.fields #[]), #[]⟩
noncomputable def o149 (P : Params) : Obj := ⟨(.type "tuple"), none, (.seq #[(.str "self" 504)] 0), #[]⟩
noncomputable def o150 (P : Params) : Obj := ⟨(.type "tuple"), none, (.seq #[] 0), #[]⟩
noncomputable def o151 (P : Params) : Obj := ⟨.none, none, (.func (fnRec (stIn 7 12) "__repr__" "Headers.__repr__" 0 .none .none .none .none none .none .none 0 [])), #[]⟩
noncomputable def o152 (P : Params) : Obj := ⟨(.type "code"), none, (.fields #[(.str "__repr__" 501), (.str "Headers.__repr__" 502), (.str "/claim/cut.py" 503), (.int 75 0), (.int 1 0), (.int 0 0), (.int 0 0), (.int 3 0), (.ref 147), (.bool true), (.int 276 0), (.ref 148), .none, (.ref 149), (.ref 150), (.ref 151), (.int 505 0), (.int 75 0), (.str "/claim/cut.py" 506)]), #[]⟩
noncomputable def o153 (P : Params) : Obj := ⟨(.type "function"), none, (.func (fnRec (stIn 7 12) "__repr__" "Headers.__repr__" 3 .none .none .none (.str "cpy313.wsgiref.headers" 289) none (.ref 152) .none 0 [])), #[]⟩
noncomputable def o154 (P : Params) : Obj := ⟨(.type "tuple"), none, (.seq #[] 0), #[]⟩
noncomputable def o155 (P : Params) : Obj := ⟨.none, none, (.fields #[]), #[]⟩
noncomputable def o156 (P : Params) : Obj := ⟨.none, none, (.func (fnRec (stIn 7 13) "__str__" "Headers.__str__" 0 .none .none .none .none none .none .none 0 [])), #[]⟩
noncomputable def o157 (P : Params) : Obj := ⟨(.type "code"), none, (.fields #[(.str "__str__" 508), (.str "Headers.__str__" 509), (.str "/claim/cut.py" 510), (.int 78 0), (.int 1 0), (.int 0 0), (.int 0 0), (.int 3 0), (.ref 154), (.bool true), (.int 276 0), (.ref 155), .none, .none, .none, (.ref 156), (.int 511 0), (.int 78 0), (.str "/claim/cut.py" 512)]), #[]⟩
noncomputable def o158 (P : Params) : Obj := ⟨(.type "function"), none, (.func (fnRec (stIn 7 13) "__str__" "Headers.__str__" 3 .none .none .none (.str "cpy313.wsgiref.headers" 289) none (.ref 157) .none 0 [])), #[]⟩
noncomputable def o159 (P : Params) : Obj := ⟨(.type "tuple"), none, (.seq #[] 0), #[]⟩
noncomputable def o160 (P : Params) : Obj := ⟨.none, none, (.fields #[]), #[]⟩
noncomputable def o161 (P : Params) : Obj := ⟨(.type "tuple"), none, (.seq #[(.str "self" 517)] 0), #[]⟩
noncomputable def o162 (P : Params) : Obj := ⟨(.type "tuple"), none, (.seq #[] 0), #[]⟩
noncomputable def o163 (P : Params) : Obj := ⟨.none, none, (.func (fnRec (stIn 7 14) "__bytes__" "Headers.__bytes__" 0 .none .none .none .none none .none .none 0 [])), #[]⟩
noncomputable def o164 (P : Params) : Obj := ⟨(.type "code"), none, (.fields #[(.str "__bytes__" 514), (.str "Headers.__bytes__" 515), (.str "/claim/cut.py" 516), (.int 81 0), (.int 1 0), (.int 0 0), (.int 0 0), (.int 3 0), (.ref 159), (.bool true), (.int 276 0), (.ref 160), .none, (.ref 161), (.ref 162), (.ref 163), (.int 518 0), (.int 81 0), (.str "/claim/cut.py" 519)]), #[]⟩
noncomputable def o165 (P : Params) : Obj := ⟨(.type "function"), none, (.func (fnRec (stIn 7 14) "__bytes__" "Headers.__bytes__" 3 .none .none .none (.str "cpy313.wsgiref.headers" 289) none (.ref 164) .none 0 [])), #[]⟩
noncomputable def o166 (P : Params) : Obj := ⟨(.type "tuple"), none, (.seq #[] 0), #[]⟩
noncomputable def o167 (P : Params) : Obj := ⟨.none, none, (.fields #[]), #[]⟩
noncomputable def o168 (P : Params) : Obj := ⟨(.type "tuple"), none, (.seq #[(.str "self" 524), (.str "name" 525), (.str "value" 526)] 0), #[]⟩
noncomputable def o169 (P : Params) : Obj := ⟨(.type "tuple"), none, (.seq #[] 0), #[]⟩
noncomputable def o170 (P : Params) : Obj := ⟨.none, none, (.func (fnRec (stIn 7 15) "setdefault" "Headers.setdefault" 0 .none .none .none .none none .none .none 0 [])), #[]⟩
noncomputable def o171 (P : Params) : Obj := ⟨(.type "code"), none, (.fields #[(.str "setdefault" 521), (.str "Headers.setdefault" 522), (.str "/claim/cut.py" 523), (.int 84 0), (.int 3 0), (.int 0 0), (.int 0 0), (.int 3 0), (.ref 166), (.bool true), (.int 276 0), (.ref 167), .none, (.ref 168), (.ref 169), (.ref 170), (.int 527 0), (.int 84 0), (.str "/claim/cut.py" 528)]), #[]⟩
noncomputable def o172 (P : Params) : Obj := ⟨(.type "function"), none, (.func (fnRec (stIn 7 15) "setdefault" "Headers.setdefault" 3 .none .none .none (.str "cpy313.wsgiref.headers" 289) none (.ref 171) .none 0 [])), #[]⟩
noncomputable def o173 (P : Params) : Obj := ⟨(.type "tuple"), none, (.seq #[] 0), #[]⟩
noncomputable def o174 (P : Params) : Obj := ⟨.none, none, (.fields #[]), #[]⟩
noncomputable def o175 (P : Params) : Obj := ⟨(.type "tuple"), none, (.seq #[(.str "self" 533), (.str "_name" 534), (.str "_value" 535), (.str "_params" 536), (.str "parts" 537), (.str "k" 538), (.str "v" 539)] 0), #[]⟩
noncomputable def o176 (P : Params) : Obj := ⟨(.type "tuple"), none, (.seq #[] 0), #[]⟩
noncomputable def o177 (P : Params) : Obj := ⟨.none, none, (.func (fnRec (stIn 7 16) "add_header" "Headers.add_header" 0 .none .none .none .none none .none .none 0 [])), #[]⟩
noncomputable def o178 (P : Params) : Obj := ⟨(.type "code"), none, (.fields #[(.str "add_header" 530), (.str "Headers.add_header" 531), (.str "/claim/cut.py" 532), (.int 87 0), (.int 3 0), (.int 0 0), (.int 0 0), (.int 11 0), (.ref 173), (.bool true), (.int 276 0), (.ref 174), .none, (.ref 175), (.ref 176), (.ref 177), (.int 540 0), (.int 87 0), (.str "/claim/cut.py" 541)]), #[]⟩
noncomputable def o179 (P : Params) : Obj := ⟨(.type "function"), none, (.func (fnRec (stIn 7 16) "add_header" "Headers.add_header" 3 .none .none .none (.str "cpy313.wsgiref.headers" 289) none (.ref 178) .none 0 [])), #[]⟩
noncomputable def o180 (P : Params) : Obj := ⟨(.type "tuple"), none, (.seq #[(.str "_headers" 543)] 0), #[]⟩
noncomputable def o181 (P : Params) : Obj := ⟨(.type "dict"), none, (.dict #[en P "__module__" 402 (.str "cpy313.wsgiref.headers" 289), en P "__firstlineno__" 406 (.int 18 405), en P "__init__" 416 (.ref 76), en P "_convert_string_type" 426 (.ref 83), en P "__len__" 433 (.ref 90), en P "__setitem__" 442 (.ref 97), en P "__delitem__" 448 (.ref 102), en P "__getitem__" 456 (.ref 109), en P "__contains__" 464 (.ref 116), en P "get_all" 470 (.ref 121), en P "get" 481 (.ref 129), en P "keys" 487 (.ref 134), en P "values" 493 (.ref 139), en P "items" 500 (.ref 146), en P "__repr__" 507 (.ref 153), en P "__str__" 513 (.ref 158), en P "__bytes__" 520 (.ref 165), en P "setdefault" 529 (.ref 172), en P "add_header" 542 (.ref 179), en P "__static_attributes__" 544 (.ref 180), en P "__dict__" 546 (.ref 183), en P "__weakref__" 548 (.ref 184), en P "__doc__" 549 .none] 4), #[]⟩
noncomputable def o182 (P : Params) : Obj := ⟨(.type "type"), none, (.cls { name := "Headers", bases := [(.type "object")], mro := [(.ref 182), (.type "object")], ns := 181, qualname := "Headers", hasDict := true, slotNames := [], subclasses := [], abstract := false, collection := none, hasDel := false }), #[none, none, (some (.str "Headers" 395)), (some (.str "Headers" 403)), (some (.builtin "object.__new__")), (some (.bool true))]⟩
noncomputable def o183 (P : Params) : Obj := ⟨(.type "getset_descriptor"), none, (.fields #[(.str "__dict__" 545), (.ref 182), (.builtin "function.__dict__"), (.builtin "function.__dict__#set")]), #[]⟩
noncomputable def o184 (P : Params) : Obj := ⟨(.type "getset_descriptor"), none, (.fields #[(.str "__weakref__" 547), (.ref 182), (.builtin "ExceptionGroup.__weakref__"), .none]), #[]⟩
noncomputable def o185 (P : Params) : Obj := ⟨(.type "super"), none, (.fields #[(.ref 182), (.ref 182), (.ref 182)]), #[]⟩
noncomputable def o186 (P : Params) : Obj := ⟨(.type "builtin_function_or_method"), none, (.fields #[(.builtin "object.__init_subclass__"), (.ref 182)]), #[]⟩
noncomputable def o3c2 (P : Params) : Obj := ⟨(.type "dict"), none, (.dict #[en P "__name__" 165 (.str "cpy313.token" 564), en P "__doc__" 166 .none, en P "__package__" 167 .none, en P "__loader__" 168 (.builtin "__main__.__loader__#opaque"), en P "__spec__" 169 .none, en P "__annotations__" 170 (.ref 6), en P "__builtins__" 171 (.ref 4), en P "__file__" 173 (.str "/claim/cut.py" 172), en P "__cached__" 174 .none, en P "_sre" 275 (.ref 12), en P "_wall" 288 (.ref 38), en P "tspecials" 324 (.ref 43), en P "_name_disallowed_re" 350 (.ref 48), en P "_value_disallowed_re" 384 (.ref 53), en P "_formatparam" 394 (.ref 61), en P "Headers" 551 (.ref 182), en P "Int2AP" 563 (.ref 193), en P "ENDMARKER" 567 (.int 0 566), en P "LPAR" 569 (.int 7 568), en P "RPAR" 571 (.int 8 570), en P "LSQB" 573 (.int 9 572), en P "RSQB" 575 (.int 10 574), en P "COLON" 577 (.int 11 576), en P "COMMA" 579 (.int 12 578), en P "SEMI" 581 (.int 13 580), en P "PLUS" 583 (.int 14 582), en P "MINUS" 585 (.int 15 584), en P "STAR" 587 (.int 16 586), en P "SLASH" 589 (.int 17 588), en P "VBAR" 591 (.int 18 590), en P "AMPER" 593 (.int 19 592), en P "LESS" 595 (.int 20 594), en P "GREATER" 597 (.int 21 596), en P "EQUAL" 599 (.int 22 598), en P "DOT" 601 (.int 23 600), en P "PERCENT" 603 (.int 24 602), en P "LBRACE" 605 (.int 25 604), en P "RBRACE" 607 (.int 26 606), en P "EQEQUAL" 609 (.int 27 608), en P "NOTEQUAL" 611 (.int 28 610), en P "LESSEQUAL" 613 (.int 29 612), en P "GREATEREQUAL" 615 (.int 30 614), en P "TILDE" 617 (.int 31 616), en P "CIRCUMFLEX" 619 (.int 32 618), en P "LEFTSHIFT" 621 (.int 33 620), en P "RIGHTSHIFT" 623 (.int 34 622), en P "DOUBLESTAR" 625 (.int 35 624), en P "PLUSEQUAL" 627 (.int 36 626), en P "MINEQUAL" 629 (.int 37 628), en P "STAREQUAL" 631 (.int 38 630), en P "SLASHEQUAL" 633 (.int 39 632), en P "PERCENTEQUAL" 635 (.int 40 634), en P "AMPEREQUAL" 637 (.int 41 636), en P "VBAREQUAL" 639 (.int 42 638), en P "CIRCUMFLEXEQUAL" 641 (.int 43 640), en P "LEFTSHIFTEQUAL" 643 (.int 44 642), en P "RIGHTSHIFTEQUAL" 645 (.int 45 644), en P "DOUBLESTAREQUAL" 647 (.int 46 646), en P "DOUBLESLASH" 649 (.int 47 648), en P "DOUBLESLASHEQUAL" 651 (.int 48 650), en P "AT" 653 (.int 49 652), en P "ATEQUAL" 655 (.int 50 654), en P "RARROW" 657 (.int 51 656), en P "ELLIPSIS" 659 (.int 52 658), en P "COLONEQUAL" 661 (.int 53 660), en P "EXCLAMATION" 663 (.int 54 662), en P "NT_OFFSET" 665 (.int 256 664)] 67), #[]⟩
noncomputable def o29c2 (P : Params) : Obj := ⟨.none, none, (.fields #[(.int 2 0), (.int 0 0), (.ref 37), (.int 9 0), (.int 0 0), (.ref 60), (.int 18 0), (.int 0 0), (.ref 67), (.int 101 0), (.int 0 0), (.ref 192)]), #[]⟩
noncomputable def o187 (P : Params) : Obj := ⟨(.type "tuple"), none, (.seq #[] 0), #[]⟩
noncomputable def o188 (P : Params) : Obj := ⟨.none, none, (.fields #[]), #[]⟩
noncomputable def o189 (P : Params) : Obj := ⟨(.type "tuple"), none, (.seq #[(.str "num" 557), (.str "val" 558), (.str "AP" 559), (.str "mod" 560)] 0), #[]⟩
noncomputable def o190 (P : Params) : Obj := ⟨(.type "tuple"), none, (.seq #[] 0), #[]⟩
noncomputable def o191 (P : Params) : Obj := ⟨.none, none, (.func (fnRec (stTop 9) "Int2AP" "Int2AP" 0 .none .none .none .none none .none .none 0 [])), #[]⟩
noncomputable def o192 (P : Params) : Obj := ⟨(.type "code"), none, (.fields #[(.str "Int2AP" 554), (.str "Int2AP" 555), (.str "/claim/cut.py" 556), (.int 101 0), (.int 1 0), (.int 0 0), (.int 0 0), (.int 3 0), (.ref 187), (.bool true), (.int 276 0), (.ref 188), .none, (.ref 189), (.ref 190), (.ref 191), (.int 561 0), (.int 101 0), (.str "/claim/cut.py" 562)]), #[]⟩
noncomputable def o193 (P : Params) : Obj := ⟨(.type "function"), none, (.func (fnRec (stTop 9) "Int2AP" "Int2AP" 3 .none .none .none (.str "cpy313.imaplib" 552) none (.ref 192) .none 0 [])), #[]⟩
noncomputable def o3c3 (P : Params) : Obj := ⟨(.type "dict"), none, (.dict #[en P "__name__" 165 (.str "cpy313.token" 564), en P "__doc__" 166 .none, en P "__package__" 167 .none, en P "__loader__" 168 (.builtin "__main__.__loader__#opaque"), en P "__spec__" 169 .none, en P "__annotations__" 170 (.ref 6), en P "__builtins__" 171 (.ref 4), en P "__file__" 173 (.str "/claim/cut.py" 172), en P "__cached__" 174 .none, en P "_sre" 275 (.ref 12), en P "_wall" 288 (.ref 38), en P "tspecials" 324 (.ref 43), en P "_name_disallowed_re" 350 (.ref 48), en P "_value_disallowed_re" 384 (.ref 53), en P "_formatparam" 394 (.ref 61), en P "Headers" 551 (.ref 182), en P "Int2AP" 563 (.ref 193), en P "ENDMARKER" 567 (.int 0 566), en P "LPAR" 569 (.int 7 568), en P "RPAR" 571 (.int 8 570), en P "LSQB" 573 (.int 9 572), en P "RSQB" 575 (.int 10 574), en P "COLON" 577 (.int 11 576), en P "COMMA" 579 (.int 12 578), en P "SEMI" 581 (.int 13 580), en P "PLUS" 583 (.int 14 582), en P "MINUS" 585 (.int 15 584), en P "STAR" 587 (.int 16 586), en P "SLASH" 589 (.int 17 588), en P "VBAR" 591 (.int 18 590), en P "AMPER" 593 (.int 19 592), en P "LESS" 595 (.int 20 594), en P "GREATER" 597 (.int 21 596), en P "EQUAL" 599 (.int 22 598), en P "DOT" 601 (.int 23 600), en P "PERCENT" 603 (.int 24 602), en P "LBRACE" 605 (.int 25 604), en P "RBRACE" 607 (.int 26 606), en P "EQEQUAL" 609 (.int 27 608), en P "NOTEQUAL" 611 (.int 28 610), en P "LESSEQUAL" 613 (.int 29 612), en P "GREATEREQUAL" 615 (.int 30 614), en P "TILDE" 617 (.int 31 616), en P "CIRCUMFLEX" 619 (.int 32 618), en P "LEFTSHIFT" 621 (.int 33 620), en P "RIGHTSHIFT" 623 (.int 34 622), en P "DOUBLESTAR" 625 (.int 35 624), en P "PLUSEQUAL" 627 (.int 36 626), en P "MINEQUAL" 629 (.int 37 628), en P "STAREQUAL" 631 (.int 38 630), en P "SLASHEQUAL" 633 (.int 39 632), en P "PERCENTEQUAL" 635 (.int 40 634), en P "AMPEREQUAL" 637 (.int 41 636), en P "VBAREQUAL" 639 (.int 42 638), en P "CIRCUMFLEXEQUAL" 641 (.int 43 640), en P "LEFTSHIFTEQUAL" 643 (.int 44 642), en P "RIGHTSHIFTEQUAL" 645 (.int 45 644), en P "DOUBLESTAREQUAL" 647 (.int 46 646), en P "DOUBLESLASH" 649 (.int 47 648), en P "DOUBLESLASHEQUAL" 651 (.int 48 650), en P "AT" 653 (.int 49 652), en P "ATEQUAL" 655 (.int 50 654), en P "RARROW" 657 (.int 51 656), en P "ELLIPSIS" 659 (.int 52 658), en P "COLONEQUAL" 661 (.int 53 660), en P "EXCLAMATION" 663 (.int 54 662), en P "NT_OFFSET" 665 (.int 256 664), en P "EXACT_TOKEN_TYPES" 762 (.ref 194)] 68), #[]⟩
noncomputable def o194 (P : Params) : Obj := ⟨(.type "dict"), none, (.dict #[en P "!" 666 (.int 54 662), en P "!=" 668 (.int 28 610), en P "%" 670 (.int 24 602), en P "%=" 672 (.int 40 634), en P "&" 674 (.int 19 592), en P "&=" 676 (.int 41 636), en P "(" 678 (.int 7 568), en P ")" 680 (.int 8 570), en P "*" 682 (.int 16 586), en P "**" 684 (.int 35 624), en P "**=" 686 (.int 46 646), en P "*=" 688 (.int 38 630), en P "+" 690 (.int 14 582), en P "+=" 692 (.int 36 626), en P "," 694 (.int 12 578), en P "-" 696 (.int 15 584), en P "-=" 698 (.int 37 628), en P "->" 700 (.int 51 656), en P "." 702 (.int 23 600), en P "..." 704 (.int 52 658), en P "/" 706 (.int 17 588), en P "//" 708 (.int 47 648), en P "//=" 710 (.int 48 650), en P "/=" 712 (.int 39 632), en P ":" 714 (.int 11 576), en P ":=" 716 (.int 53 660), en P ";" 718 (.int 13 580), en P "<" 720 (.int 20 594), en P "<<" 722 (.int 33 620), en P "<<=" 724 (.int 44 642), en P "<=" 726 (.int 29 612), en P "=" 728 (.int 22 598), en P "==" 730 (.int 27 608), en P ">" 732 (.int 21 596), en P ">=" 734 (.int 30 614), en P ">>" 735 (.int 34 622), en P ">>=" 736 (.int 45 644), en P "@" 737 (.int 49 652), en P "@=" 738 (.int 50 654), en P "[" 739 (.int 9 572), en P "]" 740 (.int 10 574), en P "^" 741 (.int 32 618), en P "^=" 742 (.int 43 640), en P "{" 743 (.int 25 604), en P "|" 744 (.int 18 590), en P "|=" 745 (.int 42 638), en P "}" 746 (.int 26 606), en P "~" 747 (.int 31 616)] 48), #[]⟩
noncomputable def o195 (P : Params) : Obj := ⟨(.type "dict"), none, (.dict #[en P "->" 700 (.int 51 656), en P "." 702 (.int 23 600), en P "..." 704 (.int 52 658), en P "/" 706 (.int 17 588), en P "//" 708 (.int 47 648), en P "//=" 710 (.int 48 650), en P "/=" 712 (.int 39 632), en P ":" 714 (.int 11 576), en P ":=" 716 (.int 53 660), en P ";" 718 (.int 13 580), en P "<" 720 (.int 20 594), en P "<<" 722 (.int 33 620), en P "<<=" 724 (.int 44 642), en P "<=" 726 (.int 29 612), en P "=" 728 (.int 22 598), en P "==" 730 (.int 27 608), en P ">" 732 (.int 21 596)] 17), #[]⟩
noncomputable def o196 (P : Params) : Obj := ⟨(.type "dict"), none, (.dict #[en P ">=" 734 (.int 30 614), en P ">>" 735 (.int 34 622), en P ">>=" 736 (.int 45 644), en P "@" 737 (.int 49 652), en P "@=" 738 (.int 50 654), en P "[" 739 (.int 9 572), en P "]" 740 (.int 10 574), en P "^" 741 (.int 32 618), en P "^=" 742 (.int 43 640), en P "{" 743 (.int 25 604), en P "|" 744 (.int 18 590), en P "|=" 745 (.int 42 638), en P "}" 746 (.int 26 606), en P "~" 747 (.int 31 616)] 14), #[]⟩
noncomputable def o3c4 (P : Params) : Obj := ⟨(.type "dict"), none, (.dict #[en P "__name__" 165 (.str "law_wf0080_01" 777), en P "__doc__" 166 .none, en P "__package__" 167 .none, en P "__loader__" 168 (.builtin "__main__.__loader__#opaque"), en P "__spec__" 169 .none, en P "__annotations__" 170 (.ref 6), en P "__builtins__" 171 (.ref 4), en P "__file__" 173 (.str "/claim/cut.py" 172), en P "__cached__" 174 .none, en P "_sre" 275 (.ref 12), en P "_wall" 288 (.ref 38), en P "tspecials" 324 (.ref 43), en P "_name_disallowed_re" 350 (.ref 48), en P "_value_disallowed_re" 384 (.ref 53), en P "_formatparam" 394 (.ref 61), en P "Headers" 551 (.ref 182), en P "Int2AP" 563 (.ref 193), en P "ENDMARKER" 567 (.int 0 566), en P "LPAR" 569 (.int 7 568), en P "RPAR" 571 (.int 8 570), en P "LSQB" 573 (.int 9 572), en P "RSQB" 575 (.int 10 574), en P "COLON" 577 (.int 11 576), en P "COMMA" 579 (.int 12 578), en P "SEMI" 581 (.int 13 580), en P "PLUS" 583 (.int 14 582), en P "MINUS" 585 (.int 15 584), en P "STAR" 587 (.int 16 586), en P "SLASH" 589 (.int 17 588), en P "VBAR" 591 (.int 18 590), en P "AMPER" 593 (.int 19 592), en P "LESS" 595 (.int 20 594), en P "GREATER" 597 (.int 21 596), en P "EQUAL" 599 (.int 22 598), en P "DOT" 601 (.int 23 600), en P "PERCENT" 603 (.int 24 602), en P "LBRACE" 605 (.int 25 604), en P "RBRACE" 607 (.int 26 606), en P "EQEQUAL" 609 (.int 27 608), en P "NOTEQUAL" 611 (.int 28 610), en P "LESSEQUAL" 613 (.int 29 612), en P "GREATEREQUAL" 615 (.int 30 614), en P "TILDE" 617 (.int 31 616), en P "CIRCUMFLEX" 619 (.int 32 618), en P "LEFTSHIFT" 621 (.int 33 620), en P "RIGHTSHIFT" 623 (.int 34 622), en P "DOUBLESTAR" 625 (.int 35 624), en P "PLUSEQUAL" 627 (.int 36 626), en P "MINEQUAL" 629 (.int 37 628), en P "STAREQUAL" 631 (.int 38 630), en P "SLASHEQUAL" 633 (.int 39 632), en P "PERCENTEQUAL" 635 (.int 40 634), en P "AMPEREQUAL" 637 (.int 41 636), en P "VBAREQUAL" 639 (.int 42 638), en P "CIRCUMFLEXEQUAL" 641 (.int 43 640), en P "LEFTSHIFTEQUAL" 643 (.int 44 642), en P "RIGHTSHIFTEQUAL" 645 (.int 45 644), en P "DOUBLESTAREQUAL" 647 (.int 46 646), en P "DOUBLESLASH" 649 (.int 47 648), en P "DOUBLESLASHEQUAL" 651 (.int 48 650), en P "AT" 653 (.int 49 652), en P "ATEQUAL" 655 (.int 50 654), en P "RARROW" 657 (.int 51 656), en P "ELLIPSIS" 659 (.int 52 658), en P "COLONEQUAL" 661 (.int 53 660), en P "EXCLAMATION" 663 (.int 54 662), en P "NT_OFFSET" 665 (.int 256 664), en P "EXACT_TOKEN_TYPES" 762 (.ref 194), en P "ISTERMINAL" 769 (.ref 203), en P "ISEOF" 776 (.ref 210), en P "_law_drawn" 784 (.ref 215), en P "_law_word" 793 (.ref 222), en P "_law_read" 802 (.ref 229), en P "_law_told" 813 (.ref 236), en P "_law_line" 827 (.ref 243), en P "_law_symbols" 837 (.ref 250), en P "_law_lines" 847 (.ref 257), en P "_law_compiled" 861 (.ref 264), en P "_law_run" 867 (.ref 269), en P "_law_plain" 873 (.ref 274), en P "_law_fractions" 879 (.ref 279), en P "_law_counted" 885 (.ref 284), en P "law" 891 (.ref 289)] 83), #[]⟩
noncomputable def o29c4 (P : Params) : Obj := ⟨.none, none, (.fields #[(.int 2 0), (.int 0 0), (.ref 37), (.int 9 0), (.int 0 0), (.ref 60), (.int 18 0), (.int 0 0), (.ref 67), (.int 101 0), (.int 0 0), (.ref 192), (.int 161 0), (.int 0 0), (.ref 202), (.int 163 0), (.int 0 0), (.ref 209), (.int 166 0), (.int 0 0), (.ref 214), (.int 169 0), (.int 0 0), (.ref 221), (.int 172 0), (.int 0 0), (.ref 228), (.int 177 0), (.int 0 0), (.ref 235), (.int 183 0), (.int 0 0), (.ref 242), (.int 190 0), (.int 0 0), (.ref 249), (.int 206 0), (.int 0 0), (.ref 256), (.int 216 0), (.int 0 0), (.ref 263), (.int 232 0), (.int 0 0), (.ref 268), (.int 244 0), (.int 0 0), (.ref 273), (.int 249 0), (.int 0 0), (.ref 278), (.int 260 0), (.int 0 0), (.ref 283), (.int 280 0), (.int 0 0), (.ref 288)]), #[]⟩
noncomputable def o197 (P : Params) : Obj := ⟨(.type "tuple"), none, (.seq #[] 0), #[]⟩
noncomputable def o198 (P : Params) : Obj := ⟨.none, none, (.fields #[]), #[]⟩
noncomputable def o199 (P : Params) : Obj := ⟨(.type "tuple"), none, (.seq #[(.str "x" 766)] 0), #[]⟩
noncomputable def o200 (P : Params) : Obj := ⟨(.type "tuple"), none, (.seq #[] 0), #[]⟩
noncomputable def o201 (P : Params) : Obj := ⟨.none, none, (.func (fnRec (stTop 62) "ISTERMINAL" "ISTERMINAL" 0 .none .none .none .none none .none .none 0 [])), #[]⟩
noncomputable def o202 (P : Params) : Obj := ⟨(.type "code"), none, (.fields #[(.str "ISTERMINAL" 763), (.str "ISTERMINAL" 764), (.str "/claim/cut.py" 765), (.int 161 0), (.int 1 0), (.int 0 0), (.int 0 0), (.int 3 0), (.ref 197), (.bool true), (.int 276 0), (.ref 198), .none, (.ref 199), (.ref 200), (.ref 201), (.int 767 0), (.int 161 0), (.str "/claim/cut.py" 768)]), #[]⟩
noncomputable def o203 (P : Params) : Obj := ⟨(.type "function"), none, (.func (fnRec (stTop 62) "ISTERMINAL" "ISTERMINAL" 3 .none .none .none (.str "cpy313.token" 564) none (.ref 202) .none 0 [])), #[]⟩
noncomputable def o204 (P : Params) : Obj := ⟨(.type "tuple"), none, (.seq #[] 0), #[]⟩
noncomputable def o205 (P : Params) : Obj := ⟨.none, none, (.fields #[]), #[]⟩
noncomputable def o206 (P : Params) : Obj := ⟨(.type "tuple"), none, (.seq #[(.str "x" 773)] 0), #[]⟩
noncomputable def o207 (P : Params) : Obj := ⟨(.type "tuple"), none, (.seq #[] 0), #[]⟩
noncomputable def o208 (P : Params) : Obj := ⟨.none, none, (.func (fnRec (stTop 63) "ISEOF" "ISEOF" 0 .none .none .none .none none .none .none 0 [])), #[]⟩
noncomputable def o209 (P : Params) : Obj := ⟨(.type "code"), none, (.fields #[(.str "ISEOF" 770), (.str "ISEOF" 771), (.str "/claim/cut.py" 772), (.int 163 0), (.int 1 0), (.int 0 0), (.int 0 0), (.int 3 0), (.ref 204), (.bool true), (.int 276 0), (.ref 205), .none, (.ref 206), (.ref 207), (.ref 208), (.int 774 0), (.int 163 0), (.str "/claim/cut.py" 775)]), #[]⟩
noncomputable def o210 (P : Params) : Obj := ⟨(.type "function"), none, (.func (fnRec (stTop 63) "ISEOF" "ISEOF" 3 .none .none .none (.str "cpy313.token" 564) none (.ref 209) .none 0 [])), #[]⟩
noncomputable def o211 (P : Params) : Obj := ⟨(.type "tuple"), none, (.seq #[] 0), #[]⟩
noncomputable def o212 (P : Params) : Obj := ⟨.none, none, (.fields #[]), #[]⟩
noncomputable def o213 (P : Params) : Obj := ⟨.none, none, (.func (fnRec (stTop 65) "_law_drawn" "_law_drawn" 0 .none .none .none .none none .none .none 0 [])), #[]⟩
noncomputable def o214 (P : Params) : Obj := ⟨(.type "code"), none, (.fields #[(.str "_law_drawn" 779), (.str "_law_drawn" 780), (.str "/claim/cut.py" 781), (.int 166 0), (.int 1 0), (.int 0 0), (.int 0 0), (.int 3 0), (.ref 211), (.bool true), (.int 276 0), (.ref 212), .none, .none, .none, (.ref 213), (.int 782 0), (.int 166 0), (.str "/claim/cut.py" 783)]), #[]⟩
noncomputable def o215 (P : Params) : Obj := ⟨(.type "function"), none, (.func (fnRec (stTop 65) "_law_drawn" "_law_drawn" 3 .none .none .none (.str "law_wf0080_01" 777) none (.ref 214) .none 0 [])), #[]⟩
noncomputable def o216 (P : Params) : Obj := ⟨(.type "tuple"), none, (.seq #[] 0), #[]⟩
noncomputable def o217 (P : Params) : Obj := ⟨.none, none, (.fields #[]), #[]⟩
noncomputable def o218 (P : Params) : Obj := ⟨(.type "tuple"), none, (.seq #[(.str "number" 788), (.str "turn" 789), (.str "word" 790)] 0), #[]⟩
noncomputable def o219 (P : Params) : Obj := ⟨(.type "tuple"), none, (.seq #[] 0), #[]⟩
noncomputable def o220 (P : Params) : Obj := ⟨.none, none, (.func (fnRec (stTop 66) "_law_word" "_law_word" 0 .none .none .none .none none .none .none 0 [])), #[]⟩
noncomputable def o221 (P : Params) : Obj := ⟨(.type "code"), none, (.fields #[(.str "_law_word" 785), (.str "_law_word" 786), (.str "/claim/cut.py" 787), (.int 169 0), (.int 2 0), (.int 0 0), (.int 0 0), (.int 3 0), (.ref 216), (.bool true), (.int 276 0), (.ref 217), .none, (.ref 218), (.ref 219), (.ref 220), (.int 791 0), (.int 169 0), (.str "/claim/cut.py" 792)]), #[]⟩
noncomputable def o222 (P : Params) : Obj := ⟨(.type "function"), none, (.func (fnRec (stTop 66) "_law_word" "_law_word" 3 .none .none .none (.str "law_wf0080_01" 777) none (.ref 221) .none 0 [])), #[]⟩
noncomputable def o223 (P : Params) : Obj := ⟨(.type "tuple"), none, (.seq #[] 0), #[]⟩
noncomputable def o224 (P : Params) : Obj := ⟨.none, none, (.fields #[]), #[]⟩
noncomputable def o225 (P : Params) : Obj := ⟨(.type "tuple"), none, (.seq #[(.str "word" 797), (.str "number" 798), (.str "sign" 799)] 0), #[]⟩
noncomputable def o226 (P : Params) : Obj := ⟨(.type "tuple"), none, (.seq #[] 0), #[]⟩
noncomputable def o227 (P : Params) : Obj := ⟨.none, none, (.func (fnRec (stTop 67) "_law_read" "_law_read" 0 .none .none .none .none none .none .none 0 [])), #[]⟩
noncomputable def o228 (P : Params) : Obj := ⟨(.type "code"), none, (.fields #[(.str "_law_read" 794), (.str "_law_read" 795), (.str "/claim/cut.py" 796), (.int 172 0), (.int 1 0), (.int 0 0), (.int 0 0), (.int 3 0), (.ref 223), (.bool true), (.int 276 0), (.ref 224), .none, (.ref 225), (.ref 226), (.ref 227), (.int 800 0), (.int 172 0), (.str "/claim/cut.py" 801)]), #[]⟩
noncomputable def o229 (P : Params) : Obj := ⟨(.type "function"), none, (.func (fnRec (stTop 67) "_law_read" "_law_read" 3 .none .none .none (.str "law_wf0080_01" 777) none (.ref 228) .none 0 [])), #[]⟩
noncomputable def o230 (P : Params) : Obj := ⟨(.type "tuple"), none, (.seq #[] 0), #[]⟩
noncomputable def o231 (P : Params) : Obj := ⟨.none, none, (.fields #[]), #[]⟩
noncomputable def o232 (P : Params) : Obj := ⟨(.type "tuple"), none, (.seq #[(.str "x" 806), (.str "state" 807), (.str "counter" 808), (.str "after" 809), (.str "other" 810)] 0), #[]⟩
noncomputable def o233 (P : Params) : Obj := ⟨(.type "tuple"), none, (.seq #[] 0), #[]⟩
noncomputable def o234 (P : Params) : Obj := ⟨.none, none, (.func (fnRec (stTop 68) "_law_told" "_law_told" 0 .none .none .none .none none .none .none 0 [])), #[]⟩
noncomputable def o235 (P : Params) : Obj := ⟨(.type "code"), none, (.fields #[(.str "_law_told" 803), (.str "_law_told" 804), (.str "/claim/cut.py" 805), (.int 177 0), (.int 1 0), (.int 0 0), (.int 0 0), (.int 3 0), (.ref 230), (.bool true), (.int 276 0), (.ref 231), .none, (.ref 232), (.ref 233), (.ref 234), (.int 811 0), (.int 177 0), (.str "/claim/cut.py" 812)]), #[]⟩
noncomputable def o236 (P : Params) : Obj := ⟨(.type "function"), none, (.func (fnRec (stTop 68) "_law_told" "_law_told" 3 .none .none .none (.str "law_wf0080_01" 777) none (.ref 235) .none 0 [])), #[]⟩
noncomputable def o237 (P : Params) : Obj := ⟨(.type "tuple"), none, (.seq #[] 0), #[]⟩
noncomputable def o238 (P : Params) : Obj := ⟨.none, none, (.fields #[]), #[]⟩
noncomputable def o239 (P : Params) : Obj := ⟨(.type "tuple"), none, (.seq #[(.str "x" 817), (.str "state" 818), (.str "counter" 819), (.str "after" 820), (.str "other" 821), (.str "more" 822), (.str "size" 823), (.str "head" 824)] 0), #[]⟩
noncomputable def o240 (P : Params) : Obj := ⟨(.type "tuple"), none, (.seq #[] 0), #[]⟩
noncomputable def o241 (P : Params) : Obj := ⟨.none, none, (.func (fnRec (stTop 69) "_law_line" "_law_line" 0 .none .none .none .none none .none .none 0 [])), #[]⟩
noncomputable def o242 (P : Params) : Obj := ⟨(.type "code"), none, (.fields #[(.str "_law_line" 814), (.str "_law_line" 815), (.str "/claim/cut.py" 816), (.int 183 0), (.int 1 0), (.int 0 0), (.int 0 0), (.int 3 0), (.ref 237), (.bool true), (.int 276 0), (.ref 238), .none, (.ref 239), (.ref 240), (.ref 241), (.int 825 0), (.int 183 0), (.str "/claim/cut.py" 826)]), #[]⟩
noncomputable def o243 (P : Params) : Obj := ⟨(.type "function"), none, (.func (fnRec (stTop 69) "_law_line" "_law_line" 3 .none .none .none (.str "law_wf0080_01" 777) none (.ref 242) .none 0 [])), #[]⟩
noncomputable def o244 (P : Params) : Obj := ⟨(.type "tuple"), none, (.seq #[] 0), #[]⟩
noncomputable def o245 (P : Params) : Obj := ⟨.none, none, (.fields #[]), #[]⟩
noncomputable def o246 (P : Params) : Obj := ⟨(.type "tuple"), none, (.seq #[(.str "text" 831), (.str "symbols" 832), (.str "at" 833), (.str "size" 834)] 0), #[]⟩
noncomputable def o247 (P : Params) : Obj := ⟨(.type "tuple"), none, (.seq #[] 0), #[]⟩
noncomputable def o248 (P : Params) : Obj := ⟨.none, none, (.func (fnRec (stTop 70) "_law_symbols" "_law_symbols" 0 .none .none .none .none none .none .none 0 [])), #[]⟩
noncomputable def o249 (P : Params) : Obj := ⟨(.type "code"), none, (.fields #[(.str "_law_symbols" 828), (.str "_law_symbols" 829), (.str "/claim/cut.py" 830), (.int 190 0), (.int 1 0), (.int 0 0), (.int 0 0), (.int 3 0), (.ref 244), (.bool true), (.int 276 0), (.ref 245), .none, (.ref 246), (.ref 247), (.ref 248), (.int 835 0), (.int 190 0), (.str "/claim/cut.py" 836)]), #[]⟩
noncomputable def o250 (P : Params) : Obj := ⟨(.type "function"), none, (.func (fnRec (stTop 70) "_law_symbols" "_law_symbols" 3 .none .none .none (.str "law_wf0080_01" 777) none (.ref 249) .none 0 [])), #[]⟩
noncomputable def o251 (P : Params) : Obj := ⟨(.type "tuple"), none, (.seq #[] 0), #[]⟩
noncomputable def o252 (P : Params) : Obj := ⟨.none, none, (.fields #[]), #[]⟩
noncomputable def o253 (P : Params) : Obj := ⟨(.type "tuple"), none, (.seq #[(.str "text" 841), (.str "lines" 842), (.str "line" 843), (.str "symbol" 844)] 0), #[]⟩
noncomputable def o254 (P : Params) : Obj := ⟨(.type "tuple"), none, (.seq #[] 0), #[]⟩
noncomputable def o255 (P : Params) : Obj := ⟨.none, none, (.func (fnRec (stTop 71) "_law_lines" "_law_lines" 0 .none .none .none .none none .none .none 0 [])), #[]⟩
noncomputable def o256 (P : Params) : Obj := ⟨(.type "code"), none, (.fields #[(.str "_law_lines" 838), (.str "_law_lines" 839), (.str "/claim/cut.py" 840), (.int 206 0), (.int 1 0), (.int 0 0), (.int 0 0), (.int 3 0), (.ref 251), (.bool true), (.int 276 0), (.ref 252), .none, (.ref 253), (.ref 254), (.ref 255), (.int 845 0), (.int 206 0), (.str "/claim/cut.py" 846)]), #[]⟩
noncomputable def o257 (P : Params) : Obj := ⟨(.type "function"), none, (.func (fnRec (stTop 71) "_law_lines" "_law_lines" 3 .none .none .none (.str "law_wf0080_01" 777) none (.ref 256) .none 0 [])), #[]⟩
noncomputable def o258 (P : Params) : Obj := ⟨(.type "tuple"), none, (.seq #[] 0), #[]⟩
noncomputable def o259 (P : Params) : Obj := ⟨.none, none, (.fields #[]), #[]⟩
noncomputable def o260 (P : Params) : Obj := ⟨(.type "tuple"), none, (.seq #[(.str "text" 851), (.str "table" 852), (.str "turn" 853), (.str "line" 854), (.str "state" 855), (.str "counter" 856), (.str "after" 857), (.str "each" 858)] 0), #[]⟩
noncomputable def o261 (P : Params) : Obj := ⟨(.type "tuple"), none, (.seq #[] 0), #[]⟩
noncomputable def o262 (P : Params) : Obj := ⟨.none, none, (.func (fnRec (stTop 72) "_law_compiled" "_law_compiled" 0 .none .none .none .none none .none .none 0 [])), #[]⟩
noncomputable def o263 (P : Params) : Obj := ⟨(.type "code"), none, (.fields #[(.str "_law_compiled" 848), (.str "_law_compiled" 849), (.str "/claim/cut.py" 850), (.int 216 0), (.int 1 0), (.int 0 0), (.int 0 0), (.int 3 0), (.ref 258), (.bool true), (.int 276 0), (.ref 259), .none, (.ref 260), (.ref 261), (.ref 262), (.int 859 0), (.int 216 0), (.str "/claim/cut.py" 860)]), #[]⟩
noncomputable def o264 (P : Params) : Obj := ⟨(.type "function"), none, (.func (fnRec (stTop 72) "_law_compiled" "_law_compiled" 3 .none .none .none (.str "law_wf0080_01" 777) none (.ref 263) .none 0 [])), #[]⟩
noncomputable def o265 (P : Params) : Obj := ⟨(.type "tuple"), none, (.seq #[] 0), #[]⟩
noncomputable def o266 (P : Params) : Obj := ⟨.none, none, (.fields #[]), #[]⟩
noncomputable def o267 (P : Params) : Obj := ⟨.none, none, (.func (fnRec (stTop 73) "_law_run" "_law_run" 0 .none .none .none .none none .none .none 0 [])), #[]⟩
noncomputable def o268 (P : Params) : Obj := ⟨(.type "code"), none, (.fields #[(.str "_law_run" 862), (.str "_law_run" 863), (.str "/claim/cut.py" 864), (.int 232 0), (.int 2 0), (.int 0 0), (.int 0 0), (.int 3 0), (.ref 265), (.bool true), (.int 276 0), (.ref 266), .none, .none, .none, (.ref 267), (.int 865 0), (.int 232 0), (.str "/claim/cut.py" 866)]), #[]⟩
noncomputable def o269 (P : Params) : Obj := ⟨(.type "function"), none, (.func (fnRec (stTop 73) "_law_run" "_law_run" 3 .none .none .none (.str "law_wf0080_01" 777) none (.ref 268) .none 0 [])), #[]⟩
noncomputable def o270 (P : Params) : Obj := ⟨(.type "tuple"), none, (.seq #[] 0), #[]⟩
noncomputable def o271 (P : Params) : Obj := ⟨.none, none, (.fields #[]), #[]⟩
noncomputable def o272 (P : Params) : Obj := ⟨.none, none, (.func (fnRec (stTop 74) "_law_plain" "_law_plain" 0 .none .none .none .none none .none .none 0 [])), #[]⟩
noncomputable def o273 (P : Params) : Obj := ⟨(.type "code"), none, (.fields #[(.str "_law_plain" 868), (.str "_law_plain" 869), (.str "/claim/cut.py" 870), (.int 244 0), (.int 1 0), (.int 0 0), (.int 0 0), (.int 3 0), (.ref 270), (.bool true), (.int 276 0), (.ref 271), .none, .none, .none, (.ref 272), (.int 871 0), (.int 244 0), (.str "/claim/cut.py" 872)]), #[]⟩
noncomputable def o274 (P : Params) : Obj := ⟨(.type "function"), none, (.func (fnRec (stTop 74) "_law_plain" "_law_plain" 3 .none .none .none (.str "law_wf0080_01" 777) none (.ref 273) .none 0 [])), #[]⟩
noncomputable def o275 (P : Params) : Obj := ⟨(.type "tuple"), none, (.seq #[] 0), #[]⟩
noncomputable def o276 (P : Params) : Obj := ⟨.none, none, (.fields #[]), #[]⟩
noncomputable def o277 (P : Params) : Obj := ⟨.none, none, (.func (fnRec (stTop 75) "_law_fractions" "_law_fractions" 0 .none .none .none .none none .none .none 0 [])), #[]⟩
noncomputable def o278 (P : Params) : Obj := ⟨(.type "code"), none, (.fields #[(.str "_law_fractions" 874), (.str "_law_fractions" 875), (.str "/claim/cut.py" 876), (.int 249 0), (.int 1 0), (.int 0 0), (.int 0 0), (.int 3 0), (.ref 275), (.bool true), (.int 276 0), (.ref 276), .none, .none, .none, (.ref 277), (.int 877 0), (.int 249 0), (.str "/claim/cut.py" 878)]), #[]⟩
noncomputable def o279 (P : Params) : Obj := ⟨(.type "function"), none, (.func (fnRec (stTop 75) "_law_fractions" "_law_fractions" 3 .none .none .none (.str "law_wf0080_01" 777) none (.ref 278) .none 0 [])), #[]⟩
noncomputable def o280 (P : Params) : Obj := ⟨(.type "tuple"), none, (.seq #[] 0), #[]⟩
noncomputable def o281 (P : Params) : Obj := ⟨.none, none, (.fields #[]), #[]⟩
noncomputable def o282 (P : Params) : Obj := ⟨.none, none, (.func (fnRec (stTop 76) "_law_counted" "_law_counted" 0 .none .none .none .none none .none .none 0 [])), #[]⟩
noncomputable def o283 (P : Params) : Obj := ⟨(.type "code"), none, (.fields #[(.str "_law_counted" 880), (.str "_law_counted" 881), (.str "/claim/cut.py" 882), (.int 260 0), (.int 1 0), (.int 0 0), (.int 0 0), (.int 3 0), (.ref 280), (.bool true), (.int 276 0), (.ref 281), .none, .none, .none, (.ref 282), (.int 883 0), (.int 260 0), (.str "/claim/cut.py" 884)]), #[]⟩
noncomputable def o284 (P : Params) : Obj := ⟨(.type "function"), none, (.func (fnRec (stTop 76) "_law_counted" "_law_counted" 3 .none .none .none (.str "law_wf0080_01" 777) none (.ref 283) .none 0 [])), #[]⟩
noncomputable def o285 (P : Params) : Obj := ⟨(.type "tuple"), none, (.seq #[] 0), #[]⟩
noncomputable def o286 (P : Params) : Obj := ⟨.none, none, (.fields #[]), #[]⟩
noncomputable def o287 (P : Params) : Obj := ⟨.none, none, (.func (fnRec (stTop 77) "law" "law" 0 .none .none .none .none none .none .none 0 [])), #[]⟩
noncomputable def o288 (P : Params) : Obj := ⟨(.type "code"), none, (.fields #[(.str "law" 886), (.str "law" 887), (.str "/claim/cut.py" 888), (.int 280 0), (.int 1 0), (.int 0 0), (.int 0 0), (.int 3 0), (.ref 285), (.bool true), (.int 276 0), (.ref 286), .none, .none, .none, (.ref 287), (.int 889 0), (.int 280 0), (.str "/claim/cut.py" 890)]), #[]⟩
noncomputable def o289 (P : Params) : Obj := ⟨(.type "function"), none, (.func (fnRec (stTop 77) "law" "law" 3 .none .none .none (.str "law_wf0080_01" 777) none (.ref 288) .none 0 [])), #[]⟩

noncomputable def Ta (P : Params) : BT := .node (o0 P) (.node (o1 P) (.node (o3 P) (.node (o7 P) (.node (o15 P) (.nil) (.nil)) (.node (o23 P) (.nil) (.nil))) (.node (o11 P) (.node (o19 P) (.nil) (.nil)) (.node (o27 P) (.nil) (.nil)))) (.node (o5 P) (.node (o9 P) (.node (o17 P) (.nil) (.nil)) (.node (o25 P) (.nil) (.nil))) (.node (o13 P) (.node (o21 P) (.nil) (.nil)) (.nil)))) (.node (o2 P) (.node (o4 P) (.node (o8 P) (.node (o16 P) (.nil) (.nil)) (.node (o24 P) (.nil) (.nil))) (.node (o12 P) (.node (o20 P) (.nil) (.nil)) (.nil))) (.node (o6 P) (.node (o10 P) (.node (o18 P) (.nil) (.nil)) (.node (o26 P) (.nil) (.nil))) (.node (o14 P) (.node (o22 P) (.nil) (.nil)) (.nil))))
noncomputable def Sa (w : World) (os : OsState) : SharedT := ⟨Ta w.params, 28, lifeM, #[], ⟨0, 0, 0, 0⟩, 276, os⟩
noncomputable def Tb (P : Params) : BT := .node (o0 P) (.node (o1 P) (.node (o3 P) (.node (o7 P) (.node (o15 P) (.node (o31 P) (.nil) (.nil)) (.nil)) (.node (o23 P) (.nil) (.nil))) (.node (o11 P) (.node (o19 P) (.nil) (.nil)) (.node (o27 P) (.nil) (.nil)))) (.node (o5 P) (.node (o9 P) (.node (o17 P) (.nil) (.nil)) (.node (o25 P) (.nil) (.nil))) (.node (o13 P) (.node (o21 P) (.nil) (.nil)) (.node (o29 P) (.nil) (.nil))))) (.node (o2 P) (.node (o4 P) (.node (o8 P) (.node (o16 P) (.nil) (.nil)) (.node (o24 P) (.nil) (.nil))) (.node (o12 P) (.node (o20 P) (.nil) (.nil)) (.node (o28 P) (.nil) (.nil)))) (.node (o6 P) (.node (o10 P) (.node (o18 P) (.nil) (.nil)) (.node (o26 P) (.nil) (.nil))) (.node (o14 P) (.node (o22 P) (.nil) (.nil)) (.node (o30 P) (.nil) (.nil)))))
noncomputable def Sb (w : World) (os : OsState) : SharedT := ⟨Tb w.params, 32, lifeM, #[], ⟨0, 0, 0, 0⟩, 282, os⟩
noncomputable def Tc0 (P : Params) : BT := .node (o0 P) (.node (o1 P) (.node (o3c0 P) (.node (o7 P) (.node (o15 P) (.node (o31 P) (.nil) (.nil)) (.node (o47 P) (.nil) (.nil))) (.node (o23 P) (.node (o39 P) (.nil) (.nil)) (.node (o55 P) (.nil) (.nil)))) (.node (o11 P) (.node (o19 P) (.node (o35 P) (.nil) (.nil)) (.node (o51 P) (.nil) (.nil))) (.node (o27 P) (.node (o43 P) (.nil) (.nil)) (.node (o59 P) (.nil) (.nil))))) (.node (o5 P) (.node (o9 P) (.node (o17 P) (.node (o33 P) (.nil) (.nil)) (.node (o49 P) (.nil) (.nil))) (.node (o25 P) (.node (o41 P) (.nil) (.nil)) (.node (o57 P) (.nil) (.nil)))) (.node (o13 P) (.node (o21 P) (.node (o37 P) (.nil) (.nil)) (.node (o53 P) (.nil) (.nil))) (.node (o29c0 P) (.node (o45 P) (.nil) (.nil)) (.node (o61 P) (.nil) (.nil)))))) (.node (o2 P) (.node (o4 P) (.node (o8 P) (.node (o16 P) (.node (o32 P) (.nil) (.nil)) (.node (o48 P) (.nil) (.nil))) (.node (o24 P) (.node (o40 P) (.nil) (.nil)) (.node (o56 P) (.nil) (.nil)))) (.node (o12 P) (.node (o20 P) (.node (o36 P) (.nil) (.nil)) (.node (o52 P) (.nil) (.nil))) (.node (o28 P) (.node (o44 P) (.nil) (.nil)) (.node (o60 P) (.nil) (.nil))))) (.node (o6 P) (.node (o10 P) (.node (o18 P) (.node (o34 P) (.nil) (.nil)) (.node (o50 P) (.nil) (.nil))) (.node (o26 P) (.node (o42 P) (.nil) (.nil)) (.node (o58 P) (.nil) (.nil)))) (.node (o14 P) (.node (o22 P) (.node (o38 P) (.nil) (.nil)) (.node (o54 P) (.nil) (.nil))) (.node (o30 P) (.node (o46 P) (.nil) (.nil)) (.nil)))))
noncomputable def Sc0 (w : World) (os : OsState) : SharedT := ⟨Tc0 w.params, 62, lifeM, #[], ⟨0, 0, 0, 0⟩, 395, os⟩
noncomputable def Tc1 (P : Params) : BT := .node (o0 P) (.node (o1 P) (.node (o3c1 P) (.node (o7 P) (.node (o15 P) (.node (o31 P) (.node (o63 P) (.node (o127 P) (.nil) (.nil)) (.nil)) (.node (o95 P) (.node (o159 P) (.nil) (.nil)) (.nil))) (.node (o47 P) (.node (o79 P) (.node (o143 P) (.nil) (.nil)) (.nil)) (.node (o111 P) (.node (o175 P) (.nil) (.nil)) (.nil)))) (.node (o23 P) (.node (o39 P) (.node (o71 P) (.node (o135 P) (.nil) (.nil)) (.nil)) (.node (o103 P) (.node (o167 P) (.nil) (.nil)) (.nil))) (.node (o55 P) (.node (o87 P) (.node (o151 P) (.nil) (.nil)) (.nil)) (.node (o119 P) (.node (o183 P) (.nil) (.nil)) (.nil))))) (.node (o11 P) (.node (o19 P) (.node (o35 P) (.node (o67 P) (.node (o131 P) (.nil) (.nil)) (.nil)) (.node (o99 P) (.node (o163 P) (.nil) (.nil)) (.nil))) (.node (o51 P) (.node (o83 P) (.node (o147 P) (.nil) (.nil)) (.nil)) (.node (o115 P) (.node (o179 P) (.nil) (.nil)) (.nil)))) (.node (o27 P) (.node (o43 P) (.node (o75 P) (.node (o139 P) (.nil) (.nil)) (.nil)) (.node (o107 P) (.node (o171 P) (.nil) (.nil)) (.nil))) (.node (o59 P) (.node (o91 P) (.node (o155 P) (.nil) (.nil)) (.nil)) (.node (o123 P) (.nil) (.nil)))))) (.node (o5 P) (.node (o9 P) (.node (o17 P) (.node (o33 P) (.node (o65 P) (.node (o129 P) (.nil) (.nil)) (.nil)) (.node (o97 P) (.node (o161 P) (.nil) (.nil)) (.nil))) (.node (o49 P) (.node (o81 P) (.node (o145 P) (.nil) (.nil)) (.nil)) (.node (o113 P) (.node (o177 P) (.nil) (.nil)) (.nil)))) (.node (o25 P) (.node (o41 P) (.node (o73 P) (.node (o137 P) (.nil) (.nil)) (.nil)) (.node (o105 P) (.node (o169 P) (.nil) (.nil)) (.nil))) (.node (o57 P) (.node (o89 P) (.node (o153 P) (.nil) (.nil)) (.nil)) (.node (o121 P) (.node (o185 P) (.nil) (.nil)) (.nil))))) (.node (o13 P) (.node (o21 P) (.node (o37 P) (.node (o69 P) (.node (o133 P) (.nil) (.nil)) (.nil)) (.node (o101 P) (.node (o165 P) (.nil) (.nil)) (.nil))) (.node (o53 P) (.node (o85 P) (.node (o149 P) (.nil) (.nil)) (.nil)) (.node (o117 P) (.node (o181 P) (.nil) (.nil)) (.nil)))) (.node (o29c1 P) (.node (o45 P) (.node (o77 P) (.node (o141 P) (.nil) (.nil)) (.nil)) (.node (o109 P) (.node (o173 P) (.nil) (.nil)) (.nil))) (.node (o61 P) (.node (o93 P) (.node (o157 P) (.nil) (.nil)) (.nil)) (.node (o125 P) (.nil) (.nil))))))) (.node (o2 P) (.node (o4 P) (.node (o8 P) (.node (o16 P) (.node (o32 P) (.node (o64 P) (.node (o128 P) (.nil) (.nil)) (.nil)) (.node (o96 P) (.node (o160 P) (.nil) (.nil)) (.nil))) (.node (o48 P) (.node (o80 P) (.node (o144 P) (.nil) (.nil)) (.nil)) (.node (o112 P) (.node (o176 P) (.nil) (.nil)) (.nil)))) (.node (o24 P) (.node (o40 P) (.node (o72 P) (.node (o136 P) (.nil) (.nil)) (.nil)) (.node (o104 P) (.node (o168 P) (.nil) (.nil)) (.nil))) (.node (o56 P) (.node (o88 P) (.node (o152 P) (.nil) (.nil)) (.nil)) (.node (o120 P) (.node (o184 P) (.nil) (.nil)) (.nil))))) (.node (o12 P) (.node (o20 P) (.node (o36 P) (.node (o68 P) (.node (o132 P) (.nil) (.nil)) (.nil)) (.node (o100 P) (.node (o164 P) (.nil) (.nil)) (.nil))) (.node (o52 P) (.node (o84 P) (.node (o148 P) (.nil) (.nil)) (.nil)) (.node (o116 P) (.node (o180 P) (.nil) (.nil)) (.nil)))) (.node (o28 P) (.node (o44 P) (.node (o76 P) (.node (o140 P) (.nil) (.nil)) (.nil)) (.node (o108 P) (.node (o172 P) (.nil) (.nil)) (.nil))) (.node (o60 P) (.node (o92 P) (.node (o156 P) (.nil) (.nil)) (.nil)) (.node (o124 P) (.nil) (.nil)))))) (.node (o6 P) (.node (o10 P) (.node (o18 P) (.node (o34 P) (.node (o66 P) (.node (o130 P) (.nil) (.nil)) (.nil)) (.node (o98 P) (.node (o162 P) (.nil) (.nil)) (.nil))) (.node (o50 P) (.node (o82 P) (.node (o146 P) (.nil) (.nil)) (.nil)) (.node (o114 P) (.node (o178 P) (.nil) (.nil)) (.nil)))) (.node (o26 P) (.node (o42 P) (.node (o74 P) (.node (o138 P) (.nil) (.nil)) (.nil)) (.node (o106 P) (.node (o170 P) (.nil) (.nil)) (.nil))) (.node (o58 P) (.node (o90 P) (.node (o154 P) (.nil) (.nil)) (.nil)) (.node (o122 P) (.node (o186 P) (.nil) (.nil)) (.nil))))) (.node (o14 P) (.node (o22 P) (.node (o38 P) (.node (o70 P) (.node (o134 P) (.nil) (.nil)) (.nil)) (.node (o102 P) (.node (o166 P) (.nil) (.nil)) (.nil))) (.node (o54 P) (.node (o86 P) (.node (o150 P) (.nil) (.nil)) (.nil)) (.node (o118 P) (.node (o182 P) (.nil) (.nil)) (.nil)))) (.node (o30 P) (.node (o46 P) (.node (o78 P) (.node (o142 P) (.nil) (.nil)) (.nil)) (.node (o110 P) (.node (o174 P) (.nil) (.nil)) (.nil))) (.node (o62 P) (.node (o94 P) (.node (o158 P) (.nil) (.nil)) (.nil)) (.node (o126 P) (.nil) (.nil)))))))
noncomputable def Sc1 (w : World) (os : OsState) : SharedT := ⟨Tc1 w.params, 187, lifeM, #[], ⟨0, 0, 0, 0⟩, 552, os⟩
noncomputable def Tc2 (P : Params) : BT := .node (o0 P) (.node (o1 P) (.node (o3c2 P) (.node (o7 P) (.node (o15 P) (.node (o31 P) (.node (o63 P) (.node (o127 P) (.nil) (.nil)) (.node (o191 P) (.nil) (.nil))) (.node (o95 P) (.node (o159 P) (.nil) (.nil)) (.nil))) (.node (o47 P) (.node (o79 P) (.node (o143 P) (.nil) (.nil)) (.nil)) (.node (o111 P) (.node (o175 P) (.nil) (.nil)) (.nil)))) (.node (o23 P) (.node (o39 P) (.node (o71 P) (.node (o135 P) (.nil) (.nil)) (.nil)) (.node (o103 P) (.node (o167 P) (.nil) (.nil)) (.nil))) (.node (o55 P) (.node (o87 P) (.node (o151 P) (.nil) (.nil)) (.nil)) (.node (o119 P) (.node (o183 P) (.nil) (.nil)) (.nil))))) (.node (o11 P) (.node (o19 P) (.node (o35 P) (.node (o67 P) (.node (o131 P) (.nil) (.nil)) (.nil)) (.node (o99 P) (.node (o163 P) (.nil) (.nil)) (.nil))) (.node (o51 P) (.node (o83 P) (.node (o147 P) (.nil) (.nil)) (.nil)) (.node (o115 P) (.node (o179 P) (.nil) (.nil)) (.nil)))) (.node (o27 P) (.node (o43 P) (.node (o75 P) (.node (o139 P) (.nil) (.nil)) (.nil)) (.node (o107 P) (.node (o171 P) (.nil) (.nil)) (.nil))) (.node (o59 P) (.node (o91 P) (.node (o155 P) (.nil) (.nil)) (.nil)) (.node (o123 P) (.node (o187 P) (.nil) (.nil)) (.nil)))))) (.node (o5 P) (.node (o9 P) (.node (o17 P) (.node (o33 P) (.node (o65 P) (.node (o129 P) (.nil) (.nil)) (.node (o193 P) (.nil) (.nil))) (.node (o97 P) (.node (o161 P) (.nil) (.nil)) (.nil))) (.node (o49 P) (.node (o81 P) (.node (o145 P) (.nil) (.nil)) (.nil)) (.node (o113 P) (.node (o177 P) (.nil) (.nil)) (.nil)))) (.node (o25 P) (.node (o41 P) (.node (o73 P) (.node (o137 P) (.nil) (.nil)) (.nil)) (.node (o105 P) (.node (o169 P) (.nil) (.nil)) (.nil))) (.node (o57 P) (.node (o89 P) (.node (o153 P) (.nil) (.nil)) (.nil)) (.node (o121 P) (.node (o185 P) (.nil) (.nil)) (.nil))))) (.node (o13 P) (.node (o21 P) (.node (o37 P) (.node (o69 P) (.node (o133 P) (.nil) (.nil)) (.nil)) (.node (o101 P) (.node (o165 P) (.nil) (.nil)) (.nil))) (.node (o53 P) (.node (o85 P) (.node (o149 P) (.nil) (.nil)) (.nil)) (.node (o117 P) (.node (o181 P) (.nil) (.nil)) (.nil)))) (.node (o29c2 P) (.node (o45 P) (.node (o77 P) (.node (o141 P) (.nil) (.nil)) (.nil)) (.node (o109 P) (.node (o173 P) (.nil) (.nil)) (.nil))) (.node (o61 P) (.node (o93 P) (.node (o157 P) (.nil) (.nil)) (.nil)) (.node (o125 P) (.node (o189 P) (.nil) (.nil)) (.nil))))))) (.node (o2 P) (.node (o4 P) (.node (o8 P) (.node (o16 P) (.node (o32 P) (.node (o64 P) (.node (o128 P) (.nil) (.nil)) (.node (o192 P) (.nil) (.nil))) (.node (o96 P) (.node (o160 P) (.nil) (.nil)) (.nil))) (.node (o48 P) (.node (o80 P) (.node (o144 P) (.nil) (.nil)) (.nil)) (.node (o112 P) (.node (o176 P) (.nil) (.nil)) (.nil)))) (.node (o24 P) (.node (o40 P) (.node (o72 P) (.node (o136 P) (.nil) (.nil)) (.nil)) (.node (o104 P) (.node (o168 P) (.nil) (.nil)) (.nil))) (.node (o56 P) (.node (o88 P) (.node (o152 P) (.nil) (.nil)) (.nil)) (.node (o120 P) (.node (o184 P) (.nil) (.nil)) (.nil))))) (.node (o12 P) (.node (o20 P) (.node (o36 P) (.node (o68 P) (.node (o132 P) (.nil) (.nil)) (.nil)) (.node (o100 P) (.node (o164 P) (.nil) (.nil)) (.nil))) (.node (o52 P) (.node (o84 P) (.node (o148 P) (.nil) (.nil)) (.nil)) (.node (o116 P) (.node (o180 P) (.nil) (.nil)) (.nil)))) (.node (o28 P) (.node (o44 P) (.node (o76 P) (.node (o140 P) (.nil) (.nil)) (.nil)) (.node (o108 P) (.node (o172 P) (.nil) (.nil)) (.nil))) (.node (o60 P) (.node (o92 P) (.node (o156 P) (.nil) (.nil)) (.nil)) (.node (o124 P) (.node (o188 P) (.nil) (.nil)) (.nil)))))) (.node (o6 P) (.node (o10 P) (.node (o18 P) (.node (o34 P) (.node (o66 P) (.node (o130 P) (.nil) (.nil)) (.nil)) (.node (o98 P) (.node (o162 P) (.nil) (.nil)) (.nil))) (.node (o50 P) (.node (o82 P) (.node (o146 P) (.nil) (.nil)) (.nil)) (.node (o114 P) (.node (o178 P) (.nil) (.nil)) (.nil)))) (.node (o26 P) (.node (o42 P) (.node (o74 P) (.node (o138 P) (.nil) (.nil)) (.nil)) (.node (o106 P) (.node (o170 P) (.nil) (.nil)) (.nil))) (.node (o58 P) (.node (o90 P) (.node (o154 P) (.nil) (.nil)) (.nil)) (.node (o122 P) (.node (o186 P) (.nil) (.nil)) (.nil))))) (.node (o14 P) (.node (o22 P) (.node (o38 P) (.node (o70 P) (.node (o134 P) (.nil) (.nil)) (.nil)) (.node (o102 P) (.node (o166 P) (.nil) (.nil)) (.nil))) (.node (o54 P) (.node (o86 P) (.node (o150 P) (.nil) (.nil)) (.nil)) (.node (o118 P) (.node (o182 P) (.nil) (.nil)) (.nil)))) (.node (o30 P) (.node (o46 P) (.node (o78 P) (.node (o142 P) (.nil) (.nil)) (.nil)) (.node (o110 P) (.node (o174 P) (.nil) (.nil)) (.nil))) (.node (o62 P) (.node (o94 P) (.node (o158 P) (.nil) (.nil)) (.nil)) (.node (o126 P) (.node (o190 P) (.nil) (.nil)) (.nil)))))))
noncomputable def Sc2 (w : World) (os : OsState) : SharedT := ⟨Tc2 w.params, 194, lifeM, #[], ⟨0, 0, 0, 0⟩, 666, os⟩
noncomputable def Tc3 (P : Params) : BT := .node (o0 P) (.node (o1 P) (.node (o3c3 P) (.node (o7 P) (.node (o15 P) (.node (o31 P) (.node (o63 P) (.node (o127 P) (.nil) (.nil)) (.node (o191 P) (.nil) (.nil))) (.node (o95 P) (.node (o159 P) (.nil) (.nil)) (.nil))) (.node (o47 P) (.node (o79 P) (.node (o143 P) (.nil) (.nil)) (.nil)) (.node (o111 P) (.node (o175 P) (.nil) (.nil)) (.nil)))) (.node (o23 P) (.node (o39 P) (.node (o71 P) (.node (o135 P) (.nil) (.nil)) (.nil)) (.node (o103 P) (.node (o167 P) (.nil) (.nil)) (.nil))) (.node (o55 P) (.node (o87 P) (.node (o151 P) (.nil) (.nil)) (.nil)) (.node (o119 P) (.node (o183 P) (.nil) (.nil)) (.nil))))) (.node (o11 P) (.node (o19 P) (.node (o35 P) (.node (o67 P) (.node (o131 P) (.nil) (.nil)) (.node (o195 P) (.nil) (.nil))) (.node (o99 P) (.node (o163 P) (.nil) (.nil)) (.nil))) (.node (o51 P) (.node (o83 P) (.node (o147 P) (.nil) (.nil)) (.nil)) (.node (o115 P) (.node (o179 P) (.nil) (.nil)) (.nil)))) (.node (o27 P) (.node (o43 P) (.node (o75 P) (.node (o139 P) (.nil) (.nil)) (.nil)) (.node (o107 P) (.node (o171 P) (.nil) (.nil)) (.nil))) (.node (o59 P) (.node (o91 P) (.node (o155 P) (.nil) (.nil)) (.nil)) (.node (o123 P) (.node (o187 P) (.nil) (.nil)) (.nil)))))) (.node (o5 P) (.node (o9 P) (.node (o17 P) (.node (o33 P) (.node (o65 P) (.node (o129 P) (.nil) (.nil)) (.node (o193 P) (.nil) (.nil))) (.node (o97 P) (.node (o161 P) (.nil) (.nil)) (.nil))) (.node (o49 P) (.node (o81 P) (.node (o145 P) (.nil) (.nil)) (.nil)) (.node (o113 P) (.node (o177 P) (.nil) (.nil)) (.nil)))) (.node (o25 P) (.node (o41 P) (.node (o73 P) (.node (o137 P) (.nil) (.nil)) (.nil)) (.node (o105 P) (.node (o169 P) (.nil) (.nil)) (.nil))) (.node (o57 P) (.node (o89 P) (.node (o153 P) (.nil) (.nil)) (.nil)) (.node (o121 P) (.node (o185 P) (.nil) (.nil)) (.nil))))) (.node (o13 P) (.node (o21 P) (.node (o37 P) (.node (o69 P) (.node (o133 P) (.nil) (.nil)) (.nil)) (.node (o101 P) (.node (o165 P) (.nil) (.nil)) (.nil))) (.node (o53 P) (.node (o85 P) (.node (o149 P) (.nil) (.nil)) (.nil)) (.node (o117 P) (.node (o181 P) (.nil) (.nil)) (.nil)))) (.node (o29c2 P) (.node (o45 P) (.node (o77 P) (.node (o141 P) (.nil) (.nil)) (.nil)) (.node (o109 P) (.node (o173 P) (.nil) (.nil)) (.nil))) (.node (o61 P) (.node (o93 P) (.node (o157 P) (.nil) (.nil)) (.nil)) (.node (o125 P) (.node (o189 P) (.nil) (.nil)) (.nil))))))) (.node (o2 P) (.node (o4 P) (.node (o8 P) (.node (o16 P) (.node (o32 P) (.node (o64 P) (.node (o128 P) (.nil) (.nil)) (.node (o192 P) (.nil) (.nil))) (.node (o96 P) (.node (o160 P) (.nil) (.nil)) (.nil))) (.node (o48 P) (.node (o80 P) (.node (o144 P) (.nil) (.nil)) (.nil)) (.node (o112 P) (.node (o176 P) (.nil) (.nil)) (.nil)))) (.node (o24 P) (.node (o40 P) (.node (o72 P) (.node (o136 P) (.nil) (.nil)) (.nil)) (.node (o104 P) (.node (o168 P) (.nil) (.nil)) (.nil))) (.node (o56 P) (.node (o88 P) (.node (o152 P) (.nil) (.nil)) (.nil)) (.node (o120 P) (.node (o184 P) (.nil) (.nil)) (.nil))))) (.node (o12 P) (.node (o20 P) (.node (o36 P) (.node (o68 P) (.node (o132 P) (.nil) (.nil)) (.node (o196 P) (.nil) (.nil))) (.node (o100 P) (.node (o164 P) (.nil) (.nil)) (.nil))) (.node (o52 P) (.node (o84 P) (.node (o148 P) (.nil) (.nil)) (.nil)) (.node (o116 P) (.node (o180 P) (.nil) (.nil)) (.nil)))) (.node (o28 P) (.node (o44 P) (.node (o76 P) (.node (o140 P) (.nil) (.nil)) (.nil)) (.node (o108 P) (.node (o172 P) (.nil) (.nil)) (.nil))) (.node (o60 P) (.node (o92 P) (.node (o156 P) (.nil) (.nil)) (.nil)) (.node (o124 P) (.node (o188 P) (.nil) (.nil)) (.nil)))))) (.node (o6 P) (.node (o10 P) (.node (o18 P) (.node (o34 P) (.node (o66 P) (.node (o130 P) (.nil) (.nil)) (.node (o194 P) (.nil) (.nil))) (.node (o98 P) (.node (o162 P) (.nil) (.nil)) (.nil))) (.node (o50 P) (.node (o82 P) (.node (o146 P) (.nil) (.nil)) (.nil)) (.node (o114 P) (.node (o178 P) (.nil) (.nil)) (.nil)))) (.node (o26 P) (.node (o42 P) (.node (o74 P) (.node (o138 P) (.nil) (.nil)) (.nil)) (.node (o106 P) (.node (o170 P) (.nil) (.nil)) (.nil))) (.node (o58 P) (.node (o90 P) (.node (o154 P) (.nil) (.nil)) (.nil)) (.node (o122 P) (.node (o186 P) (.nil) (.nil)) (.nil))))) (.node (o14 P) (.node (o22 P) (.node (o38 P) (.node (o70 P) (.node (o134 P) (.nil) (.nil)) (.nil)) (.node (o102 P) (.node (o166 P) (.nil) (.nil)) (.nil))) (.node (o54 P) (.node (o86 P) (.node (o150 P) (.nil) (.nil)) (.nil)) (.node (o118 P) (.node (o182 P) (.nil) (.nil)) (.nil)))) (.node (o30 P) (.node (o46 P) (.node (o78 P) (.node (o142 P) (.nil) (.nil)) (.nil)) (.node (o110 P) (.node (o174 P) (.nil) (.nil)) (.nil))) (.node (o62 P) (.node (o94 P) (.node (o158 P) (.nil) (.nil)) (.nil)) (.node (o126 P) (.node (o190 P) (.nil) (.nil)) (.nil)))))))
noncomputable def Sc3 (w : World) (os : OsState) : SharedT := ⟨Tc3 w.params, 197, lifeM, #[], ⟨0, 0, 0, 0⟩, 763, os⟩
noncomputable def Tc4 (P : Params) : BT := .node (o0 P) (.node (o1 P) (.node (o3c4 P) (.node (o7 P) (.node (o15 P) (.node (o31 P) (.node (o63 P) (.node (o127 P) (.node (o255 P) (.nil) (.nil)) (.nil)) (.node (o191 P) (.nil) (.nil))) (.node (o95 P) (.node (o159 P) (.node (o287 P) (.nil) (.nil)) (.nil)) (.node (o223 P) (.nil) (.nil)))) (.node (o47 P) (.node (o79 P) (.node (o143 P) (.node (o271 P) (.nil) (.nil)) (.nil)) (.node (o207 P) (.nil) (.nil))) (.node (o111 P) (.node (o175 P) (.nil) (.nil)) (.node (o239 P) (.nil) (.nil))))) (.node (o23 P) (.node (o39 P) (.node (o71 P) (.node (o135 P) (.node (o263 P) (.nil) (.nil)) (.nil)) (.node (o199 P) (.nil) (.nil))) (.node (o103 P) (.node (o167 P) (.nil) (.nil)) (.node (o231 P) (.nil) (.nil)))) (.node (o55 P) (.node (o87 P) (.node (o151 P) (.node (o279 P) (.nil) (.nil)) (.nil)) (.node (o215 P) (.nil) (.nil))) (.node (o119 P) (.node (o183 P) (.nil) (.nil)) (.node (o247 P) (.nil) (.nil)))))) (.node (o11 P) (.node (o19 P) (.node (o35 P) (.node (o67 P) (.node (o131 P) (.node (o259 P) (.nil) (.nil)) (.nil)) (.node (o195 P) (.nil) (.nil))) (.node (o99 P) (.node (o163 P) (.nil) (.nil)) (.node (o227 P) (.nil) (.nil)))) (.node (o51 P) (.node (o83 P) (.node (o147 P) (.node (o275 P) (.nil) (.nil)) (.nil)) (.node (o211 P) (.nil) (.nil))) (.node (o115 P) (.node (o179 P) (.nil) (.nil)) (.node (o243 P) (.nil) (.nil))))) (.node (o27 P) (.node (o43 P) (.node (o75 P) (.node (o139 P) (.node (o267 P) (.nil) (.nil)) (.nil)) (.node (o203 P) (.nil) (.nil))) (.node (o107 P) (.node (o171 P) (.nil) (.nil)) (.node (o235 P) (.nil) (.nil)))) (.node (o59 P) (.node (o91 P) (.node (o155 P) (.node (o283 P) (.nil) (.nil)) (.nil)) (.node (o219 P) (.nil) (.nil))) (.node (o123 P) (.node (o187 P) (.nil) (.nil)) (.node (o251 P) (.nil) (.nil))))))) (.node (o5 P) (.node (o9 P) (.node (o17 P) (.node (o33 P) (.node (o65 P) (.node (o129 P) (.node (o257 P) (.nil) (.nil)) (.nil)) (.node (o193 P) (.nil) (.nil))) (.node (o97 P) (.node (o161 P) (.node (o289 P) (.nil) (.nil)) (.nil)) (.node (o225 P) (.nil) (.nil)))) (.node (o49 P) (.node (o81 P) (.node (o145 P) (.node (o273 P) (.nil) (.nil)) (.nil)) (.node (o209 P) (.nil) (.nil))) (.node (o113 P) (.node (o177 P) (.nil) (.nil)) (.node (o241 P) (.nil) (.nil))))) (.node (o25 P) (.node (o41 P) (.node (o73 P) (.node (o137 P) (.node (o265 P) (.nil) (.nil)) (.nil)) (.node (o201 P) (.nil) (.nil))) (.node (o105 P) (.node (o169 P) (.nil) (.nil)) (.node (o233 P) (.nil) (.nil)))) (.node (o57 P) (.node (o89 P) (.node (o153 P) (.node (o281 P) (.nil) (.nil)) (.nil)) (.node (o217 P) (.nil) (.nil))) (.node (o121 P) (.node (o185 P) (.nil) (.nil)) (.node (o249 P) (.nil) (.nil)))))) (.node (o13 P) (.node (o21 P) (.node (o37 P) (.node (o69 P) (.node (o133 P) (.node (o261 P) (.nil) (.nil)) (.nil)) (.node (o197 P) (.nil) (.nil))) (.node (o101 P) (.node (o165 P) (.nil) (.nil)) (.node (o229 P) (.nil) (.nil)))) (.node (o53 P) (.node (o85 P) (.node (o149 P) (.node (o277 P) (.nil) (.nil)) (.nil)) (.node (o213 P) (.nil) (.nil))) (.node (o117 P) (.node (o181 P) (.nil) (.nil)) (.node (o245 P) (.nil) (.nil))))) (.node (o29c4 P) (.node (o45 P) (.node (o77 P) (.node (o141 P) (.node (o269 P) (.nil) (.nil)) (.nil)) (.node (o205 P) (.nil) (.nil))) (.node (o109 P) (.node (o173 P) (.nil) (.nil)) (.node (o237 P) (.nil) (.nil)))) (.node (o61 P) (.node (o93 P) (.node (o157 P) (.node (o285 P) (.nil) (.nil)) (.nil)) (.node (o221 P) (.nil) (.nil))) (.node (o125 P) (.node (o189 P) (.nil) (.nil)) (.node (o253 P) (.nil) (.nil)))))))) (.node (o2 P) (.node (o4 P) (.node (o8 P) (.node (o16 P) (.node (o32 P) (.node (o64 P) (.node (o128 P) (.node (o256 P) (.nil) (.nil)) (.nil)) (.node (o192 P) (.nil) (.nil))) (.node (o96 P) (.node (o160 P) (.node (o288 P) (.nil) (.nil)) (.nil)) (.node (o224 P) (.nil) (.nil)))) (.node (o48 P) (.node (o80 P) (.node (o144 P) (.node (o272 P) (.nil) (.nil)) (.nil)) (.node (o208 P) (.nil) (.nil))) (.node (o112 P) (.node (o176 P) (.nil) (.nil)) (.node (o240 P) (.nil) (.nil))))) (.node (o24 P) (.node (o40 P) (.node (o72 P) (.node (o136 P) (.node (o264 P) (.nil) (.nil)) (.nil)) (.node (o200 P) (.nil) (.nil))) (.node (o104 P) (.node (o168 P) (.nil) (.nil)) (.node (o232 P) (.nil) (.nil)))) (.node (o56 P) (.node (o88 P) (.node (o152 P) (.node (o280 P) (.nil) (.nil)) (.nil)) (.node (o216 P) (.nil) (.nil))) (.node (o120 P) (.node (o184 P) (.nil) (.nil)) (.node (o248 P) (.nil) (.nil)))))) (.node (o12 P) (.node (o20 P) (.node (o36 P) (.node (o68 P) (.node (o132 P) (.node (o260 P) (.nil) (.nil)) (.nil)) (.node (o196 P) (.nil) (.nil))) (.node (o100 P) (.node (o164 P) (.nil) (.nil)) (.node (o228 P) (.nil) (.nil)))) (.node (o52 P) (.node (o84 P) (.node (o148 P) (.node (o276 P) (.nil) (.nil)) (.nil)) (.node (o212 P) (.nil) (.nil))) (.node (o116 P) (.node (o180 P) (.nil) (.nil)) (.node (o244 P) (.nil) (.nil))))) (.node (o28 P) (.node (o44 P) (.node (o76 P) (.node (o140 P) (.node (o268 P) (.nil) (.nil)) (.nil)) (.node (o204 P) (.nil) (.nil))) (.node (o108 P) (.node (o172 P) (.nil) (.nil)) (.node (o236 P) (.nil) (.nil)))) (.node (o60 P) (.node (o92 P) (.node (o156 P) (.node (o284 P) (.nil) (.nil)) (.nil)) (.node (o220 P) (.nil) (.nil))) (.node (o124 P) (.node (o188 P) (.nil) (.nil)) (.node (o252 P) (.nil) (.nil))))))) (.node (o6 P) (.node (o10 P) (.node (o18 P) (.node (o34 P) (.node (o66 P) (.node (o130 P) (.node (o258 P) (.nil) (.nil)) (.nil)) (.node (o194 P) (.nil) (.nil))) (.node (o98 P) (.node (o162 P) (.nil) (.nil)) (.node (o226 P) (.nil) (.nil)))) (.node (o50 P) (.node (o82 P) (.node (o146 P) (.node (o274 P) (.nil) (.nil)) (.nil)) (.node (o210 P) (.nil) (.nil))) (.node (o114 P) (.node (o178 P) (.nil) (.nil)) (.node (o242 P) (.nil) (.nil))))) (.node (o26 P) (.node (o42 P) (.node (o74 P) (.node (o138 P) (.node (o266 P) (.nil) (.nil)) (.nil)) (.node (o202 P) (.nil) (.nil))) (.node (o106 P) (.node (o170 P) (.nil) (.nil)) (.node (o234 P) (.nil) (.nil)))) (.node (o58 P) (.node (o90 P) (.node (o154 P) (.node (o282 P) (.nil) (.nil)) (.nil)) (.node (o218 P) (.nil) (.nil))) (.node (o122 P) (.node (o186 P) (.nil) (.nil)) (.node (o250 P) (.nil) (.nil)))))) (.node (o14 P) (.node (o22 P) (.node (o38 P) (.node (o70 P) (.node (o134 P) (.node (o262 P) (.nil) (.nil)) (.nil)) (.node (o198 P) (.nil) (.nil))) (.node (o102 P) (.node (o166 P) (.nil) (.nil)) (.node (o230 P) (.nil) (.nil)))) (.node (o54 P) (.node (o86 P) (.node (o150 P) (.node (o278 P) (.nil) (.nil)) (.nil)) (.node (o214 P) (.nil) (.nil))) (.node (o118 P) (.node (o182 P) (.nil) (.nil)) (.node (o246 P) (.nil) (.nil))))) (.node (o30 P) (.node (o46 P) (.node (o78 P) (.node (o142 P) (.node (o270 P) (.nil) (.nil)) (.nil)) (.node (o206 P) (.nil) (.nil))) (.node (o110 P) (.node (o174 P) (.nil) (.nil)) (.node (o238 P) (.nil) (.nil)))) (.node (o62 P) (.node (o94 P) (.node (o158 P) (.node (o286 P) (.nil) (.nil)) (.nil)) (.node (o222 P) (.nil) (.nil))) (.node (o126 P) (.node (o190 P) (.nil) (.nil)) (.node (o254 P) (.nil) (.nil))))))))
noncomputable def Sc4 (w : World) (os : OsState) : SharedT := ⟨Tc4 w.params, 290, lifeM, #[], ⟨0, 0, 0, 0⟩, 892, os⟩

noncomputable def envM : Env := { scope := pw.main.scope, locals := mainNs, globals := mainNs, cells := [], code := .ref 30, frame := some 31 }
noncomputable def cE : Code := .body (behindTheImports pw) envM
noncomputable abbrev qF : Pos := ⟨0, 0, 0, 0⟩
noncomputable abbrev annM : Option Value := some (.ref 6)
noncomputable def l0 : List Stmt := ((behindTheImports pw).drop 0).take 6
noncomputable def l1 : List Stmt := ((behindTheImports pw).drop 6).take 1
noncomputable def l2 : List Stmt := ((behindTheImports pw).drop 7).take 53
noncomputable def l3 : List Stmt := ((behindTheImports pw).drop 60).take 1
noncomputable def l4 : List Stmt := ((behindTheImports pw).drop 61).take 16
theorem piece0 (w : World) (os : OsState) : segRunT treeTable pw w 28 annM 1 295 (Sb w os) (piecesOf l0 envM cE ⟨0, 0, 0, 0⟩ [topFrame qF]) = some (.next, Sc0 w os, cE, ⟨9, 0, 17, 20⟩) := by kernel_rfl
theorem piece1 (w : World) (os : OsState) : segRunT treeTable pw w 28 annM 1 727 (Sc0 w os) (piecesOf l1 envM cE ⟨9, 0, 17, 20⟩ [topFrame qF]) = some (.next, Sc1 w os, cE, ⟨18, 0, 99, 93⟩) := by kernel_rfl
theorem piece2 (w : World) (os : OsState) : segRunT treeTable pw w 28 annM 1 501 (Sc1 w os) (piecesOf l2 envM cE ⟨18, 0, 99, 93⟩ [topFrame qF]) = some (.next, Sc2 w os, cE, ⟨159, 0, 159, 9⟩) := by kernel_rfl
theorem piece3f (w : World) (os : OsState) : segRunT treeTable pw (w.withFollow "special-get-raises" false) 28 annM 1 979 (Sc2 (w.withFollow "special-get-raises" false) os) (piecesOf l3 envM cE ⟨159, 0, 159, 9⟩ [topFrame qF]) = some (.next, Sc3 (w.withFollow "special-get-raises" false) os, cE, ⟨160, 0, 160, 17⟩) := by kernel_rfl
theorem piece3t (w : World) (os : OsState) : segRunT treeTable pw (w.withFollow "special-get-raises" true) 28 annM 1 979 (Sc2 (w.withFollow "special-get-raises" true) os) (piecesOf l3 envM cE ⟨159, 0, 159, 9⟩ [topFrame qF]) = some (.next, Sc3 (w.withFollow "special-get-raises" true) os, cE, ⟨160, 0, 160, 17⟩) := by kernel_rfl
theorem piece3 (w : World) (os : OsState) : segRunT treeTable pw w 28 annM 1 979 (Sc2 w os) (piecesOf l3 envM cE ⟨159, 0, 159, 9⟩ [topFrame qF]) = some (.next, Sc3 w os, cE, ⟨160, 0, 160, 17⟩) := byRow2 "special-get-raises" (P := fun w => segRunT treeTable pw w 28 annM 1 979 (Sc2 w os) (piecesOf l3 envM cE ⟨159, 0, 159, 9⟩ [topFrame qF]) = some (.next, Sc3 w os, cE, ⟨160, 0, 160, 17⟩)) (fun w => piece3f w os) (fun w => piece3t w os) w
theorem piece4 (w : World) (os : OsState) : segRunT treeTable pw w 28 annM 1 455 (Sc3 w os) (piecesOf l4 envM cE ⟨160, 0, 160, 17⟩ [topFrame qF]) = some (.next, Sc4 w os, cE, ⟨280, 0, 291, 53⟩) := by kernel_rfl
theorem open1 (w : World) : (fencedOpening treeTable pw w 6030).map (fun s => (s.heap, s.gens, s.drawn, s.toks)) = some (absHeap (Ta w.params) 28 lifeM, #[], ⟨0, 0, 0, 0⟩, 276) := by kernel_rfl
theorem pre1 (w : World) (os : OsState) : topGo treeTable pw w 28 annM 12 (Sa w os).abs (topStub pw) = some ((Sb w os).abs, ⟨denote treeTable cE, cE, ⟨0, 0, 0, 0⟩, [topFrame qF]⟩) := by kernel_rfl
theorem block1 (w : World) (os : OsState) : segRunT treeTable pw w 28 annM 1 1 (Sb w os) (blockOf (behindTheImports pw) envM cE ⟨0, 0, 0, 0⟩ [topFrame qF]) = some (.next, Sb w os, cE, ⟨0, 0, 0, 0⟩) := by kernel_rfl
theorem fin1 (w : World) (os : OsState) : topRun treeTable pw w 28 annM 2 (Sc4 w os).abs ⟨doneF .next, cE, ⟨280, 0, 291, 53⟩, [topFrame qF]⟩ = some (Sc4 w os).abs := by kernel_rfl
theorem parts1 : behindTheImports pw = l0 ++ (l1 ++ (l2 ++ (l3 ++ (l4 ++ [])))) := by kernel_rfl
theorem run1 (w : World) (os : OsState) : topRun treeTable pw w 28 annM (12 + (1 + (295 + (727 + (501 + (979 + (455 + 2))))))) (Sa w os).abs (topStub pw) = some (Sc4 w os).abs :=
  go_top (pre1 w os) (piece_block (segRun_of (block1 w os)) (parts1 ▸ piece_app (segRun_of (piece0 w os)) (piece_app (segRun_of (piece1 w os)) (piece_app (segRun_of (piece2 w os)) (piece_app (segRun_of (piece3 w os)) (piece_app (segRun_of (piece4 w os)) (piece_nil (fin1 w os))))))))
end Mine
end
section
namespace Mine
noncomputable def qv : Program := { pw with main := { pw.main with body := [stTop 0, stTop 77] } }
noncomputable def looseM : List Str := Str.ofString "_wall" :: Str.ofString "tspecials" :: Str.ofString "_name_disallowed_re" :: Str.ofString "_value_disallowed_re" :: Str.ofString "_formatparam" :: Str.ofString "Headers" :: Str.ofString "Int2AP" :: Str.ofString "ENDMARKER" :: Str.ofString "LPAR" :: Str.ofString "RPAR" :: Str.ofString "LSQB" :: Str.ofString "RSQB" :: Str.ofString "COLON" :: Str.ofString "COMMA" :: Str.ofString "SEMI" :: Str.ofString "PLUS" :: Str.ofString "MINUS" :: Str.ofString "STAR" :: Str.ofString "SLASH" :: Str.ofString "VBAR" :: Str.ofString "AMPER" :: Str.ofString "LESS" :: Str.ofString "GREATER" :: Str.ofString "EQUAL" :: Str.ofString "DOT" :: Str.ofString "PERCENT" :: Str.ofString "LBRACE" :: Str.ofString "RBRACE" :: Str.ofString "EQEQUAL" :: Str.ofString "NOTEQUAL" :: Str.ofString "LESSEQUAL" :: Str.ofString "GREATEREQUAL" :: Str.ofString "TILDE" :: Str.ofString "CIRCUMFLEX" :: Str.ofString "LEFTSHIFT" :: Str.ofString "RIGHTSHIFT" :: Str.ofString "DOUBLESTAR" :: Str.ofString "PLUSEQUAL" :: Str.ofString "MINEQUAL" :: Str.ofString "STAREQUAL" :: Str.ofString "SLASHEQUAL" :: Str.ofString "PERCENTEQUAL" :: Str.ofString "AMPEREQUAL" :: Str.ofString "VBAREQUAL" :: Str.ofString "CIRCUMFLEXEQUAL" :: Str.ofString "LEFTSHIFTEQUAL" :: Str.ofString "RIGHTSHIFTEQUAL" :: Str.ofString "DOUBLESTAREQUAL" :: Str.ofString "DOUBLESLASH" :: Str.ofString "DOUBLESLASHEQUAL" :: Str.ofString "AT" :: Str.ofString "ATEQUAL" :: Str.ofString "RARROW" :: Str.ofString "ELLIPSIS" :: Str.ofString "COLONEQUAL" :: Str.ofString "EXCLAMATION" :: Str.ofString "NT_OFFSET" :: Str.ofString "EXACT_TOKEN_TYPES" :: Str.ofString "ISTERMINAL" :: Str.ofString "ISEOF" :: Str.ofString "_law_drawn" :: Str.ofString "_law_word" :: Str.ofString "_law_read" :: Str.ofString "_law_told" :: Str.ofString "_law_line" :: Str.ofString "_law_symbols" :: Str.ofString "_law_lines" :: Str.ofString "_law_compiled" :: Str.ofString "_law_run" :: Str.ofString "_law_plain" :: Str.ofString "_law_fractions" :: Str.ofString "_law_counted" :: []
noncomputable def KM : Params → Frag := fun P => (nat_lit 2, o2 P) :: (nat_lit 3, o3c4 P) :: (nat_lit 32, o32 P) :: (nat_lit 34, o34 P) :: (nat_lit 35, o35 P) :: (nat_lit 37, o37 P) :: (nat_lit 38, o38 P) :: (nat_lit 42, o42 P) :: (nat_lit 43, o43 P) :: (nat_lit 47, o47 P) :: (nat_lit 48, o48 P) :: (nat_lit 52, o52 P) :: (nat_lit 53, o53 P) :: (nat_lit 54, o54 P) :: (nat_lit 55, o55 P) :: (nat_lit 57, o57 P) :: (nat_lit 58, o58 P) :: (nat_lit 60, o60 P) :: (nat_lit 61, o61 P) :: (nat_lit 69, o69 P) :: (nat_lit 70, o70 P) :: (nat_lit 72, o72 P) :: (nat_lit 73, o73 P) :: (nat_lit 75, o75 P) :: (nat_lit 76, o76 P) :: (nat_lit 77, o77 P) :: (nat_lit 79, o79 P) :: (nat_lit 80, o80 P) :: (nat_lit 82, o82 P) :: (nat_lit 83, o83 P) :: (nat_lit 84, o84 P) :: (nat_lit 86, o86 P) :: (nat_lit 87, o87 P) :: (nat_lit 89, o89 P) :: (nat_lit 90, o90 P) :: (nat_lit 91, o91 P) :: (nat_lit 93, o93 P) :: (nat_lit 94, o94 P) :: (nat_lit 96, o96 P) :: (nat_lit 97, o97 P) :: (nat_lit 98, o98 P) :: (nat_lit 101, o101 P) :: (nat_lit 102, o102 P) :: (nat_lit 103, o103 P) :: (nat_lit 105, o105 P) :: (nat_lit 106, o106 P) :: (nat_lit 108, o108 P) :: (nat_lit 109, o109 P) :: (nat_lit 110, o110 P) :: (nat_lit 112, o112 P) :: (nat_lit 113, o113 P) :: (nat_lit 115, o115 P) :: (nat_lit 116, o116 P) :: (nat_lit 117, o117 P) :: (nat_lit 120, o120 P) :: (nat_lit 121, o121 P) :: (nat_lit 122, o122 P) :: (nat_lit 123, o123 P) :: (nat_lit 125, o125 P) :: (nat_lit 126, o126 P) :: (nat_lit 128, o128 P) :: (nat_lit 129, o129 P) :: (nat_lit 130, o130 P) :: (nat_lit 133, o133 P) :: (nat_lit 134, o134 P) :: (nat_lit 135, o135 P) :: (nat_lit 138, o138 P) :: (nat_lit 139, o139 P) :: (nat_lit 140, o140 P) :: (nat_lit 142, o142 P) :: (nat_lit 143, o143 P) :: (nat_lit 145, o145 P) :: (nat_lit 146, o146 P) :: (nat_lit 147, o147 P) :: (nat_lit 149, o149 P) :: (nat_lit 150, o150 P) :: (nat_lit 152, o152 P) :: (nat_lit 153, o153 P) :: (nat_lit 154, o154 P) :: (nat_lit 157, o157 P) :: (nat_lit 158, o158 P) :: (nat_lit 159, o159 P) :: (nat_lit 161, o161 P) :: (nat_lit 162, o162 P) :: (nat_lit 164, o164 P) :: (nat_lit 165, o165 P) :: (nat_lit 166, o166 P) :: (nat_lit 168, o168 P) :: (nat_lit 169, o169 P) :: (nat_lit 171, o171 P) :: (nat_lit 172, o172 P) :: (nat_lit 173, o173 P) :: (nat_lit 175, o175 P) :: (nat_lit 176, o176 P) :: (nat_lit 178, o178 P) :: (nat_lit 179, o179 P) :: (nat_lit 180, o180 P) :: (nat_lit 181, o181 P) :: (nat_lit 182, o182 P) :: (nat_lit 183, o183 P) :: (nat_lit 184, o184 P) :: (nat_lit 187, o187 P) :: (nat_lit 189, o189 P) :: (nat_lit 190, o190 P) :: (nat_lit 192, o192 P) :: (nat_lit 193, o193 P) :: (nat_lit 194, o194 P) :: (nat_lit 197, o197 P) :: (nat_lit 199, o199 P) :: (nat_lit 200, o200 P) :: (nat_lit 202, o202 P) :: (nat_lit 203, o203 P) :: (nat_lit 204, o204 P) :: (nat_lit 206, o206 P) :: (nat_lit 207, o207 P) :: (nat_lit 209, o209 P) :: (nat_lit 210, o210 P) :: (nat_lit 211, o211 P) :: (nat_lit 214, o214 P) :: (nat_lit 215, o215 P) :: (nat_lit 216, o216 P) :: (nat_lit 218, o218 P) :: (nat_lit 219, o219 P) :: (nat_lit 221, o221 P) :: (nat_lit 222, o222 P) :: (nat_lit 223, o223 P) :: (nat_lit 225, o225 P) :: (nat_lit 226, o226 P) :: (nat_lit 228, o228 P) :: (nat_lit 229, o229 P) :: (nat_lit 230, o230 P) :: (nat_lit 232, o232 P) :: (nat_lit 233, o233 P) :: (nat_lit 235, o235 P) :: (nat_lit 236, o236 P) :: (nat_lit 237, o237 P) :: (nat_lit 239, o239 P) :: (nat_lit 240, o240 P) :: (nat_lit 242, o242 P) :: (nat_lit 243, o243 P) :: (nat_lit 244, o244 P) :: (nat_lit 246, o246 P) :: (nat_lit 247, o247 P) :: (nat_lit 249, o249 P) :: (nat_lit 250, o250 P) :: (nat_lit 251, o251 P) :: (nat_lit 253, o253 P) :: (nat_lit 254, o254 P) :: (nat_lit 256, o256 P) :: (nat_lit 257, o257 P) :: (nat_lit 258, o258 P) :: (nat_lit 260, o260 P) :: (nat_lit 261, o261 P) :: (nat_lit 263, o263 P) :: (nat_lit 264, o264 P) :: (nat_lit 265, o265 P) :: (nat_lit 268, o268 P) :: (nat_lit 269, o269 P) :: (nat_lit 270, o270 P) :: (nat_lit 273, o273 P) :: (nat_lit 274, o274 P) :: (nat_lit 275, o275 P) :: (nat_lit 278, o278 P) :: (nat_lit 279, o279 P) :: (nat_lit 280, o280 P) :: (nat_lit 283, o283 P) :: (nat_lit 284, o284 P) :: (nat_lit 285, o285 P) :: (nat_lit 288, o288 P) :: (nat_lit 289, o289 P) :: []
noncomputable def asM : List Addr := nat_lit 2 :: nat_lit 3 :: nat_lit 32 :: nat_lit 34 :: nat_lit 35 :: nat_lit 37 :: nat_lit 38 :: nat_lit 42 :: nat_lit 43 :: nat_lit 47 :: nat_lit 48 :: nat_lit 52 :: nat_lit 53 :: nat_lit 54 :: nat_lit 55 :: nat_lit 57 :: nat_lit 58 :: nat_lit 60 :: nat_lit 61 :: nat_lit 69 :: nat_lit 70 :: nat_lit 72 :: nat_lit 73 :: nat_lit 75 :: nat_lit 76 :: nat_lit 77 :: nat_lit 79 :: nat_lit 80 :: nat_lit 82 :: nat_lit 83 :: nat_lit 84 :: nat_lit 86 :: nat_lit 87 :: nat_lit 89 :: nat_lit 90 :: nat_lit 91 :: nat_lit 93 :: nat_lit 94 :: nat_lit 96 :: nat_lit 97 :: nat_lit 98 :: nat_lit 101 :: nat_lit 102 :: nat_lit 103 :: nat_lit 105 :: nat_lit 106 :: nat_lit 108 :: nat_lit 109 :: nat_lit 110 :: nat_lit 112 :: nat_lit 113 :: nat_lit 115 :: nat_lit 116 :: nat_lit 117 :: nat_lit 120 :: nat_lit 121 :: nat_lit 122 :: nat_lit 123 :: nat_lit 125 :: nat_lit 126 :: nat_lit 128 :: nat_lit 129 :: nat_lit 130 :: nat_lit 133 :: nat_lit 134 :: nat_lit 135 :: nat_lit 138 :: nat_lit 139 :: nat_lit 140 :: nat_lit 142 :: nat_lit 143 :: nat_lit 145 :: nat_lit 146 :: nat_lit 147 :: nat_lit 149 :: nat_lit 150 :: nat_lit 152 :: nat_lit 153 :: nat_lit 154 :: nat_lit 157 :: nat_lit 158 :: nat_lit 159 :: nat_lit 161 :: nat_lit 162 :: nat_lit 164 :: nat_lit 165 :: nat_lit 166 :: nat_lit 168 :: nat_lit 169 :: nat_lit 171 :: nat_lit 172 :: nat_lit 173 :: nat_lit 175 :: nat_lit 176 :: nat_lit 178 :: nat_lit 179 :: nat_lit 180 :: nat_lit 181 :: nat_lit 182 :: nat_lit 183 :: nat_lit 184 :: nat_lit 187 :: nat_lit 189 :: nat_lit 190 :: nat_lit 192 :: nat_lit 193 :: nat_lit 194 :: nat_lit 197 :: nat_lit 199 :: nat_lit 200 :: nat_lit 202 :: nat_lit 203 :: nat_lit 204 :: nat_lit 206 :: nat_lit 207 :: nat_lit 209 :: nat_lit 210 :: nat_lit 211 :: nat_lit 214 :: nat_lit 215 :: nat_lit 216 :: nat_lit 218 :: nat_lit 219 :: nat_lit 221 :: nat_lit 222 :: nat_lit 223 :: nat_lit 225 :: nat_lit 226 :: nat_lit 228 :: nat_lit 229 :: nat_lit 230 :: nat_lit 232 :: nat_lit 233 :: nat_lit 235 :: nat_lit 236 :: nat_lit 237 :: nat_lit 239 :: nat_lit 240 :: nat_lit 242 :: nat_lit 243 :: nat_lit 244 :: nat_lit 246 :: nat_lit 247 :: nat_lit 249 :: nat_lit 250 :: nat_lit 251 :: nat_lit 253 :: nat_lit 254 :: nat_lit 256 :: nat_lit 257 :: nat_lit 258 :: nat_lit 260 :: nat_lit 261 :: nat_lit 263 :: nat_lit 264 :: nat_lit 265 :: nat_lit 268 :: nat_lit 269 :: nat_lit 270 :: nat_lit 273 :: nat_lit 274 :: nat_lit 275 :: nat_lit 278 :: nat_lit 279 :: nat_lit 280 :: nat_lit 283 :: nat_lit 284 :: nat_lit 285 :: nat_lit 288 :: nat_lit 289 :: []
theorem asM_eq (P : Params) : asM = (KM P).map (·.1) := by kernel_rfl
noncomputable abbrev rM : RowW := PySem.Challenge.rw_wf0080_01.row.toRowW
noncomputable abbrev hookM : Hook := kHook KM asM asM_eq
theorem saidA : sreFenced PySem.Challenge.rw_wf0080_01.row.prog.main = true := by kernel_rfl
theorem saidB : namesResolve PySem.Challenge.rw_wf0080_01.row.prog = true := by kernel_rfl
theorem saidC : noRoadLSs { strict := !(importedModules PySem.Challenge.rw_wf0080_01.row.prog.main.body).all cThrough.contains, foot := none, bare := (["vars", "dir", "locals"] : List Str).filter (readsOut PySem.Challenge.rw_wf0080_01.row.prog PySem.Challenge.rw_wf0080_01.row.prog.main.body) } PySem.Challenge.rw_wf0080_01.row.prog.main.body = true := by kernel_rfl
theorem saidD : (namesMeet PySem.Challenge.rw_wf0080_01.row.prog PySem.Challenge.rw_wf0080_01.row.prog.main.body fun _ n => attrL n) = true := by kernel_rfl
theorem saidE : (PySem.Challenge.rw_wf0080_01.bound'.all fun n => !builtinNamed n || PySem.Challenge.rw_wf0080_01.about == [n] || !PySem.Challenge.rw_wf0080_01.reads n) = true := by kernel_rfl
theorem saidF : noRoadLSs { strict := true, foot := some PySem.Challenge.rw_wf0080_01.bound', writes := PySem.Challenge.rw_wf0080_01.writes, may := PySem.Challenge.rw_wf0080_01.may } PySem.Challenge.rw_wf0080_01.footing = true := by kernel_rfl
theorem saidR : PySem.Challenge.rw_wf0080_01.row.wellSaid = true := by
  unfold OpenRow.wellSaid OpenRow.partSaid looksOpen
  repeat with_reducible refine look_both ?_ ?_
  all_goals first | with_reducible exact saidA | with_reducible exact saidB | with_reducible exact saidC | with_reducible exact saidD | kernel_rfl
theorem said1 : PySem.Challenge.rw_wf0080_01.wellSaid = true := by
  unfold OpenLaw.wellSaid
  repeat with_reducible refine look_both ?_ ?_
  with_reducible exact saidR
  all_goals first | with_reducible exact saidE | with_reducible exact saidF | kernel_rfl
theorem left1 : LeftO pw qv looseM (fun s => xlAt qv [] s && recOk (RowW.records rM) s) (Hook.obs hookM) (Hook.val hookM) 6030 :=
  LeftO.of_pieces (p := pw) (H₀ := fun P => absHeap (Ta P) 28 lifeM) (H₁ := fun P => absHeap (Tc4 P) 290 lifeM) (gs₀ := #[]) (gs₁ := #[]) (d₀ := ⟨0, 0, 0, 0⟩) (d₁ := ⟨0, 0, 0, 0⟩) (k₀ := 276) (k₁ := 892) (m₀ := 28) (ann := annM)
    open1 (fun w => by kernel_rfl) run1 (by decide +kernel) (fun w => by kernel_rfl)
end Mine
end
end
open PySem PySem.W PySem.Calls PyProof.Rows
set_option maxHeartbeats 4000000
namespace Mine
noncomputable abbrev prM : Program := PySem.Challenge.rw_wf0080_01.row.prog
noncomputable abbrev KW (w : World) : Frag := KM w.params

/-- the facts of the top that never turn -/
structure Gl (w : World) (mg mb : Str → Option Value) (h : Heap) : Prop where
  X : (KM w.params).In h
  T : TopRead qv (looseW qv looseM) mg mb h
theorem Gl.keeps {w : World} {mg mb : Str → Option Value} {h h' : Heap} (G : Gl w mg mb h) (e : h.StaysIn h') : Gl w mg mb h' := ⟨G.X.keeps e, G.T.keeps e⟩

/-- room for n calls within one another -/
structure Gd (n : Nat) (A : Around) : Prop where
  han : A.handled = none
  dep : A.depth + n < recursionLimit
  un : A.units + 100 * n < cLine
theorem Gd.deeper {n : Nat} {A : Around} {env : Env} (g : Gd (n + 1) A) : Gd n (A.deeper env) :=
  ⟨g.han, by have := g.dep; show A.depth + 1 + n < _; omega, by have := g.un; show A.units + 3 + 100 * n < _; omega⟩
theorem Gd.le {n k : Nat} {A : Around} (g : Gd n A) (h : k ≤ n) : Gd k A := ⟨g.han, by have := g.dep; omega, by have := g.un; omega⟩
theorem Gd.in1 {n : Nat} {A : Around} (g : Gd (n + 1) A) : Gd n A.in1 := ⟨g.han, by have := g.dep; show A.depth + n < _; omega, by have := g.un; show A.units + 1 + 100 * n < _; omega⟩
theorem Gd.room {n : Nat} {A : Around} (g : Gd n A) : A.depth < recursionLimit := by have := g.dep; omega
theorem Gd.unit {n : Nat} {A : Around} (g : Gd n A) : A.units < cLine := by have := g.un; omega

/-- t ends, by no exception, in a value and a heap of which P is so; nothing but the heap turns -/
noncomputable def Ok {α : Type} (w : World) (A : Around) (t : Sem α) (P : α → Heap → Prop) (h : Heap) : Prop :=
  ∀ (g : Array GenState) (d : Drawn) (tk : Nat) (os : OsState) (Q : α → Shared → Prop) (E : Value → Shared → Prop), (∀ v h' tk', P v h' → Q v ⟨h', g, d, tk', os⟩) → wpAny (model prM w) A t Q E ⟨h, g, d, tk, os⟩
section
variable {α β : Type} {w : World} {A : Around} {h : Heap}
theorem Ok.mono {t : Sem α} {P P' : α → Heap → Prop} (x : Ok w A t P h) (k : ∀ v h', P v h' → P' v h') : Ok w A t P' h := fun g d tk os Q E q => x g d tk os Q E fun v h' tk' p => q v h' tk' (k v h' p)
theorem Ok.bind {t : Sem α} {f : α → Sem β} {P : β → Heap → Prop} (x : Ok w A t (fun a h' => Ok w A (f a) P h') h) : Ok w A (t >>= f) P h :=
  fun g d tk os Q E q => wpAny_bind (x g d tk os _ E fun v h' tk' p => p g d tk' os Q E q)
theorem Ok.pure {a : α} {P : α → Heap → Prop} (p : P a h) : Ok w A (Pure.pure a) P h := fun _ _ _ _ _ _ q => wpAny_pure (q _ _ _ p)
theorem Ok.of {t : Sem α} {P : α → Heap → Prop} (x : ∀ (g : Array GenState) (d : Drawn) (tk : Nat) (os : OsState) (Q : α → Shared → Prop) (E : Value → Shared → Prop), (∀ v h' tk', P v h' → Q v ⟨h', g, d, tk', os⟩) → wpAny (model prM w) A t Q E ⟨h, g, d, tk, os⟩) : Ok w A t P h := x
theorem Ok.use {t : Sem α} {P : α → Heap → Prop} {g : Array GenState} {d : Drawn} {tk : Nat} {os : OsState} {Q : α → Shared → Prop} {E : Value → Shared → Prop} (x : Ok w A t P h) (q : ∀ v h' tk', P v h' → Q v ⟨h', g, d, tk', os⟩) : wpAny (model prM w) A t Q E ⟨h, g, d, tk, os⟩ := x g d tk os Q E q
end

/-- the map of the locals, the newest first -/
noncomputable def am (l : List (Str × Value)) : Str → Option Value := fun y => l.lookup y
theorem am_hit {x : Str} {v : Value} {l : List (Str × Value)} : am ((x, v) :: l) x = some v := by unfold am; simp
theorem am_skip {x y : Str} {v u : Value} {l : List (Str × Value)} (e : (y == x) = false) (k : am l y = some v) : am ((x, u) :: l) y = some v := by unfold am at k ⊢; rw [List.lookup_cons, e]; exact k
theorem am_put {x : Str} {v : Value} {l : List (Str × Value)} : (fun y => if y = x then some v else am l y) = am ((x, v) :: l) := by
  funext y
  unfold am
  rw [List.lookup_cons]
  by_cases e : y = x
  · subst e; simp
  · rw [if_neg e, show (y == x) = false from beq_eq_false_iff_ne.mpr e]
noncomputable def fv : Flow → Value
  | .ret v => v
  | _ => .none

section
variable {w : World} {mg mb : Str → Option Value} {A : Around} {h h' h₀ : Heap} {L : Addr} {m : Str → Option Value} {news : List (Addr × Obj)}
theorem frExt (F : Fr h₀ L h m) (e : h.StaysIn h') : Fr h₀ L h' m := ⟨F.ns.keeps e, fun b o q => e b o (F.keep b o q), F.above⟩
theorem newsExt (N : News h₀ L h news) (e : h.StaysIn h') : News h₀ L h' news := fun p hp => ⟨e _ _ (N p hp).1, (N p hp).2⟩
end
end Mine
namespace Mine
section
variable {w : World} {mg mb : Str → Option Value} {A : Around} {h : Heap} {P : Value → Heap → Prop}
  {name qual : Str} {params : Arguments} {body : List Stmt} {scope : Scope} {dV kV doc pm cdv ct oc : Value} {an od : Option Addr} {osl : Array (Option Value)} {f : Addr} {pos : List Value} {kw : List (Str × Value)} {binds : List (Str × Value)} {n : Nat}

/-- a call of a def of the top without cells -/
theorem enter (binds : List (Str × Value)) (G : Gl w mg mb h) (gd : Gd (n + 1) A) (ho : (KM w.params).lookup f = some ⟨oc, od, .func (fnOf name qual params body scope dV kV doc pm an cdv ct), osl⟩) (hcd : codeIn (KM w.params) cdv qual = true)
    (hbind : ∀ s : Shared, s.heap = h → BindsTo s (fnOf name qual params body scope dV kV doc pm an cdv ct) ⟨pos, kw⟩ binds) (hloc : ∀ y ∈ binds, scope.names.lookup y.1 = some .local)
    (hb : ∀ L h₁, Fr h L h₁ (am binds.reverse) → h.get? L = none → Gl w mg mb h → Gd n (A.deeper (envX qual scope L f cdv [])) → Ok w (A.deeper (envX qual scope L f cdv [])) (execs body (envX qual scope L f cdv [])) (fun fl h' => P (fv fl) h') h₁)
    (hcell : ∀ x ∈ scope.names, x.2 ≠ .cell) (hco : scope.isCoroutine = false := by rfl) (hgen : scope.isGenerator = false := by rfl) (hk : scope.kind = .function := by rfl) :
    Ok w A (call (.ref f) pos kw) P h := fun g d tk os Q E q => by
  refine wpAny_call (codeAny_call_def (fd := fnOf name qual params body scope dV kV doc pm an cdv ct) (body := body) (binds := binds) gd.room (G.X _ _ ho) rfl G.T.nolimit (codeRec_of G.X hcd) rfl (hbind _ rfl) hcell hloc (fun h₁ hns hk₁ => ?_) hco hgen hk)
  have fr : h.get? h.objs.size = none := by
    cases e : h.get? h.objs.size with
    | none => rfl
    | some o => exact absurd (Heap.lt_size e) (Nat.lt_irrefl _)
  exact wpAny_mono (hb h.objs.size h₁ ⟨hns, hk₁, Nat.le_refl _⟩ fr G gd.deeper g d _ os (fun fl s' => Q (fv fl) s') (fun e s' => wpAny (model prM w) (A.deeper (envX qual scope h.objs.size f cdv [])) (leaving (envX qual scope h.objs.size f cdv []) e) (fun _ s'' => E e s'') (fun e' s'' => E e' s'') s') fun v h' tk' p => q _ _ _ p) (fun fl s' x => by cases fl <;> exact x) fun e s' x => x

/-- a call of a def of the top with cells -/
theorem enterC (binds : List (Str × Value)) (G : Gl w mg mb h) (gd : Gd (n + 1) A) (ho : (KM w.params).lookup f = some ⟨oc, od, .func (fnOf name qual params body scope dV kV doc pm an cdv ct), osl⟩) (hcd : codeIn (KM w.params) cdv qual = true)
    (hbind : ∀ s : Shared, s.heap = h → BindsTo s (fnOf name qual params body scope dV kV doc pm an cdv ct) ⟨pos, kw⟩ binds)
    (hkind : (binds.all fun y => scope.names.lookup y.1 == some .local || scope.names.lookup y.1 == some .cell) = true) (hnd : ((cellsFrom 0 scope.names []).map (·.1)).Nodup)
    (hb : ∀ L h₁ cells, Fr h L h₁ (bindL (envOfC qual scope L f cdv).kindOf binds fun _ => none) → News h L h₁ cells → CellsAre (bindC (envOfC qual scope L f cdv).kindOf binds fun _ => none) (cellsFrom (L + 1) scope.names []) cells → h.get? L = none → Gl w mg mb h → Gd n (A.deeper (envOfC qual scope L f cdv)) →
      Ok w (A.deeper (envOfC qual scope L f cdv)) (execs body (envOfC qual scope L f cdv)) (fun fl h' => P (fv fl) h') h₁)
    (hco : scope.isCoroutine = false := by rfl) (hgen : scope.isGenerator = false := by rfl) (hk : scope.kind = .function := by rfl) :
    Ok w A (call (.ref f) pos kw) P h := fun g d tk os Q E q => by
  refine wpAny_call (codeAny_call_function gd.room (G.X _ _ ho) rfl hco hgen rfl (codeRec_of G.X hcd) (hbind _ rfl _ _ _ _ ?_))
  refine wpAny_newFunctionEnv_cells hk (kindsX hkind _) fun env' he s' x => ?_
  subst he
  refine ⟨G.T.nolimit.keeps x.toInCall.keep, codeAny_func ?_⟩
  obtain ⟨h₁, tk, rfl, _⟩ := x.done
  have hk₁ := x.toInCall.keep
  obtain ⟨cells, NC, Y⟩ := Cl.news (h₀ := h) (Nat.le_refl _) fun n c hm => ⟨x.cell n c (lookup_of_mem_nodup (cellsFrom_names scope.names 0 (h.objs.size + 1) [] [] rfl ▸ hnd) hm), x.above n c hm⟩
  have fr : h.get? h.objs.size = none := by
    cases e : h.get? h.objs.size with
    | none => rfl
    | some o => exact absurd (Heap.lt_size e) (Nat.lt_irrefl _)
  exact wpAny_mono (hb h.objs.size h₁ cells ⟨x.toInCall.ns, hk₁, Nat.le_refl _⟩ NC Y fr G gd.deeper g d _ os (fun fl s' => Q (fv fl) s') (fun e s' => wpAny (model prM w) (A.deeper (envOfC qual scope h.objs.size f cdv)) (leaving (envOfC qual scope h.objs.size f cdv) e) (fun _ s'' => E e s'') (fun e' s'' => E e' s'') s') fun v h' tk' p => q _ _ _ p) (fun fl s' x => by cases fl <;> exact x) fun e s' x => x
end
end Mine
namespace Mine
section
variable {w : World} {M : Model} {A : Around} {E : Value → Shared → Prop} {s : Shared} {h₀ : Heap} {L a : Addr} {l : List (Str × Value)} {cn : Str} {cs : Scope} {ccd : Value} {cl : List (Str × Addr)} {x : Str} {v : Value} {Q : Unit → Shared → Prop} {news : List (Addr × Obj)}
theorem stM (F : Fr h₀ L s.heap (am l)) (N : News h₀ L s.heap news) (h : ∀ h', Fr h₀ L h' (am ((x, v) :: l)) → News h₀ L h' news → Q () { s with heap := h', toks := s.toks + 1 })
    (hk : cs.kind = .function := by rfl) (hx : (envX cn cs L a ccd cl).kindOf x = some .local := by rfl) : wpAny M A (storeName (envX cn cs L a ccd cl) x v) Q E s :=
  storeX_L F N (fun h' F' N' => h h' (by rw [← am_put]; exact F') N') hk hx
theorem pick_get {vs : List Value} {ns : List Int} (i : IntsAre vs ns) {k : Nat} (hk : k < ns.length) : ∃ t, vs[k]? = some (.int (ns.getD k 0) t) := by
  obtain ⟨t, e⟩ := i.get k ns[k] (by simp [hk])
  exact ⟨t, by rw [e]; simp [hk]⟩
theorem pickT {prog : Program} {value slice : Expr} {t : Addr} {vs : List Value} {ns : List Int} {k : Int} {u : Tok} {Q : Value → Shared → Prop} (ht : IsTup s.heap t vs.toArray) (i : IntsAre vs ns) (h0 : 0 ≤ k) (h1 : k < (ns.length : Int)) (hz : ns.length < 1000)
    (h : ∀ t, Q (.int (ns.getD k.toNat 0) t) s) (hs : subscripted slice false (.ref t) (.int k u) = operate [.ref t, .int k u] (getItem (.ref t) (.int k u)) := by with_unfolding_all rfl) :
    wpAny (model prog w) A (subscriptTail value slice (.ref t) (.int k u)) Q E s := by
  obtain ⟨t', e⟩ := pick_get i (k := k.toNat) (by omega)
  have hl := i.length
  refine item_tupleT ht (by omega) (by omega) (j := k.toNat) ?_ e (h t') hs
  unfold seqIndex?
  simp only [if_neg (by omega : ¬ k < 0)]
  rw [if_pos]
  simp only [Bool.and_eq_true, decide_eq_true_eq]
  omega
end
end Mine
namespace Mine
local macro_rules | `(tactic| walk_at "lk") => `(tactic| first | with_reducible exact am_hit | (with_reducible refine am_skip (by kernel_rfl) ?_; walk_at "lk") | assumption)
local macro_rules | `(tactic| walk_at "eval Name") => `(tactic| (k_dflt (refine' nameX_L ?F ?v ?_ ?a ?b; (case F => first | with_reducible assumption | assumption); (case a => rfl); (case b => rfl); (case v => walk_at "lk"); k_whole)))
local macro_rules | `(tactic| walk_at "storeName") => `(tactic| (k_dflt (refine' stM ?F ?N ?_ ?a ?b; (case F => first | with_reducible assumption | assumption); (case N => first | with_reducible assumption | assumption); (case a => rfl); (case b => rfl); k_whole); intro h' F' N'; (try k_sweep); (try dsimp only)))
local macro_rules | `(tactic| walk_at "subscriptTail") => `(tactic| ((with_reducible show wpAny _ _ (subscriptTail _ _ (Value.ref _) (Value.int _ _)) _ _ _); k_dflt (refine' pickT ?t ?i ?a ?b ?z ?_ ?s; (case t => exact News.isTup (by k_asm) (by k_mem)); (case i => l_ints); (case a => l_idx); (case b => l_idx); (case z => decide); (case s => with_unfolding_all rfl); k_whole); intro t'))
local macro_rules | `(tactic| walk_at "assign Tuple") => `(tactic| ((with_reducible show wpAny _ _ (assign (Expr.Tuple _ _ _) _ (Value.ref _)) _ _ _); k_dflt (refine' unpackN_ ?F ?N ?T ?hh ?k2 ?k3 ?_; (case F => k_asm); (case N => k_asm); (case T => exact News.isTup (by k_asm) (by k_mem)); (case hh => exact Gd.han (by assumption)); (case k2 => exact rfl); (case k3 => exact rfl)); intro h' F' N'; (try k_sweep); (try dsimp only)))

theorem fill_C1 : PySem.Challenge.rw_wf0080_01 = PySem.Challenge.rw_wf0080_01 ∧ KM = KM := by
  w_on
  k_fill
  exact ⟨rfl, rfl⟩

noncomputable def stF (x : Int) : Int := [7, 11, 13].getD (x.fmod 3).toNat 0
noncomputable def cnF (x : Int) : Int := [2, 3, 5].getD ((x.fdiv 6).fmod 3).toNat 0
noncomputable def afF (x : Int) : Int := [7, 11, 13, 17].getD ((x.fdiv 18).fmod 4).toNat 0
noncomputable def otF (x : Int) : Int := [7, 11, 13, 17].getD ((x.fdiv 72).fmod 4).toNat 0
noncomputable def moF (x : Int) : Bool := decide ((x.fdiv 3).fmod 2 = 0)
noncomputable def tupO (vs : List Value) : Obj := { cls := .type "tuple", data := .seq vs.toArray }
theorem told_c {w : World} {mg mb : Str → Option Value} {A : Around} {h : Heap} {x : Int} {t : Tok} (G : Gl w mg mb h) (gd : Gd 1 A) :
    Ok w A (call (.ref 236) [.int x t]) (fun v h' => h.StaysIn h' ∧ ∃ r t1 t2 t3 t4, v = .ref r ∧ h.get? r = none ∧ h'.get? r = some (tupO [.int (stF x) t1, .int (cnF x) t2, .int (afF x) t3, .int (otF x) t4, .bool (moF x)])) h := by
  w_on
  have X := G.X
  have T := G.T
  refine' enter (n := 0) [("x", .int x t)] G gd ?k6 ?k7 ?k9 ?kB ?_ ?k10 ?c2 ?c3 ?c4
  case k6 => k_is
  case k7 => k_is
  case k9 => exact fun s _ => BindsTo.of_eq (by with_unfolding_all rfl)
  case kB => exact locs rfl
  case c2 => exact rfl
  case c3 => exact rfl
  case c4 => exact rfl
  case k10 => decide
  intro L h₁ F fr G gd g d tk os Q E q
  have N : News h L h₁ [] := News.nil
  dsimp only [List.reverse, List.reverseAux] at F
  repeat' ((fail_if_success (with_reducible show wpAny _ _ (exec (Stmt.While _ _ _ _) _) _ _ _)); (fail_if_success (with_reducible show wpAny _ _ (exec (Stmt.For _ _ _ _ _) _) _ _ _)); (fail_if_success (with_reducible show wpAny _ _ (pyIter _) _ _ _)); (fail_if_success (with_reducible show wpAny _ _ (eval (Expr.ListComp _ _ _ _) _) _ _ _)); first | walk_at "mine" | walk1 | (dsimp only; walk1))
  exact q _ _ _ ⟨Fr.keep (by assumption), _, _, _, _, _, rfl, News.fresh (by assumption) (List.Mem.head _), News.get (by assumption) (List.Mem.head _)⟩
end Mine
namespace Mine
theorem br_t {b : Bool} {p q : Prop} (e : b = true) (x : p) : if b = true then p else q := by rw [if_pos e]; exact x
theorem br_f {b : Bool} {p q : Prop} (e : b = false) (x : q) : if b = true then p else q := by rw [if_neg (by rw [e]; exact Bool.false_ne_true)]; exact x
theorem mark_none (A : Around) : A.mark none = A := rfl
section
variable {w : World} {A : Around} {h : Heap} {env : Env} {test : Expr} {body : List Stmt} {pos : Pos} {P : Flow → Heap → Prop}
theorem while_ok (I : Nat → Heap → Prop) (n : Nat) (h0 : I n h)
    (turn : ∀ n h, I n h → Ok w A (isTrue test env (eval test env)) (fun b h₂ => if b = true then Ok w A (execs body env) (fun f h₃ => match f with
      | .next | .cont => ∃ m, m < n ∧ I m h₃
      | .brk => P .next h₃
      | .ret v => P (.ret v) h₃) h₂ else P .next h₂) h) : Ok w A (exec (.While test body [] pos) env) P h := fun g d tk os Q E q => by
  refine wpAny_While (codeAny_whileLoop (fun n s => ∃ h tk, s = ⟨h, g, d, tk, os⟩ ∧ I n h) ?_ n ⟨h, tk, rfl, h0⟩)
  rintro n _ ⟨h, tk, rfl, hI⟩
  refine turn n h hI g d tk os _ _ fun b h₂ tk₂ p => ?_
  cases b with
  | true =>
    rw [if_pos rfl] at p
    refine p g d tk₂ os _ _ fun f h₃ tk₃ p₃ => ?_
    cases f with
    | next => obtain ⟨m, hm, hI'⟩ := p₃; exact ⟨m, hm, h₃, tk₃, rfl, hI'⟩
    | cont => obtain ⟨m, hm, hI'⟩ := p₃; exact ⟨m, hm, h₃, tk₃, rfl, hI'⟩
    | brk => exact q _ _ _ p₃
    | ret v => exact q _ _ _ p₃
  | false =>
    rw [if_neg Bool.false_ne_true] at p
    exact wpAny_execs_nil (q _ _ _ p)
end

theorem while_go {w : World} {A : Around} {h : Heap} {env : Env} {test : Expr} {body : List Stmt} {pos : Pos} {g : Array GenState} {d : Drawn} {tk : Nat} {os : OsState} {Q : Flow → Shared → Prop} {E : Value → Shared → Prop} (I : Nat → Heap → Prop) (n : Nat) (h0 : I n h)
    (turn : ∀ n h, I n h → Ok w A (isTrue test env (eval test env)) (fun b h₂ => if b = true then Ok w A (execs body env) (fun f h₃ => match f with
      | .next | .cont => ∃ m, m < n ∧ I m h₃
      | .brk => ∀ tk, Q .next ⟨h₃, g, d, tk, os⟩
      | .ret v => ∀ tk, Q (.ret v) ⟨h₃, g, d, tk, os⟩) h₂ else ∀ tk, Q .next ⟨h₂, g, d, tk, os⟩) h) : wpAny (model prM w) A (exec (.While test body [] pos) env) Q E ⟨h, g, d, tk, os⟩ :=
  while_ok (P := fun f h' => ∀ tk, Q f ⟨h', g, d, tk, os⟩) I n h0 (fun n h hI => (turn n h hI).mono fun b h₂ p => by
    cases b with
    | true => rw [if_pos rfl] at p ⊢; exact p.mono fun f h₃ x => by cases f <;> exact x
    | false => rw [if_neg Bool.false_ne_true] at p ⊢; exact p) g d tk os Q E fun v h' tk' p => p tk'

/-- the part of a walk's footprint that does not stand in the base -/
noncomputable def ownOf (h₀ h : Heap) (fp : List Addr) : List (Addr × Obj) := fp.filterMap fun b => match h₀.get? b with
  | some _ => none
  | none => (h.get? b).map fun o => (b, o)
theorem ownOf_news {h₀ h : Heap} {L : Addr} {fp : List Addr} (hL : L ∉ fp) : News h₀ L h (ownOf h₀ h fp) := by
  intro p hp
  obtain ⟨b, hb, e⟩ := List.mem_filterMap.mp hp
  cases e0 : h₀.get? b with
  | some o => rw [e0] at e; cases e
  | none =>
    rw [e0] at e
    obtain ⟨o, ho, rfl⟩ := Option.map_eq_some_iff.mp e
    exact ⟨ho, fun q => hL ((q : b = L) ▸ hb), e0⟩
theorem ownOf_keep {h₀ h h' : Heap} {L : Addr} {m m' : Str → Option Value} {fp : List Addr} {news : List (Addr × Obj)} (F : Fr h₀ L h m) (F' : Fr h₀ L h' m') (N' : News h₀ L h' (ownOf h₀ h fp ++ news)) :
    ∀ b ∈ fp, ∀ o, h.get? b = some o → h'.get? b = some o := by
  intro b hb o ho
  cases e0 : h₀.get? b with
  | some o' =>
    have := F.keep b o' e0
    rw [ho] at this
    cases this
    exact F'.keep b o e0
  | none => exact (N' (b, o) (List.mem_append_left _ (List.mem_filterMap.mpr ⟨b, hb, by rw [e0, ho]; rfl⟩))).1

section
variable {w : World} {A : Around} {env : Env} {target iter : Expr} {body : List Stmt} {pos : Pos} {P : Flow → Heap → Prop} {h₀ : Heap}
/-- a for over an iterator that stands ready: an invariant over the turn's number, the locals and the ledger -/
theorem for_loop {I : Addr} {fp wr : List Addr} {n : Nat} {Pv : Nat → Value → Prop} {St : Nat → Heap → Prop} (W : Walks prM w A I fp wr n Pv St) (J : Nat → List (Str × Value) → List (Addr × Obj) → Prop)
    {h : Heap} {l : List (Str × Value)} {news : List (Addr × Obj)} (st : St 0 h) (F : Fr h₀ env.locals h (am l)) (N : News h₀ env.locals h news) (hL : env.locals ∉ fp) (hw : ∀ b ∈ wr, h₀.get? b = none) (hn : ∀ p ∈ news, p.1 ∉ wr) (j0 : J 0 l news)
    (hex : ∀ i h, St i h → ∀ b ∈ wr, ∃ o, h.get? b = some o)
    (go : ∀ (v : Value) (s : Shared) (i : Nat) (Q : Unit → Shared → Prop) (E : Value → Shared → Prop), St i s.heap → Q () s → wpAny (model prM w) A (letOwnedTupleGo target (.ref I) v) Q E s)
    (turn : ∀ i v l news h own, i < n → Pv i v → J i l news → Fr h₀ env.locals h (am l) → News h₀ env.locals h (own ++ news) → (∀ p ∈ own, p.1 ∈ fp) → (∀ p ∈ news, p.1 ∉ wr) → (∀ b ∈ wr, ∃ o, (b, o) ∈ own) → St (i + 1) h →
      Ok w A (assign target env v) (fun _ h₃ => Ok w A (execs body env) (fun f h₄ => match f with
        | .next | .cont => ∃ l' news', J (i + 1) l' news' ∧ Fr h₀ env.locals h₄ (am l') ∧ News h₀ env.locals h₄ (own ++ news') ∧ ∀ p ∈ news', p.1 ∉ wr
        | .brk => P .next h₄
        | .ret r => P (.ret r) h₄) h₃) h)
    (fin : ∀ l news h, J n l news → Fr h₀ env.locals h (am l) → News h₀ env.locals h news → P .next h)
    {g : Array GenState} {d : Drawn} {tk : Nat} {os : OsState} {Q : Flow → Shared → Prop} {R : Result → Shared → Prop} (q : ∀ v h' tk', P v h' → Q v ⟨h', g, d, tk', os⟩) (hR : ∀ f s, Q f s → R (.ok f) s) :
    codeAny (model prM w) A (.forLoop target (.ref I) body [] env) R ⟨h, g, d, tk, os⟩ := by
  refine codeAny_forLoop_any (fun k s => ∃ h tk i l news, s = ⟨h, g, d, tk, os⟩ ∧ k = n + 1 - i ∧ i ≤ n ∧ St i h ∧ J i l news ∧ Fr h₀ env.locals h (am l) ∧ News h₀ env.locals h news ∧ ∀ p ∈ news, p.1 ∉ wr) ?_ (n + 1) ⟨h, tk, 0, l, news, rfl, rfl, Nat.zero_le _, st, j0, F, N, hn⟩
  rintro k _ ⟨h, tk, i, l, news, rfl, rfl, hi, st, hJ, F, N, hn⟩
  have hLw : env.locals ∉ wr := fun q => hL (W.sub _ q)
  have kF : ∀ {h'}, (∀ b o, b ∉ wr → h.get? b = some o → h'.get? b = some o) → Fr h₀ env.locals h' (am l) := fun {h'} hk => by
    obtain ⟨o, es, ep, e, r⟩ := F.ns
    exact ⟨⟨o, es, ep, hk _ _ hLw e, r⟩, fun b o e => hk b o (fun q => by rw [hw b q] at e; cases e) (F.keep b o e), F.above⟩
  have kN : ∀ {h'}, (∀ b o, b ∉ wr → h.get? b = some o → h'.get? b = some o) → News h₀ env.locals h' news := fun {h'} hk p hp => ⟨hk _ _ (hn p hp) (N p hp).1, (N p hp).2⟩
  by_cases hin : i < n
  · refine W.item i _ _ _ hin st fun v h' tk' hv st' hk => ?_
    refine go v _ _ _ _ st' ?_
    have F' := kF hk
    have N' : News h₀ env.locals h' (ownOf h₀ h' fp ++ news) := fun p hp => (List.mem_append.mp hp).elim (ownOf_news hL p) (kN hk p)
    refine turn i v l news h' (ownOf h₀ h' fp) hin hv hJ F' N' (fun p hp => by
      obtain ⟨b, hb, e⟩ := List.mem_filterMap.mp hp
      cases e0 : h₀.get? b with
      | some o => rw [e0] at e; cases e
      | none => rw [e0] at e; obtain ⟨o, _, rfl⟩ := Option.map_eq_some_iff.mp e; exact hb) hn (fun b hb => by
      obtain ⟨o, ho⟩ := hex _ _ st' b hb
      exact ⟨o, List.mem_filterMap.mpr ⟨b, W.sub b hb, by rw [hw b hb, ho]; rfl⟩⟩) st' g d tk' os _ _ fun _ h₃ tk₃ p₃ => ?_
    refine p₃ g d tk₃ os _ _ fun f h₄ tk₄ p₄ => ?_
    have nx : (∃ l' news', J (i + 1) l' news' ∧ Fr h₀ env.locals h₄ (am l') ∧ News h₀ env.locals h₄ (ownOf h₀ h' fp ++ news') ∧ ∀ p ∈ news', p.1 ∉ wr) → ∃ m, m < n + 1 - i ∧ ∃ h tk j l news, (⟨h₄, g, d, tk₄, os⟩ : Shared) = ⟨h, g, d, tk, os⟩ ∧ m = n + 1 - j ∧ j ≤ n ∧ St j h ∧ J j l news ∧ Fr h₀ env.locals h (am l) ∧ News h₀ env.locals h news ∧ ∀ p ∈ news, p.1 ∉ wr := by
      rintro ⟨l', news', hJ', F₄, N₄, hn'⟩
      exact ⟨n + 1 - (i + 1), by omega, h₄, tk₄, i + 1, l', news', rfl, rfl, hin, W.frame _ _ _ st' (ownOf_keep F' F₄ N₄), hJ', F₄, fun p hp => N₄ p (List.mem_append_right _ hp), hn'⟩
    cases f with
    | next => exact nx p₄
    | cont => exact nx p₄
    | brk => exact hR _ _ (q _ _ _ p₄)
    | ret r => exact hR _ _ (q _ _ _ p₄)
  · obtain rfl : i = n := by omega
    refine W.done _ _ _ st fun h' tk' hk => wpAny_execs_nil (hR _ _ (q _ _ _ (fin l news h' hJ (kF hk) (kN hk))))

/-- ahead of a loop over a list -/
theorem it_list {h : Heap} {ax : Addr} {items : Array Value} {l : List (Str × Value)} {news : List (Addr × Obj)} (J : Nat → List (Str × Value) → List (Addr × Obj) → Prop) {g : Array GenState} {d : Drawn} {tk : Nat} {os : OsState} {Q : Flow → Shared → Prop} {E X : Value → Shared → Prop}
    (hh : A.handled = none) (hl : h.IsList ax items) (F : Fr h₀ env.locals h (am l)) (N : News h₀ env.locals h news) (hL : ax ≠ env.locals) (j0 : J 0 l news) (ht : ∀ v r, letOwnedTupleGo target v r = pure () ∨ (∃ es k p, target = .Tuple es k p))
    (turn : ∀ i v l news h own I, items[i]? = some v → J i l news → Fr h₀ env.locals h (am l) → News h₀ env.locals h (own ++ news) → (∀ p ∈ news, p.1 ≠ I) → ((∀ p ∈ own, p.1 = I ∨ p.1 = ax) ∧ ∃ o, (I, o) ∈ own) → h.IsList ax items →
      Ok w A (assign target env v) (fun _ h₃ => Ok w A (execs body env) (fun f h₄ => match f with
        | .next | .cont => ∃ l' news', J (i + 1) l' news' ∧ Fr h₀ env.locals h₄ (am l') ∧ News h₀ env.locals h₄ (own ++ news') ∧ ∀ p ∈ news', p.1 ≠ I
        | .brk => ∀ tk, Q .next ⟨h₄, g, d, tk, os⟩
        | .ret r => ∀ tk, Q (.ret r) ⟨h₄, g, d, tk, os⟩) h₃) h)
    (fin : ∀ l news h tk, J items.size l news → Fr h₀ env.locals h (am l) → News h₀ env.locals h news → Q .next ⟨h, g, d, tk, os⟩) :
    wpAny (model prM w) A (pyIter (.ref ax)) (fun it s₂ => codeAny (model prM w) A (.forLoop target it body [] env) (fun r s' => match r with | .ok f => Q f s' | .error e => X e s') s₂) E ⟨h, g, d, tk, os⟩ := by
  refine wpAny_pyIter_list hl ?_
  obtain ⟨ol, hol, _⟩ := id hl
  obtain ⟨oL, _, _, hoL, _⟩ := F.ns
  have fresh : h₀.get? h.objs.size = none := by
    cases e : h₀.get? h.objs.size with
    | none => rfl
    | some o => exact absurd (Heap.lt_size (F.keep _ _ e)) (Nat.lt_irrefl _)
  have hlI : ax ≠ h.objs.size := Nat.ne_of_lt (Heap.lt_size hol)
  refine for_loop (P := fun f h' => ∀ tk, Q f ⟨h', g, d, tk, os⟩) (Walks.list hh h.objs.size ax hlI items) J (l := l) (news := news) ⟨⟨_, Heap.get?_push_size _ rfl, rfl, rfl⟩, hl.push _⟩ (F.push _) (fun p hp => ⟨Heap.get?_push_of_some _ (N p hp).1, (N p hp).2⟩) ?_ ?_ ?_ j0 ?_ ?_ ?_ ?_ (fun v h' tk' p => p tk') (fun f s q => q)
  · intro q
    rcases List.mem_cons.mp q with e | q
    · rw [e] at hoL; exact absurd (Heap.lt_size hoL) (Nat.lt_irrefl _)
    · exact hL (List.mem_singleton.mp q).symm
  · intro b hb; rw [List.mem_singleton.mp hb]; exact fresh
  · intro p hp q
    have := Heap.lt_size (N p hp).1
    rw [List.mem_singleton.mp q] at this
    exact absurd this (Nat.lt_irrefl _)
  · rintro i h ⟨⟨o, ho, _⟩, _⟩ b hb
    rw [List.mem_singleton.mp hb]; exact ⟨o, ho⟩
  · rintro v s i Q E ⟨⟨o, ho, hc, hd⟩, _⟩ q
    rcases ht (.ref h.objs.size) v with e | ⟨es, k, p, rfl⟩
    · rw [e]; exact wpAny_pure q
    · unfold letOwnedTupleGo
      cases v with
      | ref a =>
        refine wpAny_bind (wpAny_load ho ?_)
        rw [hc, hd]
        exact wpAny_pure q
      | _ => exact wpAny_pure q
  · intro i v l news h own hi hv hJ F N hown hn hI st'
    obtain ⟨o, ho⟩ := hI _ (List.mem_singleton.mpr rfl)
    refine (turn i v l news h own _ hv hJ F N (fun p hp e => hn p hp (List.mem_singleton.mpr e)) ⟨fun p hp => by have := hown p hp; simpa using this, o, ho⟩ ?_).mono fun _ h₃ p => p.mono fun f h₄ p => ?_
    · exact st'.2
    cases f with
    | next => obtain ⟨l', news', a, b, c, e⟩ := p; exact ⟨l', news', a, b, c, fun p hp q => e p hp (List.mem_singleton.mp q)⟩
    | cont => obtain ⟨l', news', a, b, c, e⟩ := p; exact ⟨l', news', a, b, c, fun p hp q => e p hp (List.mem_singleton.mp q)⟩
    | brk => exact p
    | ret r => exact p
  · exact fun l news h hJ F N tk => fin l news h tk hJ F N
end
end Mine
namespace Mine
local macro_rules | `(tactic| walk_at "lk") => `(tactic| first | with_reducible exact am_hit | (with_reducible refine am_skip (by kernel_rfl) ?_; walk_at "lk") | assumption)
local macro_rules | `(tactic| walk_at "eval Name") => `(tactic| (k_dflt (refine' nameX_L ?F ?v ?_ ?a ?b; (case F => first | with_reducible assumption | assumption); (case a => rfl); (case b => rfl); (case v => walk_at "lk"); k_whole)))
local macro_rules | `(tactic| walk_at "storeName") => `(tactic| (k_dflt (refine' stM ?F ?N ?_ ?a ?b; (case F => first | with_reducible assumption | assumption); (case N => first | with_reducible assumption | assumption); (case a => rfl); (case b => rfl); k_whole); intro h' F' N'; (try k_sweep); (try dsimp only)))
local macro_rules | `(tactic| walk_at "subscriptTail") => `(tactic| ((with_reducible show wpAny _ _ (subscriptTail _ _ (Value.ref _) (Value.int _ _)) _ _ _); k_dflt (refine' pickT ?t ?i ?a ?b ?z ?_ ?s; (case t => exact News.isTup (by k_asm) (by k_mem)); (case i => l_ints); (case a => l_idx); (case b => l_idx); (case z => decide); (case s => with_unfolding_all rfl); k_whole); intro t'))
local macro_rules | `(tactic| walk_at "assign Tuple") => `(tactic| ((with_reducible show wpAny _ _ (assign (Expr.Tuple _ _ _) _ (Value.ref _)) _ _ _); k_dflt (refine' unpackN_ ?F ?N ?T ?hh ?k2 ?k3 ?_; (case F => k_asm); (case N => k_asm); (case T => exact News.isTup (by k_asm) (by k_mem)); (case hh => exact Gd.han (by assumption)); (case k2 => exact rfl); (case k3 => exact rfl)); intro h' F' N'; (try k_sweep); (try dsimp only)))

theorem fill_C2 : PySem.Challenge.rw_wf0080_01 = PySem.Challenge.rw_wf0080_01 ∧ KM = KM := by
  w_on
  k_fill
  exact ⟨rfl, rfl⟩

noncomputable def apL (n : Nat) : List UInt8 := if h : n = 0 then [] else apL (n / 16) ++ [UInt8.ofNat (65 + n % 16)]
termination_by n
decreasing_by omega
theorem ap_cut : ∀ k < 16, KBy.picked #[65, 66, 67, 68, 69, 70, 71, 72, 73, 74, 75, 76, 77, 78, 79, 80] (some ((k : Nat) : Int)) (some ((k : Nat) + 1 : Int)) = #[UInt8.ofNat (65 + k)] := by decide +kernel
theorem apL_len : ∀ (k n : Nat), n < 16 ^ k → (apL n).length ≤ k := by
  intro k
  induction k with
  | zero => intro n h; rw [apL, dif_pos (by omega)]; exact Nat.le_refl _
  | succ k ih =>
    intro n h
    rw [apL]
    by_cases z : n = 0
    · rw [dif_pos z]; exact Nat.zero_le _
    · rw [dif_neg z, List.length_append, List.length_singleton]
      exact Nat.succ_le_succ (ih _ (Nat.div_lt_of_lt_mul (by rw [Nat.pow_succ, Nat.mul_comm] at h; exact h)))
theorem ap_c {w : World} {mg mb : Str → Option Value} {A : Around} {h : Heap} {x : Nat} {t : Tok} (G : Gl w mg mb h) (gd : Gd 1 A) (hx : x < 16 ^ 16) :
    Ok w A (call (.ref 193) [.int x t]) (fun v h' => h.StaysIn h' ∧ ∃ t, v = .bytes (apL x).toArray t) h := by
  w_on
  have X := G.X
  have T := G.T
  refine' enter (n := 0) [("num", .int x t)] G gd ?k6 ?k7 ?k9 ?kB ?_ ?k10 ?c2 ?c3 ?c4
  case k6 => k_is
  case k7 => k_is
  case k9 => exact fun s _ => BindsTo.of_eq (by with_unfolding_all rfl)
  case kB => exact locs rfl
  case c2 => exact rfl
  case c3 => exact rfl
  case c4 => exact rfl
  case k10 => decide
  intro L h₁ F fr G gd g d tk os Q E q
  have N : News h L h₁ [] := News.nil
  dsimp only [List.reverse, List.reverseAux] at F
  repeat' ((fail_if_success (with_reducible show wpAny _ _ (exec (Stmt.While _ _ _ _) _) _ _ _)); (fail_if_success (with_reducible show wpAny _ _ (exec (Stmt.For _ _ _ _ _) _) _ _ _)); (fail_if_success (with_reducible show wpAny _ _ (pyIter _) _ _ _)); (fail_if_success (with_reducible show wpAny _ _ (eval (Expr.ListComp _ _ _ _) _) _ _ _)); first | walk_at "mine" | walk1 | (dsimp only; walk1))
  refine while_go (fun n h' => ∃ l v tA tv tn, Fr h L h' (am l) ∧ am l "num" = some (.int (n : Nat) tn) ∧ am l "AP" = some (.bytes #[65, 66, 67, 68, 69, 70, 71, 72, 73, 74, 75, 76, 77, 78, 79, 80] tA) ∧ am l "val" = some (.bytes v tv) ∧ apL n ++ v.toList = apL x) x ?_ ?_
  · exact ⟨_, _, _, _, _, by assumption, by rw [if_neg (by omega)]; exact am_hit, rfl, rfl, by simp⟩
  · rintro n h₁ ⟨l, v, tA, tv, tn, F, hn, hA, hv, e⟩ g2 d2 tk2 os2 Q2 E2 q2
    have N : News h L h₁ [] := News.nil
    repeat' ((fail_if_success (with_reducible show wpAny _ _ (exec (Stmt.While _ _ _ _) _) _ _ _)); (fail_if_success (with_reducible show wpAny _ _ (exec (Stmt.For _ _ _ _ _) _) _ _ _)); (fail_if_success (with_reducible show wpAny _ _ (pyIter _) _ _ _)); (fail_if_success (with_reducible show wpAny _ _ (eval (Expr.ListComp _ _ _ _) _) _ _ _)); first | walk_at "mine" | walk1 | (dsimp only; walk1))
    by_cases hz : n = 0
    · subst hz
      refine q2 _ _ _ (br_f (by simp) ?_)
      intro tk3
      dsimp only
      repeat' ((fail_if_success (with_reducible show wpAny _ _ (exec (Stmt.While _ _ _ _) _) _ _ _)); (fail_if_success (with_reducible show wpAny _ _ (exec (Stmt.For _ _ _ _ _) _) _ _ _)); (fail_if_success (with_reducible show wpAny _ _ (pyIter _) _ _ _)); (fail_if_success (with_reducible show wpAny _ _ (eval (Expr.ListComp _ _ _ _) _) _ _ _)); first | walk_at "mine" | walk1 | (dsimp only; walk1))
      refine q _ _ _ ⟨F.keep, tv, ?_⟩
      rw [apL, dif_pos rfl, List.nil_append] at e
      rw [← e]; rfl
    · refine q2 _ _ _ (br_t (by simpa using hz) ?_)
      intro g3 d3 tk3 os3 Q3 E3 q3
      repeat' ((fail_if_success (with_reducible show wpAny _ _ (exec (Stmt.While _ _ _ _) _) _ _ _)); (fail_if_success (with_reducible show wpAny _ _ (exec (Stmt.For _ _ _ _ _) _) _ _ _)); (fail_if_success (with_reducible show wpAny _ _ (pyIter _) _ _ _)); (fail_if_success (with_reducible show wpAny _ _ (eval (Expr.ListComp _ _ _ _) _) _ _ _)); first | walk_at "mine" | walk1 | (dsimp only; walk1))
      rename_i F N
      have hl : v.size ≤ 16 := by have := congrArg List.length e; rw [List.length_append] at this; have := apL_len 16 x hx; rw [← Array.length_toList]; omega
      refine KBc.slice_K (s := ⟨_, _, _, _, _⟩) F N rfl (.int _ _) (.int _ _) (by decide) ?_
      intro h4 t4 k4 F4 N4 e4
      clear e4 F N; have F := F4; have N := N4
      have hk : ((n : Nat) : Int).fmod 16 = ((n % 16 : Nat) : Int) := by rw [Int.fmod_eq_emod_of_nonneg _ (by decide)]; omega
      have hd : ((n : Nat) : Int).fdiv 16 = ((n / 16 : Nat) : Int) := by rw [Int.fdiv_eq_ediv_of_nonneg _ (by decide)]; omega
      rw [hk, ap_cut _ (Nat.mod_lt _ (by decide))]
      dsimp only
      repeat' ((fail_if_success (with_reducible show wpAny _ _ (exec (Stmt.While _ _ _ _) _) _ _ _)); (fail_if_success (with_reducible show wpAny _ _ (exec (Stmt.For _ _ _ _ _) _) _ _ _)); (fail_if_success (with_reducible show wpAny _ _ (pyIter _) _ _ _)); (fail_if_success (with_reducible show wpAny _ _ (eval (Expr.ListComp _ _ _ _) _) _ _ _)); first | walk_at "mine" | walk1 | (dsimp only; walk1))
      refine KBy.add_bytes ?hs ?_
      case hs => simp only [List.size_toArray, List.length_singleton]; omega
      dsimp only
      intro t5 k5
      repeat' ((fail_if_success (with_reducible show wpAny _ _ (exec (Stmt.While _ _ _ _) _) _ _ _)); (fail_if_success (with_reducible show wpAny _ _ (exec (Stmt.For _ _ _ _ _) _) _ _ _)); (fail_if_success (with_reducible show wpAny _ _ (pyIter _) _ _ _)); (fail_if_success (with_reducible show wpAny _ _ (eval (Expr.ListComp _ _ _ _) _) _ _ _)); first | walk_at "mine" | walk1 | (dsimp only; walk1))
      refine q3 _ _ _ ⟨n / 16, by omega, _, _, _, _, _, by assumption, (am_skip (by kernel_rfl) (am_skip (by kernel_rfl) am_hit)).trans (congrArg (fun z => some (Value.int z _)) hd), am_skip (by kernel_rfl) (am_skip (by kernel_rfl) (am_skip (by kernel_rfl) hA)), am_hit, ?_⟩
      · rw [← e, apL.eq_1 n, dif_neg hz, Array.toList_append, List.append_assoc]
end Mine
namespace Mine
open Builtin
namespace Asc
variable {b : Array UInt8} {c : UInt8} {cs : List UInt8} {t : Tok} {x : PySem.Str} {n : Nat}
theorem road_eq {id : String} : _codecs.decodeRoad id b (PySem.Str.ofString "ascii") none [] = (_codecs.runDecoder id _codecs.asciiDecoder none true b 0 [] >>= fun r => mkStr ⟨r.1⟩) := by kernel_rfl
theorem meets_text {t1 t2 : Tok} {d : PySem.Str} (hd : ∀ id, _codecs.runDecoder id _codecs.asciiDecoder none true b 0 [] = pure (x.cps, n)) :
    Meets («_codecs.decode.text» ⟨[.bytes b t, .str (PySem.Str.ofString "ascii") t1, .none, .str d t2], []⟩) (fun _ R s => x.length ≤ sizeLine ∧ R (.ok (.ret (.str x s.toks))) { s with toks := s.toks + 1 }) := by
  refine .of_wp fun prog w A R s hS => ?_
  obtain ⟨hsz, h⟩ := hS
  show wpAny _ _ (Bytes.bytesLike _ (.bytes b t) >>= fun r => _) _ _ s
  refine wpAny_bind (wpAny_of_eq KBd.like_eq ?_)
  refine wpAny_bind (wpAny_of_eq KBd.held_eq ?_)
  show wpAny _ _ (_codecs.decodeRoad _ b (PySem.Str.ofString "ascii") none [] >>= fun v => _) _ _ s
  rw [road_eq, hd]
  refine wpAny_bind (wpAny_bind (wpAny_pure ?_))
  exact wpAny_mkStr (wpAny_pure ⟨_, rfl, h⟩) hsz
theorem entry_eq {t1 : Tok} : «bytes.decode» ⟨[.bytes (c :: cs).toArray t, .str (PySem.Str.ofString "ascii") t1], []⟩ = (mkStr (PySem.Str.ofString "utf-8") >>= fun _ => mkStr (PySem.Str.ofString "ascii") >>= fun e => mkStr (PySem.Str.ofString "bytes.decode") >>= fun d =>
    call (.builtin "_codecs.decode.text") [.bytes (c :: cs).toArray t, e, .none, d] >>= fun v => ret v) := by kernel_rfl
theorem args_2 (a b : Value) : argsOk "bytes.decode" ⟨[a, b], []⟩ := by
  unfold argsOk; rw [signature?_of (id := "bytes.decode") (n := ['e', 'd', 'o', 'c', 'e', 'd']) (o := ['s', 'e', 't', 'y', 'b']) (by kernel_rfl) FB.owner_bytes]; kernel_rfl
theorem meets_decode {t1 : Tok} (hd : ∀ id, _codecs.runDecoder id _codecs.asciiDecoder none true (c :: cs).toArray 0 [] = pure (x.cps, n)) :
    Meets («bytes.decode» ⟨[.bytes (c :: cs).toArray t, .str (PySem.Str.ofString "ascii") t1], []⟩) (fun _ R s => x.length ≤ sizeLine ∧ ∀ t' k, R (.ok (.ret (.str x t'))) { s with toks := k }) := by
  refine .of_wp fun prog w A R s hS => ?_
  obtain ⟨hsz, h⟩ := hS
  rw [entry_eq]
  refine wpAny_bind (wpAny_mkStr ?_ (by decide))
  refine wpAny_bind (wpAny_mkStr ?_ (by decide))
  refine wpAny_bind (wpAny_mkStr ?_ (by decide))
  exact wpAny_bind (call_function_meets KBd.kind_text KBd.plain_text KBd.entry_text (KBd.args_text _ _ _ _) (meets_text hd) ⟨hsz, wpAny_pure ⟨_, rfl, h _ _⟩⟩)
end Asc
end Mine
namespace Mine
open Builtin
namespace Asc
theorem find_eq {b : Array UInt8} {p : Nat} (h : (b.getD p 0).toNat < 128) : _codecs.asciiDecoder.find true b p = .text [(b.getD p 0).toNat] (p + 1) := by
  show (if (b.getD p 0).toNat < 128 then _ else _) = _
  rw [if_pos h]; rfl
theorem loop_eq {σ : Type} {f : Nat → Nat × Array Nat × σ → Sem (ForInStep (Nat × Array Nat × σ))} {g : Nat → Nat} (st : σ) (hf : ∀ i p out, p = out.size → p < m → f i (p, out, st) = pure (.yield (p + 1, out ++ [g p].toArray, st))) :
    ∀ (k p : Nat) (out : Array Nat) (s : Nat), p = out.size → p + k = m → forIn (List.range' s k 1) (p, out, st) f = pure (m, out ++ ((List.range' p k 1).map g).toArray, st) := by
  intro k
  induction k with
  | zero => intro p out s hp hk; simp only [List.range'_zero, List.forIn_nil, List.map_nil]; rw [← hk]; simp
  | succ k ih =>
    intro p out s hp hk
    rw [List.range'_succ, List.forIn_cons, hf s p out hp (by omega)]
    show forIn (List.range' (s + 1) k 1) (p + 1, out ++ [g p].toArray, st) f = _
    rw [ih (p + 1) _ (s + 1) (by simp [hp]) (by omega), List.range'_succ, List.map_cons]
    simp
theorem run_eq {b : Array UInt8} {id : String} (h : ∀ x ∈ b.toList, x.toNat < 128) (hs : b.size ≤ sizeLine) :
    _codecs.runDecoder id _codecs.asciiDecoder none true b 0 [] = pure ((b.map (·.toNat)), b.size) := by
  unfold _codecs.runDecoder
  simp only [Std.Legacy.Range.forIn_eq_forIn_range', Std.Legacy.Range.size]
  rw [loop_eq (m := b.size) (g := fun p => (b.getD p 0).toNat) _ ?hf _ 0 #[] 0 rfl ?hk]
  case hk => simp
  case hf =>
    intro i p out hp hl
    have hm : b.getD p 0 ∈ b.toList := by
      rw [show b.getD p 0 = b[p] from by simp [hl]]
      exact Array.mem_toList_iff.mpr (Array.getElem_mem hl)
    dsimp only
    rw [if_neg (by rw [← hp]; omega), if_neg (by omega), find_eq (h _ hm)]
  · show (pure (_, _) : Sem (Array Nat × Nat)) = _
    congr 2
    apply Array.ext'
    simp
    apply List.ext_getElem
    · simp
    · intro i h1 h2
      simp at h1 h2 ⊢
      rw [Array.getElem?_eq_getElem h2]
      rfl
theorem decode {prog : Program} {w : World} {A : Around} {E : Value → Shared → Prop} {s : Shared} {b : Array UInt8} {t t1 : Tok} {Q : Value → Shared → Prop} (h : ∀ x ∈ b.toList, x.toNat < 128) (hs : b.size ≤ 16777216) (h0 : 0 < b.size) (q : ∀ t' k, Q (.str ⟨b.map (·.toNat)⟩ t') { s with toks := k }) :
    wpAny (model prog w) A (call (.builtin "bytes.decode") [.bytes b t, .str (PySem.Str.ofString "ascii") t1]) Q E s := by
  obtain ⟨l⟩ := b
  cases l with
  | nil => simp at h0
  | cons c cs => exact call_meets FB.slot_bytes_decode (typeIs_bytes _ _ _) FB.entry_bytes_decode (args_2 _ _) (meets_decode (x := ⟨(c :: cs).toArray.map (·.toNat)⟩) (n := (c :: cs).toArray.size) fun id => run_eq h (by rw [sizeLine_eq]; exact hs)) ⟨by rw [sizeLine_eq]; simpa [PySem.Str.length] using hs, q⟩
end Asc
section
variable {w : World} {A : Around} {h h₀ : Heap} {L : Addr} {m : Str → Option Value} {news : List (Addr × Obj)} {t : Sem Value} {R : Value → Heap → Prop} {g : Array GenState} {d : Drawn} {tk : Nat} {os : OsState} {Q : Value → Shared → Prop} {E : Value → Shared → Prop}
theorem use_c (F : Fr h₀ L h m) (N : News h₀ L h news) (x : Ok w A t (fun v h' => h.StaysIn h' ∧ R v h') h) (q : ∀ v h' tk', Fr h₀ L h' m → News h₀ L h' news → h.StaysIn h' → R v h' → Q v ⟨h', g, d, tk', os⟩) : wpAny (model prM w) A t Q E ⟨h, g, d, tk, os⟩ :=
  x.use fun v h' tk' p => q v h' tk' (frExt F p.1) (newsExt N p.1) p.1 p.2
end
end Mine
namespace Mine
open Builtin Builtin.Str
noncomputable def odd (k : Int) : Bool := decide (k.fmod 2 = 1)
noncomputable def up (low : Bool) : Nat := if low then 32 else 0
noncomputable def wL (n : Nat) (low : Bool) : List Nat := (apL n).map fun b => b.toNat + up low
noncomputable def wS (n : Nat) (low : Bool) : Str := ⟨(wL n low).toArray⟩
theorem apL_mem {n : Nat} : ∀ b ∈ apL n, 65 ≤ b.toNat ∧ b.toNat ≤ 80 := by
  induction n using Nat.strongRecOn with
  | ind n ih =>
    intro b hb
    rw [apL] at hb
    by_cases z : n = 0
    · rw [dif_pos z] at hb; cases hb
    · rw [dif_neg z] at hb
      rcases List.mem_append.mp hb with hb | hb
      · exact ih _ (by omega) b hb
      · rw [List.mem_singleton.mp hb, UInt8.toNat_ofNat_of_lt' (by show _ < 256; omega)]
        omega
theorem wL_mem {n : Nat} {low : Bool} : ∀ c ∈ wL n low, 65 + up low ≤ c ∧ c ≤ 80 + up low := by
  intro c hc
  obtain ⟨b, hb, rfl⟩ := List.mem_map.mp hc
  have := apL_mem b hb
  omega
theorem up_le (low : Bool) : up low = 0 ∨ up low = 32 := by cases low <;> simp [up]
theorem wL_ascii {n : Nat} {low : Bool} : ∀ c ∈ (wS n low).cps.toList, c < 128 := fun c hc => by
  have := wL_mem c hc
  rcases up_le low with e | e <;> omega
theorem lower_wS {n : Nat} {low : Bool} : Txt.lower (wS n low) = wS n true := by
  rw [lower_ascii wL_ascii]
  refine congrArg PySem.Str.mk ?_
  show (wL n low).toArray.map lo1 = (wL n true).toArray
  rw [List.map_toArray, wL, List.map_map]
  refine congrArg List.toArray (List.map_congr_left fun b hb => ?_)
  have := apL_mem b hb
  show lo1 (b.toNat + up low) = b.toNat + 32
  unfold lo1
  cases low
  · rw [show up false = 0 from rfl, if_pos (by omega)]
  · rw [show up true = 32 from rfl, if_neg (by omega)]
theorem upper_wS {n : Nat} {low : Bool} : Txt.upper (wS n low) = wS n false := by
  rw [upper_ascii wL_ascii]
  refine congrArg PySem.Str.mk ?_
  show (wL n low).toArray.map up1 = (wL n false).toArray
  rw [List.map_toArray, wL, List.map_map]
  refine congrArg List.toArray (List.map_congr_left fun b hb => ?_)
  have := apL_mem b hb
  show up1 (b.toNat + up low) = b.toNat + 0
  unfold up1
  cases low
  · rw [show up false = 0 from rfl, if_neg (by omega)]
  · rw [show up true = 32 from rfl, if_pos (by omega)]; omega
/-- what _law_read tells of the signs in their great form -/
noncomputable def rdL (l : List Nat) : Int := l.foldl (fun (n : Int) (c : Nat) => 16 * n + (c : Int) - 65) 0
theorem rdL_ap (n : Nat) : rdL (wL n false) = n := by
  unfold rdL wL
  induction n using Nat.strongRecOn with
  | ind n ih =>
    rw [apL]
    by_cases z : n = 0
    · rw [dif_pos z, z]; rfl
    · rw [dif_neg z, List.map_append, List.foldl_append, ih _ (by omega)]
      show 16 * ((n / 16 : Nat) : Int) + (((UInt8.ofNat (65 + n % 16)).toNat + up false : Nat) : Int) - 65 = n
      rw [UInt8.toNat_ofNat_of_lt' (by show _ < 256; omega), show up false = 0 from rfl]
      omega
theorem apL_inj {n m : Nat} (h : apL n = apL m) : n = m := by
  have := rdL_ap n
  rw [show wL n false = wL m false from by unfold wL; rw [h], rdL_ap] at this
  omega
theorem apL_pos {n : Nat} (h : 0 < n) : apL n ≠ [] := fun e => by
  have := apL_inj (m := 0) (e.trans (by rw [apL, dif_pos rfl]))
  omega
theorem wL_inj {n m : Nat} {a b : Bool} (hn : 0 < n) (h : wL n a = wL m b) : n = m ∧ a = b := by
  have e : a = b := by
    have hp : wL n a ≠ [] := by unfold wL; simpa using apL_pos hn
    obtain ⟨c, hc⟩ := List.exists_mem_of_ne_nil _ hp
    have h1 := wL_mem c hc
    have h2 := wL_mem c (h ▸ hc)
    revert h1 h2
    cases a <;> cases b <;> simp [up] <;> omega
  subst e
  refine ⟨apL_inj (List.map_inj_right (fun x y hxy => ?_) |>.mp h), rfl⟩
  exact UInt8.toNat_inj.mp (by omega)
theorem wS_inj {n m : Nat} {a b : Bool} (hn : 0 < n) : wS n a = wS m b ↔ n = m ∧ a = b :=
  ⟨fun h => wL_inj hn (by have := congrArg (fun s => s.cps.toList) h; exact this), by rintro ⟨rfl, rfl⟩; rfl⟩
theorem wL_len {n : Nat} {a : Bool} (h : n < 16 ^ 16) : (wL n a).length ≤ 16 := by unfold wL; rw [List.length_map]; exact apL_len 16 n h
theorem wL_pos {n : Nat} {a : Bool} (h : 0 < n) : 0 < (wL n a).length := by
  unfold wL; rw [List.length_map]; exact List.length_pos_iff.mpr (apL_pos h)
end Mine
namespace Mine
local macro_rules | `(tactic| walk_at "lk") => `(tactic| first | with_reducible exact am_hit | (with_reducible refine am_skip (by kernel_rfl) ?_; walk_at "lk") | assumption)
local macro_rules | `(tactic| walk_at "eval Name") => `(tactic| (k_dflt (refine' nameX_L ?F ?v ?_ ?a ?b; (case F => first | with_reducible assumption | assumption); (case a => rfl); (case b => rfl); (case v => walk_at "lk"); k_whole)))
local macro_rules | `(tactic| walk_at "storeName") => `(tactic| (k_dflt (refine' stM ?F ?N ?_ ?a ?b; (case F => first | with_reducible assumption | assumption); (case N => first | with_reducible assumption | assumption); (case a => rfl); (case b => rfl); k_whole); intro h' F' N'; (try k_sweep); (try dsimp only)))
local macro_rules | `(tactic| walk_at "subscriptTail") => `(tactic| ((with_reducible show wpAny _ _ (subscriptTail _ _ (Value.ref _) (Value.int _ _)) _ _ _); k_dflt (refine' pickT ?t ?i ?a ?b ?z ?_ ?s; (case t => exact News.isTup (by k_asm) (by k_mem)); (case i => l_ints); (case a => l_idx); (case b => l_idx); (case z => decide); (case s => with_unfolding_all rfl); k_whole); intro t'))
local macro_rules | `(tactic| walk_at "assign Tuple") => `(tactic| ((with_reducible show wpAny _ _ (assign (Expr.Tuple _ _ _) _ (Value.ref _)) _ _ _); k_dflt (refine' unpackN_ ?F ?N ?T ?hh ?k2 ?k3 ?_; (case F => k_asm); (case N => k_asm); (case T => exact News.isTup (by k_asm) (by k_mem)); (case hh => exact Gd.han (by assumption)); (case k2 => exact rfl); (case k3 => exact rfl)); intro h' F' N'; (try k_sweep); (try dsimp only)))

theorem fill_D2 : PySem.Challenge.rw_wf0080_01 = PySem.Challenge.rw_wf0080_01 ∧ KM = KM := by
  w_on
  k_fill
  exact ⟨rfl, rfl⟩

theorem word_c {w : World} {mg mb : Str → Option Value} {A : Around} {h : Heap} {x k : Int} {t u : Tok} (G : Gl w mg mb h) (gd : Gd 2 A) (h0 : 0 < x) (hx : x < 16 ^ 16) :
    Ok w A (call (.ref 222) [.int x t, .int k u]) (fun v h' => h.StaysIn h' ∧ ∃ t, v = .str (wS x.toNat (odd k)) t) h := by
  obtain ⟨n, rfl⟩ := Int.eq_ofNat_of_zero_le (Int.le_of_lt h0)
  w_on
  have X := G.X
  have T := G.T
  refine' enter (n := 1) [("number", .int (Int.ofNat n) t), ("turn", .int k u)] G gd ?k6 ?k7 ?k9 ?kB ?_ ?k10 ?c2 ?c3 ?c4
  case k6 => k_is
  case k7 => k_is
  case k9 => exact fun s _ => BindsTo.of_eq (by with_unfolding_all rfl)
  case kB => exact locs rfl
  case c2 => exact rfl
  case c3 => exact rfl
  case c4 => exact rfl
  case k10 => decide
  intro L h₁ F fr G gd g d tk os Q E q
  have N : News h L h₁ [] := News.nil
  dsimp only [List.reverse, List.reverseAux] at F
  repeat' ((fail_if_success (with_reducible show wpAny _ _ (exec (Stmt.While _ _ _ _) _) _ _ _)); (fail_if_success (with_reducible show wpAny _ _ (exec (Stmt.For _ _ _ _ _) _) _ _ _)); (fail_if_success (with_reducible show wpAny _ _ (pyIter _) _ _ _)); (fail_if_success (with_reducible show wpAny _ _ (eval (Expr.ListComp _ _ _ _) _) _ _ _)); first | walk_at "mine" | walk1 | (dsimp only; walk1))
  (refine use_c (by assumption) (by assumption) (ap_c (G.keeps (Fr.keep (by assumption))) gd (by omega)) ?_; intro v' h' tk' F' N' e'; (rintro ⟨t1, rfl⟩); (try k_sweep); (try dsimp only))
  repeat' ((fail_if_success (with_reducible show wpAny _ _ (exec (Stmt.While _ _ _ _) _) _ _ _)); (fail_if_success (with_reducible show wpAny _ _ (exec (Stmt.For _ _ _ _ _) _) _ _ _)); (fail_if_success (with_reducible show wpAny _ _ (pyIter _) _ _ _)); (fail_if_success (with_reducible show wpAny _ _ (eval (Expr.ListComp _ _ _ _) _) _ _ _)); first | walk_at "mine" | walk1 | (dsimp only; walk1))
  have h0' : 0 < n := by omega
  have hx' : n < 16 ^ 16 := by omega
  have hl := apL_len 16 n hx'
  refine Asc.decode ?h1 ?h2 ?h3 ?_
  case h1 => exact fun x hx => by have := apL_mem (n := n) x (by simpa using hx); omega
  case h2 => rw [List.size_toArray]; omega
  case h3 => rw [List.size_toArray]; exact List.length_pos_iff.mpr (apL_pos h0')
  intro t4 k4
  have ew : (⟨(apL n).toArray.map (·.toNat)⟩ : Str) = wS n false := by
    unfold wS wL
    rw [List.map_toArray]
    rfl
  rw [ew]
  repeat' ((fail_if_success (with_reducible show wpAny _ _ (exec (Stmt.While _ _ _ _) _) _ _ _)); (fail_if_success (with_reducible show wpAny _ _ (exec (Stmt.For _ _ _ _ _) _) _ _ _)); (fail_if_success (with_reducible show wpAny _ _ (pyIter _) _ _ _)); (fail_if_success (with_reducible show wpAny _ _ (eval (Expr.ListComp _ _ _ _) _) _ _ _)); first | walk_at "mine" | walk1 | (dsimp only; walk1))
  · rename_i c
    refine SCL.lower (by show (wL n false).toArray.size ≤ _; rw [List.size_toArray]; have := wL_len (a := false) hx'; omega) ?_
    intro _
    refine q _ _ _ ⟨Fr.keep (by assumption), Exists.intro ?uu ?pp⟩
    case pp =>
      show Value.str (Txt.lower (wS n false)) _ = Value.str (wS n (odd k)) _
      rw [show odd k = true from decide_eq_true c, lower_wS]
  · rename_i c
    refine q _ _ _ ⟨Fr.keep (by assumption), t4, ?_⟩
    show Value.str _ _ = _
    rw [show odd k = false from decide_eq_false c]
    rfl
end Mine
namespace Mine
theorem nxt {J : Nat → List (Str × Value) → List (Addr × Obj) → Prop} {h₀ h : Heap} {L I : Addr} {l' : List (Str × Value)} {own news' : List (Addr × Obj)} {i : Nat} (F : Fr h₀ L h (am l')) (N : News h₀ L h (own ++ news')) (j : J (i + 1) l' news') (z : ∀ p ∈ news', p.1 ≠ I) :
    ∃ l' news', J (i + 1) l' news' ∧ Fr h₀ L h (am l') ∧ News h₀ L h (own ++ news') ∧ ∀ p ∈ news', p.1 ≠ I := ⟨l', news', j, F, N, z⟩
section
variable {w : World} {A : Around} {env : Env} {target iter : Expr} {body : List Stmt} {pos : Pos} {h₀ : Heap}
/-- a for over a new iterator that reads itself alone -/
theorem for_gen {h : Heap} {o : Obj} {n : Nat} {Pv : Nat → Value → Prop} {St : Nat → Heap → Prop} {l : List (Str × Value)} {news : List (Addr × Obj)} (J : Nat → List (Str × Value) → List (Addr × Obj) → Prop) {g : Array GenState} {d : Drawn} {tk : Nat} {os : OsState} {Q : Flow → Shared → Prop} {R : Result → Shared → Prop}
    (W : Walks prM w A h.objs.size [h.objs.size] [h.objs.size] n Pv St) (st : St 0 (h.push o)) (hex : ∀ i h', St i h' → ∃ o, h'.get? h.objs.size = some o)
    (F : Fr h₀ env.locals h (am l)) (N : News h₀ env.locals h news) (j0 : J 0 l news) (ht : ∀ v r, letOwnedTupleGo target v r = pure ())
    (turn : ∀ i v l news h own I, i < n → Pv i v → J i l news → Fr h₀ env.locals h (am l) → News h₀ env.locals h (own ++ news) → (∀ p ∈ news, p.1 ≠ I) → ((∀ p ∈ own, p.1 = I) ∧ ∃ o, (I, o) ∈ own) →
      Ok w A (assign target env v) (fun _ h₃ => Ok w A (execs body env) (fun f h₄ => match f with
        | .next | .cont => ∃ l' news', J (i + 1) l' news' ∧ Fr h₀ env.locals h₄ (am l') ∧ News h₀ env.locals h₄ (own ++ news') ∧ ∀ p ∈ news', p.1 ≠ I
        | .brk => ∀ tk, Q .next ⟨h₄, g, d, tk, os⟩
        | .ret r => ∀ tk, Q (.ret r) ⟨h₄, g, d, tk, os⟩) h₃) h)
    (fin : ∀ l news h tk, J n l news → Fr h₀ env.locals h (am l) → News h₀ env.locals h news → Q .next ⟨h, g, d, tk, os⟩) (hR : ∀ f s, Q f s → R (.ok f) s) :
    codeAny (model prM w) A (.forLoop target (.ref h.objs.size) body [] env) R ⟨h.push o, g, d, tk, os⟩ := by
  obtain ⟨oL, _, _, hoL, _⟩ := F.ns
  have fresh : h₀.get? h.objs.size = none := by
    cases e : h₀.get? h.objs.size with
    | none => rfl
    | some o => exact absurd (Heap.lt_size (F.keep _ _ e)) (Nat.lt_irrefl _)
  refine for_loop (P := fun f h' => ∀ tk, Q f ⟨h', g, d, tk, os⟩) W J (l := l) (news := news) st (F.push _) (fun p hp => ⟨Heap.get?_push_of_some _ (N p hp).1, (N p hp).2⟩) ?_ ?_ ?_ j0 ?_ ?_ ?_ ?_ (fun v h' tk' p => p tk') hR
  · intro q
    rw [List.mem_singleton.mp q] at hoL
    exact absurd (Heap.lt_size hoL) (Nat.lt_irrefl _)
  · intro b hb; rw [List.mem_singleton.mp hb]; exact fresh
  · intro p hp q
    have := Heap.lt_size (N p hp).1
    rw [List.mem_singleton.mp q] at this
    exact absurd this (Nat.lt_irrefl _)
  · intro i h' st b hb
    rw [List.mem_singleton.mp hb]; exact hex i h' st
  · intro v s i Q E _ q
    rw [ht]; exact wpAny_pure q
  · intro i v l news h own hi hv hJ F N hown hn hI st'
    obtain ⟨o, ho⟩ := hI _ (List.mem_singleton.mpr rfl)
    refine (turn i v l news h own _ hi hv hJ F N (fun p hp e => hn p hp (List.mem_singleton.mpr e)) ⟨fun p hp => List.mem_singleton.mp (hown p hp), o, ho⟩).mono fun _ h₃ p => p.mono fun f h₄ p => ?_
    cases f with
    | next => obtain ⟨l', news', a, b, c, e⟩ := p; exact ⟨l', news', a, b, c, fun p hp q => e p hp (List.mem_singleton.mp q)⟩
    | cont => obtain ⟨l', news', a, b, c, e⟩ := p; exact ⟨l', news', a, b, c, fun p hp q => e p hp (List.mem_singleton.mp q)⟩
    | brk => exact p
    | ret r => exact p
  · exact fun l news h hJ F N tk => fin l news h tk hJ F N

theorem it_str {h : Heap} {x : Str} {t : Tok} {l : List (Str × Value)} {news : List (Addr × Obj)} (J : Nat → List (Str × Value) → List (Addr × Obj) → Prop) {g : Array GenState} {d : Drawn} {tk : Nat} {os : OsState} {Q : Flow → Shared → Prop} {E X : Value → Shared → Prop}
    (hh : A.handled = none) (ha : ∀ c ∈ x.cps.toList, c < 128) (F : Fr h₀ env.locals h (am l)) (N : News h₀ env.locals h news) (j0 : J 0 l news) (ht : ∀ v r, letOwnedTupleGo target v r = pure ())
    (turn : ∀ i c u l news h own I, x.cps.toList[i]? = some c → J i l news → Fr h₀ env.locals h (am l) → News h₀ env.locals h (own ++ news) → (∀ p ∈ news, p.1 ≠ I) → ((∀ p ∈ own, p.1 = I) ∧ ∃ o, (I, o) ∈ own) →
      Ok w A (assign target env (.str ⟨#[c]⟩ u)) (fun _ h₃ => Ok w A (execs body env) (fun f h₄ => match f with
        | .next | .cont => ∃ l' news', J (i + 1) l' news' ∧ Fr h₀ env.locals h₄ (am l') ∧ News h₀ env.locals h₄ (own ++ news') ∧ ∀ p ∈ news', p.1 ≠ I
        | .brk => ∀ tk, Q .next ⟨h₄, g, d, tk, os⟩
        | .ret r => ∀ tk, Q (.ret r) ⟨h₄, g, d, tk, os⟩) h₃) h)
    (fin : ∀ l news h tk, J x.cps.toList.length l news → Fr h₀ env.locals h (am l) → News h₀ env.locals h news → Q .next ⟨h, g, d, tk, os⟩) :
    wpAny (model prM w) A (pyIter (.str x t)) (fun it s₂ => codeAny (model prM w) A (.forLoop target it body [] env) (fun r s' => match r with | .ok f => Q f s' | .error e => X e s') s₂) E ⟨h, g, d, tk, os⟩ := by
  refine wpAny_pyIter_ascii ?_ ?_
  · rw [Array.all_eq_true_iff_forall_mem]
    exact fun c hc => decide_eq_true (ha c (Array.mem_toList_iff.mpr hc))
  · refine for_gen J (Walks.strAscii hh _ x t) ⟨_, Heap.get?_push_size _ rfl, rfl, rfl⟩ (fun i h' st => let ⟨o, ho, _⟩ := st; ⟨o, ho⟩) F N j0 ht ?_ ?_ (fun f s q => q)
    · rintro i v l news h own I _ ⟨c, u, hc, rfl⟩ hJ F N hn ho
      exact turn i c u l news h own I (by simpa using hc) hJ F N hn ho
    · intro l news h tk hJ F N
      exact fin l news h tk (by simpa using hJ) F N

theorem it_range {h : Heap} {r : Addr} {hi : Int} {t u v : Tok} {l : List (Str × Value)} {news : List (Addr × Obj)} (J : Nat → List (Str × Value) → List (Addr × Obj) → Prop) {g : Array GenState} {d : Drawn} {tk : Nat} {os : OsState} {Q : Flow → Shared → Prop} {E X : Value → Shared → Prop}
    (hh : A.handled = none) (hr : IsRange h r 0 hi 1 t u v) (h0 : 0 ≤ hi) (hsm : Builtin.Range.small 0 hi 1 = true) (F : Fr h₀ env.locals h (am l)) (N : News h₀ env.locals h news) (j0 : J 0 l news) (ht : ∀ v r, letOwnedTupleGo target v r = pure ())
    (turn : ∀ (i : Nat) u l news h own I, (i : Int) < hi → J i l news → Fr h₀ env.locals h (am l) → News h₀ env.locals h (own ++ news) → (∀ p ∈ news, p.1 ≠ I) → ((∀ p ∈ own, p.1 = I) ∧ ∃ o, (I, o) ∈ own) →
      Ok w A (assign target env (.int i u)) (fun _ h₃ => Ok w A (execs body env) (fun f h₄ => match f with
        | .next | .cont => ∃ l' news', J (i + 1) l' news' ∧ Fr h₀ env.locals h₄ (am l') ∧ News h₀ env.locals h₄ (own ++ news') ∧ ∀ p ∈ news', p.1 ≠ I
        | .brk => ∀ tk, Q .next ⟨h₄, g, d, tk, os⟩
        | .ret r => ∀ tk, Q (.ret r) ⟨h₄, g, d, tk, os⟩) h₃) h)
    (fin : ∀ l news h tk, J hi.toNat l news → Fr h₀ env.locals h (am l) → News h₀ env.locals h news → Q .next ⟨h, g, d, tk, os⟩) :
    wpAny (model prM w) A (pyIter (.ref r)) (fun it s₂ => codeAny (model prM w) A (.forLoop target it body [] env) (fun r s' => match r with | .ok f => Q f s' | .error e => X e s') s₂) E ⟨h, g, d, tk, os⟩ := by
  refine wpAny_pyIter_range hr hsm ?_
  have e2 : Builtin.Range.rangeSize 0 hi 1 = (hi.toNat : Int) := by rw [PySem.rangeSize_one]; split <;> omega
  refine for_gen J (Walks.range hh _ 0 1 hi.toNat) (by
    show IsRangeIter _ _ (0 + ((0 : Nat) : Int) * 1) ((hi.toNat : Int) - ((0 : Nat) : Int)) 1
    rw [show (0 + ((0 : Nat) : Int) * 1) = 0 from rfl, e2, show (hi.toNat : Int) - ((0 : Nat) : Int) = hi.toNat from by simp]
    exact Heap.get?_push_size _ rfl) (fun i h' st => ⟨_, st⟩) F N j0 ht ?_ ?_ (fun f s q => q)
  · rintro i v l news h own I hi' ⟨t, rfl⟩ hJ F N hn ho
    have := turn i t l news h own I (by omega) hJ F N hn ho
    simpa using this
  · intro l news h tk hJ F N
    exact fin l news h tk hJ F N
end
end Mine
namespace Mine
local macro_rules | `(tactic| walk_at "lk") => `(tactic| first | with_reducible exact am_hit | (with_reducible refine am_skip (by kernel_rfl) ?_; walk_at "lk") | assumption)
local macro_rules | `(tactic| walk_at "eval Name") => `(tactic| (k_dflt (refine' nameX_L ?F ?v ?_ ?a ?b; (case F => first | with_reducible assumption | assumption); (case a => rfl); (case b => rfl); (case v => walk_at "lk"); k_whole)))
local macro_rules | `(tactic| walk_at "storeName") => `(tactic| (k_dflt (refine' stM ?F ?N ?_ ?a ?b; (case F => first | with_reducible assumption | assumption); (case N => first | with_reducible assumption | assumption); (case a => rfl); (case b => rfl); k_whole); intro h' F' N'; (try k_sweep); (try dsimp only)))
local macro_rules | `(tactic| walk_at "subscriptTail") => `(tactic| ((with_reducible show wpAny _ _ (subscriptTail _ _ (Value.ref _) (Value.int _ _)) _ _ _); k_dflt (refine' pickT ?t ?i ?a ?b ?z ?_ ?s; (case t => exact News.isTup (by k_asm) (by k_mem)); (case i => l_ints); (case a => l_idx); (case b => l_idx); (case z => decide); (case s => with_unfolding_all rfl); k_whole); intro t'))
local macro_rules | `(tactic| walk_at "assign Tuple") => `(tactic| ((with_reducible show wpAny _ _ (assign (Expr.Tuple _ _ _) _ (Value.ref _)) _ _ _); k_dflt (refine' unpackN_ ?F ?N ?T ?hh ?k2 ?k3 ?_; (case F => k_asm); (case N => k_asm); (case T => exact News.isTup (by k_asm) (by k_mem)); (case hh => exact Gd.han (by assumption)); (case k2 => exact rfl); (case k3 => exact rfl)); intro h' F' N'; (try k_sweep); (try dsimp only)))

theorem fill_D3 : PySem.Challenge.rw_wf0080_01 = PySem.Challenge.rw_wf0080_01 ∧ KM = KM := by
  w_on
  k_fill
  exact ⟨rfl, rfl⟩

theorem rdL_step {l : List Nat} {i c : Nat} (h : l[i]? = some c) : rdL (l.take (i + 1)) = 16 * rdL (l.take i) + c - 65 := by
  rw [List.take_succ, h]
  unfold rdL
  rw [List.foldl_append]
  rfl
theorem read_c {w : World} {mg mb : Str → Option Value} {A : Around} {h : Heap} {n : Nat} {low : Bool} {t : Tok} (G : Gl w mg mb h) (gd : Gd 1 A) (hx : n < 16 ^ 16) :
    Ok w A (call (.ref 229) [.str (wS n low) t]) (fun v h' => h.StaysIn h' ∧ ∃ t, v = .int n t) h := by
  w_on
  have X := G.X
  have T := G.T
  refine' enter (n := 0) [("word", .str (wS n low) t)] G gd ?k6 ?k7 ?k9 ?kB ?_ ?k10 ?c2 ?c3 ?c4
  case k6 => k_is
  case k7 => k_is
  case k9 => exact fun s _ => BindsTo.of_eq (by with_unfolding_all rfl)
  case kB => exact locs rfl
  case c2 => exact rfl
  case c3 => exact rfl
  case c4 => exact rfl
  case k10 => decide
  intro L h₁ F fr G gd g d tk os Q E q
  have N : News h L h₁ [] := News.nil
  dsimp only [List.reverse, List.reverseAux] at F
  repeat' ((fail_if_success (with_reducible show wpAny _ _ (exec (Stmt.While _ _ _ _) _) _ _ _)); (fail_if_success (with_reducible show wpAny _ _ (exec (Stmt.For _ _ _ _ _) _) _ _ _)); (fail_if_success (with_reducible show wpAny _ _ (pyIter _) _ _ _)); (fail_if_success (with_reducible show wpAny _ _ (eval (Expr.ListComp _ _ _ _) _) _ _ _)); first | walk_at "mine" | walk1 | (dsimp only; walk1))
  refine wpAny_For ?_
  repeat' ((fail_if_success (with_reducible show wpAny _ _ (exec (Stmt.While _ _ _ _) _) _ _ _)); (fail_if_success (with_reducible show wpAny _ _ (exec (Stmt.For _ _ _ _ _) _) _ _ _)); (fail_if_success (with_reducible show wpAny _ _ (pyIter _) _ _ _)); (fail_if_success (with_reducible show wpAny _ _ (eval (Expr.ListComp _ _ _ _) _) _ _ _)); first | walk_at "mine" | walk1 | (dsimp only; walk1))
  refine SCL.upper (by show (wL n low).toArray.size ≤ _; rw [List.size_toArray]; have := wL_len (a := low) hx; omega) ?_
  intro _
  rw [upper_wS]
  dsimp only
  repeat' ((fail_if_success (with_reducible show wpAny _ _ (exec (Stmt.While _ _ _ _) _) _ _ _)); (fail_if_success (with_reducible show wpAny _ _ (exec (Stmt.For _ _ _ _ _) _) _ _ _)); (fail_if_success (with_reducible show wpAny _ _ (pyIter _) _ _ _)); (fail_if_success (with_reducible show wpAny _ _ (eval (Expr.ListComp _ _ _ _) _) _ _ _)); first | walk_at "mine" | walk1 | (dsimp only; walk1))
  refine it_str (fun i l' news => news = [] ∧ ∃ t, am l' "number" = some (.int (rdL ((wL n false).take i)) t)) ?hh ?ha (by assumption) (by assumption) ?j0 (fun _ _ => rfl) ?turn ?fin
  case hh => exact Gd.han (by assumption)
  case ha => exact wL_ascii
  case j0 => exact ⟨rfl, _, am_hit⟩
  case turn =>
    rintro i c u l news h1 own I hc ⟨rfl, t1, hn⟩ F N - - g2 d2 tk2 os2 Q2 E2 q2
    rw [List.append_nil] at N
    repeat' ((fail_if_success (with_reducible show wpAny _ _ (exec (Stmt.While _ _ _ _) _) _ _ _)); (fail_if_success (with_reducible show wpAny _ _ (exec (Stmt.For _ _ _ _ _) _) _ _ _)); (fail_if_success (with_reducible show wpAny _ _ (pyIter _) _ _ _)); (fail_if_success (with_reducible show wpAny _ _ (eval (Expr.ListComp _ _ _ _) _) _ _ _)); first | walk_at "mine" | walk1 | (dsimp only; walk1))
    refine q2 _ _ _ ?_
    intro g3 d3 tk3 os3 Q3 E3 q3
    repeat' ((fail_if_success (with_reducible show wpAny _ _ (exec (Stmt.While _ _ _ _) _) _ _ _)); (fail_if_success (with_reducible show wpAny _ _ (exec (Stmt.For _ _ _ _ _) _) _ _ _)); (fail_if_success (with_reducible show wpAny _ _ (pyIter _) _ _ _)); (fail_if_success (with_reducible show wpAny _ _ (eval (Expr.ListComp _ _ _ _) _) _ _ _)); first | walk_at "mine" | walk1 | (dsimp only; walk1))
    refine' q3 _ _ _ (Exists.intro _ (Exists.intro [] (And.intro ?jj (And.intro ?ff (And.intro ?nn ?zz)))))
    case ff => assumption
    case nn => rw [List.append_nil]; assumption
    case zz => simp
    case jj =>
      refine ⟨rfl, _, am_hit.trans (congrArg (fun z => some (Value.int z _)) ?_)⟩
      exact (rdL_step (l := wL n false) hc).symm
  case fin =>
    rintro l news h1 tk1 ⟨rfl, t1, hn⟩ F N
    repeat' ((fail_if_success (with_reducible show wpAny _ _ (exec (Stmt.While _ _ _ _) _) _ _ _)); (fail_if_success (with_reducible show wpAny _ _ (exec (Stmt.For _ _ _ _ _) _) _ _ _)); (fail_if_success (with_reducible show wpAny _ _ (pyIter _) _ _ _)); (fail_if_success (with_reducible show wpAny _ _ (eval (Expr.ListComp _ _ _ _) _) _ _ _)); first | walk_at "mine" | walk1 | (dsimp only; walk1))
    refine q _ _ _ ⟨Fr.keep (by assumption), t1, ?_⟩
    show Value.int (rdL ((wL n false).take (wL n false).length)) t1 = _
    rw [List.take_length, rdL_ap]
end Mine
namespace Mine
section
variable {w : World} {A : Around} {h h₀ : Heap} {L : Addr} {m : Str → Option Value} {news : List (Addr × Obj)} {t : Sem Value} {R : Obj → Prop} {g : Array GenState} {d : Drawn} {tk : Nat} {os : OsState} {Q : Value → Shared → Prop} {E : Value → Shared → Prop}
theorem use_n (F : Fr h₀ L h m) (N : News h₀ L h news) (x : Ok w A t (fun v h' => h.StaysIn h' ∧ ∃ r o, v = .ref r ∧ h.get? r = none ∧ h'.get? r = some o ∧ R o) h) (q : ∀ r o h' tk', Fr h₀ L h' m → News h₀ L h' ((r, o) :: news) → h.StaysIn h' → (∀ p ∈ news, p.1 ≠ r) → R o → Q (.ref r) ⟨h', g, d, tk', os⟩) : wpAny (model prM w) A t Q E ⟨h, g, d, tk, os⟩ :=
  x.use fun v h' tk' p => by
    obtain ⟨e, r, o, rfl, hr, ho, hR⟩ := p
    obtain ⟨oL, _, _, hoL, _⟩ := F.ns
    refine q r o h' tk' (frExt F e) (fun y hy => ?_) e (fun p hp e => by rw [← e, (N p hp).1] at hr; cases hr) hR
    rcases List.mem_cons.mp hy with rfl | hy
    · refine ⟨ho, fun q => ?_, ?_⟩
      · have q : r = L := q
        rw [q, hoL] at hr; cases hr
      · cases e0 : h₀.get? r with
        | none => rfl
        | some o' => rw [F.keep _ _ e0] at hr; cases hr
    · exact newsExt N e y hy
end
theorem lt_big {z : Int} (h : z < 100) : z < 16 ^ 16 := by omega
theorem ret_str {a b : Str} {u : Tok} (e : a = b) : ∃ t, fv (.ret (.str a u)) = .str b t := ⟨u, by rw [e]; rfl⟩
theorem ret_int {a b : Int} {u : Tok} (e : a = b) : ∃ t, fv (.ret (.int a u)) = .int b t := ⟨u, by rw [e]; rfl⟩
theorem told_n {w : World} {mg mb : Str → Option Value} {A : Around} {h : Heap} {x : Int} {t : Tok} (G : Gl w mg mb h) (gd : Gd 1 A) :
    Ok w A (call (.ref 236) [.int x t]) (fun v h' => h.StaysIn h' ∧ ∃ r o, v = .ref r ∧ h.get? r = none ∧ h'.get? r = some o ∧ ∃ t1 t2 t3 t4, o = tupO [.int (stF x) t1, .int (cnF x) t2, .int (afF x) t3, .int (otF x) t4, .bool (moF x)]) h :=
  (told_c G gd).mono fun v h' ⟨e, r, t1, t2, t3, t4, a, b, c⟩ => ⟨e, r, _, a, b, c, t1, t2, t3, t4, rfl⟩
theorem fm3 (x : Int) : 0 ≤ x.fmod 3 ∧ x.fmod 3 < 3 := ⟨Int.fmod_nonneg_of_pos _ (by decide), Int.fmod_lt_of_pos _ (by decide)⟩
theorem fm4 (x : Int) : 0 ≤ x.fmod 4 ∧ x.fmod 4 < 4 := ⟨Int.fmod_nonneg_of_pos _ (by decide), Int.fmod_lt_of_pos _ (by decide)⟩
theorem st_mem (x : Int) : stF x ∈ [7, 11, 13] := by
  have := fm3 x
  unfold stF
  generalize x.fmod 3 = k at this ⊢
  obtain rfl | rfl | rfl : k = 0 ∨ k = 1 ∨ k = 2 := by omega
  all_goals decide
theorem cn_mem (x : Int) : cnF x ∈ [2, 3, 5] := by
  have := fm3 (x.fdiv 6)
  unfold cnF
  generalize (x.fdiv 6).fmod 3 = k at this ⊢
  obtain rfl | rfl | rfl : k = 0 ∨ k = 1 ∨ k = 2 := by omega
  all_goals decide
theorem four_mem (x : Int) : ([7, 11, 13, 17] : List Int).getD (x.fmod 4).toNat 0 ∈ [7, 11, 13, 17] := by
  have := fm4 x
  generalize x.fmod 4 = k at this ⊢
  obtain rfl | rfl | rfl | rfl : k = 0 ∨ k = 1 ∨ k = 2 ∨ k = 3 := by omega
  all_goals decide
theorem af_mem (x : Int) : afF x ∈ [7, 11, 13, 17] := four_mem _
theorem ot_mem (x : Int) : otF x ∈ [7, 11, 13, 17] := four_mem _
theorem rng {z : Int} {l : List Int} (h : z ∈ l) (hl : l.all (fun y => decide (0 < y ∧ y < 100)) = true) : 0 < z ∧ z < 100 := of_decide_eq_true (List.all_eq_true.mp hl z h)
theorem st_r (x : Int) : 0 < stF x ∧ stF x < 100 := rng (st_mem x) (by decide)
theorem cn_r (x : Int) : 0 < cnF x ∧ cnF x < 100 := rng (cn_mem x) (by decide)
theorem af_r (x : Int) : 0 < afF x ∧ afF x < 100 := rng (af_mem x) (by decide)
theorem ot_r (x : Int) : 0 < otF x ∧ otF x < 100 := rng (ot_mem x) (by decide)
theorem wS_len {n : Nat} {a : Bool} (h : n < 16 ^ 16) : (wS n a).length ≤ 16 := wL_len h
end Mine
namespace Mine
local macro_rules | `(tactic| walk_at "lk") => `(tactic| first | with_reducible exact am_hit | (with_reducible refine am_skip (by kernel_rfl) ?_; walk_at "lk") | assumption)
local macro_rules | `(tactic| walk_at "eval Name") => `(tactic| (k_dflt (refine' nameX_L ?F ?v ?_ ?a ?b; (case F => first | with_reducible assumption | assumption); (case a => rfl); (case b => rfl); (case v => walk_at "lk"); k_whole)))
local macro_rules | `(tactic| walk_at "storeName") => `(tactic| (k_dflt (refine' stM ?F ?N ?_ ?a ?b; (case F => first | with_reducible assumption | assumption); (case N => first | with_reducible assumption | assumption); (case a => rfl); (case b => rfl); k_whole); intro h' F' N'; (try k_sweep); (try dsimp only)))
local macro_rules | `(tactic| walk_at "subscriptTail") => `(tactic| ((with_reducible show wpAny _ _ (subscriptTail _ _ (Value.ref _) (Value.int _ _)) _ _ _); k_dflt (refine' pickT ?t ?i ?a ?b ?z ?_ ?s; (case t => exact News.isTup (by k_asm) (by k_mem)); (case i => l_ints); (case a => l_idx); (case b => l_idx); (case z => decide); (case s => with_unfolding_all rfl); k_whole); intro t'))
local macro_rules | `(tactic| walk_at "assign Tuple") => `(tactic| ((with_reducible show wpAny _ _ (assign (Expr.Tuple _ _ _) _ (Value.ref _)) _ _ _); k_dflt (refine' unpackN_ ?F ?N ?T ?hh ?k2 ?k3 ?_; (case F => k_asm); (case N => k_asm); (case T => exact News.isTup (by k_asm) (by k_mem)); (case hh => exact Gd.han (by assumption)); (case k2 => exact rfl); (case k3 => exact rfl)); intro h' F' N'; (try k_sweep); (try dsimp only)))

theorem fill_D5 : PySem.Challenge.rw_wf0080_01 = PySem.Challenge.rw_wf0080_01 ∧ KM = KM := by
  w_on
  k_fill
  exact ⟨rfl, rfl⟩

noncomputable def lineS (x : Int) : Str :=
  let W (z : Int) : Str := wS z.toNat (odd (x.fdiv 288))
  let hd : Str := W (stF x) ++ Str.ofString ":" ++ W (cnF x)
  if moF x then hd ++ Str.ofString "+=" ++ W (afF x) else hd ++ Str.ofString "-=" ++ W (afF x) ++ Str.ofString "!=" ++ W (otF x)
local macro_rules | `(tactic| walk_at "rng") => `(tactic| first | with_reducible exact (st_r _).1 | with_reducible exact (cn_r _).1 | with_reducible exact (af_r _).1 | with_reducible exact (ot_r _).1 | with_reducible exact lt_big (st_r _).2 | with_reducible exact lt_big (cn_r _).2 | with_reducible exact lt_big (af_r _).2 | with_reducible exact lt_big (ot_r _).2 | omega)
local macro_rules | `(tactic| walk_at "mine") => `(tactic| ((with_reducible show wpAny _ _ (call (Value.ref 222) _ _) _ _ _); refine use_c (by assumption) (by assumption) (word_c (Gl.keeps (by assumption) (Fr.keep (by assumption))) (Gd.le (by assumption) (by decide)) (by walk_at "rng") (by walk_at "rng")) ?_; rintro v' h' tk' F' N' e' ⟨t', hv'⟩; (try subst hv'); (try k_sweep); (try dsimp only)))
local macro_rules | `(tactic| walk_at "mine") => `(tactic| ((with_reducible show wpAny _ _ (call (Value.ref 236) _ _) _ _ _); refine use_n (by assumption) (by assumption) (told_n (Gl.keeps (by assumption) (Fr.keep (by assumption))) (Gd.le (by assumption) (by decide))) ?_; rintro r' o' h' tk' F' N' e' n' ⟨t1, t2, t3, t4, hv'⟩; (try subst hv'); (try k_sweep); (try dsimp only)))
local macro_rules | `(tactic| walk_at "binaryOp Add str str") => `(tactic| (refine KOpn.add (by (try simp only [PySem.Str.length_append]); omega) ?_; intro _ _ hz; clear hz))
theorem line_c {w : World} {mg mb : Str → Option Value} {A : Around} {h : Heap} {x : Int} {t : Tok} (G : Gl w mg mb h) (gd : Gd 3 A) :
    Ok w A (call (.ref 243) [.int x t]) (fun v h' => h.StaysIn h' ∧ ∃ t, v = .str (lineS x) t) h := by
  w_on
  have X := G.X
  have T := G.T
  refine' enter (n := 2) [("x", .int x t)] G gd ?k6 ?k7 ?k9 ?kB ?_ ?k10 ?c2 ?c3 ?c4
  case k6 => k_is
  case k7 => k_is
  case k9 => exact fun s _ => BindsTo.of_eq (by with_unfolding_all rfl)
  case kB => exact locs rfl
  case c2 => exact rfl
  case c3 => exact rfl
  case c4 => exact rfl
  case k10 => decide
  intro L h₁ F fr G gd g d tk os Q E q
  have N : News h L h₁ [] := News.nil
  dsimp only [List.reverse, List.reverseAux] at F
  have len (z : Int) (hz : 0 < z ∧ z < 100) : (wS z.toNat (odd (x.fdiv 288))).length ≤ 16 := wS_len (by omega)
  have l1 := len _ (st_r x)
  have l2 := len _ (cn_r x)
  have l3 := len _ (af_r x)
  have l4 := len _ (ot_r x)
  have l5 : (Str.ofString ":").length = 1 := by decide
  have l6 : (Str.ofString "+=").length = 2 := by decide
  have l7 : (Str.ofString "-=").length = 2 := by decide
  have l8 : (Str.ofString "!=").length = 2 := by decide
  clear len
  repeat' ((fail_if_success (with_reducible show wpAny _ _ (exec (Stmt.While _ _ _ _) _) _ _ _)); (fail_if_success (with_reducible show wpAny _ _ (exec (Stmt.For _ _ _ _ _) _) _ _ _)); (fail_if_success (with_reducible show wpAny _ _ (pyIter _) _ _ _)); (fail_if_success (with_reducible show wpAny _ _ (eval (Expr.ListComp _ _ _ _) _) _ _ _)); first | walk_at "mine" | walk1 | (dsimp only; walk1))
  · refine q _ _ _ ⟨Fr.keep (by assumption), ret_str ?_⟩
    have c : moF x = true := by assumption
    unfold lineS
    dsimp only
    rw [if_pos c]
  · refine q _ _ _ ⟨Fr.keep (by assumption), ret_str ?_⟩
    have c : moF x = false := by assumption
    unfold lineS
    dsimp only
    rw [if_neg (by rw [c]; exact Bool.false_ne_true)]
end Mine
namespace Mine
open Builtin Builtin.Str
noncomputable def exD : List (String × Nat × Int × Nat) := [("!", 666, 54, 662), ("!=", 668, 28, 610), ("%", 670, 24, 602), ("%=", 672, 40, 634), ("&", 674, 19, 592), ("&=", 676, 41, 636), ("(", 678, 7, 568), (")", 680, 8, 570), ("*", 682, 16, 586), ("**", 684, 35, 624), ("**=", 686, 46, 646), ("*=", 688, 38, 630), ("+", 690, 14, 582), ("+=", 692, 36, 626), (",", 694, 12, 578), ("-", 696, 15, 584), ("-=", 698, 37, 628), ("->", 700, 51, 656), (".", 702, 23, 600), ("...", 704, 52, 658), ("/", 706, 17, 588), ("//", 708, 47, 648), ("//=", 710, 48, 650), ("/=", 712, 39, 632), (":", 714, 11, 576), (":=", 716, 53, 660), (";", 718, 13, 580), ("<", 720, 20, 594), ("<<", 722, 33, 620), ("<<=", 724, 44, 642), ("<=", 726, 29, 612), ("=", 728, 22, 598), ("==", 730, 27, 608), (">", 732, 21, 596), (">=", 734, 30, 614), (">>", 735, 34, 622), (">>=", 736, 45, 644), ("@", 737, 49, 652), ("@=", 738, 50, 654), ("[", 739, 9, 572), ("]", 740, 10, 574), ("^", 741, 32, 618), ("^=", 742, 43, 640), ("{", 743, 25, 604), ("|", 744, 18, 590), ("|=", 745, 42, 638), ("}", 746, 26, 606), ("~", 747, 31, 616)]
noncomputable def exE (P : Params) : List DictEntry := exD.map fun e => en P e.1 e.2.1 (.int e.2.2.1 e.2.2.2)
theorem o194_eq (P : Params) : o194 P = ⟨.type "dict", none, .dict (exE P).toArray 48, #[]⟩ := by kernel_rfl
theorem exE_lit (P : Params) : KeysLit P (exE P) := by
  have go : ∀ l : List (String × Nat × Int × Nat), KeysLit P (l.map fun e => en P e.1 e.2.1 (.int e.2.2.1 e.2.2.2)) := by
    intro l
    induction l with
    | nil => trivial
    | cons e r ih => exact ⟨⟨_, _, rfl, rfl⟩, ih⟩
  exact go exD
/-- the kind of an operator -/
noncomputable def exF (k : List Nat) : Option (Int × Nat) := (exD.find? fun e => decide (e.1.toList.map Char.toNat = k)).map fun e => e.2.2
theorem exF_find (P : Params) (k : List Nat) : findBy Value.isStrOf (exE P).toArray ⟨k.toArray⟩ = (exF k).map fun z => .int z.1 z.2 := by
  unfold findBy exF exE
  rw [List.find?_toArray, List.find?_map]
  simp only [Option.map_map]
  have hh : ((fun e : DictEntry => Value.isStrOf ⟨k.toArray⟩ e.key) ∘ fun e : String × Nat × Int × Nat => en P e.1 e.2.1 (.int e.2.2.1 e.2.2.2)) = fun e : String × Nat × Int × Nat => decide (e.1.toList.map Char.toNat = k) := by
    funext e
    show (Value.isStrOf ⟨k.toArray⟩ (.str (Str.ofString e.1) e.2.1)) = _
    rw [Str.ofString_eq_toList]
    by_cases q : e.1.toList.map Char.toNat = k
    · subst q; simp [Value.isStrOf]
    · have : ¬ ((⟨(e.1.toList.map Char.toNat).toArray⟩ : Str) = ⟨k.toArray⟩) := fun h => q (by simpa using h)
      simp [Value.isStrOf, q, this]
  rw [hh]
  rfl
noncomputable def letter (c : Nat) : Prop := (65 ≤ c ∧ c ≤ 80) ∨ (97 ≤ c ∧ c ≤ 112)
theorem exF_none_of {k : List Nat} {c : Nat} {t : List Nat} (hk : k = c :: t) (h : (exD.all fun e => decide ((e.1.toList.map Char.toNat).head? ≠ some c)) = true) : exF k = none := by
  unfold exF
  rw [Option.map_eq_none_iff, List.find?_eq_none]
  intro e he q
  have := of_decide_eq_true (List.all_eq_true.mp h e he)
  rw [of_decide_eq_true q, hk] at this
  exact this rfl
theorem letters_ex : ∀ c, c < 128 → ((65 ≤ c ∧ c ≤ 80) ∨ (97 ≤ c ∧ c ≤ 112)) → (exD.all fun e => decide ((e.1.toList.map Char.toNat).head? ≠ some c)) = true := by decide +kernel
theorem exF_letter {c : Nat} {t : List Nat} (h : letter c) : exF (c :: t) = none := exF_none_of rfl (letters_ex c (by unfold letter at h; omega) h)
theorem exF_pair : ∀ c, c < 128 → ((65 ≤ c ∧ c ≤ 80) ∨ (97 ≤ c ∧ c ≤ 112)) → exF [58, c] = none ∧ exF [59, c] = none := by decide +kernel
/-- the signs of a row of tokens -/
noncomputable def flat (ts : List (List Nat × Int)) : List Nat := (ts.map (·.1)).flatten
noncomputable def Wf : List (List Nat × Int) → Prop
  | [] => True
  | (cs, v) :: r => Wf r ∧ ((∃ a b u, cs = [a, b] ∧ exF cs = some (v, u)) ∨ (∃ a u c t, cs = [a] ∧ exF cs = some (v, u) ∧ flat r = c :: t ∧ exF [a, c] = none) ∨
    (∃ n low, cs = wL n low ∧ 0 < n ∧ n < 16 ^ 16 ∧ v = 254 + n ∧ (flat r = [] ∨ ∃ c t, flat r = c :: t ∧ (exF [c]).isSome = true)))
theorem wL_letter {n : Nat} {low : Bool} : ∀ c ∈ wL n low, letter c := fun c hc => by
  have := wL_mem c hc
  unfold letter
  rcases up_le low with e | e <;> omega
theorem sliceIdx_hi_clip (a len : Nat) {j : Int} (h : (len : Int) ≤ j) : strSliceIndices (some (a : Int)) (some j) 1 len = strSliceIndices (some (a : Int)) (some (len : Int)) 1 len := by
  have a1 : ¬ j < 0 := by omega
  have a2 : ¬ ((len : Int) < 0) := by omega
  have e1 : max (0 : Int) (min j (len : Int)) = len := by omega
  have e2 : max (0 : Int) (min (len : Int) (len : Int)) = len := by omega
  simp [strSliceIndices, a1, a2, e1, e2]
theorem slice_list {x : Str} {a b : Nat} (hab : a ≤ b) (ha : a ≤ x.length) : Txt.slice x (some (a : Int)) (some (b : Int)) = ⟨((x.cps.toList.drop a).take (b - a)).toArray⟩ := by
  show StrLaws.sliceText x _ _ = _
  unfold StrLaws.sliceText
  by_cases hb : b ≤ x.length
  · rw [StrLaws.sliced_plain x hab hb]
    split
    · rename_i h
      have h2 : (strSliceIndices (some (a : Int)) (some (b : Int)) 1 x.length).length = x.length := by simpa using h
      rw [StrLaws.strSliceIndices_plain hab hb] at h2
      have h3 : b - a = x.length := by simpa using h2
      have ha0 : a = 0 := by omega
      have hb0 : b = x.length := by omega
      subst ha0 hb0
      obtain ⟨⟨l⟩⟩ := x
      simp [Str.length]
    · rfl
  · rw [sliceIdx_hi_clip a x.length (by omega), StrLaws.sliced_plain x ha (Nat.le_refl _)]
    have e : (x.cps.toList.drop a).take (b - a) = (x.cps.toList.drop a).take (x.length - a) := by
      have hl : (x.cps.toList.drop a).length = x.length - a := by simp [Str.length]
      rw [List.take_of_length_le (by omega), List.take_of_length_le (by omega)]
    rw [e]
    split
    · rename_i h
      have h2 : (strSliceIndices (some (a : Int)) (some (x.length : Int)) 1 x.length).length = x.length := by simpa using h
      rw [StrLaws.strSliceIndices_plain ha (Nat.le_refl _)] at h2
      have h3 : x.length - a = x.length := by simpa using h2
      by_cases hx : x.length = 0
      · obtain ⟨⟨l⟩⟩ := x
        have : l = [] := by simpa [Str.length] using hx
        subst this; simp
      · have ha0 : a = 0 := by omega
        subst ha0
        obtain ⟨⟨l⟩⟩ := x
        simp [Str.length]
    · rfl
end Mine
namespace Mine
open Builtin Builtin.Str
section
variable {w : World} {A : Around} {E : Value → Shared → Prop} {s : Shared} {y : Str} {t : Tok} {Q : Value → Shared → Prop}
theorem ex_map (X : (KM w.params).In s.heap) : s.heap.MapOf (strKind prM w) 194 (fun k => findBy Value.isStrOf (exE w.params).toArray k) :=
  mapOf_K X (K := KM w.params) (a := 194) (n := 48) (by rw [← o194_eq]; exact rfl) (exE_lit _)
theorem ex_notin (X : (KM w.params).In s.heap) (h : Q (.bool (!(exF y.cps.toList).isSome)) { s with toks := s.toks + 1 }) : wpAny (model prM w) A (compareOp .NotIn (.str y t) (.ref 194)) Q E s :=
  wpAny_notIn_of (strKind_is prM w y t) (by decide) (ex_map X) (by
    have := exF_find w.params y.cps.toList
    rw [show (⟨y.cps.toList.toArray⟩ : Str) = y from rfl] at this
    rw [this, Option.isSome_map]
    exact h)
theorem ex_notin_yes {z : Int × Nat} (X : (KM w.params).In s.heap) (e : exF y.cps.toList = some z) (h : Q (.bool false) { s with toks := s.toks + 1 }) : wpAny (model prM w) A (compareOp .NotIn (.str y t) (.ref 194)) Q E s :=
  ex_notin X (by rw [e]; exact h)
theorem ex_notin_no (X : (KM w.params).In s.heap) (e : exF y.cps.toList = none) (h : Q (.bool true) { s with toks := s.toks + 1 }) : wpAny (model prM w) A (compareOp .NotIn (.str y t) (.ref 194)) Q E s :=
  ex_notin X (by rw [e]; exact h)
theorem ex_item {value slice : Expr} {z : Int × Nat} (X : (KM w.params).In s.heap) (hz : exF y.cps.toList = some z) (h : Q (.int z.1 z.2) { s with toks := s.toks + 1 })
    (hs : subscripted slice false (.ref 194) (.str y t) = operate [.ref 194, .str y t] (getItem (.ref 194) (.str y t)) := by with_unfolding_all rfl) :
    wpAny (model prM w) A (subscriptTail value slice (.ref 194) (.str y t)) Q E s :=
  have hm := ex_map X
  tail_any hm.typeIs slot_dict_getitem.lookup (wpAny_getItem_of (strKind_is prM w y t) hm (by
    have := exF_find w.params y.cps.toList
    rw [show (⟨y.cps.toList.toArray⟩ : Str) = y from rfl, hz] at this
    exact this) h) hs
end
section
variable {prog : Program} {w : World} {A : Around} {E : Value → Shared → Prop} {s : Shared} {h₀ : Heap} {L D : Addr} {m : Str → Option Value} {news : List (Addr × Obj)} {vs : List Value} {n : Nat} {x : Value} {Q : Value → Shared → Prop}
theorem appL (F : Fr h₀ L s.heap m) (N : News h₀ L s.heap ((D, W.listOf vs.toArray n) :: news)) (hd : ∀ p ∈ news, p.1 ≠ D) (hz : vs.length ≤ 1000000)
    (h : ∀ h', Fr h₀ L h' m → News h₀ L h' ((D, W.listOf (vs ++ [x]).toArray (n + 1)) :: news) → Q .none { s with heap := h' }) : wpAny (model prog w) A (call (.builtin "list.append") [.ref D, x]) Q E s :=
  append_K F N (.head hd) (fun h' F' N' => h h' F' (by simpa using N')) (by rw [sizeLine_eq, List.size_toArray]; omega)
end
theorem slice_at {x : Str} {dn R : List Nat} (hx : x.cps.toList = dn ++ R) (k : Nat) : Txt.slice x (some ((dn.length : Nat) : Int)) (some (((dn.length : Nat) : Int) + (k : Nat))) = ⟨(R.take k).toArray⟩ := by
  have hl : x.length = dn.length + R.length := by
    have := congrArg List.length hx
    simpa [Str.length] using this
  rw [show ((dn.length : Nat) : Int) + (k : Nat) = ((dn.length + k : Nat) : Int) from by push_cast; rfl, slice_list (by omega) (by omega), hx]
  simp
theorem item_at {x : Str} {dn R : List Nat} {j c : Nat} (hx : x.cps.toList = dn ++ R) (h : R[j]? = some c) : Txt.item x (((dn.length : Nat) : Int) + (j : Nat)) = ⟨#[c]⟩ := by
  have hj : j < R.length := (List.getElem?_eq_some_iff.mp h).1
  have hl : x.length = dn.length + R.length := by
    have := congrArg List.length hx
    simpa [Str.length] using this
  have e : x.cps[dn.length + j]? = some c := by
    rw [← Array.getElem?_toList, hx, List.getElem?_append_right (by omega)]
    simpa using h
  rw [show ((dn.length : Nat) : Int) + (j : Nat) = ((dn.length + j : Nat) : Int) from by push_cast; rfl]
  unfold Txt.item Txt.charAt
  have hi : seqIndex? ((dn.length + j : Nat) : Int) x.length = some (dn.length + j) := by
    unfold seqIndex?
    simp only [if_neg (by omega : ¬ ((dn.length + j : Nat) : Int) < 0)]
    rw [if_pos]
    · rfl
    · simp only [Bool.and_eq_true, decide_eq_true_eq]
      omega
  rw [hi]
  show (⟨#[(x.cps[dn.length + j]?).getD 0]⟩ : Str) = _
  rw [e]
  rfl
theorem tok_size {cs : List Nat} {v : Int} {r : List (List Nat × Int)} (h : Wf ((cs, v) :: r)) :
    (∃ u, 0 < cs.length ∧ cs.length ≤ 2 ∧ exF cs = some (v, u) ∧ ∀ k, cs.length < k → k ≤ 2 → exF ((cs ++ flat r).take k) = none) ∨
    (∃ n low, cs = wL n low ∧ 0 < n ∧ n < 16 ^ 16 ∧ v = 254 + n ∧ (flat r = [] ∨ ∃ c t, flat r = c :: t ∧ (exF [c]).isSome = true) ∧ ∀ k, 0 < k → k ≤ 2 → exF ((cs ++ flat r).take k) = none) := by
  rcases h.2 with ⟨a, b, u, rfl, hu⟩ | ⟨a, u, c, t, rfl, hu, hf, hn⟩ | ⟨n, low, rfl, h0, h1, hv, hf⟩
  · exact .inl ⟨u, by simp, by simp, hu, fun k h1 h2 => absurd h1 (by simp; omega)⟩
  · refine .inl ⟨u, by simp, by simp, hu, fun k h1 h2 => ?_⟩
    have : k = 2 := by simp at h1; omega
    subst this
    rw [hf]
    exact hn
  · refine .inr ⟨n, low, rfl, h0, h1, hv, hf, fun k hk _ => ?_⟩
    cases hw : wL n low with
    | nil => have := wL_pos (a := low) h0; rw [hw] at this; simp at this
    | cons c t =>
      cases k with
      | zero => omega
      | succ k =>
        rw [List.cons_append, List.take_succ_cons]
        exact exF_letter (wL_letter c (by rw [hw]; exact List.mem_cons_self ..))
end Mine
namespace Mine
local macro_rules | `(tactic| walk_at "lk") => `(tactic| first | with_reducible exact am_hit | (with_reducible refine am_skip (by kernel_rfl) ?_; walk_at "lk") | assumption)
local macro_rules | `(tactic| walk_at "eval Name") => `(tactic| (k_dflt (refine' nameX_L ?F ?v ?_ ?a ?b; (case F => first | with_reducible assumption | assumption); (case a => rfl); (case b => rfl); (case v => walk_at "lk"); k_whole)))
local macro_rules | `(tactic| walk_at "storeName") => `(tactic| (k_dflt (refine' stM ?F ?N ?_ ?a ?b; (case F => first | with_reducible assumption | assumption); (case N => first | with_reducible assumption | assumption); (case a => rfl); (case b => rfl); k_whole); intro h' F' N'; (try k_sweep); (try dsimp only)))
local macro_rules | `(tactic| walk_at "subscriptTail") => `(tactic| ((with_reducible show wpAny _ _ (subscriptTail _ _ (Value.ref _) (Value.int _ _)) _ _ _); k_dflt (refine' pickT ?t ?i ?a ?b ?z ?_ ?s; (case t => exact News.isTup (by k_asm) (by k_mem)); (case i => l_ints); (case a => l_idx); (case b => l_idx); (case z => decide); (case s => with_unfolding_all rfl); k_whole); intro t'))
local macro_rules | `(tactic| walk_at "assign Tuple") => `(tactic| ((with_reducible show wpAny _ _ (assign (Expr.Tuple _ _ _) _ (Value.ref _)) _ _ _); k_dflt (refine' unpackN_ ?F ?N ?T ?hh ?k2 ?k3 ?_; (case F => k_asm); (case N => k_asm); (case T => exact News.isTup (by k_asm) (by k_mem)); (case hh => exact Gd.han (by assumption)); (case k2 => exact rfl); (case k3 => exact rfl)); intro h' F' N'; (try k_sweep); (try dsimp only)))

theorem fill_S1 : PySem.Challenge.rw_wf0080_01 = PySem.Challenge.rw_wf0080_01 ∧ KM = KM := by
  w_on
  k_fill
  exact ⟨rfl, rfl⟩

local macro_rules | `(tactic| walk_at "call builtin:len") => `(tactic| ((with_reducible show wpAny _ _ (call (Value.builtin "len") [Value.str _ _]) _ _ _); refine V.len_str (by omega) ?_; (try dsimp only)))
local macro_rules | `(tactic| walk_at "compareOp NotIn str ref") => `(tactic| ((with_reducible show wpAny _ _ (compareOp _ (Value.str _ _) (Value.ref 194)) _ _ _); (first | refine ex_notin_yes (Frag.In.keeps (Gl.X (by assumption)) (Fr.keep (by assumption))) (by assumption) ?_ | refine ex_notin_no (Frag.In.keeps (Gl.X (by assumption)) (Fr.keep (by assumption))) (by assumption) ?_); (try dsimp only)))
local macro_rules | `(tactic| walk_at "mine") => `(tactic| ((with_reducible show wpAny _ _ (subscriptTail _ _ (Value.ref 194) (Value.str _ _)) _ _ _); refine ex_item (Frag.In.keeps (Gl.X (by assumption)) (Fr.keep (by assumption))) (by assumption) ?_; (try dsimp only)))
theorem symbols_c {w : World} {mg mb : Str → Option Value} {A : Around} {h : Heap} {ts : List (List Nat × Int)} {x : Str} {t : Tok} (G : Gl w mg mb h) (gd : Gd 2 A) (hx : x.cps.toList = flat ts) (hw : Wf ts) (hl : (flat ts).length ≤ 10000) (ht : ts.length ≤ 10000) :
    Ok w A (call (.ref 250) [.str x t]) (fun v h' => h.StaysIn h' ∧ ∃ r o, v = .ref r ∧ h.get? r = none ∧ h'.get? r = some o ∧ ∃ vs n, o = W.listOf vs.toArray n ∧ IntsAre vs (ts.map (·.2) ++ [0])) h := by
  have hlx : x.length = (flat ts).length := by rw [← hx]; simp [Str.length]
  w_on
  have X := G.X
  have T := G.T
  refine' enter (n := 1) [("text", .str x t)] G gd ?k6 ?k7 ?k9 ?kB ?_ ?k10 ?c2 ?c3 ?c4
  case k6 => k_is
  case k7 => k_is
  case k9 => exact fun s _ => BindsTo.of_eq (by with_unfolding_all rfl)
  case kB => exact locs rfl
  case c2 => exact rfl
  case c3 => exact rfl
  case c4 => exact rfl
  case k10 => decide
  intro L h₁ F fr G gd g d tk os Q E q
  have N : News h L h₁ [] := News.nil
  dsimp only [List.reverse, List.reverseAux] at F
  repeat' ((fail_if_success (with_reducible show wpAny _ _ (exec (Stmt.While _ _ _ _) _) _ _ _)); (fail_if_success (with_reducible show wpAny _ _ (exec (Stmt.For _ _ _ _ _) _) _ _ _)); (fail_if_success (with_reducible show wpAny _ _ (pyIter _) _ _ _)); (fail_if_success (with_reducible show wpAny _ _ (eval (Expr.ListComp _ _ _ _) _) _ _ _)); (fail_if_success (with_reducible show wpAny _ _ (call (Value.builtin _) [Value.ref _, _]) _ _ _)); (fail_if_success (with_reducible show wpAny _ _ (binaryOp Operator.Add (Value.ref _) (Value.ref _)) _ _ _)); first | walk_at "mine" | walk1 | (dsimp only; walk1))
  refine while_go (fun n h' => ∃ done rest l vs c ta tx S, ts = done ++ rest ∧ rest.length = n ∧ Wf rest ∧ Fr h L h' (am l) ∧ am l "text" = some (.str x tx) ∧ am l "at" = some (.int ((flat done).length : Nat) ta) ∧ am l "symbols" = some (.ref S) ∧ News h L h' [(S, W.listOf vs.toArray c)] ∧ IntsAre vs (done.map (·.2))) ts.length ?_ ?_
  · exact ⟨[], ts, _, [], _, _, _, _, rfl, rfl, hw, by assumption, am_skip (by kernel_rfl) (am_skip (by kernel_rfl) am_hit), am_hit, am_skip (by kernel_rfl) am_hit, by assumption, .nil⟩
  · rintro n h1 ⟨done, rest, l, vs, c, ta, tx, S, hts, hn, hw, F, htx, hat, hsy, N, hI⟩ g2 d2 tk2 os2 Q2 E2 q2
    repeat' ((fail_if_success (with_reducible show wpAny _ _ (exec (Stmt.While _ _ _ _) _) _ _ _)); (fail_if_success (with_reducible show wpAny _ _ (exec (Stmt.For _ _ _ _ _) _) _ _ _)); (fail_if_success (with_reducible show wpAny _ _ (pyIter _) _ _ _)); (fail_if_success (with_reducible show wpAny _ _ (eval (Expr.ListComp _ _ _ _) _) _ _ _)); (fail_if_success (with_reducible show wpAny _ _ (call (Value.builtin _) [Value.ref _, _]) _ _ _)); (fail_if_success (with_reducible show wpAny _ _ (binaryOp Operator.Add (Value.ref _) (Value.ref _)) _ _ _)); first | walk_at "mine" | walk1 | (dsimp only; walk1))
    cases rest with
    | nil =>
      refine q2 _ _ _ (br_f (decide_eq_false (by rw [hlx, hts]; simp)) ?_)
      intro tk3
      dsimp only
      repeat' ((fail_if_success (with_reducible show wpAny _ _ (exec (Stmt.While _ _ _ _) _) _ _ _)); (fail_if_success (with_reducible show wpAny _ _ (exec (Stmt.For _ _ _ _ _) _) _ _ _)); (fail_if_success (with_reducible show wpAny _ _ (pyIter _) _ _ _)); (fail_if_success (with_reducible show wpAny _ _ (eval (Expr.ListComp _ _ _ _) _) _ _ _)); (fail_if_success (with_reducible show wpAny _ _ (call (Value.builtin _) [Value.ref _, _]) _ _ _)); (fail_if_success (with_reducible show wpAny _ _ (binaryOp Operator.Add (Value.ref _) (Value.ref _)) _ _ _)); first | walk_at "mine" | walk1 | (dsimp only; walk1))
      rename_i F' N' _
      have hts' : ts = done := by rw [hts, List.append_nil]
      refine kmk_add_ints (vs := vs) (ws := [_]) F' N' (News.isList N' (.tail _ (.head _))) (News.isList N' (.head _)) hI (.cons 0 _ .nil) ?_ (by rw [sizeLine_eq, List.length_map, ← hts']; simp; omega)
      intro D us h4 F4 N4 _ hI4
      refine q _ _ _ ⟨F4.keep, D, _, rfl, News.fresh N4 (List.Mem.head _), News.get N4 (List.Mem.head _), us, _, rfl, by rw [hts']; exact hI4⟩
    | cons e rest =>
      obtain ⟨cs, v⟩ := e
      have hfl : flat ts = flat done ++ (cs ++ flat rest) := by rw [hts]; simp [flat]
      have hcs : 0 < cs.length := by
        rcases hw.2 with ⟨a, b, u, rfl, -⟩ | ⟨a, u, c, t, rfl, -⟩ | ⟨n, low, rfl, h0, -⟩
        · simp
        · simp
        · exact wL_pos h0
      have hle := congrArg List.length hfl
      simp only [List.length_append] at hle
      have hR : x.cps.toList = flat done ++ (cs ++ flat rest) := by rw [hx, hfl]
      obtain ⟨σ, hσ, hno, hyes⟩ : ∃ σ : Nat, σ ≤ 2 ∧ (∀ k, σ < k → k ≤ 2 → exF ((cs ++ flat rest).take k) = none) ∧ ((0 < σ ∧ σ = cs.length ∧ ∃ u, exF cs = some (v, u)) ∨ (σ = 0 ∧ ∃ n low, cs = wL n low ∧ 0 < n ∧ n < 16 ^ 16 ∧ v = 254 + n ∧ (flat rest = [] ∨ ∃ c t, flat rest = c :: t ∧ (exF [c]).isSome = true))) := by
        rcases tok_size hw with ⟨u, h0, h2, hu, hn⟩ | ⟨n, low, a, b, c, e, f, hn⟩
        · exact ⟨cs.length, h2, hn, .inl ⟨h0, rfl, u, hu⟩⟩
        · exact ⟨0, by omega, hn, .inr ⟨rfl, n, low, a, b, c, e, f⟩⟩
      refine q2 _ _ _ (br_t (decide_eq_true (by rw [hlx]; omega)) ?_)
      intro g3 d3 tk3 os3 Q3 E3 q3
      repeat' ((fail_if_success (with_reducible show wpAny _ _ (exec (Stmt.While _ _ _ _) _) _ _ _)); (fail_if_success (with_reducible show wpAny _ _ (exec (Stmt.For _ _ _ _ _) _) _ _ _)); (fail_if_success (with_reducible show wpAny _ _ (pyIter _) _ _ _)); (fail_if_success (with_reducible show wpAny _ _ (eval (Expr.ListComp _ _ _ _) _) _ _ _)); (fail_if_success (with_reducible show wpAny _ _ (call (Value.builtin _) [Value.ref _, _]) _ _ _)); (fail_if_success (with_reducible show wpAny _ _ (binaryOp Operator.Add (Value.ref _) (Value.ref _)) _ _ _)); first | walk_at "mine" | walk1 | (dsimp only; walk1))
      refine while_go (fun n h' => ∃ l ta tx ts, Fr h L h' (am l) ∧ am l "text" = some (.str x tx) ∧ am l "at" = some (.int ((flat done).length : Nat) ta) ∧ am l "size" = some (.int n ts) ∧ am l "symbols" = some (.ref S) ∧ News h L h' [(S, W.listOf vs.toArray c)] ∧ n ≤ 2 ∧ σ ≤ n) 2 ?_ ?_
      · exact ⟨_, _, _, _, by assumption, am_skip (by kernel_rfl) htx, am_skip (by kernel_rfl) hat, am_hit, am_skip (by kernel_rfl) hsy, by assumption, by omega, by omega⟩
      · rintro k h5 ⟨l, ta, tx, ts, F, htx, hat, hsz, hsy, N, hk, hk'⟩ g5 d5 tk5 os5 Q5 E5 q5
        by_cases hks : k = σ
        · subst hks
          rcases hyes with ⟨h0, hcl, u, hu⟩ | ⟨h0, n', low, hcw, hn0, hn1, hv, hend⟩
          · have hE : exF (Txt.slice x (some (((flat done).length : Nat) : Int)) (some ((((flat done).length : Nat) : Int) + (k : Nat)))).cps.toList = some (v, u) := by rw [slice_at hR, hcl, List.take_left' rfl, List.toList_toArray, hu]
            repeat' ((fail_if_success (with_reducible show wpAny _ _ (exec (Stmt.While _ _ _ _) _) _ _ _)); (fail_if_success (with_reducible show wpAny _ _ (exec (Stmt.For _ _ _ _ _) _) _ _ _)); (fail_if_success (with_reducible show wpAny _ _ (pyIter _) _ _ _)); (fail_if_success (with_reducible show wpAny _ _ (eval (Expr.ListComp _ _ _ _) _) _ _ _)); (fail_if_success (with_reducible show wpAny _ _ (call (Value.builtin _) [Value.ref _, _]) _ _ _)); (fail_if_success (with_reducible show wpAny _ _ (binaryOp Operator.Add (Value.ref _) (Value.ref _)) _ _ _)); first | walk_at "mine" | walk1 | (dsimp only; walk1))
            refine q5 _ _ _ (br_f rfl ?_)
            intro tk6
            dsimp only
            repeat' ((fail_if_success (with_reducible show wpAny _ _ (exec (Stmt.While _ _ _ _) _) _ _ _)); (fail_if_success (with_reducible show wpAny _ _ (exec (Stmt.For _ _ _ _ _) _) _ _ _)); (fail_if_success (with_reducible show wpAny _ _ (pyIter _) _ _ _)); (fail_if_success (with_reducible show wpAny _ _ (eval (Expr.ListComp _ _ _ _) _) _ _ _)); (fail_if_success (with_reducible show wpAny _ _ (call (Value.builtin _) [Value.ref _, _]) _ _ _)); (fail_if_success (with_reducible show wpAny _ _ (binaryOp Operator.Add (Value.ref _) (Value.ref _)) _ _ _)); first | walk_at "mine" | walk1 | (dsimp only; walk1))
            refine appL (by assumption) (by assumption) (by simp) (by rw [hI.length, List.length_map]; have := congrArg List.length hts; simp at this; omega) ?_
            intro h7 F7 N7
            repeat' ((fail_if_success (with_reducible show wpAny _ _ (exec (Stmt.While _ _ _ _) _) _ _ _)); (fail_if_success (with_reducible show wpAny _ _ (exec (Stmt.For _ _ _ _ _) _) _ _ _)); (fail_if_success (with_reducible show wpAny _ _ (pyIter _) _ _ _)); (fail_if_success (with_reducible show wpAny _ _ (eval (Expr.ListComp _ _ _ _) _) _ _ _)); (fail_if_success (with_reducible show wpAny _ _ (call (Value.builtin _) [Value.ref _, _]) _ _ _)); (fail_if_success (with_reducible show wpAny _ _ (binaryOp Operator.Add (Value.ref _) (Value.ref _)) _ _ _)); first | walk_at "mine" | walk1 | (dsimp only; walk1))
            have hat' : (((flat done).length : Nat) : Int) + (k : Nat) = ((flat (done ++ [(cs, v)])).length : Nat) := by rw [hcl]; simp [flat]
            refine q3 _ _ _ ⟨rest.length, by rw [← hn]; simp, done ++ [(cs, v)], rest, _, vs ++ [.int v u], _, _, _, _, by rw [hts]; simp, rfl, hw.1, by assumption, am_skip (by kernel_rfl) htx, am_hit.trans (congrArg (fun z => some (Value.int z _)) hat'), am_skip (by kernel_rfl) hsy, by assumption, by rw [List.map_append]; exact hI.append (.cons _ _ .nil)⟩
          · subst h0
            subst hv
            repeat' ((fail_if_success (with_reducible show wpAny _ _ (exec (Stmt.While _ _ _ _) _) _ _ _)); (fail_if_success (with_reducible show wpAny _ _ (exec (Stmt.For _ _ _ _ _) _) _ _ _)); (fail_if_success (with_reducible show wpAny _ _ (pyIter _) _ _ _)); (fail_if_success (with_reducible show wpAny _ _ (eval (Expr.ListComp _ _ _ _) _) _ _ _)); (fail_if_success (with_reducible show wpAny _ _ (call (Value.builtin _) [Value.ref _, _]) _ _ _)); (fail_if_success (with_reducible show wpAny _ _ (binaryOp Operator.Add (Value.ref _) (Value.ref _)) _ _ _)); first | walk_at "mine" | walk1 | (dsimp only; walk1))
            refine q5 _ _ _ (br_f rfl ?_)
            intro tk6
            dsimp only
            repeat' ((fail_if_success (with_reducible show wpAny _ _ (exec (Stmt.While _ _ _ _) _) _ _ _)); (fail_if_success (with_reducible show wpAny _ _ (exec (Stmt.For _ _ _ _ _) _) _ _ _)); (fail_if_success (with_reducible show wpAny _ _ (pyIter _) _ _ _)); (fail_if_success (with_reducible show wpAny _ _ (eval (Expr.ListComp _ _ _ _) _) _ _ _)); (fail_if_success (with_reducible show wpAny _ _ (call (Value.builtin _) [Value.ref _, _]) _ _ _)); (fail_if_success (with_reducible show wpAny _ _ (binaryOp Operator.Add (Value.ref _) (Value.ref _)) _ _ _)); first | walk_at "mine" | walk1 | (dsimp only; walk1))
            refine (while_ok (P := fun f h' => f = .next ∧ ∃ l ta tx ts, Fr h L h' (am l) ∧ am l "text" = some (.str x tx) ∧ am l "at" = some (.int ((flat done).length : Nat) ta) ∧ am l "size" = some (.int (cs.length : Nat) ts) ∧ am l "symbols" = some (.ref S) ∧ News h L h' [(S, W.listOf vs.toArray c)]) (fun m h' => ∃ j l ta tx ts, m + j = cs.length ∧ 1 ≤ j ∧ Fr h L h' (am l) ∧ am l "text" = some (.str x tx) ∧ am l "at" = some (.int ((flat done).length : Nat) ta) ∧ am l "size" = some (.int (j : Nat) ts) ∧ am l "symbols" = some (.ref S) ∧ News h L h' [(S, W.listOf vs.toArray c)]) (cs.length - 1) ?_ ?_).use ?_
            · exact ⟨1, _, _, _, _, by omega, by omega, by assumption, am_skip (by kernel_rfl) htx, am_skip (by kernel_rfl) hat, am_hit, am_skip (by kernel_rfl) hsy, by assumption⟩
            · rintro m h7 ⟨j, l, ta, tx, ts, hmj, hj, F, htx, hat, hsz, hsy, N⟩ g7 d7 tk7 os7 Q7 E7 q7
              by_cases hjc : j = cs.length
              · subst hjc
                rcases hend with hend | ⟨c', t', hend, hex⟩
                · rw [hend] at hle hR
                  simp only [List.length_nil] at hle
                  repeat' ((fail_if_success (with_reducible show wpAny _ _ (exec (Stmt.While _ _ _ _) _) _ _ _)); (fail_if_success (with_reducible show wpAny _ _ (exec (Stmt.For _ _ _ _ _) _) _ _ _)); (fail_if_success (with_reducible show wpAny _ _ (pyIter _) _ _ _)); (fail_if_success (with_reducible show wpAny _ _ (eval (Expr.ListComp _ _ _ _) _) _ _ _)); (fail_if_success (with_reducible show wpAny _ _ (call (Value.builtin _) [Value.ref _, _]) _ _ _)); (fail_if_success (with_reducible show wpAny _ _ (binaryOp Operator.Add (Value.ref _) (Value.ref _)) _ _ _)); first | walk_at "mine" | walk1 | (dsimp only; walk1))
                  exact q7 _ _ _ (br_f rfl ⟨rfl, l, ta, tx, ts, F, htx, hat, hsz, hsy, N⟩)
                · rw [hend] at hle hR
                  simp only [List.length_cons] at hle
                  obtain ⟨z, hz⟩ := Option.isSome_iff_exists.mp hex
                  have hE : exF (Txt.item x ((((flat done).length : Nat) : Int) + (cs.length : Nat))).cps.toList = some z := by rw [item_at hR (c := c') (by simp)]; exact hz
                  repeat' ((fail_if_success (with_reducible show wpAny _ _ (exec (Stmt.While _ _ _ _) _) _ _ _)); (fail_if_success (with_reducible show wpAny _ _ (exec (Stmt.For _ _ _ _ _) _) _ _ _)); (fail_if_success (with_reducible show wpAny _ _ (pyIter _) _ _ _)); (fail_if_success (with_reducible show wpAny _ _ (eval (Expr.ListComp _ _ _ _) _) _ _ _)); (fail_if_success (with_reducible show wpAny _ _ (call (Value.builtin _) [Value.ref _, _]) _ _ _)); (fail_if_success (with_reducible show wpAny _ _ (binaryOp Operator.Add (Value.ref _) (Value.ref _)) _ _ _)); first | walk_at "mine" | walk1 | (dsimp only; walk1))
                  exact q7 _ _ _ (br_f rfl ⟨rfl, l, ta, tx, ts, F, htx, hat, hsz, hsy, N⟩)
              · have hE : exF (Txt.item x ((((flat done).length : Nat) : Int) + (j : Nat))).cps.toList = none := by
                  have hjl : j < cs.length := by omega
                  rw [item_at hR (c := cs[j]) (by rw [List.getElem?_append_left hjl]; simp)]
                  exact exF_letter (wL_letter (n := n') (low := low) _ (by rw [← hcw]; exact List.getElem_mem hjl))
                have hjl : j + 1 ≤ cs.length := by omega
                repeat' ((fail_if_success (with_reducible show wpAny _ _ (exec (Stmt.While _ _ _ _) _) _ _ _)); (fail_if_success (with_reducible show wpAny _ _ (exec (Stmt.For _ _ _ _ _) _) _ _ _)); (fail_if_success (with_reducible show wpAny _ _ (pyIter _) _ _ _)); (fail_if_success (with_reducible show wpAny _ _ (eval (Expr.ListComp _ _ _ _) _) _ _ _)); (fail_if_success (with_reducible show wpAny _ _ (call (Value.builtin _) [Value.ref _, _]) _ _ _)); (fail_if_success (with_reducible show wpAny _ _ (binaryOp Operator.Add (Value.ref _) (Value.ref _)) _ _ _)); first | walk_at "mine" | walk1 | (dsimp only; walk1))
                refine q7 _ _ _ (br_t rfl ?_)
                intro g8 d8 tk8 os8 Q8 E8 q8
                repeat' ((fail_if_success (with_reducible show wpAny _ _ (exec (Stmt.While _ _ _ _) _) _ _ _)); (fail_if_success (with_reducible show wpAny _ _ (exec (Stmt.For _ _ _ _ _) _) _ _ _)); (fail_if_success (with_reducible show wpAny _ _ (pyIter _) _ _ _)); (fail_if_success (with_reducible show wpAny _ _ (eval (Expr.ListComp _ _ _ _) _) _ _ _)); (fail_if_success (with_reducible show wpAny _ _ (call (Value.builtin _) [Value.ref _, _]) _ _ _)); (fail_if_success (with_reducible show wpAny _ _ (binaryOp Operator.Add (Value.ref _) (Value.ref _)) _ _ _)); first | walk_at "mine" | walk1 | (dsimp only; walk1))
                exact q8 _ _ _ ⟨m - 1, by omega, j + 1, _, _, _, _, by omega, by omega, by assumption, am_skip (by kernel_rfl) htx, am_skip (by kernel_rfl) hat, am_hit.trans (congrArg (fun z => some (Value.int z _)) (by omega)), am_skip (by kernel_rfl) hsy, by assumption⟩
            · rintro _ h7 tk7 ⟨rfl, l, ta, tx, ts, F, htx, hat, hsz, hsy, N⟩
              repeat' ((fail_if_success (with_reducible show wpAny _ _ (exec (Stmt.While _ _ _ _) _) _ _ _)); (fail_if_success (with_reducible show wpAny _ _ (exec (Stmt.For _ _ _ _ _) _) _ _ _)); (fail_if_success (with_reducible show wpAny _ _ (pyIter _) _ _ _)); (fail_if_success (with_reducible show wpAny _ _ (eval (Expr.ListComp _ _ _ _) _) _ _ _)); (fail_if_success (with_reducible show wpAny _ _ (call (Value.builtin _) [Value.ref _, _]) _ _ _)); (fail_if_success (with_reducible show wpAny _ _ (binaryOp Operator.Add (Value.ref _) (Value.ref _)) _ _ _)); first | walk_at "mine" | walk1 | (dsimp only; walk1))
              have hsl : Txt.slice x (some (((flat done).length : Nat) : Int)) (some ((((flat done).length : Nat) : Int) + (cs.length : Nat))) = wS n' low := by rw [slice_at hR, List.take_left' rfl, hcw]; rfl
              rw [hsl]
              (refine use_c (by assumption) (by assumption) (read_c (G.keeps (Fr.keep (by assumption))) (gd.le (by decide)) hn1) ?_; intro v' h' tk' F' N' e'; (rintro ⟨t8, rfl⟩); (try k_sweep); (try dsimp only))
              repeat' ((fail_if_success (with_reducible show wpAny _ _ (exec (Stmt.While _ _ _ _) _) _ _ _)); (fail_if_success (with_reducible show wpAny _ _ (exec (Stmt.For _ _ _ _ _) _) _ _ _)); (fail_if_success (with_reducible show wpAny _ _ (pyIter _) _ _ _)); (fail_if_success (with_reducible show wpAny _ _ (eval (Expr.ListComp _ _ _ _) _) _ _ _)); (fail_if_success (with_reducible show wpAny _ _ (call (Value.builtin _) [Value.ref _, _]) _ _ _)); (fail_if_success (with_reducible show wpAny _ _ (binaryOp Operator.Add (Value.ref _) (Value.ref _)) _ _ _)); first | walk_at "mine" | walk1 | (dsimp only; walk1))
              refine appL (by assumption) (by assumption) (by simp) (by rw [hI.length, List.length_map]; have := congrArg List.length hts; simp at this; omega) ?_
              intro h9 F9 N9
              repeat' ((fail_if_success (with_reducible show wpAny _ _ (exec (Stmt.While _ _ _ _) _) _ _ _)); (fail_if_success (with_reducible show wpAny _ _ (exec (Stmt.For _ _ _ _ _) _) _ _ _)); (fail_if_success (with_reducible show wpAny _ _ (pyIter _) _ _ _)); (fail_if_success (with_reducible show wpAny _ _ (eval (Expr.ListComp _ _ _ _) _) _ _ _)); (fail_if_success (with_reducible show wpAny _ _ (call (Value.builtin _) [Value.ref _, _]) _ _ _)); (fail_if_success (with_reducible show wpAny _ _ (binaryOp Operator.Add (Value.ref _) (Value.ref _)) _ _ _)); first | walk_at "mine" | walk1 | (dsimp only; walk1))
              have hat' : (((flat done).length : Nat) : Int) + (cs.length : Nat) = ((flat (done ++ [(cs, 254 + (n' : Int))])).length : Nat) := by simp [flat]
              refine q3 _ _ _ ⟨rest.length, by rw [← hn]; simp, done ++ [(cs, 254 + (n' : Int))], rest, _, vs ++ [.int (254 + (n' : Int)) _], _, _, _, _, by rw [hts]; simp, rfl, hw.1, by assumption, am_skip (by kernel_rfl) htx, am_hit.trans (congrArg (fun z => some (Value.int z _)) hat'), am_skip (by kernel_rfl) hsy, by assumption, by rw [List.map_append]; exact hI.append (.cons _ _ .nil)⟩
        · have hE : exF (Txt.slice x (some (((flat done).length : Nat) : Int)) (some ((((flat done).length : Nat) : Int) + (k : Nat)))).cps.toList = none := by rw [slice_at hR, List.toList_toArray, hno k (by omega) hk]
          repeat' ((fail_if_success (with_reducible show wpAny _ _ (exec (Stmt.While _ _ _ _) _) _ _ _)); (fail_if_success (with_reducible show wpAny _ _ (exec (Stmt.For _ _ _ _ _) _) _ _ _)); (fail_if_success (with_reducible show wpAny _ _ (pyIter _) _ _ _)); (fail_if_success (with_reducible show wpAny _ _ (eval (Expr.ListComp _ _ _ _) _) _ _ _)); (fail_if_success (with_reducible show wpAny _ _ (call (Value.builtin _) [Value.ref _, _]) _ _ _)); (fail_if_success (with_reducible show wpAny _ _ (binaryOp Operator.Add (Value.ref _) (Value.ref _)) _ _ _)); first | walk_at "mine" | walk1 | (dsimp only; walk1))
          refine q5 _ _ _ (br_t rfl ?_)
          intro g6 d6 tk6 os6 Q6 E6 q6
          repeat' ((fail_if_success (with_reducible show wpAny _ _ (exec (Stmt.While _ _ _ _) _) _ _ _)); (fail_if_success (with_reducible show wpAny _ _ (exec (Stmt.For _ _ _ _ _) _) _ _ _)); (fail_if_success (with_reducible show wpAny _ _ (pyIter _) _ _ _)); (fail_if_success (with_reducible show wpAny _ _ (eval (Expr.ListComp _ _ _ _) _) _ _ _)); (fail_if_success (with_reducible show wpAny _ _ (call (Value.builtin _) [Value.ref _, _]) _ _ _)); (fail_if_success (with_reducible show wpAny _ _ (binaryOp Operator.Add (Value.ref _) (Value.ref _)) _ _ _)); first | walk_at "mine" | walk1 | (dsimp only; walk1))
          refine q6 _ _ _ ⟨k - 1, by omega, _, _, _, _, by assumption, am_skip (by kernel_rfl) htx, am_skip (by kernel_rfl) hat, am_hit.trans (congrArg (fun z => some (Value.int z _)) (by omega)), am_skip (by kernel_rfl) hsy, by assumption, by omega, by omega⟩
end Mine
namespace Mine
noncomputable abbrev Ln := Addr × List Value × Nat
noncomputable def lnO (e : Ln) : Addr × Obj := (e.1, W.listOf e.2.1.toArray e.2.2)
noncomputable def Rws : List Ln → List (List Int) → Prop
  | [], [] => True
  | e :: r, ns :: ls => IntsAre e.2.1 ns ∧ Rws r ls
  | _, _ => False
theorem Rws.app : ∀ {a b : List Ln} {c d : List (List Int)}, Rws a c → Rws b d → Rws (a ++ b) (c ++ d)
  | [], _, [], _, _, h => h
  | _ :: _, _, _ :: _, _, ⟨x, y⟩, h => ⟨x, y.app h⟩
  | [], _, _ :: _, _, x, _ => x.elim
  | _ :: _, _, [], _, x, _ => x.elim
theorem Rws.len : ∀ {a : List Ln} {c : List (List Int)}, Rws a c → a.length = c.length
  | [], [], _ => rfl
  | _ :: _, _ :: _, ⟨_, y⟩ => by simp [y.len]
  | [], _ :: _, x => x.elim
  | _ :: _, [], x => x.elim
theorem Rws.get : ∀ {a : List Ln} {c : List (List Int)}, Rws a c → ∀ {i : Nat} {e : Ln}, a[i]? = some e → ∃ ns, c[i]? = some ns ∧ IntsAre e.2.1 ns
  | _ :: _, ns :: _, ⟨x, y⟩, 0, e, h => by simp at h; subst h; exact ⟨ns, rfl, x⟩
  | _ :: _, _ :: _, ⟨_, y⟩, i + 1, e, h => by simp at h ⊢; exact y.get h
  | [], [], _, i, e, h => by simp at h
  | [], _ :: _, x, _, _, _ => x.elim
  | _ :: _, [], x, _, _, _ => x.elim
/-- a row of symbols cut into lines -/
noncomputable def lnStep (s : List (List Int) × List Int) (z : Int) : List (List Int) × List Int :=
  if z = 0 ∨ z = 13 then (s.1 ++ [s.2], []) else (s.1, s.2 ++ [if z < 256 then z else z - 254])
noncomputable def lnF (zs : List Int) : List (List Int) := (zs.foldl lnStep ([], [])).1
theorem News.mono {h₀ h : Heap} {L : Addr} {a b : List (Addr × Obj)} (N : News h₀ L h a) (s : ∀ p ∈ b, p ∈ a) : News h₀ L h b := fun p hp => N p (s p hp)
section
variable {prog : Program} {w : World} {A : Around} {E : Value → Shared → Prop} {s : Shared} {h₀ : Heap} {L D : Addr} {m : Str → Option Value} {a : List (Addr × Obj)} {vs : List Value} {n : Nat} {x : Value} {Q : Value → Shared → Prop}
theorem appS (b : List (Addr × Obj)) (F : Fr h₀ L s.heap m) (N : News h₀ L s.heap a) (hm : (D, W.listOf vs.toArray n) ∈ a) (hz : vs.length ≤ 1000000) (hb : ∀ p ∈ b, p = (D, W.listOf (vs ++ [x]).toArray (n + 1)) ∨ p ∈ a ∧ p.1 ≠ D)
    (h : ∀ h', Fr h₀ L h' m → News h₀ L h' b → Q .none { s with heap := h' }) : wpAny (model prog w) A (call (.builtin "list.append") [.ref D, x]) Q E s := by
  have z := N _ hm
  refine append_at (hsz := by rw [sizeLine_eq, List.size_toArray]; omega) z.1 fun h' hs ho' => h h' (F.change hs z.2.1 z.2.2) fun p hp => ?_
  rcases hb p hp with rfl | ⟨hp, hne⟩
  · exact ⟨by simpa using ho', z.2⟩
  · exact ⟨(hs.2 _ hne).trans (N p hp).1, (N p hp).2⟩
end
/-- objects that a call has made -/
noncomputable def Frsh (h h' : Heap) (own : List (Addr × Obj)) : Prop := ∀ p ∈ own, h.get? p.1 = none ∧ h'.get? p.1 = some p.2
theorem Frsh.of {h h' : Heap} {L : Addr} {own : List (Addr × Obj)} (N : News h L h' own) : Frsh h h' own := fun p hp => ⟨(N p hp).2.2, (N p hp).1⟩
section
variable {w : World} {A : Around} {h h₀ : Heap} {L : Addr} {m : Str → Option Value} {news : List (Addr × Obj)} {t : Sem Value} {R : Value → List (Addr × Obj) → Prop} {g : Array GenState} {d : Drawn} {tk : Nat} {os : OsState} {Q : Value → Shared → Prop} {E : Value → Shared → Prop}
theorem use_m (F : Fr h₀ L h m) (N : News h₀ L h news) (x : Ok w A t (fun v h' => h.StaysIn h' ∧ ∃ own, Frsh h h' own ∧ R v own) h) (q : ∀ v own h' tk', Fr h₀ L h' m → News h₀ L h' (own ++ news) → h.StaysIn h' → (∀ p ∈ own, ∀ q ∈ news, p.1 ≠ q.1) → R v own → Q v ⟨h', g, d, tk', os⟩) : wpAny (model prM w) A t Q E ⟨h, g, d, tk, os⟩ :=
  x.use fun v h' tk' p => by
    obtain ⟨e, own, ho, hR⟩ := p
    obtain ⟨oL, _, _, hoL, _⟩ := F.ns
    refine q v own h' tk' (frExt F e) (fun y hy => ?_) e (fun p hp q hq e => by have := (ho p hp).1; rw [e, (N q hq).1] at this; cases this) hR
    rcases List.mem_append.mp hy with hy | hy
    · refine ⟨(ho y hy).2, fun q => ?_, ?_⟩
      · have q : y.1 = L := q
        have := (ho y hy).1
        rw [q, hoL] at this; cases this
      · cases e0 : h₀.get? y.1 with
        | none => rfl
        | some o' => have := (ho y hy).1; rw [F.keep _ _ e0] at this; cases this
    · exact newsExt N e y hy
end
/-- ahead of turn i of _law_lines -/
noncomputable def LJ (S : Addr) (vs : List Value) (n0 : Nat) (zs : List Int) (P C : Addr) (dn : List Ln) (cv : List Value) (n1 n2 : Nat) (i : Nat) (news : List (Addr × Obj)) : Prop :=
  news = (P, W.listOf (dn.map fun e : Ln => Value.ref e.1).toArray n1) :: (C, W.listOf cv.toArray n2) :: (S, W.listOf vs.toArray n0) :: dn.map lnO ∧ P ≠ C ∧ P ≠ S ∧ C ≠ S ∧ (∀ e ∈ dn, e.1 ≠ P ∧ e.1 ≠ C) ∧
    Rws dn ((zs.take i).foldl lnStep ([], [])).1 ∧ IntsAre cv ((zs.take i).foldl lnStep ([], [])).2 ∧ dn.length + cv.length ≤ i
section
variable {S P C C' I : Addr} {vs cv : List Value} {n0 n1 n2 i : Nat} {zs : List Int} {z : Int} {dn : List Ln} {news own : List (Addr × Obj)} {h h' : Heap} {L : Addr}
theorem ln_step {pn : List (List Int) × List Int} (hz : zs[i]? = some z) : (zs.take (i + 1)).foldl lnStep pn = lnStep ((zs.take i).foldl lnStep pn) z := by rw [List.take_succ, List.foldl_append, hz]; rfl
theorem LJ.cut (J : LJ S vs n0 zs P C dn cv n1 n2 i news) (hz : zs[i]? = some z) (hc : z = 0 ∨ z = 13) (hI : ∀ p ∈ news, p.1 ≠ I) (hI' : C' ≠ I)
    (N' : News h L h' ((C', W.listOf (#[] : Array Value) 0) :: (own ++ (P, W.listOf ((dn.map fun e : Ln => Value.ref e.1) ++ [Value.ref C]).toArray (n1 + 1)) :: (C, W.listOf cv.toArray n2) :: (S, W.listOf vs.toArray n0) :: dn.map lnO)))
    (hC' : ∀ p ∈ own ++ (P, W.listOf ((dn.map fun e : Ln => Value.ref e.1) ++ [Value.ref C]).toArray (n1 + 1)) :: (C, W.listOf cv.toArray n2) :: (S, W.listOf vs.toArray n0) :: dn.map lnO, p.1 < C') :
    ∃ news', LJ S vs n0 zs P C' (dn ++ [(C, cv, n2)]) [] (n1 + 1) 0 (i + 1) news' ∧ News h L h' (own ++ news') ∧ ∀ p ∈ news', p.1 ≠ I := by
  obtain ⟨rfl, hPC, hPS, hCS, hdn, hR, hcv, hsz⟩ := J
  have kP : P < C' := hC' (P, _) (List.mem_append_right _ (.head _))
  have kC : C < C' := hC' (C, _) (List.mem_append_right _ (.tail _ (.head _)))
  have kS : S < C' := hC' (S, _) (List.mem_append_right _ (.tail _ (.tail _ (.head _))))
  have kd : ∀ e ∈ dn, e.1 < C' := fun e he => hC' (lnO e) (List.mem_append_right _ (.tail _ (.tail _ (.tail _ (List.mem_map_of_mem he)))))
  refine ⟨_, ⟨rfl, Nat.ne_of_lt kP, hPS, Nat.ne_of_gt kS, ?_, ?_, ?_, ?_⟩, ?_, ?_⟩
  · intro e he
    rcases List.mem_append.mp he with he | he
    · exact ⟨(hdn e he).1, Nat.ne_of_lt (kd e he)⟩
    · rw [List.mem_singleton.mp he]; exact ⟨fun e => hPC e.symm, Nat.ne_of_lt kC⟩
  · rw [ln_step hz, lnStep, if_pos hc]; exact hR.app ⟨hcv, trivial⟩
  · rw [ln_step hz, lnStep, if_pos hc]; exact .nil
  · simp; omega
  · refine News.mono N' fun p hp => ?_
    rcases List.mem_append.mp hp with hp | hp
    · exact .tail _ (List.mem_append_left _ hp)
    rcases List.mem_cons.mp hp with rfl | hp
    · rw [List.map_append]; exact .tail _ (List.mem_append_right _ (.head _))
    rcases List.mem_cons.mp hp with rfl | hp
    · exact .head _
    rcases List.mem_cons.mp hp with rfl | hp
    · exact .tail _ (List.mem_append_right _ (.tail _ (.tail _ (.head _))))
    rw [List.map_append] at hp
    rcases List.mem_append.mp hp with hp | hp
    · exact .tail _ (List.mem_append_right _ (.tail _ (.tail _ (.tail _ hp))))
    · rw [List.mem_singleton.mp hp]; exact .tail _ (List.mem_append_right _ (.tail _ (.head _)))
  · intro p hp
    rcases List.mem_cons.mp hp with rfl | hp
    · show P ≠ I; exact hI (P, _) (.head _)
    rcases List.mem_cons.mp hp with rfl | hp
    · exact hI'
    rcases List.mem_cons.mp hp with rfl | hp
    · exact hI _ (.tail _ (.tail _ (.head _)))
    rw [List.map_append] at hp
    rcases List.mem_append.mp hp with hp | hp
    · exact hI _ (.tail _ (.tail _ (.tail _ hp)))
    · rw [List.mem_singleton.mp hp]; show C ≠ I; exact hI (C, _) (.tail _ (.head _))
theorem LJ.add {t : Tok} {y : Int} (hy : (if z < 256 then z else z - 254) = y) (J : LJ S vs n0 zs P C dn cv n1 n2 i news) (hz : zs[i]? = some z) (hc : ¬ (z = 0 ∨ z = 13)) (hI : ∀ p ∈ news, p.1 ≠ I)
    (N' : News h L h' (own ++ (P, W.listOf (dn.map fun e : Ln => Value.ref e.1).toArray n1) :: (C, W.listOf (cv ++ [Value.int y t]).toArray (n2 + 1)) :: (S, W.listOf vs.toArray n0) :: dn.map lnO)) :
    ∃ news', LJ S vs n0 zs P C dn (cv ++ [Value.int y t]) n1 (n2 + 1) (i + 1) news' ∧ News h L h' (own ++ news') ∧ ∀ p ∈ news', p.1 ≠ I := by
  obtain ⟨rfl, hPC, hPS, hCS, hdn, hR, hcv, hsz⟩ := J
  refine ⟨_, ⟨rfl, hPC, hPS, hCS, hdn, ?_, ?_, ?_⟩, N', ?_⟩
  · rw [ln_step hz, lnStep, if_neg hc]; exact hR
  · rw [ln_step hz, lnStep, if_neg hc, hy]; exact hcv.append (.cons _ _ .nil)
  · simp; omega
  · intro p hp
    rcases List.mem_cons.mp hp with rfl | hp
    · show P ≠ I; exact hI (P, _) (.head _)
    rcases List.mem_cons.mp hp with rfl | hp
    · show C ≠ I; exact hI (C, _) (.tail _ (.head _))
    · exact hI _ (.tail _ (.tail _ hp))
end
end Mine
namespace Mine
local macro_rules | `(tactic| walk_at "lk") => `(tactic| first | with_reducible exact am_hit | (with_reducible refine am_skip (by kernel_rfl) ?_; walk_at "lk") | assumption)
local macro_rules | `(tactic| walk_at "eval Name") => `(tactic| (k_dflt (refine' nameX_L ?F ?v ?_ ?a ?b; (case F => first | with_reducible assumption | assumption); (case a => rfl); (case b => rfl); (case v => walk_at "lk"); k_whole)))
local macro_rules | `(tactic| walk_at "storeName") => `(tactic| (k_dflt (refine' stM ?F ?N ?_ ?a ?b; (case F => first | with_reducible assumption | assumption); (case N => first | with_reducible assumption | assumption); (case a => rfl); (case b => rfl); k_whole); intro h' F' N'; (try k_sweep); (try dsimp only)))
local macro_rules | `(tactic| walk_at "subscriptTail") => `(tactic| ((with_reducible show wpAny _ _ (subscriptTail _ _ (Value.ref _) (Value.int _ _)) _ _ _); k_dflt (refine' pickT ?t ?i ?a ?b ?z ?_ ?s; (case t => exact News.isTup (by k_asm) (by k_mem)); (case i => l_ints); (case a => l_idx); (case b => l_idx); (case z => decide); (case s => with_unfolding_all rfl); k_whole); intro t'))
local macro_rules | `(tactic| walk_at "assign Tuple") => `(tactic| ((with_reducible show wpAny _ _ (assign (Expr.Tuple _ _ _) _ (Value.ref _)) _ _ _); k_dflt (refine' unpackN_ ?F ?N ?T ?hh ?k2 ?k3 ?_; (case F => k_asm); (case N => k_asm); (case T => exact News.isTup (by k_asm) (by k_mem)); (case hh => exact Gd.han (by assumption)); (case k2 => exact rfl); (case k3 => exact rfl)); intro h' F' N'; (try k_sweep); (try dsimp only)))

theorem fill_S2 : PySem.Challenge.rw_wf0080_01 = PySem.Challenge.rw_wf0080_01 ∧ KM = KM := by
  w_on
  k_fill
  exact ⟨rfl, rfl⟩

theorem terminal_c {w : World} {mg mb : Str → Option Value} {A : Around} {h : Heap} {x : Int} {t : Tok} (G : Gl w mg mb h) (gd : Gd 1 A) :
    Ok w A (call (.ref 203) [.int x t]) (fun v h' => h.StaysIn h' ∧ v = .bool (decide (x < 256))) h := by
  w_on
  have X := G.X
  have T := G.T
  refine' enter (n := 0) [("x", .int x t)] G gd ?k6 ?k7 ?k9 ?kB ?_ ?k10 ?c2 ?c3 ?c4
  case k6 => k_is
  case k7 => k_is
  case k9 => exact fun s _ => BindsTo.of_eq (by with_unfolding_all rfl)
  case kB => exact locs rfl
  case c2 => exact rfl
  case c3 => exact rfl
  case c4 => exact rfl
  case k10 => decide
  intro L h₁ F fr G gd g d tk os Q E q
  have N : News h L h₁ [] := News.nil
  dsimp only [List.reverse, List.reverseAux] at F
  repeat' ((fail_if_success (with_reducible show wpAny _ _ (exec (Stmt.While _ _ _ _) _) _ _ _)); (fail_if_success (with_reducible show wpAny _ _ (exec (Stmt.For _ _ _ _ _) _) _ _ _)); (fail_if_success (with_reducible show wpAny _ _ (pyIter _) _ _ _)); (fail_if_success (with_reducible show wpAny _ _ (eval (Expr.ListComp _ _ _ _) _) _ _ _)); first | walk_at "mine" | walk1 | (dsimp only; walk1))
  exact q _ _ _ ⟨Fr.keep (by assumption), rfl⟩
theorem eof_c {w : World} {mg mb : Str → Option Value} {A : Around} {h : Heap} {x : Int} {t : Tok} (G : Gl w mg mb h) (gd : Gd 1 A) :
    Ok w A (call (.ref 210) [.int x t]) (fun v h' => h.StaysIn h' ∧ v = .bool (decide (x = 0))) h := by
  w_on
  have X := G.X
  have T := G.T
  refine' enter (n := 0) [("x", .int x t)] G gd ?k6 ?k7 ?k9 ?kB ?_ ?k10 ?c2 ?c3 ?c4
  case k6 => k_is
  case k7 => k_is
  case k9 => exact fun s _ => BindsTo.of_eq (by with_unfolding_all rfl)
  case kB => exact locs rfl
  case c2 => exact rfl
  case c3 => exact rfl
  case c4 => exact rfl
  case k10 => decide
  intro L h₁ F fr G gd g d tk os Q E q
  have N : News h L h₁ [] := News.nil
  dsimp only [List.reverse, List.reverseAux] at F
  repeat' ((fail_if_success (with_reducible show wpAny _ _ (exec (Stmt.While _ _ _ _) _) _ _ _)); (fail_if_success (with_reducible show wpAny _ _ (exec (Stmt.For _ _ _ _ _) _) _ _ _)); (fail_if_success (with_reducible show wpAny _ _ (pyIter _) _ _ _)); (fail_if_success (with_reducible show wpAny _ _ (eval (Expr.ListComp _ _ _ _) _) _ _ _)); first | walk_at "mine" | walk1 | (dsimp only; walk1))
  exact q _ _ _ ⟨Fr.keep (by assumption), rfl⟩
end Mine
namespace Mine
local macro_rules | `(tactic| walk_at "lk") => `(tactic| first | with_reducible exact am_hit | (with_reducible refine am_skip (by kernel_rfl) ?_; walk_at "lk") | assumption)
local macro_rules | `(tactic| walk_at "eval Name") => `(tactic| (k_dflt (refine' nameX_L ?F ?v ?_ ?a ?b; (case F => first | with_reducible assumption | assumption); (case a => rfl); (case b => rfl); (case v => walk_at "lk"); k_whole)))
local macro_rules | `(tactic| walk_at "storeName") => `(tactic| (k_dflt (refine' stM ?F ?N ?_ ?a ?b; (case F => first | with_reducible assumption | assumption); (case N => first | with_reducible assumption | assumption); (case a => rfl); (case b => rfl); k_whole); intro h' F' N'; (try k_sweep); (try dsimp only)))
local macro_rules | `(tactic| walk_at "subscriptTail") => `(tactic| ((with_reducible show wpAny _ _ (subscriptTail _ _ (Value.ref _) (Value.int _ _)) _ _ _); k_dflt (refine' pickT ?t ?i ?a ?b ?z ?_ ?s; (case t => exact News.isTup (by k_asm) (by k_mem)); (case i => l_ints); (case a => l_idx); (case b => l_idx); (case z => decide); (case s => with_unfolding_all rfl); k_whole); intro t'))
local macro_rules | `(tactic| walk_at "assign Tuple") => `(tactic| ((with_reducible show wpAny _ _ (assign (Expr.Tuple _ _ _) _ (Value.ref _)) _ _ _); k_dflt (refine' unpackN_ ?F ?N ?T ?hh ?k2 ?k3 ?_; (case F => k_asm); (case N => k_asm); (case T => exact News.isTup (by k_asm) (by k_mem)); (case hh => exact Gd.han (by assumption)); (case k2 => exact rfl); (case k3 => exact rfl)); intro h' F' N'; (try k_sweep); (try dsimp only)))

theorem fill_S3 : PySem.Challenge.rw_wf0080_01 = PySem.Challenge.rw_wf0080_01 ∧ KM = KM := by
  w_on
  k_fill
  exact ⟨rfl, rfl⟩

local macro_rules | `(tactic| walk_at "mine") => `(tactic| ((with_reducible show wpAny _ _ (call (Value.ref 203) _ _) _ _ _); refine use_c (by assumption) (by assumption) (terminal_c (Gl.keeps (by assumption) (Fr.keep (by assumption))) (Gd.le (by assumption) (by decide))) ?_; rintro v' h' tk' F' N' e' hv'; (try subst hv'); (try k_sweep); (try dsimp only)))
local macro_rules | `(tactic| walk_at "mine") => `(tactic| ((with_reducible show wpAny _ _ (call (Value.ref 210) _ _) _ _ _); refine use_c (by assumption) (by assumption) (eof_c (Gl.keeps (by assumption) (Fr.keep (by assumption))) (Gd.le (by assumption) (by decide))) ?_; rintro v' h' tk' F' N' e' hv'; (try subst hv'); (try k_sweep); (try dsimp only)))
theorem lines_c {w : World} {mg mb : Str → Option Value} {A : Around} {h : Heap} {ts : List (List Nat × Int)} {x : Str} {t : Tok} (G : Gl w mg mb h) (gd : Gd 3 A) (hx : x.cps.toList = flat ts) (hw : Wf ts) (hl : (flat ts).length ≤ 10000) (ht : ts.length ≤ 10000) :
    Ok w A (call (.ref 257) [.str x t]) (fun v h' => h.StaysIn h' ∧ ∃ own, Frsh h h' own ∧ ∃ P dn n, v = .ref P ∧ own = (P, W.listOf (dn.map fun e : Ln => Value.ref e.1).toArray n) :: dn.map lnO ∧ Rws dn (lnF (ts.map (·.2) ++ [0]))) h := by
  w_on
  have X := G.X
  have T := G.T
  refine' enter (n := 2) [("text", .str x t)] G gd ?k6 ?k7 ?k9 ?kB ?_ ?k10 ?c2 ?c3 ?c4
  case k6 => k_is
  case k7 => k_is
  case k9 => exact fun s _ => BindsTo.of_eq (by with_unfolding_all rfl)
  case kB => exact locs rfl
  case c2 => exact rfl
  case c3 => exact rfl
  case c4 => exact rfl
  case k10 => decide
  intro L h₁ F fr G gd g d tk os Q E q
  have N : News h L h₁ [] := News.nil
  dsimp only [List.reverse, List.reverseAux] at F
  repeat' ((fail_if_success (with_reducible show wpAny _ _ (exec (Stmt.While _ _ _ _) _) _ _ _)); (fail_if_success (with_reducible show wpAny _ _ (exec (Stmt.For _ _ _ _ _) _) _ _ _)); (fail_if_success (with_reducible show wpAny _ _ (pyIter _) _ _ _)); (fail_if_success (with_reducible show wpAny _ _ (eval (Expr.ListComp _ _ _ _) _) _ _ _)); first | walk_at "mine" | walk1 | (dsimp only; walk1))
  refine wpAny_For ?_
  repeat' ((fail_if_success (with_reducible show wpAny _ _ (exec (Stmt.While _ _ _ _) _) _ _ _)); (fail_if_success (with_reducible show wpAny _ _ (exec (Stmt.For _ _ _ _ _) _) _ _ _)); (fail_if_success (with_reducible show wpAny _ _ (pyIter _) _ _ _)); (fail_if_success (with_reducible show wpAny _ _ (eval (Expr.ListComp _ _ _ _) _) _ _ _)); first | walk_at "mine" | walk1 | (dsimp only; walk1))
  refine use_n (by assumption) (by assumption) (symbols_c (G.keeps (Fr.keep (by assumption))) (gd.le (by decide)) hx hw hl ht) ?_
  rintro S _ h2 tk2 F2 N2 - hne ⟨vs, n0, rfl, hI⟩
  generalize hz : ts.map (·.2) ++ [0] = zs at hI ⊢
  have hzl : zs.length ≤ 10001 := by rw [← hz]; simp; omega
  refine' it_list (items := vs.toArray) (fun i l' news => ∃ P C dn cv n1 n2, LJ S vs n0 zs P C dn cv n1 n2 i news ∧ am l' "lines" = some (.ref P) ∧ am l' "line" = some (.ref C)) ?hh ?hl F2 (News.mono N2 ?sub) ?hL ?j0 (fun _ _ => .inl rfl) ?turn ?fin
  case hh => exact Gd.han (by assumption)
  case hl => exact News.isList N2 (.head _)
  case hL => exact (N2 (S, _) (.head _)).2.1
  case j0 => exact ⟨_, _, [], [], 0, 0, ⟨rfl, Nat.ne_of_lt (by assumption), hne _ (.tail _ (.head _)), hne _ (.head _), (fun _ h => nomatch h), trivial, .nil, by simp⟩, am_skip (by kernel_rfl) am_hit, am_hit⟩
  case sub =>
    intro p hp
    rcases List.mem_cons.mp hp with rfl | hp
    · exact .tail _ (.tail _ (.head _))
    rcases List.mem_cons.mp hp with rfl | hp
    · exact .tail _ (.head _)
    rcases List.mem_cons.mp hp with rfl | hp
    · exact .head _
    · exact nomatch hp
  case turn =>
    rintro i v l1 news h3 own I hv ⟨P, C, dn, cv, n1, n2, J, hP, hC⟩ F N hnI ⟨hown, oI, hoI⟩ - g2 d2 tk2 os2 Q2 E2 q2
    obtain ⟨hi, -⟩ := Array.getElem?_eq_some_iff.mp hv
    have hi' : i < zs.length := by rw [← hI.length]; simpa using hi
    obtain ⟨tv, ev⟩ := hI.get i zs[i] (by simp [hi'])
    have hv' : v = .int zs[i] tv := by simpa [ev] using hv.symm
    subst hv'
    have hzi : zs[i]? = some zs[i] := List.getElem?_eq_getElem hi'
    generalize zs[i] = z at hzi ⊢
    have hsz := J.2.2.2.2.2.2.2
    have hPC := J.2.1
    obtain rfl := J.1
    have hoP : ∀ p ∈ own, p.1 ≠ P := fun p hp e => (hown p hp).elim (fun e' => hnI _ (.head _) (e ▸ e')) fun e' => J.2.2.1 (e ▸ e')
    have hoC : ∀ p ∈ own, p.1 ≠ C := fun p hp e => (hown p hp).elim (fun e' => hnI _ (.tail _ (.head _)) (e ▸ e')) fun e' => J.2.2.2.1 (e ▸ e')
    have hPl : ∀ p ∈ dn.map lnO, p.1 ≠ P ∧ p.1 ≠ C := fun p hp => by obtain ⟨e, he, rfl⟩ := List.mem_map.mp hp; exact J.2.2.2.2.1 e he
    repeat' ((fail_if_success (with_reducible show wpAny _ _ (exec (Stmt.While _ _ _ _) _) _ _ _)); (fail_if_success (with_reducible show wpAny _ _ (exec (Stmt.For _ _ _ _ _) _) _ _ _)); (fail_if_success (with_reducible show wpAny _ _ (pyIter _) _ _ _)); (fail_if_success (with_reducible show wpAny _ _ (eval (Expr.ListComp _ _ _ _) _) _ _ _)); first | walk_at "mine" | walk1 | (dsimp only; walk1))
    refine q2 _ _ _ ?_
    intro g3 d3 tk3 os3 Q3 E3 q3
    by_cases hc : z = 0 ∨ z = 13
    · have hc' := hc
      rcases hc' with hc' | hc'
      all_goals
        subst hc'
        repeat' ((fail_if_success (with_reducible show wpAny _ _ (exec (Stmt.While _ _ _ _) _) _ _ _)); (fail_if_success (with_reducible show wpAny _ _ (exec (Stmt.For _ _ _ _ _) _) _ _ _)); (fail_if_success (with_reducible show wpAny _ _ (pyIter _) _ _ _)); (fail_if_success (with_reducible show wpAny _ _ (eval (Expr.ListComp _ _ _ _) _) _ _ _)); first | walk_at "mine" | walk1 | (dsimp only; walk1))
        refine appS (vs := dn.map fun e : Ln => Value.ref e.1) (n := n1) (own ++ (P, W.listOf ((dn.map fun e : Ln => Value.ref e.1) ++ [Value.ref C]).toArray (n1 + 1)) :: (C, W.listOf cv.toArray n2) :: (S, W.listOf vs.toArray n0) :: dn.map lnO) (by assumption) (by assumption) (List.mem_append_right _ (.head _)) (by rw [List.length_map]; omega) ?_ ?_
        · intro p hp
          rcases List.mem_append.mp hp with hp' | hp'
          · exact .inr ⟨List.mem_append_left _ hp', hoP p hp'⟩
          rcases List.mem_cons.mp hp' with rfl | hp'
          · exact .inl rfl
          refine .inr ⟨List.mem_append_right _ (.tail _ hp'), ?_⟩
          rcases List.mem_cons.mp hp' with rfl | hp'
          · exact fun e => hPC e.symm
          rcases List.mem_cons.mp hp' with rfl | hp'
          · exact fun e => J.2.2.1 e.symm
          · exact (hPl p hp').1
        intro h5 F5 N5
        dsimp only
        repeat' ((fail_if_success (with_reducible show wpAny _ _ (exec (Stmt.While _ _ _ _) _) _ _ _)); (fail_if_success (with_reducible show wpAny _ _ (exec (Stmt.For _ _ _ _ _) _) _ _ _)); (fail_if_success (with_reducible show wpAny _ _ (pyIter _) _ _ _)); (fail_if_success (with_reducible show wpAny _ _ (eval (Expr.ListComp _ _ _ _) _) _ _ _)); first | walk_at "mine" | walk1 | (dsimp only; walk1))
        rename_i C' _ l1' _ _ N'
        obtain ⟨news', J', N', hI'⟩ := J.cut hzi hc hnI (Nat.ne_of_gt (l1' (I, oI) (List.mem_append_left _ hoI))) N' l1'
        exact q3 _ _ _ ⟨_, news', ⟨_, _, _, _, _, _, J', am_skip (by kernel_rfl) (am_skip (by kernel_rfl) hP), am_hit⟩, by assumption, N', hI'⟩
    · have hsub (b : List (Addr × Obj)) (x : Value) : ∀ p ∈ own ++ (P, W.listOf (dn.map fun e : Ln => Value.ref e.1).toArray n1) :: (C, W.listOf (cv ++ [x]).toArray (n2 + 1)) :: (S, W.listOf vs.toArray n0) :: dn.map lnO, p = (C, W.listOf (cv ++ [x]).toArray (n2 + 1)) ∨ p ∈ own ++ (P, W.listOf (dn.map fun e : Ln => Value.ref e.1).toArray n1) :: (C, W.listOf cv.toArray n2) :: (S, W.listOf vs.toArray n0) :: dn.map lnO ∧ p.1 ≠ C := by
        intro p hp
        rcases List.mem_append.mp hp with hp' | hp'
        · exact .inr ⟨List.mem_append_left _ hp', hoC p hp'⟩
        rcases List.mem_cons.mp hp' with rfl | hp'
        · exact .inr ⟨List.mem_append_right _ (.head _), hPC⟩
        rcases List.mem_cons.mp hp' with rfl | hp'
        · exact .inl rfl
        refine .inr ⟨List.mem_append_right _ (.tail _ (.tail _ hp')), ?_⟩
        rcases List.mem_cons.mp hp' with rfl | hp'
        · exact fun e => J.2.2.2.1 e.symm
        · exact (hPl p hp').2
      have hz0 : ¬ z = 0 := fun e => hc (.inl e)
      have hz13 : ¬ z = 13 := fun e => hc (.inr e)
      by_cases h256 : z < 256
      all_goals
        repeat' ((fail_if_success (with_reducible show wpAny _ _ (exec (Stmt.While _ _ _ _) _) _ _ _)); (fail_if_success (with_reducible show wpAny _ _ (exec (Stmt.For _ _ _ _ _) _) _ _ _)); (fail_if_success (with_reducible show wpAny _ _ (pyIter _) _ _ _)); (fail_if_success (with_reducible show wpAny _ _ (eval (Expr.ListComp _ _ _ _) _) _ _ _)); first | walk_at "mine" | walk1 | (dsimp only; walk1))
        any_goals (try exact absurd (by with_reducible assumption) hz13)
        refine appS (vs := cv) (n := n2) _ (by assumption) (by assumption) (List.mem_append_right _ (.tail _ (.head _))) (by omega) (hsub [] _) ?_
        intro h5 F5 N5
        dsimp only
        repeat' ((fail_if_success (with_reducible show wpAny _ _ (exec (Stmt.While _ _ _ _) _) _ _ _)); (fail_if_success (with_reducible show wpAny _ _ (exec (Stmt.For _ _ _ _ _) _) _ _ _)); (fail_if_success (with_reducible show wpAny _ _ (pyIter _) _ _ _)); (fail_if_success (with_reducible show wpAny _ _ (eval (Expr.ListComp _ _ _ _) _) _ _ _)); first | walk_at "mine" | walk1 | (dsimp only; walk1))
        obtain ⟨news', J', N', hI'⟩ := J.add (by first | exact if_pos h256 | exact if_neg h256) hzi hc hnI N5
        exact q3 _ _ _ ⟨_, news', ⟨_, _, _, _, _, _, J', am_skip (by kernel_rfl) hP, am_skip (by kernel_rfl) hC⟩, by assumption, N', hI'⟩
  case fin =>
    rintro l1 news h3 tk3 ⟨P, C, dn, cv, n1, n2, ⟨rfl, hPC, hPS, hCS, hdn, hR, hcv, hsz⟩, hP, hC⟩ F N
    repeat' ((fail_if_success (with_reducible show wpAny _ _ (exec (Stmt.While _ _ _ _) _) _ _ _)); (fail_if_success (with_reducible show wpAny _ _ (exec (Stmt.For _ _ _ _ _) _) _ _ _)); (fail_if_success (with_reducible show wpAny _ _ (pyIter _) _ _ _)); (fail_if_success (with_reducible show wpAny _ _ (eval (Expr.ListComp _ _ _ _) _) _ _ _)); first | walk_at "mine" | walk1 | (dsimp only; walk1))
    refine q _ _ _ ⟨F.keep, (P, W.listOf (dn.map fun e : Ln => Value.ref e.1).toArray n1) :: dn.map lnO, ?_, P, dn, n1, rfl, rfl, ?_⟩
    · exact Frsh.of (News.mono N fun p hp => by
        rcases List.mem_cons.mp hp with rfl | hp
        · exact .head _
        · exact .tail _ (.tail _ (.tail _ hp)))
    · rw [List.size_toArray, hI.length, List.take_length] at hR
      rw [hz]
      exact hR
end Mine
namespace Mine
/-- a piece of code ends in a value and a heap of which P is so -/
noncomputable def Cd (w : World) (A : Around) (c : Code) (P : Value → Heap → Prop) (h : Heap) : Prop :=
  ∀ (g : Array GenState) (d : Drawn) (tk : Nat) (os : OsState) (R : Result → Shared → Prop), (∀ v h' tk', P v h' → R (.ok (.ret v)) ⟨h', g, d, tk', os⟩) → codeAny (model prM w) A c R ⟨h, g, d, tk, os⟩
/-- the ledger of objects above a base -/
noncomputable def Hid (base h : Heap) (own : List (Addr × Obj)) : Prop := base.StaysIn h ∧ base.objs.size ≤ h.objs.size ∧ ∀ p ∈ own, h.get? p.1 = some p.2 ∧ base.get? p.1 = none
section
variable {w : World} {mg mb : Str → Option Value} {A : Around} {h base : Heap} {P : Value → Heap → Prop} {own : List (Addr × Obj)}
  {name qual : Str} {params : Arguments} {body : List Stmt} {scope : Scope} {dV kV doc pm cdv ct oc : Value} {an od : Option Addr} {osl : Array (Option Value)} {f : Addr} {pos : List Value} {kw : List (Str × Value)} {n : Nat}
theorem Cd.call {fv : Value} (x : Cd w A (.call fv ⟨pos, kw⟩) P h) : Ok w A (call fv pos kw) P h := fun g d tk os Q E q => wpAny_call (x g d tk os _ fun v h' tk' p => q v h' tk' p)

theorem Hid.none_L (H : Hid base h own) : base.get? h.objs.size = none := by
  cases e : base.get? h.objs.size with
  | none => rfl
  | some o => exact absurd (Heap.lt_size e) (Nat.not_lt.mpr H.2.1)

theorem enterH (binds : List (Str × Value)) (G : Gl w mg mb base) (H : Hid base h own) (gd : Gd (n + 1) A) (ho : (KM w.params).lookup f = some ⟨oc, od, .func (fnOf name qual params body scope dV kV doc pm an cdv ct), osl⟩) (hcd : codeIn (KM w.params) cdv qual = true)
    (hbind : ∀ s : Shared, s.heap = h → BindsTo s (fnOf name qual params body scope dV kV doc pm an cdv ct) ⟨pos, kw⟩ binds) (hloc : ∀ y ∈ binds, scope.names.lookup y.1 = some .local)
    (hb : ∀ L h₁, Fr base L h₁ (am binds.reverse) → News base L h₁ own → base.get? L = none → Gl w mg mb base → Gd n (A.deeper (envX qual scope L f cdv [])) → Ok w (A.deeper (envX qual scope L f cdv [])) (execs body (envX qual scope L f cdv [])) (fun fl h' => P (fv fl) h') h₁)
    (hcell : ∀ x ∈ scope.names, x.2 ≠ .cell) (hco : scope.isCoroutine = false := by rfl) (hgen : scope.isGenerator = false := by rfl) (hk : scope.kind = .function := by rfl) :
    Cd w A (.call (.ref f) ⟨pos, kw⟩) P h := fun g d tk os R q => by
  have G' := G.keeps H.1
  refine codeAny_call_def (fd := fnOf name qual params body scope dV kV doc pm an cdv ct) (body := body) (binds := binds) gd.room (G'.X _ _ ho) rfl G'.T.nolimit (codeRec_of G'.X hcd) rfl (hbind _ rfl) hcell hloc (fun h₁ hns hk₁ => ?_) hco hgen hk
  exact wpAny_mono (hb h.objs.size h₁ ⟨hns, fun b o e => hk₁ b o (H.1 b o e), H.2.1⟩ (fun p hp => ⟨hk₁ _ _ (H.2.2 p hp).1, Nat.ne_of_lt (Heap.lt_size (H.2.2 p hp).1), (H.2.2 p hp).2⟩) H.none_L G gd.deeper g d _ os (fun fl s' => R (.ok (.ret (fv fl))) s') (fun e s' => wpAny (model prM w) (A.deeper (envX qual scope h.objs.size f cdv [])) (leaving (envX qual scope h.objs.size f cdv []) e) (fun _ s'' => R (.error e) s'') (fun e' s'' => R (.error e') s'') s') fun v h' tk' p => q _ _ _ p) (fun fl s' x => by cases fl <;> exact x) fun e s' x => x

theorem enterHC (binds : List (Str × Value)) (G : Gl w mg mb base) (H : Hid base h own) (gd : Gd (n + 1) A) (ho : (KM w.params).lookup f = some ⟨oc, od, .func (fnOf name qual params body scope dV kV doc pm an cdv ct), osl⟩) (hcd : codeIn (KM w.params) cdv qual = true)
    (hbind : ∀ s : Shared, s.heap = h → BindsTo s (fnOf name qual params body scope dV kV doc pm an cdv ct) ⟨pos, kw⟩ binds)
    (hkind : (binds.all fun y => scope.names.lookup y.1 == some .local || scope.names.lookup y.1 == some .cell) = true) (hnd : ((cellsFrom 0 scope.names []).map (·.1)).Nodup)
    (hb : ∀ L h₁ cells, Fr base L h₁ (bindL (envOfC qual scope L f cdv).kindOf binds fun _ => none) → News base L h₁ (cells ++ own) → (∀ p ∈ cells, ∀ q ∈ own, p.1 ≠ q.1) → CellsAre (bindC (envOfC qual scope L f cdv).kindOf binds fun _ => none) (cellsFrom (L + 1) scope.names []) cells → base.get? L = none → Gl w mg mb base → Gd n (A.deeper (envOfC qual scope L f cdv)) →
      Ok w (A.deeper (envOfC qual scope L f cdv)) (execs body (envOfC qual scope L f cdv)) (fun fl h' => P (fv fl) h') h₁)
    (hco : scope.isCoroutine = false := by rfl) (hgen : scope.isGenerator = false := by rfl) (hk : scope.kind = .function := by rfl) :
    Cd w A (.call (.ref f) ⟨pos, kw⟩) P h := fun g d tk os R q => by
  have G' := G.keeps H.1
  refine codeAny_call_function gd.room (G'.X _ _ ho) rfl hco hgen rfl (codeRec_of G'.X hcd) (hbind _ rfl _ _ _ _ ?_)
  refine wpAny_newFunctionEnv_cells hk (kindsX hkind _) fun env' he s' x => ?_
  subst he
  refine ⟨G'.T.nolimit.keeps x.toInCall.keep, codeAny_func ?_⟩
  obtain ⟨h₁, tk, rfl, _⟩ := x.done
  have hk₁ := x.toInCall.keep
  obtain ⟨cells, NC, Y⟩ := Cl.news (h₀ := h) (Nat.le_refl _) fun n c hm => ⟨x.cell n c (lookup_of_mem_nodup (cellsFrom_names scope.names 0 (h.objs.size + 1) [] [] rfl ▸ hnd) hm), x.above n c hm⟩
  have no : ∀ {b}, h.get? b = none → base.get? b = none := fun {b} e => by
    cases e0 : base.get? b with
    | none => rfl
    | some o => rw [H.1 _ _ e0] at e; cases e
  exact wpAny_mono (hb h.objs.size h₁ cells ⟨x.toInCall.ns, fun b o e => hk₁ b o (H.1 b o e), H.2.1⟩ (fun p hp => by
      rcases List.mem_append.mp hp with hp | hp
      · exact ⟨(NC p hp).1, (NC p hp).2.1, no (NC p hp).2.2⟩
      · exact ⟨hk₁ _ _ (H.2.2 p hp).1, Nat.ne_of_lt (Heap.lt_size (H.2.2 p hp).1), (H.2.2 p hp).2⟩) (fun p hp q hq e => by have := (NC p hp).2.2; rw [e, (H.2.2 q hq).1] at this; cases this) Y H.none_L G gd.deeper g d _ os (fun fl s' => R (.ok (.ret (fv fl))) s') (fun e s' => wpAny (model prM w) (A.deeper (envOfC qual scope h.objs.size f cdv)) (leaving (envOfC qual scope h.objs.size f cdv) e) (fun _ s'' => R (.error e) s'') (fun e' s'' => R (.error e') s'') s') fun v h' tk' p => q _ _ _ p) (fun fl s' x => by cases fl <;> exact x) fun e s' x => x
end

/-- the ledger's objects out of sight: a base for a call that may turn them -/
theorem Hid.of {h₀ h : Heap} {L : Addr} {own news : List (Addr × Obj)} (N : News h₀ L h (own ++ news)) : Hid (hideAll h (own.map (·.1))) h own :=
  ⟨fun _ _ e => of_hideAll _ e, Nat.le_of_eq (hideAll_size _ _), fun p hp => ⟨(N p (List.mem_append_left _ hp)).1, hideAll_none _ (List.mem_map_of_mem hp)⟩⟩
theorem hid_gl {w : World} {mg mb : Str → Option Value} {h₀ h : Heap} {L : Addr} {m : Str → Option Value} {own news : List (Addr × Obj)} (G : Gl w mg mb h₀) (F : Fr h₀ L h m) (N : News h₀ L h (own ++ news)) : Gl w mg mb (hideAll h (own.map (·.1))) :=
  G.keeps fun b o e => hideAll_get _ (F.keep b o e) fun q => by
    obtain ⟨p, hp, rfl⟩ := List.mem_map.mp q
    rw [(N p (List.mem_append_left _ hp)).2.2] at e; cases e
section
variable {w : World} {A : Around} {h h₀ : Heap} {L : Addr} {m : Str → Option Value} {own news : List (Addr × Obj)} {t : Sem Value} {R : Value → List (Addr × Obj) → Prop} {g : Array GenState} {d : Drawn} {tk : Nat} {os : OsState} {Q : Value → Shared → Prop} {E : Value → Shared → Prop}
/-- after such a call: the ledger is own', all else stands -/
theorem hid_back {h' : Heap} {own' : List (Addr × Obj)} (F : Fr h₀ L h m) (N : News h₀ L h (own ++ news)) (hd : ∀ p ∈ own, ∀ q ∈ news, p.1 ≠ q.1) (k : (hideAll h (own.map (·.1))).StaysIn h') (n : ∀ p ∈ own', h'.get? p.1 = some p.2 ∧ (hideAll h (own.map (·.1))).get? p.1 = none) :
    Fr h₀ L h' m ∧ News h₀ L h' (own' ++ news) ∧ ∀ p ∈ own', ∀ q ∈ news, p.1 ≠ q.1 := by
  obtain ⟨oL, es, ep, hL, r⟩ := F.ns
  have nL : L ∉ own.map (·.1) := fun q => by
    obtain ⟨p, hp, e⟩ := List.mem_map.mp q
    exact (N p (List.mem_append_left _ hp)).2.1 e
  have n0 : ∀ b o, h₀.get? b = some o → b ∉ own.map (·.1) := fun b o e q => by
    obtain ⟨p, hp, rfl⟩ := List.mem_map.mp q
    rw [(N p (List.mem_append_left _ hp)).2.2] at e; cases e
  have nn : ∀ q ∈ news, q.1 ∉ own.map (·.1) := fun q hq e => by
    obtain ⟨p, hp, e⟩ := List.mem_map.mp e
    exact hd p hp q hq e
  have hL' := hideAll_get _ hL nL
  refine ⟨⟨⟨oL, es, ep, k _ _ hL', r⟩, fun b o e => k _ _ (hideAll_get _ (F.keep b o e) (n0 b o e)), F.above⟩, fun p hp => ?_, fun p hp q hq e => ?_⟩
  · rcases List.mem_append.mp hp with hp | hp
    · refine ⟨(n p hp).1, fun q => ?_, ?_⟩
      · have := (n p hp).2
        rw [show p.1 = L from q, hL'] at this; cases this
      · cases e : h₀.get? p.1 with
        | none => rfl
        | some o => have := (n p hp).2; rw [hideAll_get _ (F.keep _ _ e) (n0 _ _ e)] at this; cases this
    · have P := N p (List.mem_append_right _ hp)
      exact ⟨k _ _ (hideAll_get _ P.1 (nn p hp)), P.2⟩
  · have P := N q (List.mem_append_right _ hq)
    have := (n p hp).2
    rw [e, hideAll_get _ P.1 (nn q hq)] at this; cases this
theorem use_h (F : Fr h₀ L h m) (N : News h₀ L h (own ++ news)) (hd : ∀ p ∈ own, ∀ q ∈ news, p.1 ≠ q.1) (x : Ok w A t (fun v h' => (hideAll h (own.map (·.1))).StaysIn h' ∧ ∃ own', (∀ p ∈ own', h'.get? p.1 = some p.2 ∧ (hideAll h (own.map (·.1))).get? p.1 = none) ∧ R v own') h)
    (q : ∀ v own' h' tk', Fr h₀ L h' m → News h₀ L h' (own' ++ news) → (∀ p ∈ own', ∀ q ∈ news, p.1 ≠ q.1) → R v own' → Q v ⟨h', g, d, tk', os⟩) : wpAny (model prM w) A t Q E ⟨h, g, d, tk, os⟩ :=
  x.use fun v h' tk' p => by
    obtain ⟨k, own', n, hR⟩ := p
    obtain ⟨F', N', d'⟩ := hid_back F N hd k n
    exact q v own' h' tk' F' N' d' hR
end
end Mine
namespace Mine
open Builtin Builtin.Re
namespace Rx
theorem slot : Slot "re.Pattern" "search" "re.Pattern.search" :=
  .of (owner := "re.Pattern") (n := "search") (by rw [typeLookup_type, builtinLookup_eq_fast]; kernel_rfl) (by decide +kernel) (by decide +kernel) (by decide +kernel)
    (by first | exact .inl (by decide +kernel) | exact .inr (by decide +kernel)) (by rw [isSubtype_type]; kernel_rfl)
theorem type : typeOf (.builtin "re.Pattern.search") = pure (.type "method_descriptor") := by show builtinType _ = _; rw [builtinType_eq_fast]; kernel_rfl
theorem entry : entryFor table "re.Pattern.search" = some Builtin.«re.Pattern.search» := entryFor_of_tree (by kernel_rfl)
theorem args (a b : Value) : argsOk "re.Pattern.search" ⟨[a, b], []⟩ := by
  unfold argsOk; kernel_rfl
/-- the two sets of signs -/
noncomputable def c47 : Array Nat := #[14, 10, 4, 1, 1, 22, 0, 31, 16, 127, 0, 13, 7, 22, 0, 31, 16, 127, 0, 1]
noncomputable def c52 : Array Nat := #[14, 14, 4, 1, 1, 9, 4294966783, 0, 0, 2147483648, 0, 0, 0, 0, 0, 13, 11, 9, 4294966783, 0, 0, 2147483648, 0, 0, 0, 0, 0, 1]
theorem in47_eq (c : Nat) (seen : Sre.Seen) : Sre.inSet c47 c 20 5 true seen = if (decide (0 ≤ c) && decide (c ≤ 31)) = true then .ok (true, seen.add 22) else if (c == 127) = true then .ok (true, (seen.add 22).add 16) else .ok (false, ((seen.add 22).add 16).add 0) := by kernel_rfl
theorem in52_eq (c : Nat) (seen : Sre.Seen) : Sre.inSet c52 c 28 5 true seen = if (decide (c < 256) && (c52.getD (5 + (1 + c / 32)) 0).testBit (c % 32)) = true then .ok (true, seen.add 9) else .ok (false, (seen.add 9).add 0) := by kernel_rfl
theorem in47 {c : Nat} (h : letter c) (seen : Sre.Seen) : ∃ s', Sre.inSet c47 c c47.size 5 true seen = .ok (false, s') := by
  refine ⟨((seen.add 22).add 16).add 0, (in47_eq c seen).trans ?_⟩
  unfold letter at h
  rw [if_neg (by simp; omega), if_neg (by simp; omega)]
theorem in52_t : ∀ c, c < 128 → ((65 ≤ c ∧ c ≤ 80) ∨ (97 ≤ c ∧ c ≤ 112)) → (decide (c < 256) && (c52.getD (5 + (1 + c / 32)) 0).testBit (c % 32)) = false := by decide +kernel
theorem in52 {c : Nat} (h : letter c) (seen : Sre.Seen) : ∃ s', Sre.inSet c52 c c52.size 5 true seen = .ok (false, s') := by
  refine ⟨(seen.add 9).add 0, (in52_eq c seen).trans ?_⟩
  rw [if_neg (by rw [in52_t c (by unfold letter at h; omega) h]; exact Bool.false_ne_true)]
theorem admitted {m : Sre.M} (hc : ∀ c, letter c → ∀ seen, ∃ s', Sre.inSet m.code c m.code.size 5 true seen = .ok (false, s')) (ht : ∀ i, i < m.lim → letter (m.text.getD i 0)) : ∀ (fuel s : Nat) (seen : Sre.Seen), ∃ s', m.admitted fuel s seen = .ok (none, s')
  | 0, s, seen => ⟨seen, rfl⟩
  | fuel + 1, s, seen => by
    unfold Sre.M.admitted
    by_cases h : s ≥ m.lim
    · exact ⟨seen, if_pos h⟩
    · rw [if_neg h]
      obtain ⟨s', e⟩ := hc _ (ht s (by omega)) seen
      rw [e]
      exact admitted hc ht fuel (s + 1) s'
theorem loop {M : Model} {A : Around} {E : Value → Shared → Prop} {α : Type} {f : α → PUnit → Sem (ForInStep PUnit)} (hf : ∀ (i : α) (s : Shared) (Q : ForInStep PUnit → Shared → Prop), Q (.yield ⟨⟩) s → wpAny M A (f i ⟨⟩) Q E s) :
    ∀ (l : List α) (s : Shared) (Q : PUnit → Shared → Prop), Q ⟨⟩ s → wpAny M A (forIn l PUnit.unit f) Q E s
  | [], s, Q, q => wpAny_pure q
  | a :: l, s, Q, q => by
    rw [List.forIn_cons]
    exact wpAny_bind (hf a s _ (loop hf l s Q q))
/-- a machine that has said no -/
noncomputable def No (m : Sre.M) : Prop := m.answer = some false ∧ m.frames = [] ∧ m.outcome = none
theorem drive {A : Around} {E : Value → Shared → Prop} {s : Shared} {m : Sre.M} {Q : Option Sre.M → Shared → Prop} {M : Model} (h : No m) (q : Q none s) : wpAny M A (reRunToEnd m) Q E s := by
  obtain ⟨h1, h2, h3⟩ := h
  unfold reRunToEnd
  have e : reDrive (2 ^ 64) m = pure { m with outcome := some .failed } := by
    rw [show (2 : Nat) ^ 64 = (2 ^ 64 - 1) + 1 from rfl, reDrive]
    have e1 : m.runFor reTurnSteps = { m with outcome := some .failed } := by
      show Sre.M.runFor 4 m = _
      have e0 : m.step = { m with outcome := some .failed } := by
        unfold Sre.M.step
        rw [h3, h1, h2]
        rfl
      rw [Sre.M.runFor, h3, e0]
      rfl
    rw [e1]
    rfl
  rw [e]
  refine wpAny_bind (wpAny_pure ?_)
  refine wpAny_bind (loop (fun i s Q q => ?_) _ _ _ ?_)
  · dsimp only
    split
    · exact wpAny_bind (wpAny_rule (wpAny_pure q))
    · exact wpAny_pure q
  · exact wpAny_pure q
/-- nothing of such a set stands in a text of letters -/
theorem no {code text : Array Nat} (hc : ∀ c, letter c → ∀ seen, ∃ s', Sre.inSet code c code.size 5 true seen = .ok (false, s')) (ht : ∀ i, i < text.size → letter (text.getD i 0)) (h0 : Sre.ops[code.getD 0 0]? = some .INFO) (h1 : code.getD 2 0 = 4) (h2 : (Sre.header code).1 = 1) :
    No (Sre.forSearch code text 0 0 text.size false) := by
  unfold Sre.forSearch
  dsimp only
  rw [h2]
  split
  · exact ⟨rfl, rfl, rfl⟩
  · have key : ∀ m : Sre.M, m.code = code → m.text = text → m.lim = text.size → m.frames = [] → m.outcome = none → No (m.attemptFrom 0 true) := by
      intro m e1 e2 e3 e4 e5
      unfold Sre.M.attemptFrom
      have hf : m.hasFirstSet = true := by
        unfold Sre.M.hasFirstSet
        rw [e1, h0, h1]
        rfl
      rw [hf]
      obtain ⟨s', e⟩ := admitted (m := m) (by rw [e1]; exact hc) (by rw [e2, e3]; exact ht) (m.lim + 1 - 0) 0 m.seen
      rw [if_neg (by decide), e]
      exact ⟨rfl, e4, e5⟩
    exact key _ rfl rfl rfl rfl rfl
section
variable {prog : Program} {w : World} {A : Around} {E : Value → Shared → Prop} {s : Shared} {x : Str} {t : Tok} {Q : Value → Shared → Prop} {p cs : Addr} {codes : List Nat}
noncomputable def patO (src : Value) (cs : Addr) : Obj := ⟨.type "re.Pattern", none, .fields #[src, .int 32 0, .int 0 0, .none, .none, .ref cs, .int 0 0], #[]⟩
theorem search_eq {a b : Value} : «re.Pattern.search» ⟨[a, b], []⟩ = (reTarget "re.Pattern.search" "search" ⟨[a, b], []⟩ >>= fun t => reAnswer t (Sre.forSearch t.code t.text t.groups t.pos t.lim false)) := rfl
theorem named_eq {v : Value} : reNamed "re.Pattern.search" "search" ["string", "pos", "endpos"] 1 [v] [] = pure [some v, none, none] := by kernel_rfl
theorem text_eq : reTextOf (.str x t) = pure (x.cps, 0) := by kernel_rfl
theorem target {M : Model} {Q : ReTarget → Shared → Prop} {src : Value} {i1 i2 i3 : Tok} {sl : Array (Option Value)} {n : Nat} {its : Array Value} (ho : s.heap.get? p = some ⟨.type "re.Pattern", none, .fields #[src, .int 32 i1, .int 0 i2, .none, .none, .ref cs, .int 0 i3], sl⟩)
    (hc : s.heap.get? cs = some ⟨.type "tuple", none, .seq its n, #[]⟩) (q : Q { pattern := .ref p, string := .str x t, code := (its.map reRawOf).map (·.toNat), text := x.cps, kind := 0, groups := 0, pos := 0, lim := x.cps.size } s) (hx : x.cps.size ≤ 1000000) :
    wpAny M A (reTarget "re.Pattern.search" "search" ⟨[.ref p, .str x t], []⟩) Q E s := by
  unfold reTarget
  dsimp only
  rw [named_eq]
  refine wpAny_bind (wpAny_pure ?_)
  dsimp only
  refine wpAny_bind (wpAny_pure ?_)
  refine wpAny_bind (wpAny_pure ?_)
  refine wpAny_bind (wpAny_fieldsOf ho rfl ?_)
  rw [text_eq]
  refine wpAny_bind (wpAny_pure ?_)
  dsimp only
  refine wpAny_ite (KBy.ite_no (show ¬ ((false : Bool) = true) from Bool.false_ne_true) ?_)
  refine wpAny_ite (KBy.ite_no (show ¬ ((false : Bool) = true) from Bool.false_ne_true) ?_)
  refine wpAny_bind (wpAny_pure ?_)
  refine wpAny_bind ?_
  unfold reRawItems
  refine wpAny_bind (wpAny_seqItems hc rfl (wpAny_pure (wpAny_pure ?_)))
  have e1 : min (2 ^ 63 - 1 : Int).toNat x.cps.size = x.cps.size := Nat.min_eq_right (by omega)
  have e2 : min (0 : Int).toNat x.cps.size = 0 := Nat.min_eq_left (Nat.zero_le _)
  rw [e1, e2]
  exact q
theorem meets (code : List Nat) {src : Value} {i1 i2 i3 : Tok} {n : Nat} {its : Array Value} (he : ((its.map reRawOf).map (·.toNat)) = code.toArray) (hc : ∀ c, letter c → ∀ seen, ∃ s', Sre.inSet code.toArray c code.toArray.size 5 true seen = .ok (false, s')) (h0 : Sre.ops[code.toArray.getD 0 0]? = some .INFO) (h1 : code.toArray.getD 2 0 = 4) (h2 : (Sre.header code.toArray).1 = 1) (ht : ∀ c ∈ x.cps.toList, letter c) (hx : x.cps.size ≤ 1000000) :
    Meets («re.Pattern.search» ⟨[.ref p, .str x t], []⟩) (fun _ R s => s.heap.get? p = some ⟨.type "re.Pattern", none, .fields #[src, .int 32 i1, .int 0 i2, .none, .none, .ref cs, .int 0 i3], #[]⟩ ∧ s.heap.get? cs = some ⟨.type "tuple", none, .seq its n, #[]⟩ ∧ R (.ok (.ret .none)) s) := by
  refine .of_wp fun prog w A R s hS => ?_
  obtain ⟨ho, hcs, h⟩ := hS
  rw [search_eq]
  refine wpAny_bind (target ho hcs ?_ hx)
  unfold reAnswer
  dsimp only
  rw [he]
  refine wpAny_bind (drive (no hc (fun i hi => ?_) h0 h1 h2) ?_)
  · rw [Array.getD_eq_getD_getElem?, Array.getElem?_eq_getElem hi]
    exact ht _ (Array.mem_toList_iff.mpr (Array.getElem_mem hi))
  · exact wpAny_pure ⟨_, rfl, h⟩
theorem search (code : List Nat) {src : Value} {i1 i2 i3 : Tok} {n : Nat} {its : Array Value} (he : ((its.map reRawOf).map (·.toNat)) = code.toArray) (hc : ∀ c, letter c → ∀ seen, ∃ s', Sre.inSet code.toArray c code.toArray.size 5 true seen = .ok (false, s')) (h0 : Sre.ops[code.toArray.getD 0 0]? = some .INFO) (h1 : code.toArray.getD 2 0 = 4) (h2 : (Sre.header code.toArray).1 = 1) (ht : ∀ c ∈ x.cps.toList, letter c) (hx : x.cps.size ≤ 1000000)
    (ho : s.heap.get? p = some ⟨.type "re.Pattern", none, .fields #[src, .int 32 i1, .int 0 i2, .none, .none, .ref cs, .int 0 i3], #[]⟩) (hcs : s.heap.get? cs = some ⟨.type "tuple", none, .seq its n, #[]⟩) (q : Q .none s) :
    wpAny (model prog w) A (call (.builtin "re.Pattern.search") [.ref p, .str x t]) Q E s :=
  call_meets slot ⟨_, ho, rfl⟩ entry (args _ _) (meets code he hc h0 h1 h2 ht hx) ⟨ho, hcs, q⟩
end
section
variable {w : World} {A : Around} {E : Value → Shared → Prop} {s : Shared} {x : Str} {t : Tok} {Q : Value → Shared → Prop}
theorem plain : PlainAttrs "re.Pattern" :=
  ⟨⟨"object.__getattribute__", by rw [typeLookup_type, builtinLookup_eq_fast]; kernel_rfl, by decide +kernel⟩, by rw [typeLookup_type, builtinLookup_eq_fast]; kernel_rfl⟩
theorem method {a : Addr} {M : Model} {pl : Sem Bool} {Q : Value × List Value → Shared → Prop} {o : Obj} (ho : s.heap.get? a = some o) (hc : o.cls = .type "re.Pattern") (hd : o.dict = none) (h : Q (.builtin "re.Pattern.search", [.ref a]) s) : wpAny M A (getMethod (.ref a) "search" pl) Q E s :=
  getMethod_builtin ⟨o, ho, hc⟩ plain slot type (fun b e => by cases e; exact ⟨o, ho, hd⟩) h
theorem search48 (X : (KM w.params).In s.heap) (ht : ∀ c ∈ x.cps.toList, letter c) (hx : x.cps.size ≤ 1000000) (q : Q .none s) : wpAny (model prM w) A (call (.builtin "re.Pattern.search") [.ref 48, .str x t]) Q E s :=
  search c47.toList (cs := 47) (by kernel_rfl) (fun c h seen => in47 h seen) (by kernel_rfl) (by kernel_rfl) (by kernel_rfl) ht hx (X 48 _ rfl) (X 47 _ rfl) q
theorem search53 (X : (KM w.params).In s.heap) (ht : ∀ c ∈ x.cps.toList, letter c) (hx : x.cps.size ≤ 1000000) (q : Q .none s) : wpAny (model prM w) A (call (.builtin "re.Pattern.search") [.ref 53, .str x t]) Q E s :=
  search c52.toList (cs := 52) (by kernel_rfl) (fun c h seen => in52 h seen) (by kernel_rfl) (by kernel_rfl) (by kernel_rfl) ht hx (X 53 _ rfl) (X 52 _ rfl) q
end
end Rx
end Mine
namespace Mine
local macro_rules | `(tactic| walk_at "lk") => `(tactic| first | with_reducible exact am_hit | (with_reducible refine am_skip (by kernel_rfl) ?_; walk_at "lk") | assumption)
local macro_rules | `(tactic| walk_at "eval Name") => `(tactic| (k_dflt (refine' nameX_L ?F ?v ?_ ?a ?b; (case F => first | with_reducible assumption | assumption); (case a => rfl); (case b => rfl); (case v => walk_at "lk"); k_whole)))
local macro_rules | `(tactic| walk_at "storeName") => `(tactic| (k_dflt (refine' stM ?F ?N ?_ ?a ?b; (case F => first | with_reducible assumption | assumption); (case N => first | with_reducible assumption | assumption); (case a => rfl); (case b => rfl); k_whole); intro h' F' N'; (try k_sweep); (try dsimp only)))
local macro_rules | `(tactic| walk_at "subscriptTail") => `(tactic| ((with_reducible show wpAny _ _ (subscriptTail _ _ (Value.ref _) (Value.int _ _)) _ _ _); k_dflt (refine' pickT ?t ?i ?a ?b ?z ?_ ?s; (case t => exact News.isTup (by k_asm) (by k_mem)); (case i => l_ints); (case a => l_idx); (case b => l_idx); (case z => decide); (case s => with_unfolding_all rfl); k_whole); intro t'))
local macro_rules | `(tactic| walk_at "assign Tuple") => `(tactic| ((with_reducible show wpAny _ _ (assign (Expr.Tuple _ _ _) _ (Value.ref _)) _ _ _); k_dflt (refine' unpackN_ ?F ?N ?T ?hh ?k2 ?k3 ?_; (case F => k_asm); (case N => k_asm); (case T => exact News.isTup (by k_asm) (by k_mem)); (case hh => exact Gd.han (by assumption)); (case k2 => exact rfl); (case k3 => exact rfl)); intro h' F' N'; (try k_sweep); (try dsimp only)))

theorem fill_R2 : PySem.Challenge.rw_wf0080_01 = PySem.Challenge.rw_wf0080_01 ∧ KM = KM := by
  w_on
  k_fill
  exact ⟨rfl, rfl⟩

local macro_rules | `(tactic| walk_at "mine") => `(tactic| first | ((with_reducible show wpAny _ _ (getMethod (Value.ref 48) _ _) _ _ _); refine Rx.method (Frag.In.keeps (Gl.X (by assumption)) (Fr.keep (by assumption)) 48 _ rfl) rfl rfl ?_) | ((with_reducible show wpAny _ _ (getMethod (Value.ref 53) _ _) _ _ _); refine Rx.method (Frag.In.keeps (Gl.X (by assumption)) (Fr.keep (by assumption)) 53 _ rfl) rfl rfl ?_) | ((with_reducible show wpAny _ _ (call (Value.builtin "re.Pattern.search") [Value.ref 48, _]) _ _ _); refine Rx.search48 (Frag.In.keeps (Gl.X (by assumption)) (Fr.keep (by assumption))) (by assumption) (by assumption) ?_) | ((with_reducible show wpAny _ _ (call (Value.builtin "re.Pattern.search") [Value.ref 53, _]) _ _ _); refine Rx.search53 (Frag.In.keeps (Gl.X (by assumption)) (Fr.keep (by assumption))) (by assumption) (by assumption) ?_))
theorem conv_c {w : World} {mg mb : Str → Option Value} {A : Around} {h : Heap} {a : Value} {x : Str} {t : Tok} {b : Bool} (G : Gl w mg mb h) (gd : Gd 1 A) (hx : ∀ c ∈ x.cps.toList, letter c) (hz : x.cps.size ≤ 1000000) :
    Ok w A (call (.ref 83) [a, .str x t] [("name", .bool b)]) (fun v h' => h.StaysIn h' ∧ v = .str x t) h := by
  w_on
  have X := G.X
  have T := G.T
  refine' enter (n := 0) [("self", a), ("value", .str x t), ("name", .bool b)] G gd ?k6 ?k7 ?k9 ?kB ?_ ?k10 ?c2 ?c3 ?c4
  case k6 => k_is
  case k7 => k_is
  case k9 => exact fun s _ => BindsTo.of_eq (by with_unfolding_all rfl)
  case kB => exact locs rfl
  case c2 => exact rfl
  case c3 => exact rfl
  case c4 => exact rfl
  case k10 => decide
  intro L h₁ F fr G gd g d tk os Q E q
  have N : News h L h₁ [] := News.nil
  dsimp only [List.reverse, List.reverseAux] at F
  repeat' ((fail_if_success (with_reducible show wpAny _ _ (exec (Stmt.While _ _ _ _) _) _ _ _)); (fail_if_success (with_reducible show wpAny _ _ (exec (Stmt.For _ _ _ _ _) _) _ _ _)); (fail_if_success (with_reducible show wpAny _ _ (pyIter _) _ _ _)); (fail_if_success (with_reducible show wpAny _ _ (eval (Expr.ListComp _ _ _ _) _) _ _ _)); first | walk_at "mine" | walk1 | (dsimp only; walk1))
  all_goals exact q _ _ _ ⟨Fr.keep (by assumption), rfl⟩
end Mine
namespace Mine
/-- a word: its number, its size, its identity -/
noncomputable abbrev Wd := Nat × Bool × Tok
noncomputable def wdV (x : Wd) : Value := .str (wS x.1 x.2.1) x.2.2
noncomputable def WdOk (x : Wd) : Prop := 0 < x.1 ∧ x.1 < 16 ^ 16
noncomputable abbrev Row := Addr × Wd × Wd
noncomputable def rowO (e : Row) : Addr × Obj := (e.1, tupO [wdV e.2.1, wdV e.2.2])
noncomputable def rowR (e : Row) : Value := .ref e.1
noncomputable def RowOk (e : Row) : Prop := WdOk e.2.1 ∧ WdOk e.2.2
noncomputable def hdr (P : Params) (k : Tok) (b : Addr) : Obj := dictOf [⟨PyData.keyHash P (Str.ofString "_headers"), .str (Str.ofString "_headers") k, .ref b⟩] 1
/-- a table's objects: the object itself, its dict, its list, the list's pairs -/
noncomputable def TL (P : Params) (a d b : Addr) (k : Tok) (rows : List Row) (n : Nat) : List (Addr × Obj) := (a, instObj 182 d) :: (d, hdr P k b) :: (b, W.listOf (rows.map rowR).toArray n) :: rows.map rowO
noncomputable def Sep (a d b : Addr) (rows : List Row) : Prop := a ≠ d ∧ a ≠ b ∧ d ≠ b ∧ ∀ e ∈ rows, e.1 ≠ a ∧ e.1 ≠ d ∧ e.1 ≠ b
/-- a table above a base -/
noncomputable def MT (P : Params) (base h : Heap) (a d b : Addr) (k : Tok) (rows : List Row) (n : Nat) : Prop := Sep a d b rows ∧ Hid base h (TL P a d b k rows n)
theorem lower_w {prog : Program} {w : World} {A : Around} {E : Value → Shared → Prop} {s : Shared} {n : Nat} {low : Bool} {t : Tok} {Q : Value → Shared → Prop} (hn : n < 16 ^ 16) (h : True → Q (.str (wS n true) s.toks) { s with toks := s.toks + 1 }) : wpAny (model prog w) A (call (.builtin "str.lower") [.str (wS n low) t]) Q E s :=
  SCL.lower (by show (wL n low).toArray.size ≤ _; rw [List.size_toArray]; have := wL_len (a := low) hn; omega) fun _ => by rw [lower_wS]; exact h trivial
theorem upper_w {prog : Program} {w : World} {A : Around} {E : Value → Shared → Prop} {s : Shared} {n : Nat} {low : Bool} {t : Tok} {Q : Value → Shared → Prop} (hn : n < 16 ^ 16) (h : True → Q (.str (wS n false) s.toks) { s with toks := s.toks + 1 }) : wpAny (model prog w) A (call (.builtin "str.upper") [.str (wS n low) t]) Q E s :=
  SCL.upper (by show (wL n low).toArray.size ≤ _; rw [List.size_toArray]; have := wL_len (a := low) hn; omega) fun _ => by rw [upper_wS]; exact h trivial
theorem Fr.size {h₀ h : Heap} {L : Addr} {m : Str → Option Value} (F : Fr h₀ L h m) : h₀.objs.size ≤ h.objs.size := by
  obtain ⟨oL, _, _, hL, _⟩ := F.ns
  exact Nat.le_of_lt (Nat.lt_of_le_of_lt F.above (Heap.lt_size hL))
theorem Hid.of_fr {h₀ h : Heap} {L : Addr} {m : Str → Option Value} {own news : List (Addr × Obj)} (F : Fr h₀ L h m) (N : News h₀ L h news) (s : ∀ p ∈ own, p ∈ news) : Hid h₀ h own :=
  ⟨F.keep, Fr.size F, fun p hp => ⟨(N p (s p hp)).1, (N p (s p hp)).2.2⟩⟩
end Mine
namespace Mine
local macro_rules | `(tactic| walk_at "lk") => `(tactic| first | with_reducible exact am_hit | (with_reducible refine am_skip (by kernel_rfl) ?_; walk_at "lk") | assumption)
local macro_rules | `(tactic| walk_at "eval Name") => `(tactic| (k_dflt (refine' nameX_L ?F ?v ?_ ?a ?b; (case F => first | with_reducible assumption | assumption); (case a => rfl); (case b => rfl); (case v => walk_at "lk"); k_whole)))
local macro_rules | `(tactic| walk_at "storeName") => `(tactic| (k_dflt (refine' stM ?F ?N ?_ ?a ?b; (case F => first | with_reducible assumption | assumption); (case N => first | with_reducible assumption | assumption); (case a => rfl); (case b => rfl); k_whole); intro h' F' N'; (try k_sweep); (try dsimp only)))
local macro_rules | `(tactic| walk_at "subscriptTail") => `(tactic| ((with_reducible show wpAny _ _ (subscriptTail _ _ (Value.ref _) (Value.int _ _)) _ _ _); k_dflt (refine' pickT ?t ?i ?a ?b ?z ?_ ?s; (case t => exact News.isTup (by k_asm) (by k_mem)); (case i => l_ints); (case a => l_idx); (case b => l_idx); (case z => decide); (case s => with_unfolding_all rfl); k_whole); intro t'))
local macro_rules | `(tactic| walk_at "assign Tuple") => `(tactic| ((with_reducible show wpAny _ _ (assign (Expr.Tuple _ _ _) _ (Value.ref _)) _ _ _); k_dflt (refine' unpackN_ ?F ?N ?T ?hh ?k2 ?k3 ?_; (case F => k_asm); (case N => k_asm); (case T => exact News.isTup (by k_asm) (by k_mem)); (case hh => exact Gd.han (by assumption)); (case k2 => exact rfl); (case k3 => exact rfl)); intro h' F' N'; (try k_sweep); (try dsimp only)))

theorem fill_T1 : PySem.Challenge.rw_wf0080_01 = PySem.Challenge.rw_wf0080_01 ∧ KM = KM := by
  w_on
  k_fill
  exact ⟨rfl, rfl⟩

theorem init_c {w : World} {mg mb : Str → Option Value} {A : Around} {base h : Heap} {a dx : Addr} (G : Gl w mg mb base) (H : Hid base h [(a, instObj 182 dx), (dx, dictOf [] 0)]) (gd : Gd 2 A) (had : dx < a) :
    Cd w A (.call (.ref 76) ⟨[.ref a], []⟩) (fun v h' => v = .none ∧ ∃ b k, MT w.params base h' a dx b k [] 0) h := by
  w_on
  have X := G.X
  have T := G.T
  refine' enterH (n := 1) [("self", .ref a), ("headers", .none)] G H gd ?k6 ?k7 ?k9 ?kB ?_ ?k10 ?c2 ?c3 ?c4
  case k6 => k_is
  case k7 => k_is
  case k9 => exact fun s hs => BindsTo.of_defaults (T := 69) rfl (by rw [hs]; exact H.1 _ _ (X 69 _ rfl)) rfl (by with_unfolding_all rfl) (by with_unfolding_all rfl)
  case kB => exact locs rfl
  case c2 => exact rfl
  case c3 => exact rfl
  case c4 => exact rfl
  case k10 => decide
  intro L h₁ F N fr G gd g d tk os Q E q
  dsimp only [List.reverse, List.reverseAux] at F
  repeat' ((fail_if_success (with_reducible show wpAny _ _ (exec (Stmt.While _ _ _ _) _) _ _ _)); (fail_if_success (with_reducible show wpAny _ _ (exec (Stmt.For _ _ _ _ _) _) _ _ _)); (fail_if_success (with_reducible show wpAny _ _ (pyIter _) _ _ _)); (fail_if_success (with_reducible show wpAny _ _ (eval (Expr.ListComp _ _ _ _) _) _ _ _)); first | walk_at "mine" | walk1 | (dsimp only; walk1))
  rename_i B _ l1' _ F' N'
  have la := l1'.1
  have ld := l1'.2
  k_dflt (refine' set_dict ?k1 ?k2 ?k3 ?k4 ?k5 ?k6 ?k7 ?k8 ?k9 ?k10 ?k11 ?k12 ?k13 ?_)
  case k1 => exact F'
  case k2 => exact X
  case k3 => exact N'
  case k4 => k_inst
  case k5 => exact rfl
  case k6 => k_is
  case k7 => k_is
  case k8 => k_is
  case k9 => k_is
  case k10 => k_get
  case k11 => k_put
  case k12 => exact .tail (Nat.ne_of_gt ld) (.tail (Nat.ne_of_gt had) (.head (fun _ h => nomatch h)))
  case k13 => exact Nat.le_of_ble_eq_true rfl
  intro h5 F5 N5
  repeat' ((fail_if_success (with_reducible show wpAny _ _ (exec (Stmt.While _ _ _ _) _) _ _ _)); (fail_if_success (with_reducible show wpAny _ _ (exec (Stmt.For _ _ _ _ _) _) _ _ _)); (fail_if_success (with_reducible show wpAny _ _ (pyIter _) _ _ _)); (fail_if_success (with_reducible show wpAny _ _ (eval (Expr.ListComp _ _ _ _) _) _ _ _)); first | walk_at "mine" | walk1 | (dsimp only; walk1))
  refine wpAny_For ?_
  repeat' ((fail_if_success (with_reducible show wpAny _ _ (exec (Stmt.While _ _ _ _) _) _ _ _)); (fail_if_success (with_reducible show wpAny _ _ (exec (Stmt.For _ _ _ _ _) _) _ _ _)); (fail_if_success (with_reducible show wpAny _ _ (pyIter _) _ _ _)); (fail_if_success (with_reducible show wpAny _ _ (eval (Expr.ListComp _ _ _ _) _) _ _ _)); first | walk_at "mine" | walk1 | (dsimp only; walk1))
  obtain ⟨k5, N5⟩ : ∃ k, News base L h5 [(B, W.listOf #[] 0), (a, instObj 182 dx), (dx, hdr w.params k B)] := ⟨_, N5⟩
  refine it_list (items := #[]) (fun i l' news => news = [(B, W.listOf #[] 0), (a, instObj 182 dx), (dx, hdr w.params k5 B)]) ?hh ?hl F5 N5 ?hL rfl (fun _ _ => .inr ⟨_, _, _, rfl⟩) ?turn ?fin
  case hh => exact Gd.han (by assumption)
  case hl => exact News.isList N5 (.head _)
  case hL => exact (N5 _ (.head _)).2.1
  case turn => intro i v l news h own I hv; simp at hv
  case fin =>
    rintro l news h6 tk6 rfl F6 N6
    repeat' ((fail_if_success (with_reducible show wpAny _ _ (exec (Stmt.While _ _ _ _) _) _ _ _)); (fail_if_success (with_reducible show wpAny _ _ (exec (Stmt.For _ _ _ _ _) _) _ _ _)); (fail_if_success (with_reducible show wpAny _ _ (pyIter _) _ _ _)); (fail_if_success (with_reducible show wpAny _ _ (eval (Expr.ListComp _ _ _ _) _) _ _ _)); first | walk_at "mine" | walk1 | (dsimp only; walk1))
    refine q _ _ _ ⟨rfl, B, k5, ⟨Nat.ne_of_gt had, Nat.ne_of_lt la, Nat.ne_of_lt ld, fun _ h => nomatch h⟩, Hid.of_fr F6 N6 fun p hp => ?_⟩
    rcases List.mem_cons.mp hp with rfl | hp
    · exact .tail _ (.head _)
    rcases List.mem_cons.mp hp with rfl | hp
    · exact .tail _ (.tail _ (.head _))
    rcases List.mem_cons.mp hp with rfl | hp
    · exact .head _
    · exact nomatch hp
end Mine
namespace Mine
/-- what the first n turns of a comprehension have kept -/
noncomputable def Stp (keep : Nat → Bool) (R : Nat → Value → List (Addr × Obj) → Prop) : Nat → List Value → List (Addr × Obj) → Prop
  | 0, ys, own => ys = [] ∧ own = []
  | n + 1, ys, own => if keep n = true then ∃ ys' y own' o, ys = ys' ++ [y] ∧ own = o ++ own' ∧ Stp keep R n ys' own' ∧ R n y o else Stp keep R n ys own
noncomputable def tst (ifs : List Expr) (env : Env) : Sem Bool := forIn ifs true fun c r => if r = true then do let ok ← isTrue c env (eval c env); pure (ForInStep.yield ok) else pure (ForInStep.yield r)
theorem comp_tests {w : World} {A : Around} {R : Result → Shared → Prop} {s : Shared} {elt target iter : Expr} {ifs : List Expr} {scope : Scope} {pos : Pos} {it acc : Value} {env : Env} (I : Nat → Shared → Prop)
    (turn : ∀ n s, I n s → wpAny (model prM w) A (pyNext it) (fun r s₁ => match r with
      | none => R (.ok .next) s₁
      | some v => wpAny (model prM w) A (letOwnedTupleGo target it v) (fun _ s₁ => wpAny (model prM w) A (assign target env v) (fun _ s₂ =>
          wpAny (model prM w) A (tst ifs env) (fun ok s₃ =>
            if ok = true then wpAny (model prM w) A (eval elt env) (fun x s₄ =>
              wpAny (model prM w) A (call (.builtin "list.append") [acc, x]) (fun _ s₅ => ∃ m, m < n ∧ I m s₅) (notedBy (model prM w) A env fun e s' => R (.error e) s') s₄) (notedBy (model prM w) A env fun e s' => R (.error e) s') s₃
            else ∃ m, m < n ∧ I m s₃) (notedBy (model prM w) A env fun e s' => R (.error e) s') s₂) (notedBy (model prM w) A env fun e s' => R (.error e) s') s₁) (notedBy (model prM w) A env fun e s' => R (.error e) s') s₁) (notedBy (model prM w) A env fun e s' => R (.error e) s') s)
    (n : Nat) (h : I n s) :
    codeAny (model prM w) A (.compLoop (.ListComp elt [⟨target, iter, ifs, 0⟩] scope pos) 0 it acc env) R s := by
  refine codeAny_loop rfl I (fun n s hI => ?_) n h
  show wpAny _ A ((compTurn (.ListComp elt [⟨target, iter, ifs, 0⟩] scope pos) 0 it acc env).onRaise (fun x => do noteFrame x env; theTreesLotGoes x)) _ _ s
  refine wpAny_noted ?_
  rw [compTurn_list]
  refine wpAny_bind (wpAny_standAt (wpAny_bind (wpAny_mono (turn n s hI) (fun r s₁ h₁ => ?_) fun _ _ h' => h')))
  cases r with
  | none => exact wpAny_pure h₁
  | some v =>
    refine wpAny_bind (wpAny_mono h₁ (fun _ s₂ h₂ => ?_) fun _ _ h' => h')
    refine wpAny_bind (wpAny_mono h₂ (fun _ s₂ h₂ => wpAny_bind (wpAny_mono h₂ (fun ok s₃ h₃ => ?_) fun _ _ h' => h')) fun _ _ h' => h')
    cases ok with
    | false => exact wpAny_pure ⟨rfl, h₃⟩
    | true =>
      exact wpAny_bind (wpAny_bind (wpAny_mono h₃ (fun x s₄ h₄ => wpAny_bind (wpAny_mono h₄ (fun _ s₅ h₅ => wpAny_pure (wpAny_pure ⟨rfl, h₅⟩)) fun _ _ h' => h')) fun _ _ h' => h'))

section
variable {w : World} {A : Around} {env : Env} {elt target iter : Expr} {ifs : List Expr} {scope : Scope} {pos : Pos} {h₀ : Heap}
theorem lc_loop {I D : Addr} {fp wr : List Addr} {n : Nat} {Pv : Nat → Value → Prop} {St : Nat → Heap → Prop} (Wk : Walks prM w A I fp wr n Pv St) (keep : Nat → Bool) (R : Nat → Value → List (Addr × Obj) → Prop)
    {h : Heap} {l : List (Str × Value)} {c : Nat} {RR : Result → Shared → Prop} (st : St 0 h) (F : Fr h₀ env.locals h (am l)) (hD : h.get? D = some (W.listOf (#[] : Array Value) c)) (hD0 : h₀.get? D = none) (hDC : D ≠ env.locals) (hDf : D ∉ fp) (hL : env.locals ∉ fp) (hw : ∀ b ∈ wr, h₀.get? b = none)
    (hn : n ≤ 100000) {g : Array GenState} {d : Drawn} {tk : Nat} {os : OsState}
    (hex : ∀ i h, St i h → ∀ b ∈ wr, ∃ o, h.get? b = some o)
    (go : ∀ (v : Value) (s : Shared) (i : Nat) (Q : Unit → Shared → Prop) (E : Value → Shared → Prop), St i s.heap → Q () s → wpAny (model prM w) A (letOwnedTupleGo target (.ref I) v) Q E s)
    (turn : ∀ i v l h aux prev, i < n → Pv i v → Fr h₀ env.locals h (am l) → News h₀ env.locals h (aux ++ prev) →
      Ok w A (assign target env v) (fun _ h₃ => Ok w A (tst ifs env) (fun ok h₄ => ok = keep i ∧ if ok = true then Ok w A (eval elt env) (fun y h₅ => ∃ l own, Fr h₀ env.locals h₅ (am l) ∧ News h₀ env.locals h₅ (own ++ (aux ++ prev)) ∧ (∀ p ∈ own, ∀ q ∈ aux, p.1 ≠ q.1) ∧ R i y own) h₄
        else ∃ l, Fr h₀ env.locals h₄ (am l) ∧ News h₀ env.locals h₄ (aux ++ prev)) h₃) h)
    (fin : ∀ H ys own c l tk, Fr h₀ env.locals H (am l) → News h₀ env.locals H ((D, W.listOf (List.toArray ys) c) :: own) → Stp keep R n ys own → RR (.ok .next) ⟨H, g, d, tk, os⟩) :
    codeAny (model prM w) A (.compLoop (.ListComp elt [⟨target, iter, ifs, 0⟩] scope pos) 0 (.ref I) (.ref D) env) RR ⟨h, g, d, tk, os⟩ := by
  have hLw : env.locals ∉ wr := fun q => hL (Wk.sub _ q)
  have hDw : D ∉ wr := fun q => hDf (Wk.sub _ q)
  refine comp_tests (fun k s => ∃ h tk i ys own c l, s = ⟨h, g, d, tk, os⟩ ∧ k = n + 1 - i ∧ i ≤ n ∧ ys.length ≤ i ∧ St i h ∧ Fr h₀ env.locals h (am l) ∧ News h₀ env.locals h ((D, W.listOf (List.toArray ys) c) :: own) ∧ (∀ p ∈ own, p.1 ≠ D ∧ p.1 ∉ wr) ∧ Stp keep R i ys own) ?_ (n + 1)
    ⟨h, tk, 0, [], [], c, l, rfl, rfl, Nat.zero_le _, Nat.le_refl _, st, F, fun p hp => by rw [List.mem_singleton.mp hp]; exact ⟨hD, hDC, hD0⟩, (fun _ h => nomatch h), rfl, rfl⟩
  rintro k _ ⟨h, tk, i, ys, own, c, l, rfl, rfl, hi, hys, st, F, N, ho, hS⟩
  have kF : ∀ {h'}, (∀ b o, b ∉ wr → h.get? b = some o → h'.get? b = some o) → Fr h₀ env.locals h' (am l) := fun {h'} hk => by
    obtain ⟨o, es, ep, e, r⟩ := F.ns
    exact ⟨⟨o, es, ep, hk _ _ hLw e, r⟩, fun b o e => hk b o (fun q => by rw [hw b q] at e; cases e) (F.keep b o e), F.above⟩
  have kN : ∀ {h'}, (∀ b o, b ∉ wr → h.get? b = some o → h'.get? b = some o) → News h₀ env.locals h' ((D, W.listOf (List.toArray ys) c) :: own) := fun {h'} hk p hp => by
    refine ⟨hk _ _ ?_ (N p hp).1, (N p hp).2⟩
    rcases List.mem_cons.mp hp with rfl | hp
    · exact hDw
    · exact (ho p hp).2
  by_cases hin : i < n
  · refine Wk.item i _ _ _ hin st fun v h' tk' hv st' hk => ?_
    refine go v _ _ _ _ st' ?_
    have F' := kF hk
    have NO : News h₀ env.locals h' (ownOf h₀ h' fp) := ownOf_news hL
    have N' : News h₀ env.locals h' (((D, W.listOf (List.toArray ys) c) :: ownOf h₀ h' fp) ++ own) := fun p hp => by
      rcases List.mem_append.mp hp with hp | hp
      · rcases List.mem_cons.mp hp with rfl | hp
        · exact kN hk _ (.head _)
        · exact NO p hp
      · exact kN hk _ (.tail _ hp)
    have back : ∀ {h₄ l₄ x}, Fr h₀ env.locals h₄ (am l₄) → News h₀ env.locals h₄ (x ++ (((D, W.listOf (List.toArray ys) c) :: ownOf h₀ h' fp) ++ own)) → ∀ b ∈ fp, ∀ o, h'.get? b = some o → h₄.get? b = some o := fun {h₄ l₄ x} F₄ N₄ =>
      ownOf_keep (news := []) F' F₄ fun p hp => N₄ p (List.mem_append_right _ (List.mem_append_left _ (List.mem_cons_of_mem _ (by simpa using hp))))
    have wrO : ∀ b ∈ wr, ∃ o, (b, o) ∈ ownOf h₀ h' fp := fun b hb => by
      obtain ⟨o, ho⟩ := hex _ _ st' b hb
      exact ⟨o, List.mem_filterMap.mpr ⟨b, Wk.sub b hb, by rw [hw b hb, ho]; rfl⟩⟩
    refine turn i v l h' _ own hin hv F' N' g d tk' os _ _ fun _ h₃ tk₃ p₃ => ?_
    refine p₃ g d tk₃ os _ _ fun ok h₄ tk₄ p₄ => ?_
    obtain ⟨e, p₄⟩ := p₄
    cases ok with
    | false =>
      rw [if_neg Bool.false_ne_true] at p₄ ⊢
      obtain ⟨l₄, F₄, N₄⟩ := p₄
      refine ⟨n + 1 - (i + 1), by omega, h₄, tk₄, i + 1, ys, own, c, l₄, rfl, rfl, hin, by omega, Wk.frame _ _ _ st' (back (x := []) F₄ N₄), F₄, fun p hp => N₄ p ?_, ho, ?_⟩
      · rcases List.mem_cons.mp hp with rfl | hp
        · exact .head _
        · exact List.mem_append_right _ hp
      · show if keep i = true then _ else _
        rw [← e, if_neg Bool.false_ne_true]; exact hS
    | true =>
      rw [if_pos rfl] at p₄ ⊢
      refine p₄ g d tk₄ os _ _ fun y h₅ tk₅ p₅ => ?_
      obtain ⟨l₅, o, F₅, N₅, hx, hR⟩ := p₅
      have hD5 := N₅ (D, W.listOf (List.toArray ys) c) (List.mem_append_right _ (.head _))
      refine append_at (s := ⟨_, _, _, _, _⟩) (hsz := by rw [sizeLine_eq, List.size_toArray]; omega) hD5.1 fun h₆ hs hD6 => ?_
      refine ⟨n + 1 - (i + 1), by omega, h₆, tk₅, i + 1, ys ++ [y], o ++ own, c + 1, l₅, rfl, rfl, hin, by simp; omega, Wk.frame _ _ _ st' (fun b hb x hx => ?_), F₅.change hs hD5.2.1 hD5.2.2, fun p hp => ?_, fun p hp => ?_, ?_⟩
      · exact (hs.2 b (fun q => hDf (q ▸ hb))).trans (back F₅ N₅ b hb x hx)
      · rcases List.mem_cons.mp hp with rfl | hp
        · exact ⟨by simpa using hD6, hD5.2⟩
        · have hp' : p ∈ o ++ (((D, W.listOf (List.toArray ys) c) :: ownOf h₀ h' fp) ++ own) := by
            rcases List.mem_append.mp hp with hp | hp
            · exact List.mem_append_left _ hp
            · exact List.mem_append_right _ (List.mem_append_right _ hp)
          refine ⟨(hs.2 _ ?_).trans (N₅ p hp').1, (N₅ p hp').2⟩
          rcases List.mem_append.mp hp with hp | hp
          · exact hx p hp _ (.head _)
          · exact (ho p hp).1
      · rcases List.mem_append.mp hp with hp | hp
        · refine ⟨hx p hp _ (.head _), fun q => ?_⟩
          obtain ⟨x, hxo⟩ := wrO _ q
          exact hx p hp _ (.tail _ hxo) rfl
        · exact ho p hp
      · show if keep i = true then _ else _
        rw [← e, if_pos rfl]; exact ⟨ys, y, own, o, rfl, rfl, hS, hR⟩
  · obtain rfl : i = n := by omega
    exact Wk.done _ _ _ st fun h' tk' hk => fin h' ys own c l tk' (kF hk) (kN hk) hS
end
end Mine
namespace Mine
section
variable {w : World} {A : Around} {E : Value → Shared → Prop} {env : Env} {elt target iter : Expr} {ifs : List Expr} {scope : Scope} {pos : Pos} {cl : List (Str × Addr)}
noncomputable def LcGo (w : World) (A : Around) (E : Value → Shared → Prop) (env : Env) (e : Expr) (scope : Scope) (cl : List (Str × Addr)) (RR : Value → Addr → Result → Shared → Prop) (it : Value) (s : Shared) : Prop :=
  wpAny (model prM w) A (newList []) (fun acc s₃ => wpAny (model prM w) A (newFunctionEnv scope env.globals cl [] env.qual none .none (some env)) (fun cenv s₄ =>
    codeAny (model prM w) A (.compStart e 0 it acc { cenv with scope := relabel scope env }) (RR acc cenv.locals) s₄) E s₃) E s
theorem lc_open {Q : Value → Shared → Prop} {s : Shared} (cl : List (Str × Addr)) (hclos : closureFor scope env = pure cl) (hkind : scope.kind = .function) (hnames : ∀ y ∈ scope.names, y.2 = .local → scope.names.lookup y.1 = some .local)
    (h : wpAny (model prM w) A (eval iter env) (fun x s₁ => wpAny (model prM w) A (pyIter x) (fun it s₂ => LcGo w A E env (.ListComp elt [⟨target, iter, ifs, 0⟩] scope pos) scope cl (fun acc C => compPost (model prM w) A E none Q acc C) it s₂) E s₁) E s)
    (hs : ∀ x, foldedSetIterable iter env x = pure x := by intro _; rfl) :
    wpAny (model prM w) A (eval (.ListComp elt [⟨target, iter, ifs, 0⟩] scope pos) env) Q E s := by
  rw [eval_ListComp]
  exact wpAny_comprehension_free (use := none) rfl hs hclos hkind hnames h
theorem lc_openA {Q : Flow → Shared → Prop} {s : Shared} {y : Str} {py spos : Pos} (cl : List (Str × Addr)) (hsw : swapsWith (.ListComp elt [⟨target, iter, ifs, 0⟩] scope pos) (some (.Name y py)) spos.line env = pure true) (hclos : closureFor scope env = pure cl) (hkind : scope.kind = .function) (hnames : ∀ y ∈ scope.names, y.2 = .local → scope.names.lookup y.1 = some .local)
    (h : wpAny (model prM w) A (eval iter env) (fun x s₁ => wpAny (model prM w) A (pyIter x) (fun it s₂ => LcGo w A E env (.ListComp elt [⟨target, iter, ifs, 0⟩] scope pos) scope cl (fun acc C => compPost (model prM w) A E (some (assign (.Name y py) env)) (fun _ s' => Q .next s') acc C) it s₂) E s₁) E s)
    (hs : ∀ x, foldedSetIterable iter env x = pure x := by intro _; rfl) :
    wpAny (model prM w) A (exec (.Assign [.Name y py] (.ListComp elt [⟨target, iter, ifs, 0⟩] scope pos) spos) env) Q E s := by
  rw [exec_Assign_Name_used _ _ _ _ hsw]
  refine wpAny_bind (wpAny_standAt (wpAny_bind ?_))
  show wpAny _ A (do let _ ← comprehension (.ListComp elt [⟨target, iter, ifs, 0⟩] scope pos) scope env _ (newList []) false (eval iter env) (some (assign (.Name y py) env))) _ _ s
  exact wpAny_bind (wpAny_mono (wpAny_comprehension_free (use := some (assign (.Name y py) env)) (Q := fun _ s' => Q .next s') rfl hs hclos hkind hnames h) (fun _ s' hq => wpAny_pure (wpAny_pure hq)) fun _ _ e => e)

theorem lc_go {I : Addr} {fp wr : List Addr} {n : Nat} {Pv : Nat → Value → Prop} {St : Nat → Heap → Prop} (Wk : Walks prM w A I fp wr n Pv St) (keep : Nat → Bool) (R : Nat → Value → List (Addr × Obj) → Prop)
    {hb H : Heap} {RR : Value → Addr → Result → Shared → Prop} (hcell : ∀ y ∈ scope.names, y.2 ≠ .cell) (hkind : scope.kind = .function) (st : St 0 H) (hbH : hb.StaysIn H) (hsz : hb.objs.size ≤ H.objs.size) (hw : ∀ b ∈ wr, hb.get? b = none) (hfp : ∀ b ∈ fp, b < H.objs.size)
    (hn : n ≤ 100000) {g : Array GenState} {d : Drawn} {tk : Nat} {os : OsState}
    (hex : ∀ i h, St i h → ∀ b ∈ wr, ∃ o, h.get? b = some o)
    (go : ∀ (v : Value) (s : Shared) (i : Nat) (Q : Unit → Shared → Prop) (E : Value → Shared → Prop), St i s.heap → Q () s → wpAny (model prM w) A (letOwnedTupleGo target (.ref I) v) Q E s)
    (turn : ∀ C, hb.get? C = none → ∀ i v l h aux prev, i < n → Pv i v → Fr hb C h (am l) → News hb C h (aux ++ prev) →
      Ok w A (assign target (compEnvC scope cl C env) v) (fun _ h₃ => Ok w A (tst ifs (compEnvC scope cl C env)) (fun ok h₄ => ok = keep i ∧ if ok = true then Ok w A (eval elt (compEnvC scope cl C env)) (fun y h₅ => ∃ l own, Fr hb C h₅ (am l) ∧ News hb C h₅ (own ++ (aux ++ prev)) ∧ (∀ p ∈ own, ∀ q ∈ aux, p.1 ≠ q.1) ∧ R i y own) h₄
        else ∃ l, Fr hb C h₄ (am l) ∧ News hb C h₄ (aux ++ prev)) h₃) h)
    (fin : ∀ D C H' ys own c l tk, hb.get? C = none → Fr hb C H' (am l) → News hb C H' ((D, W.listOf (List.toArray ys) c) :: own) → Stp keep R n ys own → RR (.ref D) C (.ok .next) ⟨H', g, d, tk, os⟩) :
    LcGo w A E env (.ListComp elt [⟨target, iter, ifs, 0⟩] scope pos) scope cl RR (.ref I) ⟨H, g, d, tk, os⟩ := by
  unfold LcGo
  refine wpAny_newObj_type (wpAny_newFunctionEnv hcell (by intro y hy; simp at hy) (fun h₁ hns₁ hsb₁ => ?_) hkind)
  dsimp only at hns₁ hsb₁ ⊢
  generalize hH2 : H.push { cls := .type "list", dict := none, data := .seq ([] : List Value).toArray } = H2 at hns₁ hsb₁ ⊢
  have hC : H2.objs.size = H.objs.size + 1 := by rw [← hH2, Heap.size_push]
  have hDC : H.objs.size ≠ H2.objs.size := by rw [hC]; exact Nat.ne_of_lt (Nat.lt_succ_self _)
  have old : ∀ b o, H.get? b = some o → h₁.get? b = some o := fun b o e => hsb₁.extBut b o (by have := Heap.lt_size e; rw [hC]; exact Nat.ne_of_lt (Nat.lt_succ_of_lt this)) (Heap.get?_push_of_some _ (hH2 ▸ Heap.get?_push_of_some _ e))
  have hacc : h₁.get? H.objs.size = some (W.listOf (#[] : Array Value) 0) := hsb₁.extBut _ _ hDC (Heap.get?_push_of_some _ (hH2 ▸ Heap.get?_push_size _ rfl))
  have fresh : ∀ a, H.objs.size ≤ a → hb.get? a = none := fun a ha => by
    cases e : hb.get? a with
    | none => rfl
    | some o' => exact absurd (Heap.lt_size (hbH _ _ e)) (Nat.not_lt.mpr ha)
  have st₁ : St 0 h₁ := Wk.frame _ _ _ st fun b _ o e => old b o e
  have F₁ : Fr hb H2.objs.size h₁ (am []) := ⟨hns₁, fun b o e => old b o (hbH b o e), by rw [hC]; exact Nat.le_succ_of_le hsz⟩
  have loop : ∀ s₃ : Shared, s₃ = { (⟨H, g, d, tk, os⟩ : Shared) with heap := h₁, toks := tk + ([] : List (Str × Value)).length } →
      codeAny (model prM w) A (.compLoop (.ListComp elt [⟨target, iter, ifs, 0⟩] scope pos) 0 (.ref I) (.ref H.objs.size) (compEnvC scope cl H2.objs.size env))
        (RR (.ref H.objs.size) H2.objs.size) s₃ := by
    rintro s₃ rfl
    exact lc_loop (env := compEnvC scope cl H2.objs.size env) (h₀ := hb) Wk keep R st₁ F₁ hacc (fresh _ (Nat.le_refl _)) hDC (fun q => Nat.lt_irrefl _ (hfp _ q)) (fun q => by have := hfp _ q; exact absurd (show H2.objs.size < H.objs.size from this) (by rw [hC]; exact Nat.not_lt.mpr (Nat.le_succ _))) hw hn hex go (turn _ (fresh _ (by rw [hC]; exact Nat.le_succ _)))
      fun H' ys own c l tk F N hS => fin _ _ H' ys own c l tk (fresh _ (by rw [hC]; exact Nat.le_succ _)) F N hS
  exact codeAny_compStart_list (loop _ rfl) (Wk.self 0 _ _ _ st₁ (loop _ rfl))
/-- after a comprehension, for the frame around it -/
theorem lc_back {h₀ hb H' h'' : Heap} {L C D : Addr} {m : Str → Option Value} {l : List (Str × Value)} {own news : List (Addr × Obj)} {ys : List Value} {c : Nat} (F : Fr h₀ L hb m) (N : News h₀ L hb news) (hC : hb.get? C = none) (F' : Fr hb C H' (am l)) (N' : News hb C H' ((D, W.listOf (List.toArray ys) c) :: own)) (hs : Heap.SameBut C H' h'') :
    hb.StaysIn h'' ∧ Fr h₀ L h'' m ∧ News h₀ L h'' ((D, W.listOf (List.toArray ys) c) :: (own ++ news)) ∧ ∀ p ∈ (D, W.listOf (List.toArray ys) c) :: own, ∀ q ∈ news, p.1 ≠ q.1 := by
  have k : hb.StaysIn h'' := fun b o e => (hs.2 b (fun q => by rw [q, hC] at e; cases e)).trans (F'.keep b o e)
  obtain ⟨oL, _, _, hoL, _⟩ := F.ns
  have nw : ∀ p ∈ (D, W.listOf (List.toArray ys) c) :: own, h''.get? p.1 = some p.2 ∧ p.1 ≠ L ∧ h₀.get? p.1 = none := fun p hp => by
    have P := N' p hp
    refine ⟨(hs.2 _ P.2.1).trans P.1, fun q => ?_, ?_⟩
    · have := P.2.2
      rw [show p.1 = L from q, hoL] at this; cases this
    · cases e : h₀.get? p.1 with
      | none => rfl
      | some o => have := P.2.2; rw [F.keep _ _ e] at this; cases this
  refine ⟨k, frExt F k, fun p hp => ?_, fun p hp q hq e => by have := (N' p hp).2.2; rw [e, (N q hq).1] at this; cases this⟩
  rcases List.mem_cons.mp hp with rfl | hp
  · exact nw _ (.head _)
  rcases List.mem_append.mp hp with hp | hp
  · exact nw _ (.tail _ hp)
  · exact newsExt N k p hp
/-- a comprehension's list in hand -/
theorem lc_fin {h₀ hb : Heap} {L : Addr} {m : Str → Option Value} {news : List (Addr × Obj)} {keep : Nat → Bool} {R : Nat → Value → List (Addr × Obj) → Prop} {n : Nat} {g : Array GenState} {d : Drawn} {os : OsState} {Q : Value → Shared → Prop} (F : Fr h₀ L hb m) (N : News h₀ L hb news)
    (q : ∀ D ys own c h' tk, hb.StaysIn h' → Fr h₀ L h' m → News h₀ L h' ((D, W.listOf (List.toArray ys) c) :: (own ++ news)) → (∀ p ∈ (D, W.listOf (List.toArray ys) c) :: own, ∀ q ∈ news, p.1 ≠ q.1) → Stp keep R n ys own → Q (.ref D) ⟨h', g, d, tk, os⟩) :
    ∀ D C H' ys own c l tk, hb.get? C = none → Fr hb C H' (am l) → News hb C H' ((D, W.listOf (List.toArray ys) c) :: own) → Stp keep R n ys own → compPost (model prM w) A E none Q (.ref D) C (.ok .next) ⟨H', g, d, tk, os⟩ :=
  fun D C H' ys own c l tk hC F' N' hS => ⟨_, F'.ns, fun h'' hs => by
    obtain ⟨k, F'', N'', hd⟩ := lc_back F N hC F' N' hs
    exact q D ys own c h'' tk k F'' N'' hd hS⟩
end
end Mine
namespace Mine
section
variable {w : World} {A : Around} {E X : Value → Shared → Prop} {env : Env} {elt target iter : Expr} {ifs : List Expr} {scope : Scope} {pos : Pos} {cl : List (Str × Addr)}
/-- one turn of a comprehension -/
noncomputable def LcTurn (w : World) (A : Around) (env : Env) (elt target : Expr) (ifs : List Expr) (scope : Scope) (cl : List (Str × Addr)) (hb : Heap) (keep : Nat → Bool) (R : Nat → Value → List (Addr × Obj) → Prop) (i : Nat) (v : Value) : Prop :=
  ∀ C, hb.get? C = none → ∀ l h aux prev, Fr hb C h (am l) → News hb C h (aux ++ prev) →
    Ok w A (assign target (compEnvC scope cl C env) v) (fun _ h₃ => Ok w A (tst ifs (compEnvC scope cl C env)) (fun ok h₄ => ok = keep i ∧ if ok = true then Ok w A (eval elt (compEnvC scope cl C env)) (fun y h₅ => ∃ l own, Fr hb C h₅ (am l) ∧ News hb C h₅ (own ++ (aux ++ prev)) ∧ (∀ p ∈ own, ∀ q ∈ aux, p.1 ≠ q.1) ∧ R i y own) h₄
      else ∃ l, Fr hb C h₄ (am l) ∧ News hb C h₄ (aux ++ prev)) h₃) h
theorem lc_list {ax : Addr} {items : Array Value} (keep : Nat → Bool) (R : Nat → Value → List (Addr × Obj) → Prop) {hb : Heap} {RR : Value → Addr → Result → Shared → Prop} {g : Array GenState} {d : Drawn} {tk : Nat} {os : OsState} (hh : A.handled = none) (hl : hb.IsList ax items) (hn : items.size ≤ 100000)
    (hcell : ∀ y ∈ scope.names, y.2 ≠ .cell) (hkind : scope.kind = .function) (ht : ∀ v r, letOwnedTupleGo target v r = pure () ∨ (∃ es k p, target = .Tuple es k p))
    (turn : ∀ i v, items[i]? = some v → LcTurn w A env elt target ifs scope cl hb keep R i v)
    (fin : ∀ D C H' ys own c l tk, hb.get? C = none → Fr hb C H' (am l) → News hb C H' ((D, W.listOf (List.toArray ys) c) :: own) → Stp keep R items.size ys own → RR (.ref D) C (.ok .next) ⟨H', g, d, tk, os⟩) :
    wpAny (model prM w) A (pyIter (.ref ax)) (fun it s₂ => LcGo w A E env (.ListComp elt [⟨target, iter, ifs, 0⟩] scope pos) scope cl RR it s₂) X ⟨hb, g, d, tk, os⟩ := by
  refine wpAny_pyIter_list hl ?_
  obtain ⟨ol, hol, _⟩ := id hl
  have fresh : hb.get? hb.objs.size = none := by
    cases e : hb.get? hb.objs.size with
    | none => rfl
    | some o => exact absurd (Heap.lt_size e) (Nat.lt_irrefl _)
  have hlI : ax ≠ hb.objs.size := Nat.ne_of_lt (Heap.lt_size hol)
  refine lc_go (Walks.list hh hb.objs.size ax hlI items) keep R hcell hkind ⟨⟨_, Heap.get?_push_size _ rfl, rfl, rfl⟩, hl.push _⟩ (fun b o e => Heap.get?_push_of_some _ e) (by rw [Heap.size_push]; exact Nat.le_succ _) ?_ ?_ hn ?_ ?_ ?_ fin
  · intro b hb'; rw [List.mem_singleton.mp hb']; exact fresh
  · intro b hb'
    rw [Heap.size_push]
    rcases List.mem_cons.mp hb' with rfl | hb'
    · exact Nat.lt_succ_self _
    · rw [List.mem_singleton.mp hb']; exact Nat.lt_succ_of_lt (Heap.lt_size hol)
  · rintro i h ⟨⟨o, ho, _⟩, _⟩ b hb'
    rw [List.mem_singleton.mp hb']; exact ⟨o, ho⟩
  · rintro v s i Q E ⟨⟨o, ho, hc, hd⟩, _⟩ q
    rcases ht (.ref hb.objs.size) v with e | ⟨es, k, p, rfl⟩
    · rw [e]; exact wpAny_pure q
    · unfold letOwnedTupleGo
      cases v with
      | ref a =>
        refine wpAny_bind (wpAny_load ho ?_)
        rw [hc, hd]
        exact wpAny_pure q
      | _ => exact wpAny_pure q
  · exact fun C hC i v l h aux prev _ hv F N => turn i v hv C hC l h aux prev F N
theorem lc_gen {n : Nat} {Pv : Nat → Value → Prop} {St : Nat → Heap → Prop} {o : Obj} (keep : Nat → Bool) (R : Nat → Value → List (Addr × Obj) → Prop) {hb : Heap} {RR : Value → Addr → Result → Shared → Prop} {g : Array GenState} {d : Drawn} {tk : Nat} {os : OsState}
    (Wk : Walks prM w A hb.objs.size [hb.objs.size] [hb.objs.size] n Pv St) (st : St 0 (hb.push o)) (hex : ∀ i h', St i h' → ∃ o, h'.get? hb.objs.size = some o) (hn : n ≤ 100000)
    (hcell : ∀ y ∈ scope.names, y.2 ≠ .cell) (hkind : scope.kind = .function) (ht : ∀ v r, letOwnedTupleGo target v r = pure ())
    (turn : ∀ i v, i < n → Pv i v → LcTurn w A env elt target ifs scope cl hb keep R i v)
    (fin : ∀ D C H' ys own c l tk, hb.get? C = none → Fr hb C H' (am l) → News hb C H' ((D, W.listOf (List.toArray ys) c) :: own) → Stp keep R n ys own → RR (.ref D) C (.ok .next) ⟨H', g, d, tk, os⟩) :
    LcGo w A E env (.ListComp elt [⟨target, iter, ifs, 0⟩] scope pos) scope cl RR (.ref hb.objs.size) ⟨hb.push o, g, d, tk, os⟩ := by
  have fresh : hb.get? hb.objs.size = none := by
    cases e : hb.get? hb.objs.size with
    | none => rfl
    | some o => exact absurd (Heap.lt_size e) (Nat.lt_irrefl _)
  refine lc_go Wk keep R hcell hkind st (fun b o e => Heap.get?_push_of_some _ e) (by rw [Heap.size_push]; exact Nat.le_succ _) ?_ ?_ hn ?_ ?_ ?_ fin
  · intro b hb'; rw [List.mem_singleton.mp hb']; exact fresh
  · intro b hb'
    rw [Heap.size_push, List.mem_singleton.mp hb']; exact Nat.lt_succ_self _
  · rintro i h st b hb'
    rw [List.mem_singleton.mp hb']; exact hex i h st
  · intro v s i Q E _ q
    rw [ht]; exact wpAny_pure q
  · exact fun C hC i v l h aux prev hi hv F N => turn i v hi hv C hC l h aux prev F N
theorem lc_str {x : Str} {t : Tok} (keep : Nat → Bool) (R : Nat → Value → List (Addr × Obj) → Prop) {hb : Heap} {RR : Value → Addr → Result → Shared → Prop} {g : Array GenState} {d : Drawn} {tk : Nat} {os : OsState} (hh : A.handled = none) (ha : ∀ c ∈ x.cps.toList, c < 128) (hn : x.cps.size ≤ 100000)
    (hcell : ∀ y ∈ scope.names, y.2 ≠ .cell) (hkind : scope.kind = .function) (ht : ∀ v r, letOwnedTupleGo target v r = pure ())
    (turn : ∀ i c u, x.cps.toList[i]? = some c → LcTurn w A env elt target ifs scope cl hb keep R i (.str ⟨#[c]⟩ u))
    (fin : ∀ D C H' ys own c l tk, hb.get? C = none → Fr hb C H' (am l) → News hb C H' ((D, W.listOf (List.toArray ys) c) :: own) → Stp keep R x.cps.size ys own → RR (.ref D) C (.ok .next) ⟨H', g, d, tk, os⟩) :
    wpAny (model prM w) A (pyIter (.str x t)) (fun it s₂ => LcGo w A E env (.ListComp elt [⟨target, iter, ifs, 0⟩] scope pos) scope cl RR it s₂) X ⟨hb, g, d, tk, os⟩ := by
  refine wpAny_pyIter_ascii ?_ ?_
  · rw [Array.all_eq_true_iff_forall_mem]
    exact fun c hc => decide_eq_true (ha c (Array.mem_toList_iff.mpr hc))
  · refine lc_gen keep R (Walks.strAscii hh _ x t) ⟨_, Heap.get?_push_size _ rfl, rfl, rfl⟩ (fun i h' st => let ⟨o, ho, _⟩ := st; ⟨o, ho⟩) hn hcell hkind ht ?_ fin
    rintro i v _ ⟨c, u, hc, rfl⟩
    exact turn i c u (by simpa using hc)
theorem lc_range {r : Addr} {hi : Int} {t u v : Tok} (keep : Nat → Bool) (R : Nat → Value → List (Addr × Obj) → Prop) {hb : Heap} {RR : Value → Addr → Result → Shared → Prop} {g : Array GenState} {d : Drawn} {tk : Nat} {os : OsState} (hh : A.handled = none) (hr : IsRange hb r 0 hi 1 t u v) (h0 : 0 ≤ hi) (hsm : Builtin.Range.small 0 hi 1 = true) (hn : hi.toNat ≤ 100000)
    (hcell : ∀ y ∈ scope.names, y.2 ≠ .cell) (hkind : scope.kind = .function) (ht : ∀ v r, letOwnedTupleGo target v r = pure ())
    (turn : ∀ (i : Nat) u, (i : Int) < hi → LcTurn w A env elt target ifs scope cl hb keep R i (.int i u))
    (fin : ∀ D C H' ys own c l tk, hb.get? C = none → Fr hb C H' (am l) → News hb C H' ((D, W.listOf (List.toArray ys) c) :: own) → Stp keep R hi.toNat ys own → RR (.ref D) C (.ok .next) ⟨H', g, d, tk, os⟩) :
    wpAny (model prM w) A (pyIter (.ref r)) (fun it s₂ => LcGo w A E env (.ListComp elt [⟨target, iter, ifs, 0⟩] scope pos) scope cl RR it s₂) X ⟨hb, g, d, tk, os⟩ := by
  refine wpAny_pyIter_range hr hsm ?_
  have e2 : Builtin.Range.rangeSize 0 hi 1 = (hi.toNat : Int) := by rw [PySem.rangeSize_one]; split <;> omega
  refine lc_gen keep R (Walks.range hh _ 0 1 hi.toNat) (by
    show IsRangeIter _ _ (0 + ((0 : Nat) : Int) * 1) ((hi.toNat : Int) - ((0 : Nat) : Int)) 1
    rw [show (0 + ((0 : Nat) : Int) * 1) = 0 from rfl, e2, show (hi.toNat : Int) - ((0 : Nat) : Int) = hi.toNat from by simp]
    exact Heap.get?_push_size _ rfl) (fun i h' st => ⟨_, st⟩) hn hcell hkind ht ?_ fin
  rintro i v hi' ⟨t, rfl⟩
  have := turn i t (by omega)
  simpa using this
end
end Mine
namespace Mine
section
variable {M : Model} {A : Around} {E : Value → Shared → Prop} {s : Shared} {K : Frag} {h₀ : Heap} {m mg mb : Str → Option Value} {p : Program} {loose : List Str} {env : Env} {x : Str} {pos : Pos} {v : Value} {Q : Value → Shared → Prop} {c : Addr} {o : Obj}
theorem nmL (F : Fr h₀ env.locals s.heap m) (hv : m x = some v) (h : Q v s) (hk : env.scope.kind = .function) (hx : env.kindOf x = some .local) (hd : (x == ("__debug__" : Str)) = false) : wpAny M A (eval (.Name x pos) env) Q E s :=
  wpAny_Name (wpAny_loadName_local hk hx F.ns hv h) hd
theorem nmC (F : Fr h₀ env.locals s.heap m) (ho : h₀.get? c = some o) (hv : o.data = .cell (some v)) (hc : env.cells.lookup x = some c) (h : Q v s) (hk : env.scope.kind = .function) (hx : env.kindOf x = some .cell) (hd : (x == ("__debug__" : Str)) = false) : wpAny M A (eval (.Name x pos) env) Q E s :=
  wpAny_Name (wpAny_loadName_cell hk hx hc ⟨o, F.keep _ _ ho, hv⟩ h) hd
theorem nmG (F : Fr h₀ env.locals s.heap m) (X : K.In h₀) (T : TopRead p loose mg mb h₀) (e : nsIn K mainGlobals x = some (some v)) (h : Q v s) (hg : env.globals = mainGlobals) (hk : env.scope.kind = .function) (hx : env.kindOf x = some .globalImplicit) (hd : (x == ("__debug__" : Str)) = false) : wpAny M A (eval (.Name x pos) env) Q E s :=
  Name_function_global hk hx (loadGlobal_global (hg ▸ T.g.keeps F.keep) (mg_of X T.g e) h) hd
theorem nmB (F : Fr h₀ env.locals s.heap m) (X : K.In h₀) (T : TopRead p loose mg mb h₀) (e : nsIn K mainGlobals x = some none) (hv : bootBuiltins x = some v) (hn : x ≠ "__name__") (h : Q v s) (hg : env.globals = mainGlobals) (hb : env.builtins = builtinsNs) (hk : env.scope.kind = .function) (hx : env.kindOf x = some .globalImplicit) (hd : (x == ("__debug__" : Str)) = false) : wpAny M A (eval (.Name x pos) env) Q E s :=
  Name_function_global hk hx (loadGlobal_builtin (hg ▸ T.g.keeps F.keep) (mg_none_of X T.g e) (hb ▸ T.b.keeps F.keep) ((T.builtins x hn).trans hv) h) hd
end
section
variable {w : World} {A : Around} {E : Value → Shared → Prop} {h₀ : Heap} {env : Env} {l : List (Str × Value)} {x : Str} {px : Pos} {v : Value} {news : List (Addr × Obj)} {P : Unit → Heap → Prop} {h : Heap}
theorem asgN (F : Fr h₀ env.locals h (am l)) (N : News h₀ env.locals h news) (hx : env.kindOf x = some .local) (hk : env.scope.kind = .function) (k : ∀ h', Fr h₀ env.locals h' (am ((x, v) :: l)) → News h₀ env.locals h' news → P () h') : Ok w A (assign (.Name x px) env v) P h := fun g d tk os Q E q =>
  wpAny_assign_Name (wpAny_storeName_local hx F.ns (fun h' hn hs => q _ h' _ (k h' (by rw [← am_put]; exact F.set hn hs) (N.set hs))) (by rw [hk]; rfl))
theorem tst_nil (p : P' true h) : Ok w A (tst [] env) P' h := fun g d tk os Q E q => wpAny_tests_nil (q _ _ _ p)
theorem tst_one {c : Expr} {P' : Bool → Heap → Prop} (p : Ok w A (isTrue c env (eval c env)) P' h) : Ok w A (tst [c] env) P' h := fun g d tk os Q E q => wpAny_tests_one (p g d tk os Q E q)
end
end Mine
namespace Mine
section
variable {prog : Program} {w : World} {A : Around} {E : Value → Shared → Prop} {s : Shared} {h₀ : Heap} {L r : Addr} {m : Str → Option Value} {Q : Value → Shared → Prop} {v : Value} {vs : List Value}
theorem pickW {value slice : Expr} {k : Int} {u : Tok} {j : Nat} (F : Fr h₀ L s.heap m) (hT : h₀.get? r = some (tupO vs)) (hlo : -(2 ^ 63) ≤ k) (hhi : k < 2 ^ 63) (hj : seqIndex? k vs.length = some j) (hx : vs[j]? = some v) (h : Q v s)
    (hs : subscripted slice false (.ref r) (.int k u) = operate [.ref r, .int k u] (getItem (.ref r) (.int k u)) := by with_unfolding_all rfl) : wpAny (model prog w) A (subscriptTail value slice (.ref r) (.int k u)) Q E s :=
  item_tupleT ⟨_, F.keep _ _ hT, rfl, 0, rfl⟩ hlo hhi hj hx h hs
end
theorem Stp.filter {α : Type} {rows : List α} {keep : Nat → Bool} {R : Nat → Value → List (Addr × Obj) → Prop} {pr : α → Bool} {f : α → Value} (hk : ∀ i e, rows[i]? = some e → keep i = pr e) (hR : ∀ i y o, R i y o → o = [] ∧ ∃ e, rows[i]? = some e ∧ y = f e) :
    ∀ n, n ≤ rows.length → ∀ ys own, Stp keep R n ys own → ys = ((rows.take n).filter pr).map f ∧ own = []
  | 0, _, ys, own, h => ⟨by simp [h.1], h.2⟩
  | n + 1, hn, ys, own, h => by
    have e : rows[n]? = some rows[n] := List.getElem?_eq_getElem (by omega)
    rw [List.take_succ, e, List.filter_append, List.map_append]
    unfold Stp at h
    by_cases hkn : keep n = true
    · rw [if_pos hkn] at h
      obtain ⟨ys', y, own', o, rfl, rfl, hS, hr⟩ := h
      obtain ⟨i1, i2⟩ := Stp.filter hk hR n (by omega) ys' own' hS
      obtain ⟨rfl, e', he', rfl⟩ := hR _ _ _ hr
      rw [e] at he'; cases he'
      rw [hk _ _ e] at hkn
      subst i1 i2
      simp [hkn]
    · rw [if_neg hkn] at h
      obtain ⟨i1, i2⟩ := Stp.filter hk hR n (by omega) ys own h
      rw [hk _ _ e] at hkn
      subst i1 i2
      simp [hkn]
end Mine
namespace Mine
open Builtin
section
variable {prog : Program} {w : World} {A : Around} {E : Value → Shared → Prop} {s : Shared}
/-- xs[:] = ys -/
theorem setSlice {l sl D : Addr} {items ys : Array Value} {n : Nat} {Q : Unit → Shared → Prop} (ho : s.heap.get? l = some (W.listOf items n)) (hy : s.heap.IsList D ys) (hs : s.heap.IsSliceOf sl .none .none .none) (hne : l ≠ D) (h1 : items.size ≤ 100000) (h2 : ys.size ≤ 100000)
    (hQ : ∀ h' n', h'.get? l = some (W.listOf ys n') → Heap.SameBut l s.heap h' → Q () { s with heap := h' }) :
    wpAny (model prog w) A (setItem (.ref l) (.ref sl) (.ref D)) Q E s := by
  have hl : s.heap.IsList l items := ⟨_, ho, rfl, n, rfl⟩
  obtain ⟨os, hos, hcs, hds⟩ := id hs
  obtain ⟨oy, hoy, hcy, ny, hdy⟩ := id hy
  have hTs : s.TypeIs (.ref sl) "slice" := ⟨os, hos, hcs⟩
  unfold setItem
  try with_reducible refine wpAny_holding ?_
  first | refine wpAny_bind (wpAny_pure ?_) | skip
  refine wpAny_bind (wpAny_sequenceKey hl.typeIs (by decide) ?_)
  refine wpAny_bind (wpAny_callSpecial?_slot (name := Str.ofString "__setitem__") hl.typeIs slot_list_setitem
    (wpAny_call_entry slot_list_setitem hl.typeIs entry_list_setitem ?_ (args_list_setitem _ _ _)))
  show wpAny _ _ (Builtin.List.listSubscript? (.ref sl) >>= _) _ _ s
  refine wpAny_bind ?_
  unfold Builtin.List.listSubscript?
  refine wpAny_bind (wpAny_specialOf hTs slice_no_index ?_)
  simp only [Option.isNone_none, if_true]
  refine wpAny_pure ?_
  show wpAny _ _ (typeOf (.ref sl) >>= _) _ _ s
  refine wpAny_bind (wpAny_typeOf hTs ?_)
  rw [if_neg (by decide)]
  rw [listSliceParts_eq]
  refine wpAny_bind (wpAny_bind (wpAny_field hos hds (x := .none) rfl (wpAny_bind (wpAny_listPart .none ?_))))
  rw [if_neg (show ¬ ((rawPart none == rawInt 0) = true) from Bool.false_ne_true)]
  refine wpAny_bind (wpAny_field hos hds (x := .none) rfl (wpAny_bind (wpAny_listPart .none ?_)))
  refine wpAny_bind (wpAny_field hos hds (x := .none) rfl (wpAny_bind (wpAny_listPart .none (wpAny_pure ?_))))
  dsimp only
  have hsame : Builtin.List.listSameRef (.ref l) (.ref D) = false := beq_eq_false_iff_ne.mpr hne
  rw [hsame]
  have items1 : ∀ (Q : Array Value → Shared → Prop) (E : Value → Shared → Prop) (A : Around), Q ys s → wpAny (model prog w) A (Builtin.List.listAllItems (.ref D) "must assign iterable to extended slice") Q E s := fun Q E A q => by
    unfold Builtin.List.listAllItems
    refine wpAny_bind (wpAny_typeOf ⟨oy, hoy, hcy⟩ ?_)
    rw [if_pos (by decide)]
    unfold Builtin.List.listItems
    exact wpAny_bind (wpAny_seqItems hoy hdy (wpAny_pure q))
  rw [if_neg Bool.false_ne_true]
  refine wpAny_bind (items1 _ _ _ ?_)
  refine wpAny_bind (m := Builtin.List.listItems (.ref l)) ?_
  unfold Builtin.List.listItems
  refine wpAny_bind (wpAny_seqItems ho rfl (wpAny_pure ?_))
  refine wpAny_bind (wpAny_of_eq (sliceIndices_raw none none none items.size (fun e => nomatch e)) ?_)
  have eb : sliceBounds none none none items.size = (0, (items.size : Int), 1) := rfl
  rw [eb]
  dsimp only
  rw [if_pos (by decide)]
  refine wpAny_bind (wpAny_rule ?_)
  rw [if_neg (by unfold Builtin.List.listTooLong; rw [sizeLine_eq, decide_eq_true_eq]; omega)]
  have ef : items.extract 0 (0 : Int).toNat ++ ys ++ items.extract (max 0 (items.size : Int)).toNat items.size = ys := by
    have : (max 0 (items.size : Int)).toNat = items.size := by omega
    simp [this]
  refine wpAny_bind (m := updateSeq l _) (wpAny_updateSeq (o := W.listOf items n) (xs := items) (n := n) ho rfl ?_ (by rw [sizeLine_eq]; omega) (by rw [ef, sizeLine_eq]; omega))
  refine wpAny_bind (wpAny_letGo ?_)
  refine wpAny_pure ⟨.none, rfl, wpAny_pure (hQ _ (if ys.size == items.size then n else n + 1) ?_ (Heap.SameBut.update ..))⟩
  rw [Heap.get?_update_self _ ho rfl]
  show some (W.listOf (items.extract 0 (0 : Int).toNat ++ ys ++ items.extract (max 0 (items.size : Int)).toNat items.size) (if (items.extract 0 (0 : Int).toNat ++ ys ++ items.extract (max 0 (items.size : Int)).toNat items.size).size == items.size then n else n + 1)) = _
  rw [ef]
end
end Mine
namespace Mine
local macro_rules | `(tactic| walk_at "storeName") => `(tactic| (k_dflt (refine' stM ?F ?N ?_ ?a ?b; (case F => first | with_reducible assumption | assumption); (case N => first | with_reducible assumption | assumption); (case a => rfl); (case b => rfl); k_whole); intro h' F' N'; (try k_sweep); (try dsimp only)))
local macro_rules | `(tactic| walk_at "subscriptTail") => `(tactic| ((with_reducible show wpAny _ _ (subscriptTail _ _ (Value.ref _) (Value.int _ _)) _ _ _); k_dflt (refine' pickT ?t ?i ?a ?b ?z ?_ ?s; (case t => exact News.isTup (by k_asm) (by k_mem)); (case i => l_ints); (case a => l_idx); (case b => l_idx); (case z => decide); (case s => with_unfolding_all rfl); k_whole); intro t'))
local macro_rules | `(tactic| walk_at "assign Tuple") => `(tactic| ((with_reducible show wpAny _ _ (assign (Expr.Tuple _ _ _) _ (Value.ref _)) _ _ _); k_dflt (refine' unpackN_ ?F ?N ?T ?hh ?k2 ?k3 ?_; (case F => k_asm); (case N => k_asm); (case T => exact News.isTup (by k_asm) (by k_mem)); (case hh => exact Gd.han (by assumption)); (case k2 => exact rfl); (case k3 => exact rfl)); intro h' F' N'; (try k_sweep); (try dsimp only)))
local macro_rules | `(tactic| walk_at "lk") => `(tactic| first | with_reducible exact am_hit | with_reducible exact am_skip (by kernel_rfl) am_hit | with_reducible exact am_skip (by kernel_rfl) (am_skip (by kernel_rfl) am_hit) | (with_reducible refine' am_skip (by kernel_rfl) ?_; walk_at "lk") | assumption)
local macro_rules | `(tactic| walk_at "eval Name") => `(tactic| (k_dflt (first | (refine' nmL ?F ?vv ?_ ?a ?b ?c; (case F => assumption); (case a => rfl); (case b => rfl); (case c => decide); (case vv => walk_at "lk")) | (refine' nmC ?F ?o ?d ?l ?_ ?a ?b ?c; (case F => assumption); (case a => rfl); (case b => rfl); (case c => decide); (case l => rfl); (case o => assumption); (case d => assumption)) | (refine' nmG ?F ?X ?T ?e ?_ ?g ?a ?b ?c; (case F => assumption); (case X => assumption); (case T => assumption); (case g => rfl); (case a => rfl); (case b => rfl); (case c => decide); (case e => k_is)) | (refine' nmB ?F ?X ?T ?e ?vv ?n ?_ ?g ?h ?a ?b ?c; (case F => assumption); (case X => assumption); (case T => assumption); (case g => rfl); (case h => rfl); (case a => rfl); (case b => rfl); (case c => decide); (case e => k_is); (case vv => boot_fast); (case n => decide))); k_whole))
theorem fill_T2 : PySem.Challenge.rw_wf0080_01 = PySem.Challenge.rw_wf0080_01 ∧ KM = KM := by
  w_on
  k_fill
  exact ⟨rfl, rfl⟩

local macro_rules | `(tactic| walk_at "mine") => `(tactic| ((with_reducible show wpAny _ _ (subscriptTail _ _ (Value.ref _) (Value.int _ _)) _ _ _); refine' pickW ?F ?T ?a ?b ?c ?e ?_; (case F => assumption); (case T => assumption); (case a => decide); (case b => decide); (case c => exact rfl); (case e => exact rfl)))
local macro_rules | `(tactic| walk_at "let") => `(tactic| first | exact wL_letter | (show (wL _ _).toArray.size ≤ _; rw [List.size_toArray]; exact Nat.le_trans (wL_len (by omega)) (by decide)))
local macro_rules | `(tactic| walk_at "mine") => `(tactic| ((with_reducible show wpAny _ _ (call (Value.ref 83) _ _) _ _ _); refine use_c (by assumption) (by assumption) (conv_c (Gl.keeps (by assumption) (Fr.keep (by assumption))) (Gd.le (by assumption) (by decide)) (by walk_at "let") (by walk_at "let")) ?_; rintro v' h' tk' F' N' e' hv'; (try subst hv'); (try k_sweep); (try dsimp only)))
local macro_rules | `(tactic| walk_at "call builtin:str.lower") => `(tactic| ((with_reducible show wpAny _ _ (call _ [Value.str (wS _ _) _]) _ _ _); refine lower_w (by omega) ?_; intro _))
noncomputable abbrev IsL (h : Heap) (b : Addr) (vs : List Value) : Prop := h.IsList b vs.toArray
theorem del_c {w : World} {mg mb : Str → Option Value} {A : Around} {base h : Heap} {a dx b : Addr} {k : Tok} {rows : List Row} {n : Nat} {m : Nat} {low : Bool} {t : Tok} (G : Gl w mg mb base) (H : Hid base h (TL w.params a dx b k rows n)) (S : Sep a dx b rows) (gd : Gd 3 A) (hr : ∀ e ∈ rows, RowOk e) (hrn : rows.length ≤ 1000) (h0 : 0 < m) (hm : m < 16 ^ 16) :
    Cd w A (.call (.ref 102) ⟨[.ref a, .str (wS m low) t], []⟩) (fun v h' => v = .none ∧ ∃ n', MT w.params base h' a dx b k (rows.filter fun e : Row => decide (e.2.1.1 ≠ m)) n') h := by
  w_on
  have X := G.X
  have T := G.T
  refine' enterHC (n := 2) [("self", .ref a), ("name", .str (wS m low) t)] G H gd ?k6 ?k7 ?k9 ?kB ?kN ?_ ?c2 ?c3 ?c4
  case k6 => k_is
  case k7 => k_is
  case k9 => exact fun s _ => BindsTo.of_eq (by with_unfolding_all rfl)
  case kB => exact rfl
  case kN => decide
  case c2 => exact rfl
  case c3 => exact rfl
  case c4 => exact rfl
  intro L h₁ cells F N hd Y fr G gd g d tk os Q E q
  obtain ⟨o', hE', d1'⟩ := CellsAre.one Y
  subst hE'
  have F : Fr base L h₁ (fun y => if y = Str.ofString "self" then some (.ref a) else am [] y) := F
  rw [am_put] at F
  have hdd : ∀ p ∈ TL w.params a dx b k rows n, p.1 ≠ L + 1 := fun p hp e => hd _ (.head _) p hp e.symm
  repeat' ((fail_if_success (with_reducible show wpAny _ _ (exec (Stmt.While _ _ _ _) _) _ _ _)); (fail_if_success (with_reducible show wpAny _ _ (exec (Stmt.For _ _ _ _ _) _) _ _ _)); (fail_if_success (with_reducible show wpAny _ _ (pyIter _) _ _ _)); (fail_if_success (with_reducible show wpAny _ _ (eval (Expr.ListComp _ _ _ _) _) _ _ _)); first | walk_at "mine" | walk1 | (dsimp only; walk1))
  rename_i F' N' _
  refine storeX_C (g := fun o' => (L + 1, o') :: TL w.params a dx b k rows n) F' N' rfl (.head hdd) d1' ?_ (by rfl) (by rfl)
  clear F' N' d1' Y
  intro h2 o2 F N d2
  repeat' ((fail_if_success (with_reducible show wpAny _ _ (exec (Stmt.While _ _ _ _) _) _ _ _)); (fail_if_success (with_reducible show wpAny _ _ (exec (Stmt.For _ _ _ _ _) _) _ _ _)); (fail_if_success (with_reducible show wpAny _ _ (pyIter _) _ _ _)); (fail_if_success (with_reducible show wpAny _ _ (eval (Expr.ListComp _ _ _ _) _) _ _ _)); first | walk_at "mine" | walk1 | (dsimp only; walk1))
  refine lc_open [(Str.ofString "name", L + 1)] (by with_unfolding_all rfl) rfl (by decide) ?_
  repeat' ((fail_if_success (with_reducible show wpAny _ _ (exec (Stmt.While _ _ _ _) _) _ _ _)); (fail_if_success (with_reducible show wpAny _ _ (exec (Stmt.For _ _ _ _ _) _) _ _ _)); (fail_if_success (with_reducible show wpAny _ _ (pyIter _) _ _ _)); (fail_if_success (with_reducible show wpAny _ _ (eval (Expr.ListComp _ _ _ _) _) _ _ _)); first | walk_at "mine" | walk1 | (dsimp only; walk1))
  have hbL : IsL h2 b (rows.map rowR) := News.isList N (.tail _ (.tail _ (.tail _ (.head _))))
  have hrow : ∀ e ∈ rows, h2.get? e.1 = some (tupO [wdV e.2.1, wdV e.2.2]) := fun e he => (N (rowO e) (.tail _ (.tail _ (.tail _ (.tail _ (List.mem_map_of_mem he)))))).1
  have hcl : h2.get? (L + 1) = some o2 := (N _ (.head _)).1
  refine lc_list (items := (rows.map rowR).toArray) (fun i => match rows[i]? with | some e => decide (e.2.1.1 ≠ m) | none => false) (fun i y o => o = [] ∧ ∃ e, rows[i]? = some e ∧ y = rowR e) (Gd.han (by assumption)) hbL (by simp; omega) (by decide) rfl (fun _ _ => .inl rfl) ?turn (lc_fin F N ?fin)
  case turn =>
    rintro i v hv C hC l5 h5 aux prev F5 N5
    have hv' : ∃ e, rows[i]? = some e ∧ v = rowR e := by
      rw [List.getElem?_toArray, List.getElem?_map] at hv
      obtain ⟨e, he, rfl⟩ := Option.map_eq_some_iff.mp hv
      exact ⟨e, he, rfl⟩
    obtain ⟨e, he, rfl⟩ := hv'
    have G2 := G.keeps F.keep
    have hre := hr e (List.mem_of_getElem? he)
    have hT := hrow e (List.mem_of_getElem? he)
    obtain ⟨r, ⟨n1, b1, t1⟩, ⟨n2, b2, t2⟩⟩ := e
    have hn0 : 0 < n1 := hre.1.1
    have hn1 : n1 < 16 ^ 16 := hre.1.2
    have hT : h2.get? r = some (tupO [.str (wS n1 b1) t1, .str (wS n2 b2) t2]) := hT
    dsimp only [rowR]
    refine asgN F5 N5 rfl rfl fun h6 F6 N6 => tst_one ?_
    intro g7 d7 tk7 os7 Q7 E7 q7
    repeat' ((fail_if_success (with_reducible show wpAny _ _ (exec (Stmt.While _ _ _ _) _) _ _ _)); (fail_if_success (with_reducible show wpAny _ _ (exec (Stmt.For _ _ _ _ _) _) _ _ _)); (fail_if_success (with_reducible show wpAny _ _ (pyIter _) _ _ _)); (fail_if_success (with_reducible show wpAny _ _ (eval (Expr.ListComp _ _ _ _) _) _ _ _)); first | walk_at "mine" | walk1 | (dsimp only; walk1))
    have hne : (wS n1 true != wS m true) = decide (n1 ≠ m) := by
      by_cases e : n1 = m
      · subst e; simp
      · rw [decide_eq_true e, bne_iff_ne]; exact fun q => e ((wS_inj hn0).mp q).1
    rw [hne]
    refine q7 _ _ _ ⟨by rw [he], ?_⟩
    split
    · intro g8 d8 tk8 os8 Q8 E8 q8
      repeat' ((fail_if_success (with_reducible show wpAny _ _ (exec (Stmt.While _ _ _ _) _) _ _ _)); (fail_if_success (with_reducible show wpAny _ _ (exec (Stmt.For _ _ _ _ _) _) _ _ _)); (fail_if_success (with_reducible show wpAny _ _ (pyIter _) _ _ _)); (fail_if_success (with_reducible show wpAny _ _ (eval (Expr.ListComp _ _ _ _) _) _ _ _)); first | walk_at "mine" | walk1 | (dsimp only; walk1))
      exact q8 _ _ _ ⟨_, [], by assumption, by assumption, (fun _ h => nomatch h), rfl, _, he, rfl⟩
    · exact ⟨_, by assumption, by assumption⟩
  case fin =>
    intro D ys own c h7 tk7 k7 F7 N7 hd7 hS
    obtain ⟨hys, rfl⟩ := Stp.filter (rows := rows) (pr := fun e : Row => decide (e.2.1.1 ≠ m)) (f := rowR) (fun i e he => by rw [he]) (fun i y o h => h) _ (by simp) ys own hS
    rw [List.size_toArray, List.length_map, List.take_length] at hys
    subst hys
    dsimp only
    repeat' ((fail_if_success (with_reducible show wpAny _ _ (exec (Stmt.While _ _ _ _) _) _ _ _)); (fail_if_success (with_reducible show wpAny _ _ (exec (Stmt.For _ _ _ _ _) _) _ _ _)); (fail_if_success (with_reducible show wpAny _ _ (pyIter _) _ _ _)); (fail_if_success (with_reducible show wpAny _ _ (eval (Expr.ListComp _ _ _ _) _) _ _ _)); first | walk_at "mine" | walk1 | (dsimp only; walk1))
    have hb7 := (N7 (b, W.listOf (rows.map rowR).toArray n) (.tail _ (List.mem_append_right _ (.tail _ (.tail _ (.tail _ (.head _))))))).1
    have hD7 := (N7 _ (.head _)).1
    have hbD : b ≠ D := fun e => hd7 _ (.head _) (b, W.listOf (rows.map rowR).toArray n) (.tail _ (.tail _ (.tail _ (.head _)))) e.symm
    refine setSlice (s := ⟨_, _, _, _, _⟩) (items := (rows.map rowR).toArray) (ys := ((rows.filter fun e : Row => decide (e.2.1.1 ≠ m)).map rowR).toArray) (n := n) (Heap.get?_push_of_some _ hb7) ⟨_, Heap.get?_push_of_some _ hD7, rfl, _, rfl⟩ (Heap.IsSliceOf.new _ _ _ _) hbD (by simp; omega) (by rw [List.size_toArray, List.length_map]; exact Nat.le_trans (List.length_filter_le _ rows) (by omega)) ?_
    intro h8 n8 hb8 hs8
    dsimp only
    repeat' ((fail_if_success (with_reducible show wpAny _ _ (exec (Stmt.While _ _ _ _) _) _ _ _)); (fail_if_success (with_reducible show wpAny _ _ (exec (Stmt.For _ _ _ _ _) _) _ _ _)); (fail_if_success (with_reducible show wpAny _ _ (pyIter _) _ _ _)); (fail_if_success (with_reducible show wpAny _ _ (eval (Expr.ListComp _ _ _ _) _) _ _ _)); first | walk_at "mine" | walk1 | (dsimp only; walk1))
    have hbL7 : b ≠ L := (N7 (b, W.listOf (rows.map rowR).toArray n) (.tail _ (List.mem_append_right _ (.tail _ (.tail _ (.tail _ (.head _))))))).2.1
    have hb0 : base.get? b = none := (N7 (b, W.listOf (rows.map rowR).toArray n) (.tail _ (List.mem_append_right _ (.tail _ (.tail _ (.tail _ (.head _))))))).2.2
    have F8 := (F7.push { cls := .type "slice", data := .fields #[.none, .none, .none] }).change hs8 hbL7 hb0
    have sep : ∀ e ∈ rows.filter (fun e : Row => decide (e.2.1.1 ≠ m)), e ∈ rows := fun e he => (List.mem_filter.mp he).1
    have k8 : ∀ p ∈ TL w.params a dx b k rows n, p.1 ≠ b → h8.get? p.1 = some p.2 ∧ base.get? p.1 = none := fun p hp hne => by
      have P := N7 p (.tail _ (List.mem_append_right _ (.tail _ hp)))
      exact ⟨(hs8.2 _ hne).trans (Heap.get?_push_of_some _ P.1), P.2.2⟩
    refine q _ _ _ ⟨rfl, n8, ⟨S.1, S.2.1, S.2.2.1, fun e he => S.2.2.2 e (sep e he)⟩, F8.keep, Fr.size F8, fun p hp => ?_⟩
    rcases List.mem_cons.mp hp with rfl | hp
    · exact k8 _ (.head _) S.2.1
    rcases List.mem_cons.mp hp with rfl | hp
    · exact k8 _ (.tail _ (.head _)) S.2.2.1
    rcases List.mem_cons.mp hp with rfl | hp
    · exact ⟨hb8, hb0⟩
    · obtain ⟨e, he, rfl⟩ := List.mem_map.mp hp
      exact k8 _ (.tail _ (.tail _ (.tail _ (List.mem_map_of_mem (sep e he))))) (S.2.2.2 e (sep e he)).2.2
end Mine
namespace Mine
section
variable {M : Model} {A : Around} {E : Value → Shared → Prop} {s : Shared} {K : Frag} {x C L f : Addr} {h₀ : Heap} {m : Str → Option Value} {ox : Obj} {od : Option Obj} {i v : Value}
theorem delI {Q : Unit → Shared → Prop} (F : Fr h₀ L s.heap m) (X₀ : K.In h₀) (I : InstAt s.heap x ox C od) (hq : noSeq K C = true) (hs : findIn K (.ref C) "__delitem__" = some (some (.ref f))) (hf : isFn K (.ref f) = true)
    (h : wpAny M A (call (.ref f) [.ref x, i]) (fun _ s' => Q () s') E s) : wpAny M A (delItem (.ref x) i) Q E s := by
  have X := X₀.keeps F.keep
  unfold delItem sequenceKey
  refine wpAny_holding (wpAny_bind (wpAny_bind (I.type.here ?_)))
  refine wpAny_bind ((anyM_none X hq).here ?_)
  rw [if_pos (show (!false) = true from rfl)]
  exact wpAny_pure (wpAny_bind (special_fn X I hs (beq_iff_eq.mp hf) (wpAny_mono h (fun _ _ z => wpAny_pure z) fun _ _ z => z)))
end
section
variable {w : World} {A : Around} {h h₀ : Heap} {L a dx b : Addr} {k : Tok} {rows : List Row} {n : Nat} {m : Str → Option Value} {news : List (Addr × Obj)} {t : Sem Value} {V : Value → List Row → Prop} {g : Array GenState} {d : Drawn} {tk : Nat} {os : OsState} {Q : Value → Shared → Prop} {E : Value → Shared → Prop}
/-- a pair appended to the table -/
theorem tl_add {P : Params} {r : Addr} {x y : Wd} {n' : Nat} (S : Sep a dx b rows) (l : ∀ p ∈ TL P a dx b k rows n, p.1 < r) :
    Sep a dx b (rows ++ [(r, x, y)]) ∧ ∀ p ∈ TL P a dx b k (rows ++ [(r, x, y)]) n', p = (b, W.listOf ((rows.map rowR) ++ [Value.ref r]).toArray n') ∨ p ∈ (r, tupO [wdV x, wdV y]) :: TL P a dx b k rows n ∧ p.1 ≠ b := by
  have la : a < r := l (a, _) (.head _)
  have ld : dx < r := l (dx, _) (.tail _ (.head _))
  have lb : b < r := l (b, _) (.tail _ (.tail _ (.head _)))
  refine ⟨⟨S.1, S.2.1, S.2.2.1, fun e he => ?_⟩, fun p hp => ?_⟩
  · rcases List.mem_append.mp he with he | he
    · exact S.2.2.2 e he
    · rw [List.mem_singleton.mp he]; exact ⟨Nat.ne_of_gt la, Nat.ne_of_gt ld, Nat.ne_of_gt lb⟩
  · rcases List.mem_cons.mp hp with rfl | hp
    · exact .inr ⟨.tail _ (.head _), S.2.1⟩
    rcases List.mem_cons.mp hp with rfl | hp
    · exact .inr ⟨.tail _ (.tail _ (.head _)), S.2.2.1⟩
    rcases List.mem_cons.mp hp with rfl | hp
    · exact .inl (by rw [List.map_append]; rfl)
    rw [List.map_append] at hp
    rcases List.mem_append.mp hp with hp | hp
    · obtain ⟨e, he, rfl⟩ := List.mem_map.mp hp
      exact .inr ⟨.tail _ (.tail _ (.tail _ (.tail _ (List.mem_map_of_mem he)))), (S.2.2.2 e he).2.2⟩
    · rw [List.mem_singleton.mp hp]; exact .inr ⟨.head _, Nat.ne_of_gt lb⟩
/-- a call that may turn the table in hand -/
theorem use_t (F : Fr h₀ L h m) (N : News h₀ L h (TL w.params a dx b k rows n ++ news)) (hd : ∀ p ∈ TL w.params a dx b k rows n, ∀ q ∈ news, p.1 ≠ q.1)
    (x : Ok w A t (fun v h' => ∃ rows' n', V v rows' ∧ MT w.params (hideAll h ((TL w.params a dx b k rows n).map (·.1))) h' a dx b k rows' n') h)
    (q : ∀ v rows' n' h' tk', Fr h₀ L h' m → News h₀ L h' (TL w.params a dx b k rows' n' ++ news) → (∀ p ∈ TL w.params a dx b k rows' n', ∀ q ∈ news, p.1 ≠ q.1) → Sep a dx b rows' → V v rows' → Q v ⟨h', g, d, tk', os⟩) : wpAny (model prM w) A t Q E ⟨h, g, d, tk, os⟩ :=
  x.use fun v h' tk' ⟨rows', n', hV, hS, hH⟩ => by
    obtain ⟨F', N', d'⟩ := hid_back F N hd hH.1 hH.2.2
    exact q v rows' n' h' tk' F' N' d' hS hV
end
end Mine
namespace Mine
section
variable {w : World} {mg mb : Str → Option Value} {A : Around} {h base : Heap} {P : Value → Heap → Prop} {own : List (Addr × Obj)}
  {name qual : Str} {params : Arguments} {body : List Stmt} {scope : Scope} {dV kV doc pm cdv ct oc : Value} {an od : Option Addr} {osl : Array (Option Value)} {f : Addr} {pos : List Value} {kw : List (Str × Value)} {n : Nat}
/-- as enterH, where the call makes a dict for its named arguments -/
theorem enterK (binds : Value → List (Str × Value)) (G : Gl w mg mb base) (H : Hid base h own) (gd : Gd (n + 1) A) (ho : (KM w.params).lookup f = some ⟨oc, od, .func (fnOf name qual params body scope dV kV doc pm an cdv ct), osl⟩) (hcd : codeIn (KM w.params) cdv qual = true)
    (hbind : ∀ s : Shared, s.heap = h → ∀ (M : Model) (A : Around) (E : Value → Shared → Prop) (Q : List (Str × Value) → Shared → Prop), Q (binds (.ref h.objs.size)) { s with heap := h.push emptyDict } → wpAny M A (bindArgs (fnOf name qual params body scope dV kV doc pm an cdv ct) ⟨pos, kw⟩) Q E s) (hloc : ∀ y ∈ binds (.ref h.objs.size), scope.names.lookup y.1 = some .local)
    (hb : ∀ D L h₁, Fr base L h₁ (am (binds (.ref D)).reverse) → News base L h₁ ((D, emptyDict) :: own) → (∀ p ∈ own, p.1 < D) → (D == sysModules) = false → base.get? L = none → Gl w mg mb base → Gd n (A.deeper (envX qual scope L f cdv [])) → Ok w (A.deeper (envX qual scope L f cdv [])) (execs body (envX qual scope L f cdv [])) (fun fl h' => P (fv fl) h') h₁)
    (hcell : ∀ x ∈ scope.names, x.2 ≠ .cell) (hco : scope.isCoroutine = false := by rfl) (hgen : scope.isGenerator = false := by rfl) (hk : scope.kind = .function := by rfl) :
    Cd w A (.call (.ref f) ⟨pos, kw⟩) P h := fun g d tk os R q => by
  have G' := G.keeps H.1
  refine codeAny_call_function gd.room (G'.X _ _ ho) rfl hco hgen rfl (codeRec_of G'.X hcd) (hbind _ rfl _ _ _ _ ?_)
  have kp : ∀ b o, h.get? b = some o → (h.push emptyDict).get? b = some o := fun b o e => Heap.get?_push_of_some _ e
  refine wpAny_newFunctionEnv hcell hloc (fun h₁ hns hsb => ⟨(G'.T.nolimit.keeps kp).fresh _ hsb, codeAny_func ?_⟩) hk
  have hk₁ : ∀ b o, (h.push emptyDict).get? b = some o → h₁.get? b = some o := fun b o e => hsb.extBut b o (Nat.ne_of_lt (Heap.lt_size e)) (Heap.get?_push_of_some _ e)
  have hsz : (h.push emptyDict).objs.size = h.objs.size + 1 := Heap.size_push ..
  have no : ∀ a, h.objs.size ≤ a → base.get? a = none := fun a ha => by
    cases e : base.get? a with
    | none => rfl
    | some o => exact absurd (Heap.lt_size (H.1 _ _ e)) (Nat.not_lt.mpr ha)
  exact wpAny_mono (hb h.objs.size (h.push emptyDict).objs.size h₁ ⟨hns, fun b o e => hk₁ b o (kp b o (H.1 b o e)), by rw [hsz]; exact Nat.le_succ_of_le H.2.1⟩ (fun p hp => by
      rcases List.mem_cons.mp hp with rfl | hp
      · exact ⟨hk₁ _ _ (Heap.get?_push_size _ rfl), by rw [hsz]; exact Nat.ne_of_lt (Nat.lt_succ_self _), no _ (Nat.le_refl _)⟩
      · exact ⟨hk₁ _ _ (kp _ _ (H.2.2 p hp).1), Nat.ne_of_lt (Heap.lt_size (kp _ _ (H.2.2 p hp).1)), (H.2.2 p hp).2⟩) (fun p hp => Heap.lt_size (H.2.2 p hp).1) (beq_eq_false_iff_ne.mpr fun e => by
      have h1 := Nat.lt_of_lt_of_le (Heap.lt_size (G.X 289 _ rfl)) H.2.1
      rw [show h.objs.size = sysModules from e] at h1
      exact absurd h1 (by decide)) (no _ (by rw [hsz]; exact Nat.le_succ _)) G gd.deeper g d _ os (fun fl s' => R (.ok (.ret (fv fl))) s') (fun e s' => wpAny (model prM w) (A.deeper (envX qual scope (h.push emptyDict).objs.size f cdv [])) (leaving (envX qual scope (h.push emptyDict).objs.size f cdv []) e) (fun _ s'' => R (.error e) s'') (fun e' s'' => R (.error e') s'') s') fun v h' tk' p => q _ _ _ p) (fun fl s' x => by cases fl <;> exact x) fun e s' x => x
end
end Mine
namespace Mine
section
variable {w : World} {A : Around} {E : Value → Shared → Prop} {env : Env} {target o : Expr} {body : List Stmt} {apos cpos pos : Pos} {h : Heap} {D : Addr}
/-- for .. in d.items(), d empty -/
theorem for_items0 {g : Array GenState} {d : Drawn} {tk : Nat} {os : OsState} {Q : Flow → Shared → Prop} (hh : A.handled = none) (hS : (D == sysModules) = false) (hD : h.get? D = some emptyDict)
    (hbase : attributeBase o "items" env (eval o env) = eval o env) (hline : (apos.endLine == cpos.line) = true)
    (ho : ∀ Q' E', Q' (.ref D) ⟨h, g, d, tk, os⟩ → wpAny (model prM w) A (eval o env) Q' E' ⟨h, g, d, tk, os⟩)
    (q : ∀ h' tk, h.StaysIn h' → Q .next ⟨h', g, d, tk, os⟩)
    (hs : ∀ x, foldedSetIterable (.Call (.Attribute o "items" apos) [] [] cpos) env x = pure x := by intro _; rfl) :
    wpAny (model prM w) A (exec (.For target (.Call (.Attribute o "items" apos) [] [] cpos) body [] pos) env) Q E ⟨h, g, d, tk, os⟩ := by
  have hm : h.DictAt (strKind prM w) D ([] : List (Str × Value)) 0 := ⟨_, #[], hD, ⟨rfl, rfl, rfl⟩, rfl, (fun e he => by simp at he), .nil, List.nodup_nil⟩
  refine wpAny_For (wpAny_Call_items (knd := strKind prM w) (d := D) (kvs := []) hS hm.dictOf hbase hline (fun Q' => ho Q' _) ?_) hs
  refine wpAny_pyIter_items (knd := strKind prM w) (d := D) (kvs := []) (ep := 0) ⟨_, Heap.get?_push_size _ rfl, rfl, rfl⟩ (hm.push _) ?_
  refine codeAny_forLoop_any (fun _ s => s = ⟨(h.push { cls := .type "dict_items", data := .fields #[.ref D] }).push { cls := .type "dict_itemiterator", data := .fields #[.none, .bool false, .ref D, .int 0 0, .int (0 : Nat) 0, .int (0 : Nat) 0, .none, .none] }, g, d, tk, os⟩) ?_ 0 rfl
  rintro n _ rfl
  refine wpAny_pyNext_items_end (knd := strKind prM w) (d := D) (kvs := []) (ep := 0) (i := 0) hh (Heap.get?_push_size _ rfl) ((hm.push _).push _) rfl fun h' he => ?_
  refine wpAny_execs_nil (q h' _ fun b x e => he b x (fun q => ?_) (Heap.get?_push_of_some _ (Heap.get?_push_of_some _ e)))
  have h1 := Heap.lt_size e
  rw [q, Heap.size_push] at h1
  exact absurd h1 (Nat.not_lt.mpr (Nat.le_succ _))
end
end Mine
namespace Mine
/-- a table that stands as it was, and one new object beside it -/
noncomputable def RT (P : Params) (base h' : Heap) (a d b : Addr) (k : Tok) (rows : List Row) (n : Nat) (r : Addr) (o : Obj) : Prop :=
  base.StaysIn h' ∧ (∀ p ∈ TL P a d b k rows n, h'.get? p.1 = some p.2 ∧ base.get? p.1 = none ∧ p.1 ≠ r) ∧ h'.get? r = some o ∧ base.get? r = none
section
variable {w : World} {A : Around} {h h₀ : Heap} {L a dx b : Addr} {k : Tok} {rows : List Row} {n : Nat} {m : Str → Option Value} {news : List (Addr × Obj)} {t : Sem Value} {R : Obj → Prop} {g : Array GenState} {d : Drawn} {tk : Nat} {os : OsState} {Q : Value → Shared → Prop} {E : Value → Shared → Prop}
/-- a call that reads the table in hand and gives a new object -/
theorem use_r (F : Fr h₀ L h m) (N : News h₀ L h (TL w.params a dx b k rows n ++ news)) (hd : ∀ p ∈ TL w.params a dx b k rows n, ∀ q ∈ news, p.1 ≠ q.1)
    (x : Ok w A t (fun v h' => ∃ r o, v = .ref r ∧ R o ∧ RT w.params (hideAll h ((TL w.params a dx b k rows n).map (·.1))) h' a dx b k rows n r o) h)
    (q : ∀ r o h' tk', Fr h₀ L h' m → News h₀ L h' ((r, o) :: (TL w.params a dx b k rows n ++ news)) → (∀ p ∈ TL w.params a dx b k rows n ++ news, p.1 ≠ r) → R o → Q (.ref r) ⟨h', g, d, tk', os⟩) : wpAny (model prM w) A t Q E ⟨h, g, d, tk, os⟩ :=
  x.use fun v h' tk' ⟨r, o, hv, hR, hk, hT, hr, hr0⟩ => by
    subst hv
    obtain ⟨F', N', d'⟩ := hid_back (own' := (r, o) :: TL w.params a dx b k rows n) F N hd hk (fun p hp => by
      rcases List.mem_cons.mp hp with rfl | hp
      · exact ⟨hr, hr0⟩
      · exact ⟨(hT p hp).1, (hT p hp).2.1⟩)
    refine q r o h' tk' F' N' (fun p hp => ?_) hR
    rcases List.mem_append.mp hp with hp | hp
    · exact (hT p hp).2.2
    · exact fun e => d' _ (.head _) p hp e.symm
end
end Mine
namespace Mine
local macro_rules | `(tactic| walk_at "lk") => `(tactic| first | with_reducible exact am_hit | (with_reducible refine am_skip (by kernel_rfl) ?_; walk_at "lk") | assumption)
local macro_rules | `(tactic| walk_at "eval Name") => `(tactic| (k_dflt (refine' nameX_L ?F ?v ?_ ?a ?b; (case F => first | with_reducible assumption | assumption); (case a => rfl); (case b => rfl); (case v => walk_at "lk"); k_whole)))
local macro_rules | `(tactic| walk_at "storeName") => `(tactic| (k_dflt (refine' stM ?F ?N ?_ ?a ?b; (case F => first | with_reducible assumption | assumption); (case N => first | with_reducible assumption | assumption); (case a => rfl); (case b => rfl); k_whole); intro h' F' N'; (try k_sweep); (try dsimp only)))
local macro_rules | `(tactic| walk_at "subscriptTail") => `(tactic| ((with_reducible show wpAny _ _ (subscriptTail _ _ (Value.ref _) (Value.int _ _)) _ _ _); k_dflt (refine' pickT ?t ?i ?a ?b ?z ?_ ?s; (case t => exact News.isTup (by k_asm) (by k_mem)); (case i => l_ints); (case a => l_idx); (case b => l_idx); (case z => decide); (case s => with_unfolding_all rfl); k_whole); intro t'))
local macro_rules | `(tactic| walk_at "assign Tuple") => `(tactic| ((with_reducible show wpAny _ _ (assign (Expr.Tuple _ _ _) _ (Value.ref _)) _ _ _); k_dflt (refine' unpackN_ ?F ?N ?T ?hh ?k2 ?k3 ?_; (case F => k_asm); (case N => k_asm); (case T => exact News.isTup (by k_asm) (by k_mem)); (case hh => exact Gd.han (by assumption)); (case k2 => exact rfl); (case k3 => exact rfl)); intro h' F' N'; (try k_sweep); (try dsimp only)))

theorem fill_T8 : PySem.Challenge.rw_wf0080_01 = PySem.Challenge.rw_wf0080_01 ∧ KM = KM := by
  w_on
  k_fill
  exact ⟨rfl, rfl⟩

theorem items_c {w : World} {mg mb : Str → Option Value} {A : Around} {base h : Heap} {a dx b : Addr} {k : Tok} {rows : List Row} {n : Nat} (G : Gl w mg mb base) (H : Hid base h (TL w.params a dx b k rows n)) (S : Sep a dx b rows) (gd : Gd 3 A) (hrn : rows.length ≤ 1000) :
    Cd w A (.call (.ref 146) ⟨[.ref a], []⟩) (fun v h' => ∃ r o, v = .ref r ∧ (∃ n', o = W.listOf (rows.map rowR).toArray n') ∧ RT w.params base h' a dx b k rows n r o) h := by
  w_on
  have X := G.X
  have T := G.T
  refine' enterH (n := 2) [("self", .ref a)] G H gd ?k6 ?k7 ?k9 ?kB ?_ ?k10 ?c2 ?c3 ?c4
  case k6 => k_is
  case k7 => k_is
  case k9 => exact fun s _ => BindsTo.of_eq (by with_unfolding_all rfl)
  case kB => exact locs rfl
  case c2 => exact rfl
  case c3 => exact rfl
  case c4 => exact rfl
  case k10 => decide
  intro L h₁ F N fr G gd g d tk os Q E q
  dsimp only [List.reverse, List.reverseAux] at F
  repeat' ((fail_if_success (with_reducible show wpAny _ _ (exec (Stmt.While _ _ _ _) _) _ _ _)); (fail_if_success (with_reducible show wpAny _ _ (exec (Stmt.For _ _ _ _ _) _) _ _ _)); (fail_if_success (with_reducible show wpAny _ _ (pyIter _) _ _ _)); (fail_if_success (with_reducible show wpAny _ _ (eval (Expr.ListComp _ _ _ _) _) _ _ _)); first | walk_at "mine" | walk1 | (dsimp only; walk1))
  rename_i F7 N7
  rw [slicePick_all] at N7
  refine q _ _ _ ⟨_, _, rfl, ⟨_, rfl⟩, F7.keep, fun p hp => ⟨(N7 p (.tail _ hp)).1, (N7 p (.tail _ hp)).2.2, fun e => ?_⟩, (N7 _ (.head _)).1, (N7 _ (.head _)).2.2⟩
  have h1 : p.1 < h₁.objs.size := Heap.lt_size (N p hp).1
  have h2 : p.1 = h₁.objs.size + 1 := e
  rw [h2] at h1
  exact absurd h1 (Nat.not_lt.mpr (Nat.le_succ _))
end Mine
namespace Mine
section
variable {prog : Program} {w : World} {A : Around} {E : Value → Shared → Prop} {s : Shared} {env : Env} {h₀ : Heap} {L : Addr} {m : Str → Option Value} {news : List (Addr × Obj)}
theorem unpk {elts : List Expr} {k} {pos : Pos} {t : Addr} {vs : List Value} {Q : Unit → Shared → Prop} (F : Fr h₀ L s.heap m) (N : News h₀ L s.heap news) (ht : s.heap.get? t = some (tupO vs))
    (hh : A.handled = none) (hn : (assignEach elts env).length = vs.length) (hstar : (assignEach elts env).findIdx? (·.1) = none)
    (h : ∀ h', Fr h₀ L h' m → News h₀ L h' news → wpAny (model prog w) A (assignInOrder ((assignEach elts env).map (·.2)) vs) Q E { s with heap := h' }) :
    wpAny (model prog w) A (assign (.Tuple elts k pos) env (.ref t)) Q E s :=
  unpackN_ F N ⟨_, ht, rfl, 0, rfl⟩ hh (by rw [hn]; simp) hstar h
end
theorem find_step {rows : List Row} {i m : Nat} {e : Row} (he : rows[i]? = some e) (h0 : (rows.take i).find? (fun e : Row => decide (e.2.1.1 = m)) = none) (hne : e.2.1.1 ≠ m) : (rows.take (i + 1)).find? (fun e : Row => decide (e.2.1.1 = m)) = none := by
  rw [List.take_succ, List.find?_append, h0, he]
  simp [hne]
theorem find_hit {rows : List Row} {i m : Nat} {e : Row} (he : rows[i]? = some e) (h0 : (rows.take i).find? (fun e : Row => decide (e.2.1.1 = m)) = none) (hq : e.2.1.1 = m) : rows.find? (fun e : Row => decide (e.2.1.1 = m)) = some e := by
  have hl : i < rows.length := (List.getElem?_eq_some_iff.mp he).1
  have e1 : rows = rows.take i ++ e :: rows.drop (i + 1) := by
    have e2 : rows.drop i = e :: rows.drop (i + 1) := by
      rw [List.drop_eq_getElem_cons hl, (List.getElem?_eq_some_iff.mp he).2]
    rw [← e2, List.take_append_drop]
  rw [e1, List.find?_append, h0]
  simp [hq]
end Mine
namespace Mine
local macro_rules | `(tactic| walk_at "lk") => `(tactic| first | with_reducible exact am_hit | (with_reducible refine am_skip (by kernel_rfl) ?_; walk_at "lk") | assumption)
local macro_rules | `(tactic| walk_at "eval Name") => `(tactic| (k_dflt (refine' nameX_L ?F ?v ?_ ?a ?b; (case F => first | with_reducible assumption | assumption); (case a => rfl); (case b => rfl); (case v => walk_at "lk"); k_whole)))
local macro_rules | `(tactic| walk_at "storeName") => `(tactic| (k_dflt (refine' stM ?F ?N ?_ ?a ?b; (case F => first | with_reducible assumption | assumption); (case N => first | with_reducible assumption | assumption); (case a => rfl); (case b => rfl); k_whole); intro h' F' N'; (try k_sweep); (try dsimp only)))
local macro_rules | `(tactic| walk_at "subscriptTail") => `(tactic| ((with_reducible show wpAny _ _ (subscriptTail _ _ (Value.ref _) (Value.int _ _)) _ _ _); k_dflt (refine' pickT ?t ?i ?a ?b ?z ?_ ?s; (case t => exact News.isTup (by k_asm) (by k_mem)); (case i => l_ints); (case a => l_idx); (case b => l_idx); (case z => decide); (case s => with_unfolding_all rfl); k_whole); intro t'))
local macro_rules | `(tactic| walk_at "assign Tuple") => `(tactic| ((with_reducible show wpAny _ _ (assign (Expr.Tuple _ _ _) _ (Value.ref _)) _ _ _); k_dflt (refine' unpackN_ ?F ?N ?T ?hh ?k2 ?k3 ?_; (case F => k_asm); (case N => k_asm); (case T => exact News.isTup (by k_asm) (by k_mem)); (case hh => exact Gd.han (by assumption)); (case k2 => exact rfl); (case k3 => exact rfl)); intro h' F' N'; (try k_sweep); (try dsimp only)))

theorem fill_T6 : PySem.Challenge.rw_wf0080_01 = PySem.Challenge.rw_wf0080_01 ∧ KM = KM := by
  w_on
  k_fill
  exact ⟨rfl, rfl⟩

local macro_rules | `(tactic| walk_at "mine") => `(tactic| ((with_reducible show wpAny _ _ (assign (Expr.Tuple _ _ _) _ (Value.ref _)) _ _ _); (refine' unpk ?F ?N ?T ?hh ?k2 ?k3 ?_; (case F => assumption); (case N => assumption); (case T => assumption); (case hh => exact Gd.han (by assumption)); (case k2 => exact rfl); (case k3 => exact rfl)); intro h' F' N'; (try k_sweep); (try dsimp only)))
local macro_rules | `(tactic| walk_at "let") => `(tactic| first | exact wL_letter | (show (wL _ _).toArray.size ≤ _; rw [List.size_toArray]; exact Nat.le_trans (wL_len (by omega)) (by decide)))
local macro_rules | `(tactic| walk_at "mine") => `(tactic| ((with_reducible show wpAny _ _ (call (Value.ref 83) _ _) _ _ _); refine use_c (by assumption) (by assumption) (conv_c (Gl.keeps (by assumption) (Fr.keep (by assumption))) (Gd.le (by assumption) (by decide)) (by walk_at "let") (by walk_at "let")) ?_; rintro v' h' tk' F' N' e' hv'; (try subst hv'); (try k_sweep); (try dsimp only)))
local macro_rules | `(tactic| walk_at "call builtin:str.lower") => `(tactic| ((with_reducible show wpAny _ _ (call _ [Value.str (wS _ _) _]) _ _ _); refine lower_w (by omega) ?_; intro _))
theorem get_c {w : World} {mg mb : Str → Option Value} {A : Around} {base h : Heap} {a dx b : Addr} {k : Tok} {rows : List Row} {n : Nat} {m : Nat} {low : Bool} {t : Tok} {e0 : Row} (G : Gl w mg mb base) (H : Hid base h (TL w.params a dx b k rows n)) (S : Sep a dx b rows) (gd : Gd 3 A) (hr : ∀ e ∈ rows, RowOk e) (hrn : rows.length ≤ 1000) (h0 : 0 < m) (hm : m < 16 ^ 16) (hf : rows.find? (fun e : Row => decide (e.2.1.1 = m)) = some e0) :
    Cd w A (.call (.ref 129) ⟨[.ref a, .str (wS m low) t], []⟩) (fun v h' => v = wdV e0.2.2 ∧ MT w.params base h' a dx b k rows n) h := by
  w_on
  have X := G.X
  have T := G.T
  refine' enterH (n := 2) [("self", .ref a), ("name", .str (wS m low) t), ("default", .none)] G H gd ?k6 ?k7 ?k9 ?kB ?_ ?k10 ?c2 ?c3 ?c4
  case k6 => k_is
  case k7 => k_is
  case k9 => exact fun s hs => BindsTo.of_defaults (T := 122) rfl (by rw [hs]; exact H.1 _ _ (X 122 _ rfl)) rfl (by with_unfolding_all rfl) (by with_unfolding_all rfl)
  case kB => exact locs rfl
  case c2 => exact rfl
  case c3 => exact rfl
  case c4 => exact rfl
  case k10 => decide
  intro L h₁ F N fr G gd g d tk os Q E q
  dsimp only [List.reverse, List.reverseAux] at F
  repeat' ((fail_if_success (with_reducible show wpAny _ _ (exec (Stmt.While _ _ _ _) _) _ _ _)); (fail_if_success (with_reducible show wpAny _ _ (exec (Stmt.For _ _ _ _ _) _) _ _ _)); (fail_if_success (with_reducible show wpAny _ _ (pyIter _) _ _ _)); (fail_if_success (with_reducible show wpAny _ _ (eval (Expr.ListComp _ _ _ _) _) _ _ _)); first | walk_at "mine" | walk1 | (dsimp only; walk1))
  refine wpAny_For ?_
  repeat' ((fail_if_success (with_reducible show wpAny _ _ (exec (Stmt.While _ _ _ _) _) _ _ _)); (fail_if_success (with_reducible show wpAny _ _ (exec (Stmt.For _ _ _ _ _) _) _ _ _)); (fail_if_success (with_reducible show wpAny _ _ (pyIter _) _ _ _)); (fail_if_success (with_reducible show wpAny _ _ (eval (Expr.ListComp _ _ _ _) _) _ _ _)); first | walk_at "mine" | walk1 | (dsimp only; walk1))
  rename_i F N
  have hbL := News.isList N (.tail _ (.tail _ (.head _)))
  refine' it_list (items := (rows.map rowR).toArray) (fun i l' news => news = TL w.params a dx b k rows n ∧ (∃ t', am l' "name" = some (.str (wS m true) t')) ∧ (rows.take i).find? (fun e : Row => decide (e.2.1.1 = m)) = none) ?hh ?hl F N ?hL ?j0 (fun _ _ => .inr ⟨_, _, _, rfl⟩) ?turn ?fin
  case hh => exact Gd.han (by assumption)
  case hl => exact hbL
  case hL => exact (N _ (.tail _ (.tail _ (.head _)))).2.1
  case j0 => exact ⟨rfl, ⟨_, am_hit⟩, rfl⟩
  case turn =>
    rintro i v l1 news h3 own I hv ⟨rfl, ⟨t', hn⟩, hno⟩ F N hnI - - g2 d2 tk2 os2 Q2 E2 q2
    have hv' : ∃ e, rows[i]? = some e ∧ v = rowR e := by
      rw [List.getElem?_toArray, List.getElem?_map] at hv
      obtain ⟨e, he, rfl⟩ := Option.map_eq_some_iff.mp hv
      exact ⟨e, he, rfl⟩
    obtain ⟨e, he, rfl⟩ := hv'
    have hre := hr e (List.mem_of_getElem? he)
    have hT : h3.get? e.1 = some (tupO [wdV e.2.1, wdV e.2.2]) := (N (rowO e) (List.mem_append_right _ (.tail _ (.tail _ (.tail _ (List.mem_map_of_mem (List.mem_of_getElem? he))))))).1
    have hstep := find_step (m := m) he hno
    have hhit := find_hit (m := m) he hno
    obtain ⟨r, ⟨n1, b1, t1⟩, ⟨n2, b2, t2⟩⟩ := e
    have hn0 : 0 < n1 := hre.1.1
    have hn1 : n1 < 16 ^ 16 := hre.1.2
    dsimp only [rowR, wdV] at hT hstep hhit ⊢
    repeat' ((fail_if_success (with_reducible show wpAny _ _ (exec (Stmt.While _ _ _ _) _) _ _ _)); (fail_if_success (with_reducible show wpAny _ _ (exec (Stmt.For _ _ _ _ _) _) _ _ _)); (fail_if_success (with_reducible show wpAny _ _ (pyIter _) _ _ _)); (fail_if_success (with_reducible show wpAny _ _ (eval (Expr.ListComp _ _ _ _) _) _ _ _)); first | walk_at "mine" | walk1 | (dsimp only; walk1))
    refine q2 _ _ _ ?_
    intro g3 d3 tk3 os3 Q3 E3 q3
    repeat' ((fail_if_success (with_reducible show wpAny _ _ (exec (Stmt.While _ _ _ _) _) _ _ _)); (fail_if_success (with_reducible show wpAny _ _ (exec (Stmt.For _ _ _ _ _) _) _ _ _)); (fail_if_success (with_reducible show wpAny _ _ (pyIter _) _ _ _)); (fail_if_success (with_reducible show wpAny _ _ (eval (Expr.ListComp _ _ _ _) _) _ _ _)); first | walk_at "mine" | walk1 | (dsimp only; walk1))
    · rename_i c
      have hq : n1 = m := by
        by_cases e : n1 = m
        · exact e
        · have hx : (wS n1 true == wS m true) = false := beq_eq_false_iff_ne.mpr fun q => e ((wS_inj hn0).mp q).1
          have c' : (wS n1 true == wS m true) = true := c
          rw [hx] at c'; cases c'
      rw [hhit hq] at hf
      cases hf
      dsimp only
      refine q3 _ _ _ ?_
      intro tk4
      rename_i F4 N4 _
      refine q _ _ _ ⟨rfl, S, Hid.of_fr F4 N4 fun p hp => List.mem_append_right _ hp⟩
    · rename_i c
      have hq : n1 ≠ m := by
        intro e
        have c' : (wS n1 true == wS m true) = false := c
        rw [e, beq_self_eq_true] at c'; cases c'
      rename_i F4 N4 _
      exact q3 _ _ _ ⟨_, TL w.params a dx b k rows n, ⟨rfl, ⟨t', am_skip (by kernel_rfl) (am_skip (by kernel_rfl) hn)⟩, hstep hq⟩, F4, N4, hnI⟩
  case fin =>
    rintro l1 news h3 tk3 ⟨rfl, ⟨t', hn⟩, hno⟩ F N
    rw [List.size_toArray, List.length_map, List.take_length] at hno
    rw [hno] at hf; cases hf
end Mine
namespace Mine
local macro_rules | `(tactic| walk_at "storeName") => `(tactic| (k_dflt (refine' stM ?F ?N ?_ ?a ?b; (case F => first | with_reducible assumption | assumption); (case N => first | with_reducible assumption | assumption); (case a => rfl); (case b => rfl); k_whole); intro h' F' N'; (try k_sweep); (try dsimp only)))
local macro_rules | `(tactic| walk_at "subscriptTail") => `(tactic| ((with_reducible show wpAny _ _ (subscriptTail _ _ (Value.ref _) (Value.int _ _)) _ _ _); k_dflt (refine' pickT ?t ?i ?a ?b ?z ?_ ?s; (case t => exact News.isTup (by k_asm) (by k_mem)); (case i => l_ints); (case a => l_idx); (case b => l_idx); (case z => decide); (case s => with_unfolding_all rfl); k_whole); intro t'))
local macro_rules | `(tactic| walk_at "assign Tuple") => `(tactic| ((with_reducible show wpAny _ _ (assign (Expr.Tuple _ _ _) _ (Value.ref _)) _ _ _); k_dflt (refine' unpackN_ ?F ?N ?T ?hh ?k2 ?k3 ?_; (case F => k_asm); (case N => k_asm); (case T => exact News.isTup (by k_asm) (by k_mem)); (case hh => exact Gd.han (by assumption)); (case k2 => exact rfl); (case k3 => exact rfl)); intro h' F' N'; (try k_sweep); (try dsimp only)))
local macro_rules | `(tactic| walk_at "lk") => `(tactic| first | with_reducible exact am_hit | with_reducible exact am_skip (by kernel_rfl) am_hit | with_reducible exact am_skip (by kernel_rfl) (am_skip (by kernel_rfl) am_hit) | (with_reducible refine' am_skip (by kernel_rfl) ?_; walk_at "lk") | assumption)
local macro_rules | `(tactic| walk_at "eval Name") => `(tactic| (k_dflt (first | (refine' nmL ?F ?vv ?_ ?a ?b ?c; (case F => assumption); (case a => rfl); (case b => rfl); (case c => decide); (case vv => walk_at "lk")) | (refine' nmC ?F ?o ?d ?l ?_ ?a ?b ?c; (case F => assumption); (case a => rfl); (case b => rfl); (case c => decide); (case l => rfl); (case o => assumption); (case d => assumption)) | (refine' nmG ?F ?X ?T ?e ?_ ?g ?a ?b ?c; (case F => assumption); (case X => assumption); (case T => assumption); (case g => rfl); (case a => rfl); (case b => rfl); (case c => decide); (case e => k_is)) | (refine' nmB ?F ?X ?T ?e ?vv ?n ?_ ?g ?h ?a ?b ?c; (case F => assumption); (case X => assumption); (case T => assumption); (case g => rfl); (case h => rfl); (case a => rfl); (case b => rfl); (case c => decide); (case e => k_is); (case vv => boot_fast); (case n => decide))); k_whole))
theorem fill_T7 : PySem.Challenge.rw_wf0080_01 = PySem.Challenge.rw_wf0080_01 ∧ KM = KM := by
  w_on
  k_fill
  exact ⟨rfl, rfl⟩

section
variable {M : Model} {A : Around} {E : Value → Shared → Prop} {s : Shared} {h₀ : Heap} {env : Env} {l : List (Str × Value)} {x : Str} {v : Value} {news : List (Addr × Obj)} {Q : Unit → Shared → Prop}
theorem stG (F : Fr h₀ env.locals s.heap (am l)) (N : News h₀ env.locals s.heap news) (k : ∀ h' tk, Fr h₀ env.locals h' (am ((x, v) :: l)) → News h₀ env.locals h' news → Q () { s with heap := h', toks := tk }) (hx : env.kindOf x = some .local) (hk : env.scope.kind = .function) : wpAny M A (storeName env x v) Q E s :=
  wpAny_storeName_local hx F.ns (fun h' hn hs => k h' _ (by rw [← am_put]; exact F.set hn hs) (N.set hs)) (by rw [hk]; rfl)
end
theorem stC {M : Model} {A : Around} {E : Value → Shared → Prop} {s : Shared} {h₀ : Heap} {C : Addr} {scope : Scope} {cl : List (Str × Addr)} {env : Env} {l : List (Str × Value)} {x : Str} {v : Value} {news : List (Addr × Obj)} {Q : Unit → Shared → Prop} (F : Fr h₀ C s.heap (am l)) (N : News h₀ C s.heap news) (k : ∀ h' tk, Fr h₀ C h' (am ((x, v) :: l)) → News h₀ C h' news → Q () { s with heap := h', toks := tk }) (hx : (compEnvC scope cl C env).kindOf x = some .local) (hk : (compEnvC scope cl C env).scope.kind = .function) : wpAny M A (storeName (compEnvC scope cl C env) x v) Q E s :=
  stG (env := compEnvC scope cl C env) F N k hx hk
local macro_rules | `(tactic| walk_at "mine") => `(tactic| ((with_reducible show wpAny _ _ (storeName (compEnvC _ _ _ _) _ _) _ _ _); (refine' stC ?F ?N ?_ ?a ?b; (case F => assumption); (case N => assumption); (case a => rfl); (case b => rfl)); intro h' tk' F' N'; (try k_sweep); (try dsimp only)))
local macro_rules | `(tactic| walk_at "mine") => `(tactic| ((with_reducible show wpAny _ _ (assign (Expr.Tuple _ _ _) _ (Value.ref _)) _ _ _); (refine' unpk ?F ?N ?T ?hh ?k2 ?k3 ?_; (case F => assumption); (case N => assumption); (case T => assumption); (case hh => exact Gd.han (by assumption)); (case k2 => exact rfl); (case k3 => exact rfl)); intro h' F' N'; (try k_sweep); (try dsimp only)))
local macro_rules | `(tactic| walk_at "mine") => `(tactic| ((with_reducible show wpAny _ _ (eval (Expr.Name _ _) (compEnvC _ _ _ _)) _ _ _); (refine' nmL ?F ?vv ?_ ?a ?b ?c; (case F => assumption); (case a => rfl); (case b => rfl); (case c => decide); (case vv => first | exact am_hit | exact am_skip (by kernel_rfl) am_hit | exact am_skip (by kernel_rfl) (am_skip (by kernel_rfl) am_hit))); (try dsimp only)))
theorem keys_c {w : World} {mg mb : Str → Option Value} {A : Around} {base h : Heap} {a dx b : Addr} {k : Tok} {rows : List Row} {n : Nat} (G : Gl w mg mb base) (H : Hid base h (TL w.params a dx b k rows n)) (S : Sep a dx b rows) (gd : Gd 3 A) (hrn : rows.length ≤ 1000) :
    Cd w A (.call (.ref 134) ⟨[.ref a], []⟩) (fun v h' => ∃ r o, v = .ref r ∧ (∃ n', o = W.listOf (rows.map fun e : Row => wdV e.2.1).toArray n') ∧ RT w.params base h' a dx b k rows n r o) h := by
  w_on
  have X := G.X
  have T := G.T
  refine' enterH (n := 2) [("self", .ref a)] G H gd ?k6 ?k7 ?k9 ?kB ?_ ?k10 ?c2 ?c3 ?c4
  case k6 => k_is
  case k7 => k_is
  case k9 => exact fun s _ => BindsTo.of_eq (by with_unfolding_all rfl)
  case kB => exact locs rfl
  case c2 => exact rfl
  case c3 => exact rfl
  case c4 => exact rfl
  case k10 => decide
  intro L h₁ F N fr G gd g d tk os Q E q
  dsimp only [List.reverse, List.reverseAux] at F
  repeat' ((fail_if_success (with_reducible show wpAny _ _ (exec (Stmt.While _ _ _ _) _) _ _ _)); (fail_if_success (with_reducible show wpAny _ _ (exec (Stmt.For _ _ _ _ _) _) _ _ _)); (fail_if_success (with_reducible show wpAny _ _ (pyIter _) _ _ _)); (fail_if_success (with_reducible show wpAny _ _ (eval (Expr.ListComp _ _ _ _) _) _ _ _)); first | walk_at "mine" | walk1 | (dsimp only; walk1))
  refine lc_open [] (by with_unfolding_all rfl) rfl (by decide) ?_
  repeat' ((fail_if_success (with_reducible show wpAny _ _ (exec (Stmt.While _ _ _ _) _) _ _ _)); (fail_if_success (with_reducible show wpAny _ _ (exec (Stmt.For _ _ _ _ _) _) _ _ _)); (fail_if_success (with_reducible show wpAny _ _ (pyIter _) _ _ _)); (fail_if_success (with_reducible show wpAny _ _ (eval (Expr.ListComp _ _ _ _) _) _ _ _)); first | walk_at "mine" | walk1 | (dsimp only; walk1))
  have hbL : h₁.IsList b (rows.map rowR).toArray := News.isList N (.tail _ (.tail _ (.head _)))
  have hrow : ∀ e ∈ rows, h₁.get? e.1 = some (tupO [wdV e.2.1, wdV e.2.2]) := fun e he => (N (rowO e) (.tail _ (.tail _ (.tail _ (List.mem_map_of_mem he))))).1
  refine lc_list (items := (rows.map rowR).toArray) (fun i => true) (fun i y o => o = [] ∧ ∃ e, rows[i]? = some e ∧ y = (fun e : Row => wdV e.2.1) e) (Gd.han (by assumption)) hbL (by simp; omega) (by decide) rfl (fun _ _ => .inr ⟨_, _, _, rfl⟩) ?turn (lc_fin F N ?fin)
  case turn =>
    rintro i v hv C hC l5 h5 aux prev F5 N5
    have hv' : ∃ e, rows[i]? = some e ∧ v = rowR e := by
      rw [List.getElem?_toArray, List.getElem?_map] at hv
      obtain ⟨e, he, rfl⟩ := Option.map_eq_some_iff.mp hv
      exact ⟨e, he, rfl⟩
    obtain ⟨e, he, rfl⟩ := hv'
    have G2 := G.keeps F.keep
    have hT := F5.keep _ _ (hrow e (List.mem_of_getElem? he))
    obtain ⟨r, ⟨n1, b1, t1⟩, ⟨n2, b2, t2⟩⟩ := e
    dsimp only [rowR, wdV] at hT ⊢
    intro g6 d6 tk6 os6 Q6 E6 q6
    repeat' ((fail_if_success (with_reducible show wpAny _ _ (exec (Stmt.While _ _ _ _) _) _ _ _)); (fail_if_success (with_reducible show wpAny _ _ (exec (Stmt.For _ _ _ _ _) _) _ _ _)); (fail_if_success (with_reducible show wpAny _ _ (pyIter _) _ _ _)); (fail_if_success (with_reducible show wpAny _ _ (eval (Expr.ListComp _ _ _ _) _) _ _ _)); first | walk_at "mine" | walk1 | (dsimp only; walk1))
    refine q6 _ _ _ (tst_nil ⟨rfl, ?_⟩)
    rw [if_pos rfl]
    intro g8 d8 tk8 os8 Q8 E8 q8
    repeat' ((fail_if_success (with_reducible show wpAny _ _ (exec (Stmt.While _ _ _ _) _) _ _ _)); (fail_if_success (with_reducible show wpAny _ _ (exec (Stmt.For _ _ _ _ _) _) _ _ _)); (fail_if_success (with_reducible show wpAny _ _ (pyIter _) _ _ _)); (fail_if_success (with_reducible show wpAny _ _ (eval (Expr.ListComp _ _ _ _) _) _ _ _)); first | walk_at "mine" | walk1 | (dsimp only; walk1))
    exact q8 _ _ _ ⟨_, [], by assumption, by assumption, (fun _ h => nomatch h), rfl, _, he, rfl⟩
  case fin =>
    intro D ys own c h7 tk7 k7 F7 N7 hd7 hS
    obtain ⟨hys, rfl⟩ := Stp.filter (rows := rows) (pr := fun e : Row => true) (f := fun e : Row => wdV e.2.1) (fun i e he => rfl) (fun i y o h => h) _ (by simp) ys own hS
    rw [List.size_toArray, List.length_map, List.take_length, List.filter_eq_self.mpr (fun _ _ => rfl)] at hys
    subst hys
    dsimp only
    repeat' ((fail_if_success (with_reducible show wpAny _ _ (exec (Stmt.While _ _ _ _) _) _ _ _)); (fail_if_success (with_reducible show wpAny _ _ (exec (Stmt.For _ _ _ _ _) _) _ _ _)); (fail_if_success (with_reducible show wpAny _ _ (pyIter _) _ _ _)); (fail_if_success (with_reducible show wpAny _ _ (eval (Expr.ListComp _ _ _ _) _) _ _ _)); first | walk_at "mine" | walk1 | (dsimp only; walk1))
    refine q _ _ _ ⟨D, _, rfl, ⟨c, rfl⟩, F7.keep, fun p hp => ⟨(N7 p (.tail _ hp)).1, (N7 p (.tail _ hp)).2.2, fun e => hd7 _ (.head _) p hp e.symm⟩, (N7 _ (.head _)).1, (N7 _ (.head _)).2.2⟩
end Mine
namespace Mine
local macro_rules | `(tactic| walk_at "storeName") => `(tactic| (k_dflt (refine' stM ?F ?N ?_ ?a ?b; (case F => first | with_reducible assumption | assumption); (case N => first | with_reducible assumption | assumption); (case a => rfl); (case b => rfl); k_whole); intro h' F' N'; (try k_sweep); (try dsimp only)))
local macro_rules | `(tactic| walk_at "subscriptTail") => `(tactic| ((with_reducible show wpAny _ _ (subscriptTail _ _ (Value.ref _) (Value.int _ _)) _ _ _); k_dflt (refine' pickT ?t ?i ?a ?b ?z ?_ ?s; (case t => exact News.isTup (by k_asm) (by k_mem)); (case i => l_ints); (case a => l_idx); (case b => l_idx); (case z => decide); (case s => with_unfolding_all rfl); k_whole); intro t'))
local macro_rules | `(tactic| walk_at "assign Tuple") => `(tactic| ((with_reducible show wpAny _ _ (assign (Expr.Tuple _ _ _) _ (Value.ref _)) _ _ _); k_dflt (refine' unpackN_ ?F ?N ?T ?hh ?k2 ?k3 ?_; (case F => k_asm); (case N => k_asm); (case T => exact News.isTup (by k_asm) (by k_mem)); (case hh => exact Gd.han (by assumption)); (case k2 => exact rfl); (case k3 => exact rfl)); intro h' F' N'; (try k_sweep); (try dsimp only)))
local macro_rules | `(tactic| walk_at "lk") => `(tactic| first | with_reducible exact am_hit | with_reducible exact am_skip (by kernel_rfl) am_hit | with_reducible exact am_skip (by kernel_rfl) (am_skip (by kernel_rfl) am_hit) | (with_reducible refine' am_skip (by kernel_rfl) ?_; walk_at "lk") | assumption)
local macro_rules | `(tactic| walk_at "eval Name") => `(tactic| (k_dflt (first | (refine' nmL ?F ?vv ?_ ?a ?b ?c; (case F => assumption); (case a => rfl); (case b => rfl); (case c => decide); (case vv => walk_at "lk")) | (refine' nmC ?F ?o ?d ?l ?_ ?a ?b ?c; (case F => assumption); (case a => rfl); (case b => rfl); (case c => decide); (case l => rfl); (case o => assumption); (case d => assumption)) | (refine' nmG ?F ?X ?T ?e ?_ ?g ?a ?b ?c; (case F => assumption); (case X => assumption); (case T => assumption); (case g => rfl); (case a => rfl); (case b => rfl); (case c => decide); (case e => k_is)) | (refine' nmB ?F ?X ?T ?e ?vv ?n ?_ ?g ?h ?a ?b ?c; (case F => assumption); (case X => assumption); (case T => assumption); (case g => rfl); (case h => rfl); (case a => rfl); (case b => rfl); (case c => decide); (case e => k_is); (case vv => boot_fast); (case n => decide))); k_whole))
theorem fill_T5 : PySem.Challenge.rw_wf0080_01 = PySem.Challenge.rw_wf0080_01 ∧ KM = KM := by
  w_on
  k_fill
  exact ⟨rfl, rfl⟩

local macro_rules | `(tactic| walk_at "mine") => `(tactic| ((with_reducible show wpAny _ _ (subscriptTail _ _ (Value.ref _) (Value.int _ _)) _ _ _); refine' pickW ?F ?T ?a ?b ?c ?e ?_; (case F => assumption); (case T => assumption); (case a => decide); (case b => decide); (case c => exact rfl); (case e => exact rfl)))
local macro_rules | `(tactic| walk_at "let") => `(tactic| first | exact wL_letter | (show (wL _ _).toArray.size ≤ _; rw [List.size_toArray]; exact Nat.le_trans (wL_len (by omega)) (by decide)))
local macro_rules | `(tactic| walk_at "mine") => `(tactic| ((with_reducible show wpAny _ _ (call (Value.ref 83) _ _) _ _ _); refine use_c (by assumption) (by assumption) (conv_c (Gl.keeps (by assumption) (Fr.keep (by assumption))) (Gd.le (by assumption) (by decide)) (by walk_at "let") (by walk_at "let")) ?_; rintro v' h' tk' F' N' e' hv'; (try subst hv'); (try k_sweep); (try dsimp only)))
local macro_rules | `(tactic| walk_at "call builtin:str.lower") => `(tactic| ((with_reducible show wpAny _ _ (call _ [Value.str (wS _ _) _]) _ _ _); refine lower_w (by omega) ?_; intro _))
theorem getall_c {w : World} {mg mb : Str → Option Value} {A : Around} {base h : Heap} {a dx b : Addr} {k : Tok} {rows : List Row} {n : Nat} {m : Nat} {low : Bool} {t : Tok} (G : Gl w mg mb base) (H : Hid base h (TL w.params a dx b k rows n)) (S : Sep a dx b rows) (gd : Gd 3 A) (hr : ∀ e ∈ rows, RowOk e) (hrn : rows.length ≤ 1000) (h0 : 0 < m) (hm : m < 16 ^ 16) :
    Cd w A (.call (.ref 121) ⟨[.ref a, .str (wS m low) t], []⟩) (fun v h' => ∃ r o, v = .ref r ∧ (∃ n', o = W.listOf ((rows.filter fun e : Row => decide (e.2.1.1 = m)).map fun e : Row => wdV e.2.2).toArray n') ∧ RT w.params base h' a dx b k rows n r o) h := by
  w_on
  have X := G.X
  have T := G.T
  refine' enterHC (n := 2) [("self", .ref a), ("name", .str (wS m low) t)] G H gd ?k6 ?k7 ?k9 ?kB ?kN ?_ ?c2 ?c3 ?c4
  case k6 => k_is
  case k7 => k_is
  case k9 => exact fun s _ => BindsTo.of_eq (by with_unfolding_all rfl)
  case kB => exact rfl
  case kN => decide
  case c2 => exact rfl
  case c3 => exact rfl
  case c4 => exact rfl
  intro L h₁ cells F N hd Y fr G gd g d tk os Q E q
  obtain ⟨o', hE', d1'⟩ := CellsAre.one Y
  subst hE'
  have F : Fr base L h₁ (fun y => if y = Str.ofString "self" then some (.ref a) else am [] y) := F
  rw [am_put] at F
  have hdd : ∀ p ∈ TL w.params a dx b k rows n, p.1 ≠ L + 1 := fun p hp e => hd _ (.head _) p hp e.symm
  repeat' ((fail_if_success (with_reducible show wpAny _ _ (exec (Stmt.While _ _ _ _) _) _ _ _)); (fail_if_success (with_reducible show wpAny _ _ (exec (Stmt.For _ _ _ _ _) _) _ _ _)); (fail_if_success (with_reducible show wpAny _ _ (pyIter _) _ _ _)); (fail_if_success (with_reducible show wpAny _ _ (eval (Expr.ListComp _ _ _ _) _) _ _ _)); first | walk_at "mine" | walk1 | (dsimp only; walk1))
  rename_i F' N' _
  refine storeX_C (g := fun o' => (L + 1, o') :: TL w.params a dx b k rows n) F' N' rfl (.head hdd) d1' ?_ (by rfl) (by rfl)
  clear F' N' d1' Y
  intro h2 o2 F N d2
  repeat' ((fail_if_success (with_reducible show wpAny _ _ (exec (Stmt.While _ _ _ _) _) _ _ _)); (fail_if_success (with_reducible show wpAny _ _ (exec (Stmt.For _ _ _ _ _) _) _ _ _)); (fail_if_success (with_reducible show wpAny _ _ (pyIter _) _ _ _)); (fail_if_success (with_reducible show wpAny _ _ (eval (Expr.ListComp _ _ _ _) _) _ _ _)); first | walk_at "mine" | walk1 | (dsimp only; walk1))
  refine lc_open [(Str.ofString "name", L + 1)] (by with_unfolding_all rfl) rfl (by decide) ?_
  repeat' ((fail_if_success (with_reducible show wpAny _ _ (exec (Stmt.While _ _ _ _) _) _ _ _)); (fail_if_success (with_reducible show wpAny _ _ (exec (Stmt.For _ _ _ _ _) _) _ _ _)); (fail_if_success (with_reducible show wpAny _ _ (pyIter _) _ _ _)); (fail_if_success (with_reducible show wpAny _ _ (eval (Expr.ListComp _ _ _ _) _) _ _ _)); first | walk_at "mine" | walk1 | (dsimp only; walk1))
  have hbL : h2.IsList b (rows.map rowR).toArray := News.isList N (.tail _ (.tail _ (.tail _ (.head _))))
  have hrow : ∀ e ∈ rows, h2.get? e.1 = some (tupO [wdV e.2.1, wdV e.2.2]) := fun e he => (N (rowO e) (.tail _ (.tail _ (.tail _ (.tail _ (List.mem_map_of_mem he)))))).1
  have hcl : h2.get? (L + 1) = some o2 := (N _ (.head _)).1
  refine lc_list (items := (rows.map rowR).toArray) (fun i => match rows[i]? with | some e => decide (e.2.1.1 = m) | none => false) (fun i y o => o = [] ∧ ∃ e, rows[i]? = some e ∧ y = (fun e : Row => wdV e.2.2) e) (Gd.han (by assumption)) hbL (by simp; omega) (by decide) rfl (fun _ _ => .inl rfl) ?turn (lc_fin F N ?fin)
  case turn =>
    rintro i v hv C hC l5 h5 aux prev F5 N5
    have hv' : ∃ e, rows[i]? = some e ∧ v = rowR e := by
      rw [List.getElem?_toArray, List.getElem?_map] at hv
      obtain ⟨e, he, rfl⟩ := Option.map_eq_some_iff.mp hv
      exact ⟨e, he, rfl⟩
    obtain ⟨e, he, rfl⟩ := hv'
    have G2 := G.keeps F.keep
    have hre := hr e (List.mem_of_getElem? he)
    have hT := hrow e (List.mem_of_getElem? he)
    obtain ⟨r, ⟨n1, b1, t1⟩, ⟨n2, b2, t2⟩⟩ := e
    have hn0 : 0 < n1 := hre.1.1
    have hn1 : n1 < 16 ^ 16 := hre.1.2
    have hT : h2.get? r = some (tupO [.str (wS n1 b1) t1, .str (wS n2 b2) t2]) := hT
    dsimp only [rowR]
    refine asgN F5 N5 rfl rfl fun h6 F6 N6 => tst_one ?_
    intro g7 d7 tk7 os7 Q7 E7 q7
    repeat' ((fail_if_success (with_reducible show wpAny _ _ (exec (Stmt.While _ _ _ _) _) _ _ _)); (fail_if_success (with_reducible show wpAny _ _ (exec (Stmt.For _ _ _ _ _) _) _ _ _)); (fail_if_success (with_reducible show wpAny _ _ (pyIter _) _ _ _)); (fail_if_success (with_reducible show wpAny _ _ (eval (Expr.ListComp _ _ _ _) _) _ _ _)); first | walk_at "mine" | walk1 | (dsimp only; walk1))
    have hne : (wS n1 true == wS m true) = decide (n1 = m) := by
      by_cases e : n1 = m
      · subst e; simp
      · rw [decide_eq_false e, beq_eq_false_iff_ne]; exact fun q => e ((wS_inj hn0).mp q).1
    rw [hne]
    refine q7 _ _ _ ⟨by rw [he], ?_⟩
    split
    · intro g8 d8 tk8 os8 Q8 E8 q8
      repeat' ((fail_if_success (with_reducible show wpAny _ _ (exec (Stmt.While _ _ _ _) _) _ _ _)); (fail_if_success (with_reducible show wpAny _ _ (exec (Stmt.For _ _ _ _ _) _) _ _ _)); (fail_if_success (with_reducible show wpAny _ _ (pyIter _) _ _ _)); (fail_if_success (with_reducible show wpAny _ _ (eval (Expr.ListComp _ _ _ _) _) _ _ _)); first | walk_at "mine" | walk1 | (dsimp only; walk1))
      exact q8 _ _ _ ⟨_, [], by assumption, by assumption, (fun _ h => nomatch h), rfl, _, he, rfl⟩
    · exact ⟨_, by assumption, by assumption⟩
  case fin =>
    intro D ys own c h7 tk7 k7 F7 N7 hd7 hS
    obtain ⟨hys, rfl⟩ := Stp.filter (rows := rows) (pr := fun e : Row => decide (e.2.1.1 = m)) (f := fun e : Row => wdV e.2.2) (fun i e he => by rw [he]) (fun i y o h => h) _ (by simp) ys own hS
    rw [List.size_toArray, List.length_map, List.take_length] at hys
    subst hys
    dsimp only
    repeat' ((fail_if_success (with_reducible show wpAny _ _ (exec (Stmt.While _ _ _ _) _) _ _ _)); (fail_if_success (with_reducible show wpAny _ _ (exec (Stmt.For _ _ _ _ _) _) _ _ _)); (fail_if_success (with_reducible show wpAny _ _ (pyIter _) _ _ _)); (fail_if_success (with_reducible show wpAny _ _ (eval (Expr.ListComp _ _ _ _) _) _ _ _)); first | walk_at "mine" | walk1 | (dsimp only; walk1))
    refine q _ _ _ ⟨D, _, rfl, ⟨c, rfl⟩, F7.keep, fun p hp => ⟨(N7 p (.tail _ (.tail _ hp))).1, (N7 p (.tail _ (.tail _ hp))).2.2, fun e => hd7 _ (.head _) p (.tail _ hp) e.symm⟩, (N7 _ (.head _)).1, (N7 _ (.head _)).2.2⟩
end Mine
namespace Mine
local macro_rules | `(tactic| walk_at "lk") => `(tactic| first | with_reducible exact am_hit | (with_reducible refine am_skip (by kernel_rfl) ?_; walk_at "lk") | assumption)
local macro_rules | `(tactic| walk_at "eval Name") => `(tactic| (k_dflt (refine' nameX_L ?F ?v ?_ ?a ?b; (case F => first | with_reducible assumption | assumption); (case a => rfl); (case b => rfl); (case v => walk_at "lk"); k_whole)))
local macro_rules | `(tactic| walk_at "storeName") => `(tactic| (k_dflt (refine' stM ?F ?N ?_ ?a ?b; (case F => first | with_reducible assumption | assumption); (case N => first | with_reducible assumption | assumption); (case a => rfl); (case b => rfl); k_whole); intro h' F' N'; (try k_sweep); (try dsimp only)))
local macro_rules | `(tactic| walk_at "subscriptTail") => `(tactic| ((with_reducible show wpAny _ _ (subscriptTail _ _ (Value.ref _) (Value.int _ _)) _ _ _); k_dflt (refine' pickT ?t ?i ?a ?b ?z ?_ ?s; (case t => exact News.isTup (by k_asm) (by k_mem)); (case i => l_ints); (case a => l_idx); (case b => l_idx); (case z => decide); (case s => with_unfolding_all rfl); k_whole); intro t'))
local macro_rules | `(tactic| walk_at "assign Tuple") => `(tactic| ((with_reducible show wpAny _ _ (assign (Expr.Tuple _ _ _) _ (Value.ref _)) _ _ _); k_dflt (refine' unpackN_ ?F ?N ?T ?hh ?k2 ?k3 ?_; (case F => k_asm); (case N => k_asm); (case T => exact News.isTup (by k_asm) (by k_mem)); (case hh => exact Gd.han (by assumption)); (case k2 => exact rfl); (case k3 => exact rfl)); intro h' F' N'; (try k_sweep); (try dsimp only)))

theorem fill_T4 : PySem.Challenge.rw_wf0080_01 = PySem.Challenge.rw_wf0080_01 ∧ KM = KM := by
  w_on
  k_fill
  exact ⟨rfl, rfl⟩

local macro_rules | `(tactic| walk_at "let") => `(tactic| first | exact wL_letter | (show (wL _ _).toArray.size ≤ _; rw [List.size_toArray]; exact Nat.le_trans (wL_len (by omega)) (by decide)))
local macro_rules | `(tactic| walk_at "mine") => `(tactic| ((with_reducible show wpAny _ _ (call (Value.ref 83) _ _) _ _ _); refine use_c (by assumption) (by assumption) (conv_c (Gl.keeps (by assumption) (Fr.keep (by assumption))) (Gd.le (by assumption) (by decide)) (by walk_at "let") (by walk_at "let")) ?_; rintro v' h' tk' F' N' e' hv'; (try subst hv'); (try k_sweep); (try dsimp only)))
theorem wpAny_of_bind_eq {α β : Type} {M : Model} {A : Around} {E : Value → Shared → Prop} {Q : β → Shared → Prop} {s : Shared} {t : Sem β} {a : Sem α} {f : α → Sem β} (e : t = (a >>= f)) (h : wpAny M A (a >>= f) Q E s) : wpAny M A t Q E s := e ▸ h
theorem allLt_all {d : Nat} (l : List (Addr × Obj)) (h : AllLt d l) : ∀ p ∈ l, p.1 < d := by
  induction l with
  | nil => intro p hp; exact nomatch hp
  | cons a l ih =>
    intro p hp
    have h : a.1 < d ∧ AllLt d l := h
    rcases List.mem_cons.mp hp with e | hp
    · rw [e]; exact h.1
    · exact ih h.2 p hp
theorem joinOk1 {y : Str} (h : y.length ≤ 16) : JoinOk (Str.ofString "; ") [y] = true := joinOk_of_weight (by simp only [List.map_cons, List.map_nil, List.sum_cons, List.sum_nil, List.length_cons, List.length_nil]; omega) (by decide)
theorem add_c {w : World} {mg mb : Str → Option Value} {A : Around} {base h : Heap} {a dx b : Addr} {k : Tok} {rows : List Row} {n : Nat} {m m2 : Nat} {low low2 : Bool} {t t2 : Tok} (G : Gl w mg mb base) (H : Hid base h (TL w.params a dx b k rows n)) (S : Sep a dx b rows) (gd : Gd 4 A) (hrn : rows.length ≤ 900) (h0 : 0 < m) (hm : m < 16 ^ 16) (h02 : 0 < m2) (hm2 : m2 < 16 ^ 16) :
    Cd w A (.call (.ref 179) ⟨[.ref a, .str (wS m low) t, .str (wS m2 low2) t2], []⟩) (fun v h' => v = .none ∧ ∃ n' r t3, MT w.params base h' a dx b k (rows ++ [(r, (m, low, t), (m2, low2, t3))]) n') h := by
  w_on
  have X := G.X
  have T := G.T
  refine' enterK (n := 3) (fun dv => [("self", .ref a), ("_name", .str (wS m low) t), ("_value", .str (wS m2 low2) t2), ("_params", dv)]) G H gd ?k6 ?k7 ?k9 ?kB ?_ ?k10 ?c2 ?c3 ?c4
  case k6 => k_is
  case k7 => k_is
  case k9 =>
    intro s hs M A E Q q
    subst hs
    refine wpAny_of_bind_eq (a := alloc emptyDict) (f := fun d => pure [(Str.ofString "self", Value.ref a), (Str.ofString "_name", .str (wS m low) t), (Str.ofString "_value", .str (wS m2 low2) t2), (Str.ofString "_params", .ref d)]) (by kernel_rfl) (wpAny_bind (wpAny_alloc (wpAny_pure q)))
  case kB => exact locs rfl
  case c2 => exact rfl
  case c3 => exact rfl
  case c4 => exact rfl
  case k10 => decide
  intro D L h₁ F N hlt hDs fr G gd g d tk os Q E q
  dsimp only [List.reverse, List.reverseAux] at F
  repeat' ((fail_if_success (with_reducible show wpAny _ _ (exec (Stmt.While _ _ _ _) _) _ _ _)); (fail_if_success (with_reducible show wpAny _ _ (exec (Stmt.For _ _ _ _ _) _) _ _ _)); (fail_if_success (with_reducible show wpAny _ _ (pyIter _) _ _ _)); (fail_if_success (with_reducible show wpAny _ _ (eval (Expr.ListComp _ _ _ _) _) _ _ _)); first | walk_at "mine" | walk1 | (dsimp only; walk1))
  rename_i F2 N2
  refine for_items0 (D := D) (Gd.han (by assumption)) hDs (N2 (D, emptyDict) (by repeat (first | exact .head _ | apply List.Mem.tail))).1 rfl rfl (fun Q' E' q' => ?_) ?_
  · repeat' ((fail_if_success (with_reducible show wpAny _ _ (exec (Stmt.While _ _ _ _) _) _ _ _)); (fail_if_success (with_reducible show wpAny _ _ (exec (Stmt.For _ _ _ _ _) _) _ _ _)); (fail_if_success (with_reducible show wpAny _ _ (pyIter _) _ _ _)); (fail_if_success (with_reducible show wpAny _ _ (eval (Expr.ListComp _ _ _ _) _) _ _ _)); first | walk_at "mine" | walk1 | (dsimp only; walk1))
    exact q'
  intro h6 tk6 k6
  have F6 := frExt F2 k6
  have N6 := newsExt N2 k6
  clear F2 N2
  dsimp only
  repeat' ((fail_if_success (with_reducible show wpAny _ _ (exec (Stmt.While _ _ _ _) _) _ _ _)); (fail_if_success (with_reducible show wpAny _ _ (exec (Stmt.For _ _ _ _ _) _) _ _ _)); (fail_if_success (with_reducible show wpAny _ _ (pyIter _) _ _ _)); (fail_if_success (with_reducible show wpAny _ _ (eval (Expr.ListComp _ _ _ _) _) _ _ _)); first | walk_at "mine" | walk1 | (dsimp only; walk1))
  rename_i N7 _
  refine SC.join (l := [(wS m2 low2, t2)]) (texts := [wS m2 low2]) (News.isList N7 (.head _)) rfl ?hok ?_
  case hok => exact joinOk1 (wS_len hm2)
  intro t8 k8
  rw [show Txt.join (Str.ofString "; ") [wS m2 low2] = wS m2 low2 from rfl]
  dsimp only
  repeat' ((fail_if_success (with_reducible show wpAny _ _ (exec (Stmt.While _ _ _ _) _) _ _ _)); (fail_if_success (with_reducible show wpAny _ _ (exec (Stmt.For _ _ _ _ _) _) _ _ _)); (fail_if_success (with_reducible show wpAny _ _ (pyIter _) _ _ _)); (fail_if_success (with_reducible show wpAny _ _ (eval (Expr.ListComp _ _ _ _) _) _ _ _)); first | walk_at "mine" | walk1 | (dsimp only; walk1))
  rename_i r _ F3 N3 l3
  have hb := tl_add (P := w.params) (k := k) (n := n) (x := (m, low, t)) (y := (m2, low2, t8)) (n' := n + 1) S (allLt_all _ l3.2.2)
  refine appS (vs := rows.map rowR) (n := n) _ F3 N3 (by repeat (first | exact .head _ | apply List.Mem.tail)) (by rw [List.length_map]; omega) (fun p hp => (hb.2 p hp).imp id fun q => ⟨by rcases List.mem_cons.mp q.1 with e | q'; (exact e ▸ .head _); (first | exact .tail _ (.tail _ (.tail _ q')) | exact .tail _ (.tail _ q')), q.2⟩) ?_
  intro h9 F9 N9
  dsimp only
  repeat' ((fail_if_success (with_reducible show wpAny _ _ (exec (Stmt.While _ _ _ _) _) _ _ _)); (fail_if_success (with_reducible show wpAny _ _ (exec (Stmt.For _ _ _ _ _) _) _ _ _)); (fail_if_success (with_reducible show wpAny _ _ (pyIter _) _ _ _)); (fail_if_success (with_reducible show wpAny _ _ (eval (Expr.ListComp _ _ _ _) _) _ _ _)); first | walk_at "mine" | walk1 | (dsimp only; walk1))
  exact q _ _ _ ⟨rfl, _, r, t8, hb.1, Hid.of_fr F9 N9 fun p hp => hp⟩
end Mine
namespace Mine
local macro_rules | `(tactic| walk_at "lk") => `(tactic| first | with_reducible exact am_hit | (with_reducible refine am_skip (by kernel_rfl) ?_; walk_at "lk") | assumption)
local macro_rules | `(tactic| walk_at "eval Name") => `(tactic| (k_dflt (refine' nameX_L ?F ?v ?_ ?a ?b; (case F => first | with_reducible assumption | assumption); (case a => rfl); (case b => rfl); (case v => walk_at "lk"); k_whole)))
local macro_rules | `(tactic| walk_at "storeName") => `(tactic| (k_dflt (refine' stM ?F ?N ?_ ?a ?b; (case F => first | with_reducible assumption | assumption); (case N => first | with_reducible assumption | assumption); (case a => rfl); (case b => rfl); k_whole); intro h' F' N'; (try k_sweep); (try dsimp only)))
local macro_rules | `(tactic| walk_at "subscriptTail") => `(tactic| ((with_reducible show wpAny _ _ (subscriptTail _ _ (Value.ref _) (Value.int _ _)) _ _ _); k_dflt (refine' pickT ?t ?i ?a ?b ?z ?_ ?s; (case t => exact News.isTup (by k_asm) (by k_mem)); (case i => l_ints); (case a => l_idx); (case b => l_idx); (case z => decide); (case s => with_unfolding_all rfl); k_whole); intro t'))
local macro_rules | `(tactic| walk_at "assign Tuple") => `(tactic| ((with_reducible show wpAny _ _ (assign (Expr.Tuple _ _ _) _ (Value.ref _)) _ _ _); k_dflt (refine' unpackN_ ?F ?N ?T ?hh ?k2 ?k3 ?_; (case F => k_asm); (case N => k_asm); (case T => exact News.isTup (by k_asm) (by k_mem)); (case hh => exact Gd.han (by assumption)); (case k2 => exact rfl); (case k3 => exact rfl)); intro h' F' N'; (try k_sweep); (try dsimp only)))

theorem fill_T3 : PySem.Challenge.rw_wf0080_01 = PySem.Challenge.rw_wf0080_01 ∧ KM = KM := by
  w_on
  k_fill
  exact ⟨rfl, rfl⟩

local macro_rules | `(tactic| walk_at "let") => `(tactic| first | exact wL_letter | (show (wL _ _).toArray.size ≤ _; rw [List.size_toArray]; exact Nat.le_trans (wL_len (by omega)) (by decide)))
local macro_rules | `(tactic| walk_at "mine") => `(tactic| ((with_reducible show wpAny _ _ (call (Value.ref 83) _ _) _ _ _); refine use_c (by assumption) (by assumption) (conv_c (Gl.keeps (by assumption) (Fr.keep (by assumption))) (Gd.le (by assumption) (by decide)) (by walk_at "let") (by walk_at "let")) ?_; rintro v' h' tk' F' N' e' hv'; (try subst hv'); (try k_sweep); (try dsimp only)))
theorem set_c {w : World} {mg mb : Str → Option Value} {A : Around} {base h : Heap} {a dx b : Addr} {k : Tok} {rows : List Row} {n : Nat} {m m2 : Nat} {low low2 : Bool} {t t2 : Tok} (G : Gl w mg mb base) (H : Hid base h (TL w.params a dx b k rows n)) (S : Sep a dx b rows) (gd : Gd 4 A) (hr : ∀ e ∈ rows, RowOk e) (hrn : rows.length ≤ 900) (h0 : 0 < m) (hm : m < 16 ^ 16) (h02 : 0 < m2) (hm2 : m2 < 16 ^ 16) :
    Cd w A (.call (.ref 97) ⟨[.ref a, .str (wS m low) t, .str (wS m2 low2) t2], []⟩) (fun v h' => v = .none ∧ ∃ n' r, MT w.params base h' a dx b k ((rows.filter fun e : Row => decide (e.2.1.1 ≠ m)) ++ [(r, (m, low, t), (m2, low2, t2))]) n') h := by
  w_on
  have X := G.X
  have T := G.T
  refine' enterH (n := 3) [("self", .ref a), ("name", .str (wS m low) t), ("val", .str (wS m2 low2) t2)] G H gd ?k6 ?k7 ?k9 ?kB ?_ ?k10 ?c2 ?c3 ?c4
  case k6 => k_is
  case k7 => k_is
  case k9 => exact fun s _ => BindsTo.of_eq (by with_unfolding_all rfl)
  case kB => exact locs rfl
  case c2 => exact rfl
  case c3 => exact rfl
  case c4 => exact rfl
  case k10 => decide
  intro L h₁ F N fr G gd g d tk os Q E q
  dsimp only [List.reverse, List.reverseAux] at F
  repeat' ((fail_if_success (with_reducible show wpAny _ _ (exec (Stmt.While _ _ _ _) _) _ _ _)); (fail_if_success (with_reducible show wpAny _ _ (exec (Stmt.For _ _ _ _ _) _) _ _ _)); (fail_if_success (with_reducible show wpAny _ _ (pyIter _) _ _ _)); (fail_if_success (with_reducible show wpAny _ _ (eval (Expr.ListComp _ _ _ _) _) _ _ _)); first | walk_at "mine" | walk1 | (dsimp only; walk1))
  refine delI (f := 102) F X (InstAt.of_news N (.head _) (.tail _ (.head _))) (by k_is) (by k_is) (by k_is) ?_
  have N0 : News base L h₁ (TL w.params a dx b k rows n ++ []) := by rw [List.append_nil]; exact N
  refine use_t F N0 (fun _ _ _ h => nomatch h) (V := fun v rows' => v = .none ∧ rows' = rows.filter fun e : Row => decide (e.2.1.1 ≠ m)) ((del_c (hid_gl G F N0) (Hid.of N0) S gd hr (by omega) h0 hm).call.mono fun v h' ⟨e, n', hM⟩ => ⟨_, n', ⟨e, rfl⟩, hM⟩) ?_
  rintro _ _ n2 h2 tk2 F2 N2 - S2 ⟨rfl, rfl⟩
  rw [List.append_nil] at N2
  clear F N N0
  repeat' ((fail_if_success (with_reducible show wpAny _ _ (exec (Stmt.While _ _ _ _) _) _ _ _)); (fail_if_success (with_reducible show wpAny _ _ (exec (Stmt.For _ _ _ _ _) _) _ _ _)); (fail_if_success (with_reducible show wpAny _ _ (pyIter _) _ _ _)); (fail_if_success (with_reducible show wpAny _ _ (eval (Expr.ListComp _ _ _ _) _) _ _ _)); first | walk_at "mine" | walk1 | (dsimp only; walk1))
  rename_i r _ F3 N3 l3
  have hb := tl_add (x := (m, low, t)) (y := (m2, low2, t2)) (n' := n2 + 1) S2 l3
  refine appS (vs := (rows.filter fun e : Row => decide (e.2.1.1 ≠ m)).map rowR) (n := n2) _ F3 N3 (.tail _ (.tail _ (.tail _ (.head _)))) (by rw [List.length_map]; exact Nat.le_trans (List.length_filter_le _ rows) (by omega)) hb.2 ?_
  intro h5 F5 N5
  dsimp only
  repeat' ((fail_if_success (with_reducible show wpAny _ _ (exec (Stmt.While _ _ _ _) _) _ _ _)); (fail_if_success (with_reducible show wpAny _ _ (exec (Stmt.For _ _ _ _ _) _) _ _ _)); (fail_if_success (with_reducible show wpAny _ _ (pyIter _) _ _ _)); (fail_if_success (with_reducible show wpAny _ _ (eval (Expr.ListComp _ _ _ _) _) _ _ _)); first | walk_at "mine" | walk1 | (dsimp only; walk1))
  exact q _ _ _ ⟨rfl, _, r, hb.1, Hid.of_fr F5 N5 fun p hp => hp⟩
end Mine
namespace Mine
theorem fill_H8 : PySem.Challenge.rw_wf0080_01 = PySem.Challenge.rw_wf0080_01 ∧ KM = KM := by
  w_on
  k_fill
  exact ⟨rfl, rfl⟩

section
variable {w : World} {mg mb : Str → Option Value} {A : Around} {h h₀ : Heap} {L : Addr} {m : Str → Option Value} {news : List (Addr × Obj)} {g : Array GenState} {d : Drawn} {tk : Nat} {os : OsState} {Q : Value → Shared → Prop} {E : Value → Shared → Prop}
theorem under_gd {n : Nat} {C : Addr} (g : Gd (n + 1) A) : Gd n (A.under (.builtin "type.__call__" ⟨.ref C :: [], []⟩)) :=
  ⟨g.han, by have := g.dep; rw [depth_under_make]; omega, by have := g.un; rw [units_under_make]; omega⟩
/-- Headers() -/
theorem make_t (G : Gl w mg mb h₀) (F : Fr h₀ L h m) (N : News h₀ L h news) (gd : Gd 3 A)
    (q : ∀ a dx b k h' tk', Fr h₀ L h' m → News h₀ L h' (TL w.params a dx b k [] 0 ++ news) → (∀ p ∈ TL w.params a dx b k [] 0, ∀ q ∈ news, p.1 ≠ q.1) → Sep a dx b [] → Q (.ref a) ⟨h', g, d, tk', os⟩) : wpAny (model prM w) A (call (.ref 182) [] []) Q E ⟨h, g, d, tk, os⟩ := by
  w_on
  have X := G.X
  refine call_cls (fI := 76) F X N (by k_is) (by k_is) (by k_is) ?_
  intro x dx h' F' N' l1 l2
  have gd2 : Gd 2 (A.under (.builtin "type.__call__" ⟨.ref 182 :: [], []⟩)) := under_gd gd
  have N0 : News h₀ L h' ([(x, instObj 182 dx), (dx, dictOf [] 0)] ++ news) := N'
  have hd : ∀ p ∈ [(x, instObj 182 dx), (dx, dictOf [] 0)], ∀ q ∈ news, p.1 ≠ q.1 := by
    intro p hp q hq e
    have l1q := l1 q hq
    rcases List.mem_cons.mp hp with rfl | hp
    · have e : x = q.1 := e
      rw [← e] at l1q; exact absurd l1q (Nat.not_lt.mpr (Nat.le_of_lt l2))
    · rw [List.mem_singleton.mp hp] at e
      have e : dx = q.1 := e
      rw [← e] at l1q; exact absurd l1q (Nat.lt_irrefl _)
  refine init_c (hid_gl G F' N0) (Hid.of N0) gd2 l2 g d tk os _ ?_
  rintro v h2 tk2 ⟨rfl, b, k, S, H⟩
  obtain ⟨F2, N2, d2⟩ := hid_back F' N0 hd H.1 H.2.2
  exact ⟨rfl, q x dx b k h2 tk2 F2 N2 d2 S⟩
end
section
variable {w : World} {A : Around} {env : Env} {target iter : Expr} {body : List Stmt} {pos : Pos} {h₀ : Heap}
/-- ahead of a loop over a tuple -/
theorem it_tup {h : Heap} {ax : Addr} {items : Array Value} {l : List (Str × Value)} {news : List (Addr × Obj)} (J : Nat → List (Str × Value) → List (Addr × Obj) → Prop) {g : Array GenState} {d : Drawn} {tk : Nat} {os : OsState} {Q : Flow → Shared → Prop} {E X : Value → Shared → Prop}
    (hh : A.handled = none) (hl : h.IsTuple ax items) (F : Fr h₀ env.locals h (am l)) (N : News h₀ env.locals h news) (hL : ax ≠ env.locals) (j0 : J 0 l news) (ht : ∀ v r, letOwnedTupleGo target v r = pure ())
    (turn : ∀ i v l news h own I, items[i]? = some v → J i l news → Fr h₀ env.locals h (am l) → News h₀ env.locals h (own ++ news) → (∀ p ∈ news, p.1 ≠ I) → ((∀ p ∈ own, p.1 = I ∨ p.1 = ax) ∧ ∃ o, (I, o) ∈ own) →
      Ok w A (assign target env v) (fun _ h₃ => Ok w A (execs body env) (fun f h₄ => match f with
        | .next | .cont => ∃ l' news', J (i + 1) l' news' ∧ Fr h₀ env.locals h₄ (am l') ∧ News h₀ env.locals h₄ (own ++ news') ∧ ∀ p ∈ news', p.1 ≠ I
        | .brk => ∀ tk, Q .next ⟨h₄, g, d, tk, os⟩
        | .ret r => ∀ tk, Q (.ret r) ⟨h₄, g, d, tk, os⟩) h₃) h)
    (fin : ∀ l news h tk, J items.size l news → Fr h₀ env.locals h (am l) → News h₀ env.locals h news → Q .next ⟨h, g, d, tk, os⟩) :
    wpAny (model prM w) A (pyIter (.ref ax)) (fun it s₂ => codeAny (model prM w) A (.forLoop target it body [] env) (fun r s' => match r with | .ok f => Q f s' | .error e => X e s') s₂) E ⟨h, g, d, tk, os⟩ := by
  refine wpAny_pyIter_tuple hl ?_
  obtain ⟨ol, hol, _⟩ := id hl
  obtain ⟨oL, _, _, hoL, _⟩ := F.ns
  have fresh : h₀.get? h.objs.size = none := by
    cases e : h₀.get? h.objs.size with
    | none => rfl
    | some o => exact absurd (Heap.lt_size (F.keep _ _ e)) (Nat.lt_irrefl _)
  have hlI : ax ≠ h.objs.size := Nat.ne_of_lt (Heap.lt_size hol)
  refine for_loop (P := fun f h' => ∀ tk, Q f ⟨h', g, d, tk, os⟩) (Walks.tuple hh h.objs.size ax hlI items) J (l := l) (news := news) ⟨⟨_, Heap.get?_push_size _ rfl, rfl, rfl⟩, hl.at fun o e => Heap.get?_push_of_some _ e⟩ (F.push _) (fun p hp => ⟨Heap.get?_push_of_some _ (N p hp).1, (N p hp).2⟩) ?_ ?_ ?_ j0 ?_ ?_ ?_ ?_ (fun v h' tk' p => p tk') (fun f s q => q)
  · intro q
    rcases List.mem_cons.mp q with e | q
    · rw [e] at hoL; exact absurd (Heap.lt_size hoL) (Nat.lt_irrefl _)
    · exact hL (List.mem_singleton.mp q).symm
  · intro b hb; rw [List.mem_singleton.mp hb]; exact fresh
  · intro p hp q
    have := Heap.lt_size (N p hp).1
    rw [List.mem_singleton.mp q] at this
    exact absurd this (Nat.lt_irrefl _)
  · rintro i h ⟨⟨o, ho, _⟩, _⟩ b hb
    rw [List.mem_singleton.mp hb]; exact ⟨o, ho⟩
  · rintro v s i Q E _ q
    rw [ht]; exact wpAny_pure q
  · intro i v l news h own hi hv hJ F N hown hn hI st'
    obtain ⟨o, ho⟩ := hI _ (List.mem_singleton.mpr rfl)
    refine (turn i v l news h own _ hv hJ F N (fun p hp e => hn p hp (List.mem_singleton.mpr e)) ⟨fun p hp => by have := hown p hp; simpa using this, o, ho⟩).mono fun _ h₃ p => p.mono fun f h₄ p => ?_
    cases f with
    | next => obtain ⟨l', news', a, b, c, e⟩ := p; exact ⟨l', news', a, b, c, fun p hp q => e p hp (List.mem_singleton.mp q)⟩
    | cont => obtain ⟨l', news', a, b, c, e⟩ := p; exact ⟨l', news', a, b, c, fun p hp q => e p hp (List.mem_singleton.mp q)⟩
    | brk => exact p
    | ret r => exact p
  · exact fun l news h hJ F N tk => fin l news h tk hJ F N
end
end Mine
namespace Mine
noncomputable abbrev AW := Nat × Bool
noncomputable abbrev AR := AW × AW
noncomputable def abW (x : Wd) : AW := (x.1, x.2.1)
noncomputable def abR (e : Row) : AR := (abW e.2.1, abW e.2.2)
/-- the symbols of a line -/
noncomputable def lineN (x : Int) : List Int := if moF x then [stF x, 11, cnF x, 36, afF x] else [stF x, 11, cnF x, 37, afF x, 28, otF x]
noncomputable def delA (m : Nat) (T : List AR) : List AR := T.filter fun r => decide (r.1.1 ≠ m)
/-- one line compiled -/
noncomputable def turnA (T : List AR) (x : Int) (low : Bool) : List AR :=
  let s := (stF x).toNat
  let T1 := delA (s * 5) (delA (s * 3) (delA (s * 2) T))
  if moF x then delA s T1 ++ [((s, low), ((afF x).toNat * (cnF x).toNat, low))] else delA s (T1 ++ [((s * (cnF x).toNat, low), ((afF x).toNat, low))]) ++ [((s, low), ((otF x).toNat, low))]
noncomputable def compN (xs : List Int) : Nat → List AR
  | 0 => []
  | i + 1 => turnA (compN xs i) (xs.getD i 0) (odd (i : Int))
noncomputable def AwOk (x : AW) : Prop := 0 < x.1 ∧ x.1 < 10000
noncomputable def ArOk (r : AR) : Prop := AwOk r.1 ∧ AwOk r.2
theorem RowOk.of {e : Row} (h : ArOk (abR e)) : RowOk e := ⟨⟨h.1.1, Nat.lt_trans h.1.2 (by decide)⟩, ⟨h.2.1, Nat.lt_trans h.2.2 (by decide)⟩⟩
theorem delA_mem {m : Nat} {T : List AR} {r : AR} (h : r ∈ delA m T) : r ∈ T := (List.mem_filter.mp h).1
theorem delA_len {m : Nat} {T : List AR} : (delA m T).length ≤ T.length := List.length_filter_le _ _
theorem delA_abR {m : Nat} {rows : List Row} : (rows.filter fun e : Row => decide (e.2.1.1 ≠ m)).map abR = delA m (rows.map abR) := by
  unfold delA
  rw [List.filter_map]
  rfl
theorem toNat_r {z : Int} (h : 0 < z ∧ z < 100) : 0 < z.toNat ∧ z.toNat < 100 := by omega
theorem mul_r {a b : Nat} (ha : 0 < a ∧ a < 100) (hb : 0 < b ∧ b < 100) : 0 < a * b ∧ a * b < 10000 :=
  ⟨Nat.mul_pos ha.1 hb.1, Nat.lt_of_le_of_lt (Nat.mul_le_mul (Nat.le_of_lt_succ ha.2) (Nat.le_of_lt_succ hb.2)) (by decide)⟩
theorem turnA_ok {T : List AR} {x : Int} {low : Bool} (h : ∀ r ∈ T, ArOk r) : ∀ r ∈ turnA T x low, ArOk r := by
  intro r hr
  have hs := toNat_r (st_r x)
  have hc := toNat_r (cn_r x)
  have ha := toNat_r (af_r x)
  have ho := toNat_r (ot_r x)
  have m1 := mul_r ha hc
  have m2 := mul_r hs hc
  unfold turnA at hr
  dsimp only at hr
  split at hr
  · rcases List.mem_append.mp hr with hr | hr
    · exact h _ (delA_mem (delA_mem (delA_mem (delA_mem hr))))
    · rw [List.mem_singleton.mp hr]; exact ⟨⟨hs.1, Nat.lt_trans hs.2 (by decide)⟩, m1⟩
  · rcases List.mem_append.mp hr with hr | hr
    · rcases List.mem_append.mp (delA_mem hr) with hr | hr
      · exact h _ (delA_mem (delA_mem (delA_mem hr)))
      · rw [List.mem_singleton.mp hr]; exact ⟨m2, ⟨ha.1, Nat.lt_trans ha.2 (by decide)⟩⟩
    · rw [List.mem_singleton.mp hr]; exact ⟨⟨hs.1, Nat.lt_trans hs.2 (by decide)⟩, ⟨ho.1, Nat.lt_trans ho.2 (by decide)⟩⟩
theorem compN_ok (xs : List Int) : ∀ i, ∀ r ∈ compN xs i, ArOk r
  | 0 => fun _ h => nomatch h
  | i + 1 => turnA_ok (compN_ok xs i)
theorem turnA_len {T : List AR} {x : Int} {low : Bool} : (turnA T x low).length ≤ T.length + 2 := by
  unfold turnA
  dsimp only
  have h3 : (delA ((stF x).toNat * 5) (delA ((stF x).toNat * 3) (delA ((stF x).toNat * 2) T))).length ≤ T.length := Nat.le_trans delA_len (Nat.le_trans delA_len delA_len)
  split
  · rw [List.length_append]
    have := delA_len (m := (stF x).toNat) (T := delA ((stF x).toNat * 5) (delA ((stF x).toNat * 3) (delA ((stF x).toNat * 2) T)))
    simp only [List.length_cons, List.length_nil]
    omega
  · rw [List.length_append]
    have := delA_len (m := (stF x).toNat) (T := delA ((stF x).toNat * 5) (delA ((stF x).toNat * 3) (delA ((stF x).toNat * 2) T)) ++ [(((stF x).toNat * (cnF x).toNat, low), ((afF x).toNat, low))])
    rw [List.length_append] at this
    simp only [List.length_cons, List.length_nil] at this ⊢
    omega
theorem compN_len (xs : List Int) : ∀ i, (compN xs i).length ≤ 2 * i
  | 0 => Nat.le_refl _
  | i + 1 => by have := compN_len xs i; have := turnA_len (T := compN xs i) (x := xs.getD i 0) (low := odd (i : Int)); show (turnA _ _ _).length ≤ _; omega
theorem rows_ok {xs : List Int} {i : Nat} {rows : List Row} (h : rows.map abR = compN xs i) : (∀ e ∈ rows, RowOk e) ∧ rows.length ≤ 2 * i :=
  ⟨fun e he => .of (compN_ok xs i _ (h ▸ List.mem_map_of_mem he)), by have := compN_len xs i; rw [← h, List.length_map] at this; exact this⟩
theorem turn_more {rows : List Row} {T : List AR} {x : Int} {low : Bool} {r : Addr} {t t2 : Tok} {s c a : Nat} (h : rows.map abR = T) (hs : stF x = s) (hc : cnF x = c) (ha : afF x = a) (hm : moF x = true) :
    (((((rows.filter fun e : Row => decide (e.2.1.1 ≠ s * 2)).filter fun e : Row => decide (e.2.1.1 ≠ s * 3)).filter fun e : Row => decide (e.2.1.1 ≠ s * 5)).filter fun e : Row => decide (e.2.1.1 ≠ s)) ++ [(r, (s, low, t), (a * c, low, t2))]).map abR = turnA T x low := by
  unfold turnA
  rw [hs, hc, ha, hm, if_pos rfl]
  simp only [Int.toNat_natCast, List.map_append, delA_abR, h, List.map_cons, List.map_nil]
  rfl
theorem turn_less {rows : List Row} {T : List AR} {x : Int} {low : Bool} {r r' : Addr} {t t2 t3 t4 : Tok} {s c a o : Nat} (h : rows.map abR = T) (hs : stF x = s) (hc : cnF x = c) (ha : afF x = a) (ho : otF x = o) (hm : moF x = false) :
    (((((((rows.filter fun e : Row => decide (e.2.1.1 ≠ s * 2)).filter fun e : Row => decide (e.2.1.1 ≠ s * 3)).filter fun e : Row => decide (e.2.1.1 ≠ s * 5)) ++ [(r', (s * c, low, t3), (a, low, t4))]).filter fun e : Row => decide (e.2.1.1 ≠ s)) ++ [(r, (s, low, t), (o, low, t2))])).map abR = turnA T x low := by
  unfold turnA
  rw [hs, hc, ha, ho, hm, if_neg Bool.false_ne_true]
  simp only [Int.toNat_natCast, List.map_append, delA_abR, h, List.map_cons, List.map_nil]
  rfl
theorem ok_filter {rows : List Row} {p : Row → Bool} (h : ∀ e ∈ rows, RowOk e) : ∀ e ∈ rows.filter p, RowOk e := fun e he => h e (List.mem_filter.mp he).1
theorem ok_app {rows : List Row} {r : Row} (h : ∀ e ∈ rows, RowOk e) (hr : RowOk r) : ∀ e ∈ rows ++ [r], RowOk e := fun e he => by
  rcases List.mem_append.mp he with he | he
  · exact h e he
  · rw [List.mem_singleton.mp he]; exact hr
end Mine
namespace Mine
section
variable {prog : Program} {w : World} {A : Around} {E : Value → Shared → Prop} {s : Shared} {r : Addr} {Q : Value → Shared → Prop} {v : Value} {vs : List Value}
theorem pickL {value slice : Expr} {k : Int} {u : Tok} {ns : List Int} {z : Int} {c : Nat} (hT : s.heap.get? r = some (W.listOf vs.toArray c)) (hI : IntsAre vs ns) (h0 : 0 ≤ k) (hk : k < 2 ^ 63) (hx : ns[k.toNat]? = some z) (h : ∀ t, Q (.int z t) s)
    (hs : subscripted slice false (.ref r) (.int k u) = operate [.ref r, .int k u] (getItem (.ref r) (.int k u)) := by with_unfolding_all rfl) : wpAny (model prog w) A (subscriptTail value slice (.ref r) (.int k u)) Q E s := by
  have hl : s.heap.IsList r vs.toArray := ⟨_, hT, rfl, _, rfl⟩
  obtain ⟨t, ht⟩ := hI.get k.toNat z hx
  exact tail_any hl.typeIs slot_list_getitem.lookup (wpAny_getItem_list hl h0 hk (by simpa using ht) (h t)) hs
end
theorem News.swap {h₀ h : Heap} {L : Addr} {a b c : List (Addr × Obj)} (N : News h₀ L h (a ++ (b ++ c))) : News h₀ L h (b ++ (a ++ c)) := News.mono N fun p hp => by
  rcases List.mem_append.mp hp with hp | hp
  · exact List.mem_append_right _ (List.mem_append_left _ hp)
  rcases List.mem_append.mp hp with hp | hp
  · exact List.mem_append_left _ hp
  · exact List.mem_append_right _ (List.mem_append_right _ hp)
noncomputable def fl (m : Nat) (rows : List Row) : List Row := rows.filter fun e : Row => decide (e.2.1.1 ≠ m)
noncomputable def dl (s : Nat) (rows : List Row) : Nat → List Row
  | 0 => rows
  | 1 => fl (s * 2) rows
  | 2 => fl (s * 3) (fl (s * 2) rows)
  | _ => fl (s * 5) (fl (s * 3) (fl (s * 2) rows))
theorem dl_sub {s : Nat} {rows : List Row} : ∀ {j : Nat}, ∀ e ∈ dl s rows j, e ∈ rows
  | 0, _, h => h
  | 1, _, h => (List.mem_filter.mp h).1
  | 2, _, h => (List.mem_filter.mp (List.mem_filter.mp h).1).1
  | _ + 3, _, h => (List.mem_filter.mp (List.mem_filter.mp (List.mem_filter.mp h).1).1).1
theorem dl_len {s : Nat} {rows : List Row} : ∀ {j : Nat}, (dl s rows j).length ≤ rows.length
  | 0 => Nat.le_refl _
  | 1 => List.length_filter_le _ _
  | 2 => Nat.le_trans (List.length_filter_le _ _) (List.length_filter_le _ _)
  | _ + 3 => Nat.le_trans (List.length_filter_le _ _) (Nat.le_trans (List.length_filter_le _ _) (List.length_filter_le _ _))
theorem each_at {j s : Nat} {v : Value} {t1 t2 t3 : Tok} (h : #[Value.int 2 t1, .int 3 t2, .int 5 t3][j]? = some v) : ∃ (m : Nat) (t : Tok), v = .int (m : Int) t ∧ (0 < m ∧ m < 100) ∧ ∀ rows, dl s rows (j + 1) = fl (s * m) (dl s rows j) := by
  match j, h with
  | 0, h => cases h; exact ⟨2, _, rfl, by decide, fun _ => rfl⟩
  | 1, h => cases h; exact ⟨3, _, rfl, by decide, fun _ => rfl⟩
  | 2, h => cases h; exact ⟨5, _, rfl, by decide, fun _ => rfl⟩
  | j + 3, h => simp at h
theorem tl_sub {P : Params} {a dx b : Addr} {k : Tok} {rows rows' : List Row} {n n' : Nat} (h : ∀ e ∈ rows', e ∈ rows) : ∀ p ∈ TL P a dx b k rows' n', ∃ q ∈ TL P a dx b k rows n, q.1 = p.1 := by
  intro p hp
  rcases List.mem_cons.mp hp with rfl | hp
  · exact ⟨_, .head _, rfl⟩
  rcases List.mem_cons.mp hp with rfl | hp
  · exact ⟨_, .tail _ (.head _), rfl⟩
  rcases List.mem_cons.mp hp with rfl | hp
  · exact ⟨_, .tail _ (.tail _ (.head _)), rfl⟩
  · obtain ⟨e, he, rfl⟩ := List.mem_map.mp hp
    exact ⟨rowO e, .tail _ (.tail _ (.tail _ (List.mem_map_of_mem (h e he)))), rfl⟩
noncomputable def Apart (a b : List (Addr × Obj)) : Prop := ∀ p ∈ a, ∀ q ∈ b, p.1 ≠ q.1
theorem Apart.app {a b c : List (Addr × Obj)} (h : Apart a b) (k : Apart a c) : Apart a (b ++ c) := fun p hp q hq => (List.mem_append.mp hq).elim (h p hp q) (k p hp q)
theorem Apart.left {a b c : List (Addr × Obj)} (h : Apart a (b ++ c)) : Apart a b := fun p hp q hq => h p hp q (List.mem_append_left _ hq)
theorem Apart.right {a b c : List (Addr × Obj)} (h : Apart a (b ++ c)) : Apart a c := fun p hp q hq => h p hp q (List.mem_append_right _ hq)
end Mine
namespace Mine
theorem fill_H10 : PySem.Challenge.rw_wf0080_01 = PySem.Challenge.rw_wf0080_01 ∧ KM = KM := by
  w_on
  k_fill
  exact ⟨rfl, rfl⟩

section
variable {w : World} {mg mb : Str → Option Value} {A : Around} {h h₀ : Heap} {L a dx b : Addr} {k : Tok} {rows : List Row} {n : Nat} {mm : Str → Option Value} {news : List (Addr × Obj)} {g : Array GenState} {d : Drawn} {tk : Nat} {os : OsState} {m m2 : Nat} {low low2 : Bool} {t t2 : Tok}
theorem inst_t (N : News h₀ L h (TL w.params a dx b k rows n ++ news)) : InstAt h a (instObj 182 dx) 182 (some (hdr w.params k b)) := InstAt.of_news N (.head _) (.tail _ (.head _))
theorem del_t {Q : Unit → Shared → Prop} {E : Value → Shared → Prop} (G : Gl w mg mb h₀) (F : Fr h₀ L h mm) (N : News h₀ L h (TL w.params a dx b k rows n ++ news)) (hd : Apart (TL w.params a dx b k rows n) news) (S : Sep a dx b rows) (gd : Gd 3 A) (hr : ∀ e ∈ rows, RowOk e) (hrn : rows.length ≤ 1000) (h0 : 0 < m) (hm : m < 16 ^ 16)
    (q : ∀ n' h' tk', Fr h₀ L h' mm → News h₀ L h' (TL w.params a dx b k (fl m rows) n' ++ news) → Apart (TL w.params a dx b k (fl m rows) n') news → Sep a dx b (fl m rows) → Q () ⟨h', g, d, tk', os⟩) : wpAny (model prM w) A (delItem (.ref a) (.str (wS m low) t)) Q E ⟨h, g, d, tk, os⟩ := by
  w_on
  have X := G.X
  refine delI (f := 102) F X (inst_t N) (by k_is) (by k_is) (by k_is) ?_
  refine use_t F N hd (V := fun v rows' => v = .none ∧ rows' = fl m rows) ((del_c (hid_gl G F N) (Hid.of N) S gd hr hrn h0 hm).call.mono fun v h' ⟨e, n', hM⟩ => ⟨_, n', ⟨e, rfl⟩, hM⟩) ?_
  rintro _ _ n2 h2 tk2 F2 N2 d2 S2 ⟨rfl, rfl⟩
  exact q n2 h2 tk2 F2 N2 d2 S2
theorem set_t {Q : Unit → Shared → Prop} {E : Value → Shared → Prop} (G : Gl w mg mb h₀) (F : Fr h₀ L h mm) (N : News h₀ L h (TL w.params a dx b k rows n ++ news)) (hd : Apart (TL w.params a dx b k rows n) news) (S : Sep a dx b rows) (gd : Gd 4 A) (hr : ∀ e ∈ rows, RowOk e) (hrn : rows.length ≤ 900) (h0 : 0 < m) (hm : m < 16 ^ 16) (h02 : 0 < m2) (hm2 : m2 < 16 ^ 16)
    (q : ∀ r n' h' tk', Fr h₀ L h' mm → News h₀ L h' (TL w.params a dx b k (fl m rows ++ [(r, (m, low, t), (m2, low2, t2))]) n' ++ news) → Apart (TL w.params a dx b k (fl m rows ++ [(r, (m, low, t), (m2, low2, t2))]) n') news → Sep a dx b (fl m rows ++ [(r, (m, low, t), (m2, low2, t2))]) → Q () ⟨h', g, d, tk', os⟩) : wpAny (model prM w) A (setItem (.ref a) (.str (wS m low) t) (.str (wS m2 low2) t2)) Q E ⟨h, g, d, tk, os⟩ := by
  w_on
  have X := G.X
  refine ksp_setItem (f := 97) F X (inst_t N) (by k_is) (by k_is) (by k_is) ?_
  refine use_t F N hd (V := fun v rows' => v = .none ∧ ∃ r, rows' = fl m rows ++ [(r, (m, low, t), (m2, low2, t2))]) ((set_c (hid_gl G F N) (Hid.of N) S gd hr hrn h0 hm h02 hm2).call.mono fun v h' ⟨e, n', r, hM⟩ => ⟨_, n', ⟨e, r, rfl⟩, hM⟩) ?_
  rintro _ _ n2 h2 tk2 F2 N2 d2 S2 ⟨rfl, r, rfl⟩
  exact q r n2 h2 tk2 F2 N2 d2 S2
theorem add_t {Q : Value → Shared → Prop} {E : Value → Shared → Prop} (G : Gl w mg mb h₀) (F : Fr h₀ L h mm) (N : News h₀ L h (TL w.params a dx b k rows n ++ news)) (hd : Apart (TL w.params a dx b k rows n) news) (S : Sep a dx b rows) (gd : Gd 4 A) (hrn : rows.length ≤ 900) (h0 : 0 < m) (hm : m < 16 ^ 16) (h02 : 0 < m2) (hm2 : m2 < 16 ^ 16)
    (q : ∀ r t3 n' h' tk', Fr h₀ L h' mm → News h₀ L h' (TL w.params a dx b k (rows ++ [(r, (m, low, t), (m2, low2, t3))]) n' ++ news) → Apart (TL w.params a dx b k (rows ++ [(r, (m, low, t), (m2, low2, t3))]) n') news → Sep a dx b (rows ++ [(r, (m, low, t), (m2, low2, t3))]) → Q .none ⟨h', g, d, tk', os⟩) : wpAny (model prM w) A (call (.ref 179) [.ref a, .str (wS m low) t, .str (wS m2 low2) t2]) Q E ⟨h, g, d, tk, os⟩ := by
  refine use_t F N hd (V := fun v rows' => v = .none ∧ ∃ r t3, rows' = rows ++ [(r, (m, low, t), (m2, low2, t3))]) ((add_c (hid_gl G F N) (Hid.of N) S gd hrn h0 hm h02 hm2).call.mono fun v h' ⟨e, n', r, t3, hM⟩ => ⟨_, n', ⟨e, r, t3, rfl⟩, hM⟩) ?_
  rintro _ _ n2 h2 tk2 F2 N2 d2 S2 ⟨rfl, r, t3, rfl⟩
  exact q r t3 n2 h2 tk2 F2 N2 d2 S2
theorem get_t {e0 : Row} {Q : Value → Shared → Prop} {E : Value → Shared → Prop} (G : Gl w mg mb h₀) (F : Fr h₀ L h mm) (N : News h₀ L h (TL w.params a dx b k rows n ++ news)) (hd : Apart (TL w.params a dx b k rows n) news) (S : Sep a dx b rows) (gd : Gd 3 A) (hr : ∀ e ∈ rows, RowOk e) (hrn : rows.length ≤ 1000) (h0 : 0 < m) (hm : m < 16 ^ 16) (hf : rows.find? (fun e : Row => decide (e.2.1.1 = m)) = some e0)
    (q : ∀ n' h' tk', Fr h₀ L h' mm → News h₀ L h' (TL w.params a dx b k rows n' ++ news) → Apart (TL w.params a dx b k rows n') news → Q (wdV e0.2.2) ⟨h', g, d, tk', os⟩) : wpAny (model prM w) A (call (.ref 129) [.ref a, .str (wS m low) t]) Q E ⟨h, g, d, tk, os⟩ := by
  refine use_t F N hd (V := fun v rows' => v = wdV e0.2.2 ∧ rows' = rows) ((get_c (hid_gl G F N) (Hid.of N) S gd hr hrn h0 hm hf).call.mono fun v h' ⟨e, hM⟩ => ⟨_, _, ⟨e, rfl⟩, hM⟩) ?_
  rintro _ _ n2 h2 tk2 F2 N2 d2 S2 ⟨rfl, rfl⟩
  exact q n2 h2 tk2 F2 N2 d2
theorem getall_t {Q : Value → Shared → Prop} {E : Value → Shared → Prop} (G : Gl w mg mb h₀) (F : Fr h₀ L h mm) (N : News h₀ L h (TL w.params a dx b k rows n ++ news)) (hd : Apart (TL w.params a dx b k rows n) news) (S : Sep a dx b rows) (gd : Gd 3 A) (hr : ∀ e ∈ rows, RowOk e) (hrn : rows.length ≤ 1000) (h0 : 0 < m) (hm : m < 16 ^ 16)
    (q : ∀ r c h' tk', Fr h₀ L h' mm → News h₀ L h' ((r, W.listOf ((rows.filter fun e : Row => decide (e.2.1.1 = m)).map fun e : Row => wdV e.2.2).toArray c) :: (TL w.params a dx b k rows n ++ news)) → (∀ p ∈ TL w.params a dx b k rows n ++ news, p.1 ≠ r) → Q (.ref r) ⟨h', g, d, tk', os⟩) : wpAny (model prM w) A (call (.ref 121) [.ref a, .str (wS m low) t]) Q E ⟨h, g, d, tk, os⟩ := by
  refine use_r F N hd (getall_c (hid_gl G F N) (Hid.of N) S gd hr hrn h0 hm).call ?_
  rintro r _ h2 tk2 F2 N2 d2 ⟨c, rfl⟩
  exact q r c h2 tk2 F2 N2 d2
theorem keys_t {Q : Value → Shared → Prop} {E : Value → Shared → Prop} (G : Gl w mg mb h₀) (F : Fr h₀ L h mm) (N : News h₀ L h (TL w.params a dx b k rows n ++ news)) (hd : Apart (TL w.params a dx b k rows n) news) (S : Sep a dx b rows) (gd : Gd 3 A) (hrn : rows.length ≤ 1000)
    (q : ∀ r c h' tk', Fr h₀ L h' mm → News h₀ L h' ((r, W.listOf (rows.map fun e : Row => wdV e.2.1).toArray c) :: (TL w.params a dx b k rows n ++ news)) → (∀ p ∈ TL w.params a dx b k rows n ++ news, p.1 ≠ r) → Q (.ref r) ⟨h', g, d, tk', os⟩) : wpAny (model prM w) A (call (.ref 134) [.ref a]) Q E ⟨h, g, d, tk, os⟩ := by
  refine use_r F N hd (keys_c (hid_gl G F N) (Hid.of N) S gd hrn).call ?_
  rintro r _ h2 tk2 F2 N2 d2 ⟨c, rfl⟩
  exact q r c h2 tk2 F2 N2 d2
theorem items_t {Q : Value → Shared → Prop} {E : Value → Shared → Prop} (G : Gl w mg mb h₀) (F : Fr h₀ L h mm) (N : News h₀ L h (TL w.params a dx b k rows n ++ news)) (hd : Apart (TL w.params a dx b k rows n) news) (S : Sep a dx b rows) (gd : Gd 3 A) (hrn : rows.length ≤ 1000)
    (q : ∀ r c h' tk', Fr h₀ L h' mm → News h₀ L h' ((r, W.listOf (rows.map rowR).toArray c) :: (TL w.params a dx b k rows n ++ news)) → (∀ p ∈ TL w.params a dx b k rows n ++ news, p.1 ≠ r) → Q (.ref r) ⟨h', g, d, tk', os⟩) : wpAny (model prM w) A (call (.ref 146) [.ref a]) Q E ⟨h, g, d, tk, os⟩ := by
  refine use_r F N hd (items_c (hid_gl G F N) (Hid.of N) S gd hrn).call ?_
  rintro r _ h2 tk2 F2 N2 d2 ⟨c, rfl⟩
  exact q r c h2 tk2 F2 N2 d2
end
end Mine
namespace Mine
local macro_rules | `(tactic| walk_at "lk") => `(tactic| first | with_reducible exact am_hit | (with_reducible refine am_skip (by kernel_rfl) ?_; walk_at "lk") | assumption)
local macro_rules | `(tactic| walk_at "eval Name") => `(tactic| (k_dflt (refine' nameX_L ?F ?v ?_ ?a ?b; (case F => first | with_reducible assumption | assumption); (case a => rfl); (case b => rfl); (case v => walk_at "lk"); k_whole)))
local macro_rules | `(tactic| walk_at "storeName") => `(tactic| (k_dflt (refine' stM ?F ?N ?_ ?a ?b; (case F => first | with_reducible assumption | assumption); (case N => first | with_reducible assumption | assumption); (case a => rfl); (case b => rfl); k_whole); intro h' F' N'; (try k_sweep); (try dsimp only)))
local macro_rules | `(tactic| walk_at "subscriptTail") => `(tactic| ((with_reducible show wpAny _ _ (subscriptTail _ _ (Value.ref _) (Value.int _ _)) _ _ _); k_dflt (refine' pickT ?t ?i ?a ?b ?z ?_ ?s; (case t => exact News.isTup (by k_asm) (by k_mem)); (case i => l_ints); (case a => l_idx); (case b => l_idx); (case z => decide); (case s => with_unfolding_all rfl); k_whole); intro t'))
local macro_rules | `(tactic| walk_at "assign Tuple") => `(tactic| ((with_reducible show wpAny _ _ (assign (Expr.Tuple _ _ _) _ (Value.ref _)) _ _ _); k_dflt (refine' unpackN_ ?F ?N ?T ?hh ?k2 ?k3 ?_; (case F => k_asm); (case N => k_asm); (case T => exact News.isTup (by k_asm) (by k_mem)); (case hh => exact Gd.han (by assumption)); (case k2 => exact rfl); (case k3 => exact rfl)); intro h' F' N'; (try k_sweep); (try dsimp only)))

theorem fill_T9 : PySem.Challenge.rw_wf0080_01 = PySem.Challenge.rw_wf0080_01 ∧ KM = KM := by
  w_on
  k_fill
  exact ⟨rfl, rfl⟩

local macro_rules | `(tactic| walk_at "rng") => `(tactic| first | with_reducible assumption | omega)
local macro_rules | `(tactic| walk_at "mine") => `(tactic| ((with_reducible show wpAny _ _ (call (Value.ref 222) _ _) _ _ _); refine use_c (by assumption) (by assumption) (word_c (Gl.keeps (by assumption) (Fr.keep (by assumption))) (Gd.le (by assumption) (by decide)) (by walk_at "rng") (by walk_at "rng")) ?_; rintro v' h' tk' F' N' e' ⟨t', hv'⟩; (try subst hv'); (try k_sweep); (try dsimp only)))
local macro_rules | `(tactic| walk_at "mine") => `(tactic| ((with_reducible show wpAny _ _ (subscriptTail _ _ (Value.ref _) (Value.int _ _)) _ _ _); (refine' pickL ?T ?I ?a ?b ?x ?_; (case T => exact News.get (by assumption) (List.mem_append_right _ (List.mem_append_right _ (by assumption)))); (case I => assumption); (case a => decide); (case b => decide); (case x => assumption)); intro t'; (try dsimp only)))
local macro_rules | `(tactic| walk_at "mine") => `(tactic| ((with_reducible show Frag.In _ _ ∧ _); refine And.intro (Frag.In.keeps (Gl.X (by assumption)) (Fr.keep (by assumption))) ?_))
theorem News.swap2 {h₀ h : Heap} {L : Addr} {a b c d : List (Addr × Obj)} (N : News h₀ L h (a ++ (b ++ (c ++ d)))) : News h₀ L h (c ++ (a ++ (b ++ d))) := News.mono N fun p hp => by
  simp only [List.mem_append] at hp ⊢
  rcases hp with hp | hp | hp | hp
  · exact .inr (.inr (.inl hp))
  · exact .inl hp
  · exact .inr (.inl hp)
  · exact .inr (.inr (.inr hp))
theorem News.swap3 {h₀ h : Heap} {L : Addr} {a b c d : List (Addr × Obj)} (N : News h₀ L h (c ++ (a ++ (b ++ d)))) : News h₀ L h (a ++ (b ++ (c ++ d))) := News.mono N fun p hp => by
  simp only [List.mem_append] at hp ⊢
  rcases hp with hp | hp | hp | hp
  · exact .inr (.inl hp)
  · exact .inr (.inr (.inl hp))
  · exact .inl hp
  · exact .inr (.inr (.inr hp))
theorem line_at {xs : List Int} {i : Nat} {ns : List Int} (h : (xs.map lineN)[i]? = some ns) : ∃ s c a o : Nat, stF (xs.getD i 0) = s ∧ cnF (xs.getD i 0) = c ∧ afF (xs.getD i 0) = a ∧ otF (xs.getD i 0) = o ∧ (0 < s ∧ s < 100) ∧ (0 < c ∧ c < 100) ∧ (0 < a ∧ a < 100) ∧ (0 < o ∧ o < 100) ∧ ns[0]? = some (s : Int) ∧ ns[2]? = some (c : Int) ∧ ns[4]? = some (a : Int) ∧
    (moF (xs.getD i 0) = true ∧ ns[3]? = some 36 ∨ moF (xs.getD i 0) = false ∧ ns[3]? = some 37 ∧ ns[6]? = some (o : Int)) := by
  rw [List.getElem?_map] at h
  obtain ⟨z, hz, rfl⟩ := Option.map_eq_some_iff.mp h
  have hz' : xs.getD i 0 = z := by rw [List.getD_eq_getElem?_getD, hz]; rfl
  rw [hz']
  have h1 := st_r z
  have h2 := cn_r z
  have h3 := af_r z
  have h4 := ot_r z
  refine ⟨(stF z).toNat, (cnF z).toNat, (afF z).toNat, (otF z).toNat, by omega, by omega, by omega, by omega, by omega, by omega, by omega, by omega, ?_⟩
  have e1 : ((stF z).toNat : Int) = stF z := by omega
  have e2 : ((cnF z).toNat : Int) = cnF z := by omega
  have e3 : ((afF z).toNat : Int) = afF z := by omega
  have e4 : ((otF z).toNat : Int) = otF z := by omega
  rw [e1, e2, e3, e4]
  unfold lineN
  cases moF z with
  | true => exact ⟨rfl, rfl, rfl, .inl ⟨rfl, rfl⟩⟩
  | false => exact ⟨rfl, rfl, rfl, .inr ⟨rfl, rfl, rfl⟩⟩
theorem comp_c {w : World} {mg mb : Str → Option Value} {A : Around} {h : Heap} {ts : List (List Nat × Int)} {xs : List Int} {x : Str} {t : Tok} (G : Gl w mg mb h) (gd : Gd 6 A) (hx : x.cps.toList = flat ts) (hw : Wf ts) (hl : (flat ts).length ≤ 10000) (ht : ts.length ≤ 10000) (hxs : lnF (ts.map (·.2) ++ [0]) = xs.map lineN) (hxl : xs.length ≤ 100) :
    Ok w A (call (.ref 264) [.str x t]) (fun v h' => h.StaysIn h' ∧ ∃ own, Frsh h h' own ∧ ∃ a dx b k rows n, v = .ref a ∧ own = TL w.params a dx b k rows n ∧ Sep a dx b rows ∧ rows.map abR = compN xs xs.length) h := by
  w_on
  have X := G.X
  have T := G.T
  refine' enter (n := 5) [("text", .str x t)] G gd ?k6 ?k7 ?k9 ?kB ?_ ?k10 ?c2 ?c3 ?c4
  case k6 => k_is
  case k7 => k_is
  case k9 => exact fun s _ => BindsTo.of_eq (by with_unfolding_all rfl)
  case kB => exact locs rfl
  case c2 => exact rfl
  case c3 => exact rfl
  case c4 => exact rfl
  case k10 => decide
  intro L h₁ F fr G gd g d tk os Q E q
  have N : News h L h₁ [] := News.nil
  dsimp only [List.reverse, List.reverseAux] at F
  iterate 5 (((fail_if_success (with_reducible show wpAny _ _ (exec (Stmt.While _ _ _ _) _) _ _ _)); (fail_if_success (with_reducible show wpAny _ _ (exec (Stmt.For _ _ _ _ _) _) _ _ _)); (fail_if_success (with_reducible show wpAny _ _ (pyIter _) _ _ _)); (fail_if_success (with_reducible show wpAny _ _ (eval (Expr.ListComp _ _ _ _) _) _ _ _)); first | walk_at "mine" | walk1 | (dsimp only; walk1)))
  refine make_t G F N (gd.le (by decide)) ?_
  intro a dx b k h2 tk2 F2 N2 d2 S2
  repeat' ((fail_if_success (with_reducible show wpAny _ _ (exec (Stmt.While _ _ _ _) _) _ _ _)); (fail_if_success (with_reducible show wpAny _ _ (exec (Stmt.For _ _ _ _ _) _) _ _ _)); (fail_if_success (with_reducible show wpAny _ _ (pyIter _) _ _ _)); (fail_if_success (with_reducible show wpAny _ _ (eval (Expr.ListComp _ _ _ _) _) _ _ _)); first | walk_at "mine" | walk1 | (dsimp only; walk1))
  refine wpAny_For ?_
  repeat' ((fail_if_success (with_reducible show wpAny _ _ (exec (Stmt.While _ _ _ _) _) _ _ _)); (fail_if_success (with_reducible show wpAny _ _ (exec (Stmt.For _ _ _ _ _) _) _ _ _)); (fail_if_success (with_reducible show wpAny _ _ (pyIter _) _ _ _)); (fail_if_success (with_reducible show wpAny _ _ (eval (Expr.ListComp _ _ _ _) _) _ _ _)); first | walk_at "mine" | walk1 | (dsimp only; walk1))
  rename_i F3 N3
  refine use_m F3 N3 (lines_c (G.keeps (Fr.keep (by assumption))) (gd.le (by decide)) hx hw hl ht) ?_
  rintro _ own h4 tk4 F4 N4 - d4 ⟨P, dn, n4, rfl, rfl, hR⟩
  rw [hxs] at hR
  generalize hown : (P, W.listOf (dn.map fun e : Ln => Value.ref e.1).toArray n4) :: dn.map lnO = LS at N4 d4
  have hPm : (P, W.listOf (dn.map fun e : Ln => Value.ref e.1).toArray n4) ∈ LS := hown ▸ List.Mem.head _
  rw [List.append_nil] at N4 d4
  refine' it_list (items := (dn.map fun e : Ln => Value.ref e.1).toArray) (fun i l' news => ∃ rows n ti, news = TL w.params a dx b k rows n ++ LS ∧ Apart (TL w.params a dx b k rows n) LS ∧ Sep a dx b rows ∧ rows.map abR = compN xs i ∧ am l' "table" = some (.ref a) ∧ am l' "turn" = some (.int i ti)) ?hh ?hl F4 (News.swap (a := LS) (c := []) ((List.append_nil (TL w.params a dx b k [] 0)).symm ▸ N4)) ?hL ?j0 (fun _ _ => .inl rfl) ?turn ?fin
  case hh => exact Gd.han (by assumption)
  case hl => exact News.isList N4 (List.mem_append_left _ hPm)
  case hL => exact (N4 _ (List.mem_append_left _ hPm)).2.1
  case j0 => exact ⟨[], 0, _, by rw [List.append_nil], fun p hp q hq e => d4 q hq p hp e.symm, S2, rfl, am_skip (by kernel_rfl) am_hit, am_hit⟩
  case turn =>
    rintro i v l1 news h5 own I hv ⟨rows, n, ti, rfl, hA, S, hab, hta, htu⟩ F N hnI ⟨hown2, oI, hoI⟩ hPl g2 d2 tk2 os2 Q2 E2 q2
    have hv' : ∃ e, dn[i]? = some e ∧ v = .ref e.1 := by
      rw [List.getElem?_toArray, List.getElem?_map] at hv
      obtain ⟨e, he, rfl⟩ := Option.map_eq_some_iff.mp hv
      exact ⟨e, he, rfl⟩
    obtain ⟨⟨C, cv, cn⟩, he, rfl⟩ := hv'
    obtain ⟨ns, hns, hI⟩ := hR.get he
    have hin : (C, W.listOf cv.toArray cn) ∈ LS := hown ▸ List.Mem.tail _ (List.mem_map_of_mem (f := lnO) (List.mem_of_getElem? he))
    obtain ⟨s, c, aa, o, hs, hc, ha, ho, bs, bc, ba, bo, h0, h2, h4, hmo⟩ := line_at hns
    dsimp only at hI ⊢
    have hok := rows_ok hab
    have hi : i < 100 := by
      have h1 := (List.getElem?_eq_some_iff.mp he).1
      have h2 := hR.len
      rw [List.length_map] at h2
      omega
    repeat' ((fail_if_success (with_reducible show wpAny _ _ (exec (Stmt.While _ _ _ _) _) _ _ _)); (fail_if_success (with_reducible show wpAny _ _ (exec (Stmt.For _ _ _ _ _) _) _ _ _)); (fail_if_success (with_reducible show wpAny _ _ (pyIter _) _ _ _)); (fail_if_success (with_reducible show wpAny _ _ (eval (Expr.ListComp _ _ _ _) _) _ _ _)); first | walk_at "mine" | walk1 | (dsimp only; walk1))
    refine q2 _ _ _ ?_
    intro g3 d3 tk3 os3 Q3 E3 q3
    repeat' ((fail_if_success (with_reducible show wpAny _ _ (exec (Stmt.While _ _ _ _) _) _ _ _)); (fail_if_success (with_reducible show wpAny _ _ (exec (Stmt.For _ _ _ _ _) _) _ _ _)); (fail_if_success (with_reducible show wpAny _ _ (pyIter _) _ _ _)); (fail_if_success (with_reducible show wpAny _ _ (eval (Expr.ListComp _ _ _ _) _) _ _ _)); first | walk_at "mine" | walk1 | (dsimp only; walk1))
    refine wpAny_For ?_
    repeat' ((fail_if_success (with_reducible show wpAny _ _ (exec (Stmt.While _ _ _ _) _) _ _ _)); (fail_if_success (with_reducible show wpAny _ _ (exec (Stmt.For _ _ _ _ _) _) _ _ _)); (fail_if_success (with_reducible show wpAny _ _ (pyIter _) _ _ _)); (fail_if_success (with_reducible show wpAny _ _ (eval (Expr.ListComp _ _ _ _) _) _ _ _)); first | walk_at "mine" | walk1 | (dsimp only; walk1))
    rename_i D h6 F6 N6 lD
    refine it_tup (fun j l' news => ∃ n', news = own ++ (TL w.params a dx b k (dl s rows j) n' ++ LS) ∧ Apart (TL w.params a dx b k (dl s rows j) n') (own ++ LS) ∧ (∀ p ∈ TL w.params a dx b k (dl s rows j) n', p.1 < D) ∧ Sep a dx b (dl s rows j) ∧ am l' "table" = some (.ref a) ∧ am l' "turn" = some (.int i ti) ∧ (∃ t, am l' "state" = some (.int s t)) ∧ (∃ t, am l' "counter" = some (.int c t)) ∧ (∃ t, am l' "after" = some (.int aa t)) ∧ am l' "line" = some (.ref C)) (Gd.han (by assumption)) ⟨_, News.get N6 (.head _), rfl, _, rfl⟩ F6 (News.mono N6 fun p hp => .tail _ hp) (N6 _ (.head _)).2.1 ⟨n, rfl, ?aps, (fun p hp => lD p (List.mem_append_right _ (List.mem_append_left _ hp))), S, am_skip (by kernel_rfl) (am_skip (by kernel_rfl) (am_skip (by kernel_rfl) (am_skip (by kernel_rfl) hta))), am_skip (by kernel_rfl) (am_skip (by kernel_rfl) (am_skip (by kernel_rfl) (am_skip (by kernel_rfl) htu))), ⟨_, am_skip (by kernel_rfl) (am_skip (by kernel_rfl) am_hit)⟩, ⟨_, am_skip (by kernel_rfl) am_hit⟩, ⟨_, am_hit⟩, am_skip (by kernel_rfl) (am_skip (by kernel_rfl) (am_skip (by kernel_rfl) am_hit))⟩ (fun _ _ => rfl) ?turn2 ?fin2
    case aps =>
      refine Apart.app (fun p hp q hq => ?_) hA
      rcases hown2 q hq with e | e
      · rw [e]; exact hnI p (List.mem_append_left _ hp)
      · rw [e]; exact hA p hp _ hPm
    case turn2 =>
      rintro j v l7 news h7 own7 I7 hv7 ⟨n7, rfl, hA7, lD7, S7, hta, htu, ⟨ts, hst⟩, ⟨tc, hct⟩, ⟨taf, haft⟩, hln⟩ F7 N7 hnI7 ⟨hown7, oI7, hoI7⟩ g4 d4 tk4 os4 Q4 E4 q4
      obtain ⟨m, tm, rfl, bm, hdl⟩ := each_at (s := s) hv7
      have bsm := mul_r bs bm
      have p0 : (0 : Int) < (s : Int) * (m : Int) := by rw [← Int.natCast_mul]; omega
      have p1 : (s : Int) * (m : Int) < 16 ^ 16 := by rw [← Int.natCast_mul]; omega
      have p2 : ((s : Int) * (m : Int)).toNat = s * m := by rw [← Int.natCast_mul]; rfl
      repeat' ((fail_if_success (with_reducible show wpAny _ _ (exec (Stmt.While _ _ _ _) _) _ _ _)); (fail_if_success (with_reducible show wpAny _ _ (exec (Stmt.For _ _ _ _ _) _) _ _ _)); (fail_if_success (with_reducible show wpAny _ _ (pyIter _) _ _ _)); (fail_if_success (with_reducible show wpAny _ _ (eval (Expr.ListComp _ _ _ _) _) _ _ _)); first | walk_at "mine" | walk1 | (dsimp only; walk1))
      refine q4 _ _ _ ?_
      intro g5 d5 tk5 os5 Q5 E5 q5
      repeat' ((fail_if_success (with_reducible show wpAny _ _ (exec (Stmt.While _ _ _ _) _) _ _ _)); (fail_if_success (with_reducible show wpAny _ _ (exec (Stmt.For _ _ _ _ _) _) _ _ _)); (fail_if_success (with_reducible show wpAny _ _ (pyIter _) _ _ _)); (fail_if_success (with_reducible show wpAny _ _ (eval (Expr.ListComp _ _ _ _) _) _ _ _)); (fail_if_success (with_reducible show wpAny _ _ (delItem _ _) _ _ _)); (fail_if_success (with_reducible show wpAny _ _ (setItem _ _ _) _ _ _)); (fail_if_success (with_reducible show wpAny _ _ (compareOp _ (Value.ref _) (Value.ref _)) _ _ _)); (fail_if_success (with_reducible show wpAny _ _ (exec (Stmt.Assign _ (Expr.ListComp _ _ _ _) _) _) _ _ _)); first | walk_at "mine" | walk1 | (dsimp only; walk1))
      rename_i h8 tk8 F8 N8 e8 t8
      rw [p2]
      refine del_t G F8 (News.swap2 N8) (Apart.app (fun p hp q hq => ?ap7) hA7) S7 (gd.le (by decide)) (fun e he => hok.1 e (dl_sub e he)) (Nat.le_trans dl_len (by omega)) bsm.1 (Nat.lt_trans bsm.2 (by decide)) ?_
      case ap7 =>
        rcases hown7 q hq with e | e
        · rw [e]; exact hnI7 p (List.mem_append_right _ (List.mem_append_left _ hp))
        · rw [e]; exact Nat.ne_of_lt (lD7 p hp)
      intro n9 h9 tk9 F9 N9 d9 S9
      have hsub := tl_sub (P := w.params) (a := a) (dx := dx) (b := b) (k := k) (n := n7) (n' := n9) (rows := dl s rows j) (rows' := fl (s * m) (dl s rows j)) (fun e he => (List.mem_filter.mp he).1)
      rw [← hdl] at N9 d9 S9 hsub
      (try dsimp only)
      repeat' ((fail_if_success (with_reducible show wpAny _ _ (exec (Stmt.While _ _ _ _) _) _ _ _)); (fail_if_success (with_reducible show wpAny _ _ (exec (Stmt.For _ _ _ _ _) _) _ _ _)); (fail_if_success (with_reducible show wpAny _ _ (pyIter _) _ _ _)); (fail_if_success (with_reducible show wpAny _ _ (eval (Expr.ListComp _ _ _ _) _) _ _ _)); (fail_if_success (with_reducible show wpAny _ _ (delItem _ _) _ _ _)); (fail_if_success (with_reducible show wpAny _ _ (setItem _ _ _) _ _ _)); (fail_if_success (with_reducible show wpAny _ _ (compareOp _ (Value.ref _) (Value.ref _)) _ _ _)); (fail_if_success (with_reducible show wpAny _ _ (exec (Stmt.Assign _ (Expr.ListComp _ _ _ _) _) _) _ _ _)); first | walk_at "mine" | walk1 | (dsimp only; walk1))
      refine q5 _ _ _ ⟨_, own ++ (TL w.params a dx b k (dl s rows (j + 1)) n9 ++ LS), ⟨n9, rfl, Apart.right d9, fun p hp => ?lt, S9, am_skip (by kernel_rfl) hta, am_skip (by kernel_rfl) htu, ⟨ts, am_skip (by kernel_rfl) hst⟩, ⟨tc, am_skip (by kernel_rfl) hct⟩, ⟨taf, am_skip (by kernel_rfl) haft⟩, am_skip (by kernel_rfl) hln⟩, F9, News.swap3 N9, fun p hp => ?ne⟩
      case lt =>
        obtain ⟨q, hq, e⟩ := hsub p hp
        rw [← e]; exact lD7 q hq
      case ne =>
        rcases List.mem_append.mp hp with hp | hp
        · exact hnI7 p (List.mem_append_left _ hp)
        rcases List.mem_append.mp hp with hp | hp
        · exact d9 p hp (I7, oI7) (List.mem_append_left _ hoI7)
        · exact hnI7 p (List.mem_append_right _ (List.mem_append_right _ hp))
    case fin2 =>
      rintro l7 news h7 tk7 ⟨n7, rfl, hA7, lD7, S7, hta, htu, ⟨ts, hst⟩, ⟨tc, hct⟩, ⟨taf, haft⟩, hln⟩ F7 N7
      have N8 : News h L h7 (TL w.params a dx b k (dl s rows 3) n7 ++ (own ++ LS)) := News.swap N7
      have F7 : Fr h L h7 (am l7) := F7
      have S7 : Sep a dx b (dl s rows 3) := S7
      have hA7 : Apart (TL w.params a dx b k (dl s rows 3) n7) (own ++ LS) := hA7
      clear N7
      have hok3 : ∀ e ∈ dl s rows 3, RowOk e := fun e he => hok.1 e (dl_sub e he)
      have hlen3 : (dl s rows 3).length ≤ 200 := Nat.le_trans dl_len (by omega)
      have bac := mul_r ba bc
      have pa0 : (0 : Int) < (aa : Int) * (c : Int) := by rw [← Int.natCast_mul]; omega
      have pa1 : (aa : Int) * (c : Int) < 16 ^ 16 := by rw [← Int.natCast_mul]; omega
      have pa2 : ((aa : Int) * (c : Int)).toNat = aa * c := by rw [← Int.natCast_mul]; rfl
      have bsc := mul_r bs bc
      have ps0 : (0 : Int) < (s : Int) * (c : Int) := by rw [← Int.natCast_mul]; omega
      have ps1 : (s : Int) * (c : Int) < 16 ^ 16 := by rw [← Int.natCast_mul]; omega
      have ps2 : ((s : Int) * (c : Int)).toNat = s * c := by rw [← Int.natCast_mul]; rfl
      rcases hmo with ⟨hm, h3⟩ | ⟨hm, h3, h6⟩
      · repeat' ((fail_if_success (with_reducible show wpAny _ _ (exec (Stmt.While _ _ _ _) _) _ _ _)); (fail_if_success (with_reducible show wpAny _ _ (exec (Stmt.For _ _ _ _ _) _) _ _ _)); (fail_if_success (with_reducible show wpAny _ _ (pyIter _) _ _ _)); (fail_if_success (with_reducible show wpAny _ _ (eval (Expr.ListComp _ _ _ _) _) _ _ _)); (fail_if_success (with_reducible show wpAny _ _ (delItem _ _) _ _ _)); (fail_if_success (with_reducible show wpAny _ _ (setItem _ _ _) _ _ _)); (fail_if_success (with_reducible show wpAny _ _ (compareOp _ (Value.ref _) (Value.ref _)) _ _ _)); (fail_if_success (with_reducible show wpAny _ _ (exec (Stmt.Assign _ (Expr.ListComp _ _ _ _) _) _) _ _ _)); first | walk_at "mine" | walk1 | (dsimp only; walk1))
        rename_i h9 tk9 F9 N9 e9 t9
        rw [pa2, Int.toNat_natCast]
        refine set_t G F9 N9 hA7 S7 (gd.le (by decide)) hok3 (by omega) bs.1 (by omega) bac.1 (by omega) ?_
        intro r n10 h10 tk10 F10 N10 d10 S10
        (try dsimp only)
        repeat' ((fail_if_success (with_reducible show wpAny _ _ (exec (Stmt.While _ _ _ _) _) _ _ _)); (fail_if_success (with_reducible show wpAny _ _ (exec (Stmt.For _ _ _ _ _) _) _ _ _)); (fail_if_success (with_reducible show wpAny _ _ (pyIter _) _ _ _)); (fail_if_success (with_reducible show wpAny _ _ (eval (Expr.ListComp _ _ _ _) _) _ _ _)); (fail_if_success (with_reducible show wpAny _ _ (delItem _ _) _ _ _)); (fail_if_success (with_reducible show wpAny _ _ (setItem _ _ _) _ _ _)); (fail_if_success (with_reducible show wpAny _ _ (compareOp _ (Value.ref _) (Value.ref _)) _ _ _)); (fail_if_success (with_reducible show wpAny _ _ (exec (Stmt.Assign _ (Expr.ListComp _ _ _ _) _) _) _ _ _)); first | walk_at "mine" | walk1 | (dsimp only; walk1))
        rename_i F11 N11
        refine q3 _ _ _ ⟨_, TL w.params a dx b k (fl s (dl s rows 3) ++ [(r, (s, odd (i : Int), _), (aa * c, odd (i : Int), _))]) n10 ++ LS, ⟨_, n10, _, rfl, Apart.right d10, S10, turn_more hab hs hc ha hm, am_skip (by kernel_rfl) hta, am_hit.trans (congrArg (fun z => some (Value.int z _)) (by push_cast; rfl))⟩, F11, News.swap N11, fun p hp => ?ne2⟩
        case ne2 =>
          rcases List.mem_append.mp hp with hp | hp
          · exact d10 p hp (I, oI) (List.mem_append_left _ hoI)
          · exact hnI p (List.mem_append_right _ hp)
      · repeat' ((fail_if_success (with_reducible show wpAny _ _ (exec (Stmt.While _ _ _ _) _) _ _ _)); (fail_if_success (with_reducible show wpAny _ _ (exec (Stmt.For _ _ _ _ _) _) _ _ _)); (fail_if_success (with_reducible show wpAny _ _ (pyIter _) _ _ _)); (fail_if_success (with_reducible show wpAny _ _ (eval (Expr.ListComp _ _ _ _) _) _ _ _)); (fail_if_success (with_reducible show wpAny _ _ (delItem _ _) _ _ _)); (fail_if_success (with_reducible show wpAny _ _ (setItem _ _ _) _ _ _)); (fail_if_success (with_reducible show wpAny _ _ (compareOp _ (Value.ref _) (Value.ref _)) _ _ _)); (fail_if_success (with_reducible show wpAny _ _ (exec (Stmt.Assign _ (Expr.ListComp _ _ _ _) _) _) _ _ _)); first | walk_at "mine" | walk1 | (dsimp only; walk1))
        rename_i h9 tk9 F9 N9 e9 t9
        rw [ps2, Int.toNat_natCast]
        refine add_t G F9 N9 hA7 S7 (gd.le (by decide)) (by omega) bsc.1 (by omega) ba.1 (by omega) ?_
        intro r' t' n9' h9' tk9' F9' N9' d9' S9'
        clear F9 N9
        (try dsimp only)
        repeat' ((fail_if_success (with_reducible show wpAny _ _ (exec (Stmt.While _ _ _ _) _) _ _ _)); (fail_if_success (with_reducible show wpAny _ _ (exec (Stmt.For _ _ _ _ _) _) _ _ _)); (fail_if_success (with_reducible show wpAny _ _ (pyIter _) _ _ _)); (fail_if_success (with_reducible show wpAny _ _ (eval (Expr.ListComp _ _ _ _) _) _ _ _)); (fail_if_success (with_reducible show wpAny _ _ (delItem _ _) _ _ _)); (fail_if_success (with_reducible show wpAny _ _ (setItem _ _ _) _ _ _)); (fail_if_success (with_reducible show wpAny _ _ (compareOp _ (Value.ref _) (Value.ref _)) _ _ _)); (fail_if_success (with_reducible show wpAny _ _ (exec (Stmt.Assign _ (Expr.ListComp _ _ _ _) _) _) _ _ _)); first | walk_at "mine" | walk1 | (dsimp only; walk1))
        rename_i h9 tk9 F9 N9 e9 t9
        rw [Int.toNat_natCast, Int.toNat_natCast]
        refine set_t G F9 N9 d9' S9' (gd.le (by decide)) (ok_app hok3 ⟨⟨bsc.1, Nat.lt_trans bsc.2 (by decide)⟩, ⟨ba.1, Nat.lt_trans ba.2 (by decide)⟩⟩) (by rw [List.length_append]; simp only [List.length_cons, List.length_nil]; omega) bs.1 (by omega) bo.1 (by omega) ?_
        intro r n10 h10 tk10 F10 N10 d10 S10
        (try dsimp only)
        repeat' ((fail_if_success (with_reducible show wpAny _ _ (exec (Stmt.While _ _ _ _) _) _ _ _)); (fail_if_success (with_reducible show wpAny _ _ (exec (Stmt.For _ _ _ _ _) _) _ _ _)); (fail_if_success (with_reducible show wpAny _ _ (pyIter _) _ _ _)); (fail_if_success (with_reducible show wpAny _ _ (eval (Expr.ListComp _ _ _ _) _) _ _ _)); (fail_if_success (with_reducible show wpAny _ _ (delItem _ _) _ _ _)); (fail_if_success (with_reducible show wpAny _ _ (setItem _ _ _) _ _ _)); (fail_if_success (with_reducible show wpAny _ _ (compareOp _ (Value.ref _) (Value.ref _)) _ _ _)); (fail_if_success (with_reducible show wpAny _ _ (exec (Stmt.Assign _ (Expr.ListComp _ _ _ _) _) _) _ _ _)); first | walk_at "mine" | walk1 | (dsimp only; walk1))
        rename_i F11 N11
        refine q3 _ _ _ ⟨_, TL w.params a dx b k (fl s (dl s rows 3 ++ [(r', (s * c, odd (i : Int), _), (aa, odd (i : Int), t'))]) ++ [(r, (s, odd (i : Int), _), (o, odd (i : Int), _))]) n10 ++ LS, ⟨_, n10, _, rfl, Apart.right d10, S10, turn_less hab hs hc ha ho hm, am_skip (by kernel_rfl) hta, am_hit.trans (congrArg (fun z => some (Value.int z _)) (by push_cast; rfl))⟩, F11, News.swap N11, fun p hp => ?ne2⟩
        case ne2 =>
          rcases List.mem_append.mp hp with hp | hp
          · exact d10 p hp (I, oI) (List.mem_append_left _ hoI)
          · exact hnI p (List.mem_append_right _ hp)
  case fin =>
    rintro l1 news h5 tk5 ⟨rows, n, ti, rfl, hA, S, hab, hta, htu⟩ F N
    repeat' ((fail_if_success (with_reducible show wpAny _ _ (exec (Stmt.While _ _ _ _) _) _ _ _)); (fail_if_success (with_reducible show wpAny _ _ (exec (Stmt.For _ _ _ _ _) _) _ _ _)); (fail_if_success (with_reducible show wpAny _ _ (pyIter _) _ _ _)); (fail_if_success (with_reducible show wpAny _ _ (eval (Expr.ListComp _ _ _ _) _) _ _ _)); first | walk_at "mine" | walk1 | (dsimp only; walk1))
    have e : (dn.map fun e : Ln => Value.ref e.1).toArray.size = xs.length := by
      have h2 := hR.len
      rw [List.length_map] at h2
      rw [List.size_toArray, List.length_map, h2]
    rw [e] at hab
    refine q _ _ _ ⟨F.keep, TL w.params a dx b k rows n, Frsh.of (News.mono N fun p hp => List.mem_append_left _ hp), a, dx, b, k, rows, n, rfl, rfl, S, hab⟩
end Mine
namespace Mine
/-- fractions: lower, upper, sizes -/
noncomputable abbrev FA := Int × Int × Bool × Bool
noncomputable abbrev FRow := Addr × (Int × Tok) × (Int × Tok) × Bool × Bool
noncomputable def frO (e : FRow) : Addr × Obj := (e.1, tupO [.int e.2.1.1 e.2.1.2, .int e.2.2.1.1 e.2.2.1.2, .bool e.2.2.2.1, .bool e.2.2.2.2])
noncomputable def frR (e : FRow) : Value := .ref e.1
noncomputable def abF (e : FRow) : FA := (e.2.1.1, e.2.2.1.1, e.2.2.2.1, e.2.2.2.2)
/-- no later line of the same state -/
noncomputable def lastQ (ds : List Int) (k : Nat) : Bool := ((ds.drop (k + 1)).take (3 - k)).all fun y => decide (stF y ≠ stF (ds.getD k 0))
noncomputable def fracK (ds : List Int) (k : Nat) : List FA :=
  let x := ds.getD k 0
  if lastQ ds k then
    if moF x then [(stF x, afF x * cnF x, odd (k : Int), odd (k : Int))]
    else [(stF x * cnF x, afF x, odd (k : Int), odd (k : Int)), (stF x, otF x, odd (k : Int), odd (k : Int))]
  else []
noncomputable def fracN (ds : List Int) : Nat → List FA
  | 0 => []
  | k + 1 => fracN ds k ++ fracK ds k
theorem fracK_len {ds : List Int} {k : Nat} : (fracK ds k).length ≤ 2 := by
  unfold fracK
  dsimp only
  split
  · split <;> simp
  · simp
theorem fracN_len (ds : List Int) : ∀ k, (fracN ds k).length ≤ 2 * k
  | 0 => Nat.le_refl _
  | k + 1 => by
    have := fracN_len ds k
    have := fracK_len (ds := ds) (k := k)
    show (fracN ds k ++ fracK ds k).length ≤ _
    rw [List.length_append]; omega
theorem stp_keep {keep : Nat → Bool} : ∀ {n ys own}, Stp keep (fun _ y o => o = [] ∧ ∃ z t, y = Value.int z t) n ys own → own = [] ∧ ∃ zs : List Int, IntsAre ys zs ∧ (zs = [] ↔ ∀ j, j < n → keep j = false)
  | 0, _, _, h => ⟨h.2, [], h.1 ▸ .nil, by simp⟩
  | n + 1, _, _, h => by
    unfold Stp at h
    by_cases hk : keep n = true
    · rw [if_pos hk] at h
      obtain ⟨ys', y, own', o, rfl, rfl, hS, rfl, z, t, rfl⟩ := h
      obtain ⟨rfl, zs, hI, _⟩ := stp_keep hS
      refine ⟨rfl, zs ++ [z], hI.append (.cons z t .nil), ?_⟩
      constructor
      · intro e; simp at e
      · intro q; have := q n (Nat.lt_succ_self n); rw [hk] at this; cases this
    · rw [if_neg hk] at h
      obtain ⟨rfl, zs, hI, hq⟩ := stp_keep h
      refine ⟨rfl, zs, hI, hq.trans ⟨fun q j hj => ?_, fun q j hj => q j (Nat.lt_succ_of_lt hj)⟩⟩
      rcases Nat.lt_succ_iff_lt_or_eq.mp hj with hj | rfl
      · exact q j hj
      · exact Bool.eq_false_iff.mpr hk
noncomputable def FL (R Lc : Addr) (oC : Obj) (fs : List FRow) (c : Nat) : List (Addr × Obj) := (R, W.listOf (fs.map frR).toArray c) :: (Lc, oC) :: fs.map frO
theorem fl_add {R Lc I : Addr} {oC oI : Obj} {fs : List FRow} {c : Nat} {own : List (Addr × Obj)} {e : FRow} (hfs : ∀ e ∈ fs, e.1 ≠ R ∧ e.1 ≠ Lc) (hR : Lc ≠ R) (hown : ∀ p ∈ own, p.1 = I) (hoI : (I, oI) ∈ own) (hnI : ∀ p ∈ FL R Lc oC fs c, p.1 ≠ I) (lt : ∀ p ∈ own ++ FL R Lc oC fs c, p.1 < e.1) :
    (∀ e' ∈ fs ++ [e], e'.1 ≠ R ∧ e'.1 ≠ Lc) ∧ (∀ p ∈ own ++ FL R Lc oC (fs ++ [e]) (c + 1), p = (R, W.listOf (fs.map frR ++ [Value.ref e.1]).toArray (c + 1)) ∨ p ∈ frO e :: (own ++ FL R Lc oC fs c) ∧ p.1 ≠ R) ∧ (∀ p ∈ FL R Lc oC (fs ++ [e]) (c + 1), p.1 ≠ I) := by
  have lR : R < e.1 := lt (R, _) (List.mem_append_right _ (.head _))
  have lL : Lc < e.1 := lt (Lc, _) (List.mem_append_right _ (.tail _ (.head _)))
  have lI : I < e.1 := lt (I, oI) (List.mem_append_left _ hoI)
  have hRI : R ≠ I := hnI (R, _) (.head _)
  refine ⟨fun e' he => ?_, fun p hp => ?_, fun p hp => ?_⟩
  · rcases List.mem_append.mp he with he | he
    · exact hfs e' he
    · rw [List.mem_singleton.mp he]; exact ⟨Nat.ne_of_gt lR, Nat.ne_of_gt lL⟩
  · rcases List.mem_append.mp hp with hp | hp
    · exact .inr ⟨.tail _ (List.mem_append_left _ hp), by rw [hown p hp]; exact hRI.symm⟩
    rcases List.mem_cons.mp hp with rfl | hp
    · exact .inl (by rw [List.map_append]; rfl)
    rcases List.mem_cons.mp hp with rfl | hp
    · exact .inr ⟨.tail _ (List.mem_append_right _ (.tail _ (.head _))), hR⟩
    rw [List.map_append] at hp
    rcases List.mem_append.mp hp with hp | hp
    · obtain ⟨f, hf, rfl⟩ := List.mem_map.mp hp
      exact .inr ⟨.tail _ (List.mem_append_right _ (.tail _ (.tail _ (List.mem_map_of_mem hf)))), (hfs f hf).1⟩
    · rw [List.mem_singleton.mp hp]; exact .inr ⟨.head _, Nat.ne_of_gt lR⟩
  · rcases List.mem_cons.mp hp with rfl | hp
    · exact hRI
    rcases List.mem_cons.mp hp with rfl | hp
    · exact hnI (Lc, oC) (.tail _ (.head _))
    rw [List.map_append] at hp
    rcases List.mem_append.mp hp with hp | hp
    · exact hnI p (.tail _ (.tail _ hp))
    · rw [List.mem_singleton.mp hp]; exact Nat.ne_of_gt lI
theorem lastQ_eq {ds : List Int} {i : Nat} {x : Int} {later zs : List Int} (hz : ds.getD i 0 = x) (hlt : (ds.drop (i + 1)).take (3 - i) = later) (hq : zs = [] ↔ ∀ j, j < later.length → decide (stF (later.getD j 0) = stF x) = false) : decide (zs = []) = lastQ ds i := by
  unfold lastQ
  rw [hlt, hz]
  by_cases h : zs = []
  · rw [decide_eq_true h, eq_comm, List.all_eq_true]
    intro y hy
    obtain ⟨j, hj, rfl⟩ := List.getElem_of_mem hy
    have := of_decide_eq_false (hq.mp h j hj)
    rw [List.getD_eq_getElem?_getD, List.getElem?_eq_getElem hj] at this
    exact decide_eq_true this
  · rw [decide_eq_false h, eq_comm, Bool.eq_false_iff]
    intro hall
    refine h (hq.mpr fun j hj => ?_)
    have := of_decide_eq_true (List.all_eq_true.mp hall later[j] (List.getElem_mem hj))
    rw [List.getD_eq_getElem?_getD, List.getElem?_eq_getElem hj]
    exact decide_eq_false this
end Mine
namespace Mine
/-- a line's rows -/
noncomputable def blk (x : Int) (low : Bool) : List AR :=
  if moF x then [(((stF x).toNat, low), ((afF x).toNat * (cnF x).toNat, low))] else [(((stF x).toNat * (cnF x).toNat, low), ((afF x).toNat, low)), (((stF x).toNat, low), ((otF x).toNat, low))]
noncomputable def delS (s : Nat) (T : List AR) : List AR := delA s (delA (s * 5) (delA (s * 3) (delA (s * 2) T)))
theorem delA_append {m : Nat} {T U : List AR} : delA m (T ++ U) = delA m T ++ delA m U := List.filter_append ..
theorem delS_append {m : Nat} {T U : List AR} : delS m (T ++ U) = delS m T ++ delS m U := by unfold delS; rw [delA_append, delA_append, delA_append, delA_append]
theorem st_nat (x : Int) : (stF x).toNat = 7 ∨ (stF x).toNat = 11 ∨ (stF x).toNat = 13 := by
  have := st_mem x
  simp only [List.mem_cons, List.not_mem_nil, or_false] at this
  omega
theorem cn_nat (x : Int) : (cnF x).toNat = 2 ∨ (cnF x).toNat = 3 ∨ (cnF x).toNat = 5 := by
  have := cn_mem x
  simp only [List.mem_cons, List.not_mem_nil, or_false] at this
  omega
theorem turnA_blk (T : List AR) (x : Int) (low : Bool) : turnA T x low = delS (stF x).toNat T ++ blk x low := by
  unfold turnA blk delS
  dsimp only
  cases moF x with
  | true => rw [if_pos rfl, if_pos rfl]
  | false =>
    rw [if_neg Bool.false_ne_true, if_neg Bool.false_ne_true, delA_append, List.append_assoc]
    have e : delA (stF x).toNat [(((stF x).toNat * (cnF x).toNat, low), ((afF x).toNat, low))] = [(((stF x).toNat * (cnF x).toNat, low), ((afF x).toNat, low))] := by
      unfold delA
      refine List.filter_eq_self.mpr fun r hr => ?_
      rw [List.mem_singleton.mp hr]
      refine decide_eq_true ?_
      show (stF x).toNat * (cnF x).toNat ≠ (stF x).toNat
      rcases st_nat x with h | h | h <;> rcases cn_nat x with k | k | k <;> rw [h, k] <;> decide
    rw [e]
    rfl
theorem delA_keep {m : Nat} {r : AR} {T : List AR} (h : r.1.1 ≠ m) : delA m (r :: T) = r :: delA m T := List.filter_cons_of_pos (decide_eq_true h)
theorem delA_drop {m : Nat} {r : AR} {T : List AR} (h : r.1.1 = m) : delA m (r :: T) = delA m T := List.filter_cons_of_neg (by simp [h])
theorem delS_one {s n : Nat} {low : Bool} {v : AW} : delS s [((n, low), v)] = if n = s * 2 ∨ n = s * 3 ∨ n = s * 5 ∨ n = s then [] else [((n, low), v)] := by
  unfold delS delA
  by_cases h2 : n = s * 2
  · simp [h2]
  by_cases h3 : n = s * 3
  · simp [h3]
  by_cases h5 : n = s * 5
  · simp [h5]
  by_cases h1 : n = s
  · simp [h1]
  · simp [h1, h2, h3, h5]
theorem delS_blk (x y : Int) (low : Bool) : delS (stF y).toNat (blk x low) = if stF x = stF y then [] else blk x low := by
  have e : stF x = stF y ↔ (stF x).toNat = (stF y).toNat := by have := st_r x; have := st_r y; omega
  unfold blk
  simp only [e]
  generalize (afF x).toNat = a
  generalize (otF x).toNat = o
  cases moF x with
  | true =>
    rw [if_pos rfl, delS_one]
    rcases st_nat x with h | h | h <;> rcases st_nat y with k | k | k <;> rw [h, k] <;> simp
  | false =>
    rw [if_neg Bool.false_ne_true, show ∀ p q : AR, [p, q] = [p] ++ [q] from fun _ _ => rfl, delS_append, delS_one, delS_one]
    rcases st_nat x with h | h | h <;> rcases st_nat y with k | k | k <;> rcases cn_nat x with c | c | c <;> rw [h, k, c] <;> simp
noncomputable def keptQ (x : Int) (l : List Int) : Bool := l.all fun y => decide (stF y ≠ stF x)
noncomputable def kb (x : Int) (low : Bool) (l : List Int) : List AR := if keptQ x l then blk x low else []
theorem delS_kb (x y : Int) (low : Bool) (l : List Int) : delS (stF y).toNat (kb x low l) = kb x low (l ++ [y]) := by
  unfold kb keptQ
  rw [List.all_append]
  by_cases h : (l.all fun y => decide (stF y ≠ stF x)) = true
  · rw [if_pos h, delS_blk, h]
    by_cases e : stF x = stF y
    · rw [if_pos e, if_neg]; simp [e]
    · rw [if_neg e, if_pos]; simp; exact fun q => e q.symm
  · rw [if_neg h, if_neg (by simp only [Bool.and_eq_true]; exact fun q => h q.1)]
    rfl
theorem compN4 (x0 x1 x2 x3 : Int) : compN [x0, x1, x2, x3] 4 = kb x0 false [x1, x2, x3] ++ (kb x1 true [x2, x3] ++ (kb x2 false [x3] ++ kb x3 true [])) := by
  have e0 : compN [x0, x1, x2, x3] 1 = kb x0 false [] := by
    show turnA [] x0 _ = _
    rw [turnA_blk]; rfl
  have e1 : compN [x0, x1, x2, x3] 2 = kb x0 false [x1] ++ kb x1 true [] := by
    show turnA (compN [x0, x1, x2, x3] 1) x1 _ = _
    rw [e0, turnA_blk, delS_kb]; rfl
  have e2 : compN [x0, x1, x2, x3] 3 = kb x0 false [x1, x2] ++ (kb x1 true [x2] ++ kb x2 false []) := by
    show turnA (compN [x0, x1, x2, x3] 2) x2 _ = _
    rw [e1, turnA_blk, delS_append, delS_kb, delS_kb, List.append_assoc]; rfl
  show turnA (compN [x0, x1, x2, x3] 3) x3 _ = _
  rw [e2, turnA_blk, delS_append, delS_append, delS_kb, delS_kb, delS_kb, List.append_assoc, List.append_assoc]; rfl
noncomputable def frA (r : AR) : FA := ((r.1.1 : Int), (r.2.1 : Int), r.1.2, r.2.2)
theorem blk_frA (x : Int) (low : Bool) : (blk x low).map frA = if moF x then [(stF x, afF x * cnF x, low, low)] else [(stF x * cnF x, afF x, low, low), (stF x, otF x, low, low)] := by
  have h1 := st_r x
  have h2 := cn_r x
  have h3 := af_r x
  have h4 := ot_r x
  have e1 : ((stF x).toNat : Int) = stF x := by omega
  have e2 : ((cnF x).toNat : Int) = cnF x := by omega
  have e3 : ((afF x).toNat : Int) = afF x := by omega
  have e4 : ((otF x).toNat : Int) = otF x := by omega
  unfold blk frA
  cases moF x with
  | true => simp only [if_true, List.map_cons, List.map_nil, Int.natCast_mul, e1, e2, e3]
  | false => simp only [Bool.false_eq_true, if_false, List.map_cons, List.map_nil, Int.natCast_mul, e1, e2, e3, e4]
theorem kb_frA (x : Int) (low : Bool) (l : List Int) : (kb x low l).map frA = if keptQ x l then (if moF x then [(stF x, afF x * cnF x, low, low)] else [(stF x * cnF x, afF x, low, low), (stF x, otF x, low, low)]) else [] := by
  unfold kb
  split
  · exact blk_frA x low
  · rfl
theorem table_frac (x0 x1 x2 x3 x4 : Int) : (compN [x0, x1, x2, x3] 4).map frA = fracN [x0, x1, x2, x3, x4] 4 := by
  have e : fracN [x0, x1, x2, x3, x4] 4 = (([] ++ fracK [x0, x1, x2, x3, x4] 0) ++ fracK [x0, x1, x2, x3, x4] 1 ++ fracK [x0, x1, x2, x3, x4] 2) ++ fracK [x0, x1, x2, x3, x4] 3 := rfl
  rw [e, compN4, List.map_append, List.map_append, List.map_append, kb_frA, kb_frA, kb_frA, kb_frA, List.nil_append, List.append_assoc, List.append_assoc]
  rfl
end Mine
namespace Mine
theorem N_great : Str.ofString "N" = wS 13 false := by
  unfold wS wL
  rw [apL, dif_neg (by decide), show 13 / 16 = 0 from rfl, apL, dif_pos rfl]
  rfl
theorem N_small : Str.ofString "n" = wS 13 true := by
  unfold wS wL
  rw [apL, dif_neg (by decide), show 13 / 16 = 0 from rfl, apL, dif_pos rfl]
  rfl
theorem Gd.u64 {n : Nat} {A : Around} (g : Gd (n + 1) A) : A.units + 64 < cLine := by have := g.un; omega
theorem lay_all {ds : List PyData} (h : ∀ d ∈ ds, d.canLay0 = true ∧ d.depth ≤ 10) : PyData.canLayAll0 ds = true ∧ PyData.depthAll ds ≤ 10 := by
  induction ds with
  | nil => exact ⟨rfl, Nat.zero_le _⟩
  | cons d r ih =>
    obtain ⟨h1, h2⟩ := h d (.head _)
    obtain ⟨h3, h4⟩ := ih fun x hx => h x (.tail _ hx)
    exact ⟨by simp [PyData.canLayAll0, h1, h3], by simp only [PyData.depthAll]; omega⟩
theorem shp_list {ds : List PyData} (h : ∀ d ∈ ds, d.canLay0 = true ∧ d.depth ≤ 10) : SeqAt.shaped (.list ds) = true := by
  obtain ⟨h1, h2⟩ := lay_all h
  unfold SeqAt.shaped
  rw [Bool.and_eq_true, decide_eq_true_eq]
  exact ⟨by simp only [PyData.canLay0]; exact h1, by simp only [PyData.depth]; omega⟩
theorem eqv_nil (ds : List PyData) : PyData.eqv (.list ds) (.list []) = ds.isEmpty := by
  cases ds <;> simp [PyData.eqv, PyData.eqvAll]
section
variable {prog : Program} {w : World} {A : Around} {E : Value → Shared → Prop} {s : Shared} {a b : Addr} {Q : Value → Shared → Prop} {ds : List PyData} {as : List Addr}
theorem eq_nilD (ra : Reads s.heap (.ref a) (.list ds) as) (hs : ∀ d ∈ ds, d.canLay0 = true ∧ d.depth ≤ 10) (hb : s.heap.IsList b #[]) (hu : A.units + 64 < cLine) (h : Q (.bool ds.isEmpty) s) : wpAny (model prog w) A (compareOp .Eq (.ref a) (.ref b)) Q E s :=
  eq_dataH ra (reads_newData (ys := []) hb .nil) (shp_list hs) (shp_list (fun _ h => nomatch h)) hu (by rw [eqv_nil]; exact h)
theorem ne_nilD (ra : Reads s.heap (.ref a) (.list ds) as) (hs : ∀ d ∈ ds, d.canLay0 = true ∧ d.depth ≤ 10) (hb : s.heap.IsList b #[]) (hu : A.units + 64 < cLine) (h : Q (.bool (!ds.isEmpty)) s) : wpAny (model prog w) A (compareOp .NotEq (.ref a) (.ref b)) Q E s :=
  ne_dataH ra (reads_newData (ys := []) hb .nil) (shp_list hs) (shp_list (fun _ h => nomatch h)) hu (by rw [eqv_nil]; exact h)
variable {vs : List Value} {v : Value} {r : Addr} {c : Nat}
theorem pickV {value slice : Expr} {k : Int} {u : Tok} (hl : s.heap.IsList r vs.toArray) (h0 : 0 ≤ k) (hk : k < 2 ^ 63) (hx : vs[k.toNat]? = some v) (h : Q v s)
    (hs : subscripted slice false (.ref r) (.int k u) = operate [.ref r, .int k u] (getItem (.ref r) (.int k u)) := by with_unfolding_all rfl) : wpAny (model prog w) A (subscriptTail value slice (.ref r) (.int k u)) Q E s :=
  tail_any hl.typeIs slot_list_getitem.lookup (wpAny_getItem_list hl h0 hk (by simpa using hx) h) hs
theorem pickE {value slice : Expr} {u : Tok} (hl : s.heap.IsList r vs.toArray) (hx : vs.getLast? = some v) (h : Q v s)
    (hs : subscripted slice false (.ref r) (.int (-1) u) = operate [.ref r, .int (-1) u] (getItem (.ref r) (.int (-1) u)) := by with_unfolding_all rfl) : wpAny (model prog w) A (subscriptTail value slice (.ref r) (.int (-1) u)) Q E s := by
  rw [List.getLast?_eq_getElem?] at hx
  have hp : vs.length - 1 < vs.length := (List.getElem?_eq_some_iff.mp hx).1
  refine tail_any hl.typeIs slot_list_getitem.lookup (wpAny_getItem_list_neg hl (by decide) (by rw [List.size_toArray]; omega) (by decide) ?_ h) hs
  rw [List.size_toArray, show ((-1 : Int) + (vs.length : Nat)).toNat = vs.length - 1 from by omega]
  simpa using hx
end
theorem carried_words (l : List Wd) : CarriedAll (l.map wdV) (l.map fun x : Wd => PyData.str (wS x.1 x.2.1)) := by
  induction l with
  | nil => exact .nil
  | cons x r ih => exact .cons (.str _ _) ih
theorem lay_word {n : Nat} {b : Bool} : (PyData.str (wS n b)).canLay0 = true ∧ (PyData.str (wS n b)).depth ≤ 10 := by
  refine ⟨?_, by simp [PyData.depth]⟩
  simp only [PyData.canLay0]
  show (wS n b).cps.all (· < 0x110000) = true
  rw [Array.all_eq_true_iff_forall_mem]
  exact fun c hc => decide_eq_true (Nat.lt_trans (wL_ascii (n := n) (low := b) c (Array.mem_toList_iff.mpr hc)) (by decide))
section
variable {w : World} {A : Around} {env : Env} {target iter : Expr} {body : List Stmt} {pos : Pos} {h₀ : Heap}
/-- a loop over range(hi) that may break: both ways end in JF -/
theorem it_rangeB {h : Heap} {r : Addr} {hi : Int} {t u v : Tok} {l : List (Str × Value)} {news : List (Addr × Obj)} (J : Nat → List (Str × Value) → List (Addr × Obj) → Prop) (JF : List (Str × Value) → List (Addr × Obj) → Prop) {g : Array GenState} {d : Drawn} {tk : Nat} {os : OsState} {Q : Flow → Shared → Prop} {E X : Value → Shared → Prop}
    (hh : A.handled = none) (hr : IsRange h r 0 hi 1 t u v) (h0 : 0 ≤ hi) (hsm : Builtin.Range.small 0 hi 1 = true) (F : Fr h₀ env.locals h (am l)) (N : News h₀ env.locals h news) (j0 : J 0 l news) (ht : ∀ v r, letOwnedTupleGo target v r = pure ())
    (turn : ∀ (i : Nat) u l news h own I, (i : Int) < hi → J i l news → Fr h₀ env.locals h (am l) → News h₀ env.locals h (own ++ news) → (∀ p ∈ news, p.1 ≠ I) → ((∀ p ∈ own, p.1 = I) ∧ ∃ o, (I, o) ∈ own) →
      Ok w A (assign target env (.int i u)) (fun _ h₃ => Ok w A (execs body env) (fun f h₄ => match f with
        | .next | .cont => ∃ l' news', J (i + 1) l' news' ∧ Fr h₀ env.locals h₄ (am l') ∧ News h₀ env.locals h₄ (own ++ news') ∧ ∀ p ∈ news', p.1 ≠ I
        | .brk => ∃ l' news', JF l' news' ∧ Fr h₀ env.locals h₄ (am l') ∧ News h₀ env.locals h₄ news'
        | .ret r => ∀ tk, Q (.ret r) ⟨h₄, g, d, tk, os⟩) h₃) h)
    (hJ : ∀ l news, J hi.toNat l news → JF l news)
    (fin : ∀ l news h tk, JF l news → Fr h₀ env.locals h (am l) → News h₀ env.locals h news → Q .next ⟨h, g, d, tk, os⟩) :
    wpAny (model prM w) A (pyIter (.ref r)) (fun it s₂ => codeAny (model prM w) A (.forLoop target it body [] env) (fun r s' => match r with | .ok f => Q f s' | .error e => X e s') s₂) E ⟨h, g, d, tk, os⟩ :=
  it_range J hh hr h0 hsm F N j0 ht (fun i u l news h own I a b c d e f => (turn i u l news h own I a b c d e f).mono fun _ h₃ p => p.mono fun f h₄ p => by
    cases f with
    | next => exact p
    | cont => exact p
    | brk => obtain ⟨l', news', a, b, c⟩ := p; exact fun tk => fin l' news' h₄ tk a b c
    | ret r => exact p) fun l news h tk j F N => fin l news h tk (hJ l news j) F N
end
end Mine
namespace Mine
/-- one fraction taken -/
noncomputable def stepA (T : List AR) (x : Nat) : Option Nat := (T.find? fun r => decide (x % r.1.1 = 0)).map fun r => x / r.1.1 * r.2.1
/-- at most f fractions taken -/
noncomputable def runF (T : List AR) : Nat → Nat → List Nat
  | 0, x => [x]
  | f + 1, x => match stepA T x with
    | none => [x]
    | some y => x :: runF T f y
theorem runF_stop {T : List AR} {f x : Nat} (h : stepA T x = none) : runF T f x = [x] := by
  cases f with
  | zero => rfl
  | succ f => show (match stepA T x with | none => [x] | some y => x :: runF T f y) = _; rw [h]
theorem runF_go {T : List AR} {f x y : Nat} (h : stepA T x = some y) : runF T (f + 1) x = x :: runF T f y := by
  show (match stepA T x with | none => [x] | some y => x :: runF T f y) = _; rw [h]
theorem runF_head {T : List AR} {f x : Nat} : x ∈ runF T f x := by
  cases f with
  | zero => exact .head _
  | succ f =>
    show x ∈ (match stepA T x with | none => [x] | some y => x :: runF T f y)
    cases stepA T x <;> exact .head _
theorem runF_len (T : List AR) : ∀ f x, (runF T f x).length ≤ f + 1
  | 0, _ => Nat.le_refl _
  | f + 1, x => by
    show (match stepA T x with | none => [x] | some y => x :: runF T f y).length ≤ _
    cases stepA T x with
    | none => simp
    | some y => have := runF_len T f y; simp only [List.length_cons]; omega
theorem stepA_rows {rows : List Row} {x : Nat} : stepA (rows.map abR) x = (rows.find? fun e : Row => decide (x % e.2.1.1 = 0)).map fun e => x / e.2.1.1 * e.2.2.1 := by
  unfold stepA
  rw [List.find?_map, Option.map_map]
  rfl
theorem filter_head {rows : List Row} {p : Row → Bool} : (rows.filter p)[0]? = rows.find? p := by
  induction rows with
  | nil => rfl
  | cons e r ih =>
    by_cases h : p e = true
    · rw [List.filter_cons_of_pos h, List.find?_cons_of_pos h]; rfl
    · rw [List.filter_cons_of_neg h, List.find?_cons_of_neg h]; exact ih
theorem find_same {rows : List Row} {x : Nat} {e : Row} (h : rows.find? (fun e : Row => decide (x % e.2.1.1 = 0)) = some e) : rows.find? (fun f : Row => decide (f.2.1.1 = e.2.1.1)) = some e := by
  induction rows with
  | nil => cases h
  | cons r rs ih =>
    by_cases hr : x % r.2.1.1 = 0
    · rw [List.find?_cons_of_pos (by simpa using hr)] at h
      cases h
      exact List.find?_cons_of_pos (by simp)
    · rw [List.find?_cons_of_neg (by simpa using hr)] at h
      have he : x % e.2.1.1 = 0 := by simpa using List.find?_some h
      rw [List.find?_cons_of_neg (by simp; intro q; rw [q] at hr; exact hr he)]
      exact ih h
/-- the run's table: its values are the numbers -/
noncomputable def Way (rows : List Row) (ns : List Nat) : Prop := rows.map (fun e : Row => e.2.2.1) = ns ∧ ∀ e ∈ rows, e.2.1.1 = 13
theorem Way.app {rows : List Row} {ns : List Nat} (h : Way rows ns) {r : Addr} {b c : Bool} {t u : Tok} {y : Nat} : Way (rows ++ [(r, (13, b, t), (y, c, u))]) (ns ++ [y]) :=
  ⟨by rw [List.map_append, h.1]; rfl, fun e he => by
    rcases List.mem_append.mp he with he | he
    · exact h.2 e he
    · rw [List.mem_singleton.mp he]⟩
theorem Way.ok {rows : List Row} {ns : List Nat} (h : Way rows ns) (hb : ∀ y ∈ ns, 0 < y ∧ y < 16 ^ 16) : ∀ e ∈ rows, RowOk e := fun e he =>
  ⟨⟨by rw [h.2 e he]; decide, by rw [h.2 e he]; decide⟩, hb _ (h.1 ▸ List.mem_map_of_mem (f := fun e : Row => e.2.2.1) he)⟩
theorem Way.len {rows : List Row} {ns : List Nat} (h : Way rows ns) : rows.length = ns.length := by rw [← h.1, List.length_map]
theorem Way.all {rows : List Row} {ns : List Nat} (h : Way rows ns) : (rows.filter fun e : Row => decide (e.2.1.1 = 13)) = rows := List.filter_eq_self.mpr fun e he => decide_eq_true (h.2 e he)
end Mine
namespace Mine
theorem carried_names (l : List Row) : CarriedAll (l.map fun e : Row => wdV e.2.1) (l.map fun e : Row => PyData.str (wS e.2.1.1 e.2.1.2.1)) := by
  induction l with
  | nil => exact .nil
  | cons x r ih => exact .cons (.str _ _) ih
theorem lay_names (l : List Row) : ∀ d ∈ l.map (fun e : Row => PyData.str (wS e.2.1.1 e.2.1.2.1)), d.canLay0 = true ∧ d.depth ≤ 10 := by
  intro d hd
  obtain ⟨e, _, rfl⟩ := List.mem_map.mp hd
  exact lay_word
theorem Way.last {rows : List Row} {acc : List Nat} {x : Nat} (h : Way rows (acc ++ [x])) : ∃ lx tx, (rows.map fun e : Row => wdV e.2.2).getLast? = some (.str (wS x lx) tx) := by
  have h1 := congrArg List.getLast? h.1
  rw [List.getLast?_append, List.getLast?_map] at h1
  obtain ⟨e, he, hx⟩ := Option.map_eq_some_iff.mp (h1.trans (by simp : _ = some x))
  refine ⟨e.2.2.2.1, e.2.2.2.2, ?_⟩
  rw [List.getLast?_map, he]
  subst hx
  rfl
section
variable {w : World} {A : Around} {E : Value → Shared → Prop} {env : Env}
/-- a comprehension's list bound to a name -/
theorem lc_finA {h₀ hb : Heap} {l0 : List (Str × Value)} {news : List (Addr × Obj)} {keep : Nat → Bool} {R : Nat → Value → List (Addr × Obj) → Prop} {n : Nat} {g : Array GenState} {d : Drawn} {os : OsState} {Q : Shared → Prop} {y : Str} {py : Pos} (F : Fr h₀ env.locals hb (am l0)) (N : News h₀ env.locals hb news)
    (hx : env.kindOf y = some .local) (hk : env.scope.kind = .function)
    (q : ∀ D ys own c h' tk, Fr h₀ env.locals h' (am ((y, .ref D) :: l0)) → News h₀ env.locals h' ((D, W.listOf (List.toArray ys) c) :: (own ++ news)) → (∀ p ∈ (D, W.listOf (List.toArray ys) c) :: own, ∀ q ∈ news, p.1 ≠ q.1) → Stp keep R n ys own → Q ⟨h', g, d, tk, os⟩) :
    ∀ D C H' ys own c l tk, hb.get? C = none → Fr hb C H' (am l) → News hb C H' ((D, W.listOf (List.toArray ys) c) :: own) → Stp keep R n ys own → compPost (model prM w) A E (some (assign (.Name y py) env)) (fun _ s' => Q s') (.ref D) C (.ok .next) ⟨H', g, d, tk, os⟩ :=
  fun D C H' ys own c l tk hC F' N' hS => by
    obtain ⟨k, F2, N2, hd⟩ := lc_back F N hC F' N' ⟨rfl, fun _ _ => rfl⟩
    obtain ⟨oL, _, _, hoL, _⟩ := F.ns
    have hCL : C ≠ env.locals := fun e => by rw [e, hoL] at hC; cases hC
    have hne : ∀ p ∈ (D, W.listOf (List.toArray ys) c) :: (own ++ news), p.1 ≠ C := fun p hp => by
      rcases List.mem_cons.mp hp with rfl | hp
      · exact (N' _ (.head _)).2.1
      rcases List.mem_append.mp hp with hp | hp
      · exact (N' p (.tail _ hp)).2.1
      · exact fun e => by have := (N p hp).1; rw [e, hC] at this; cases this
    refine wpAny_assign_Name (wpAny_storeName_local hx F2.ns (fun h1 hn hs => ?_) (by rw [hk]; rfl))
    refine ⟨am l, F'.ns.sameBut hs hCL, fun h' hs' => ?_⟩
    have F3 := F2.set hn hs
    have N3 := N2.set hs
    rw [am_put] at F3
    refine q D ys own c h' _ ⟨F3.ns.sameBut hs' hCL.symm, fun b o e => (hs'.2 b (fun q => ?_)).trans (F3.keep b o e), F3.above⟩ (fun p hp => ⟨(hs'.2 _ (hne p hp)).trans (N3 p hp).1, (N3 p hp).2⟩) hd hS
    have := F.keep b o e
    rw [q, hC] at this; cases this
end
end Mine
namespace Mine
local macro_rules | `(tactic| walk_at "storeName") => `(tactic| (k_dflt (refine' stM ?F ?N ?_ ?a ?b; (case F => first | with_reducible assumption | assumption); (case N => first | with_reducible assumption | assumption); (case a => rfl); (case b => rfl); k_whole); intro h' F' N'; (try k_sweep); (try dsimp only)))
local macro_rules | `(tactic| walk_at "subscriptTail") => `(tactic| ((with_reducible show wpAny _ _ (subscriptTail _ _ (Value.ref _) (Value.int _ _)) _ _ _); k_dflt (refine' pickT ?t ?i ?a ?b ?z ?_ ?s; (case t => exact News.isTup (by k_asm) (by k_mem)); (case i => l_ints); (case a => l_idx); (case b => l_idx); (case z => decide); (case s => with_unfolding_all rfl); k_whole); intro t'))
local macro_rules | `(tactic| walk_at "assign Tuple") => `(tactic| ((with_reducible show wpAny _ _ (assign (Expr.Tuple _ _ _) _ (Value.ref _)) _ _ _); k_dflt (refine' unpackN_ ?F ?N ?T ?hh ?k2 ?k3 ?_; (case F => k_asm); (case N => k_asm); (case T => exact News.isTup (by k_asm) (by k_mem)); (case hh => exact Gd.han (by assumption)); (case k2 => exact rfl); (case k3 => exact rfl)); intro h' F' N'; (try k_sweep); (try dsimp only)))
local macro_rules | `(tactic| walk_at "lk") => `(tactic| first | with_reducible exact am_hit | with_reducible exact am_skip (by kernel_rfl) am_hit | with_reducible exact am_skip (by kernel_rfl) (am_skip (by kernel_rfl) am_hit) | (with_reducible refine' am_skip (by kernel_rfl) ?_; walk_at "lk") | assumption)
local macro_rules | `(tactic| walk_at "eval Name") => `(tactic| (k_dflt (first | (refine' nmL ?F ?vv ?_ ?a ?b ?c; (case F => assumption); (case a => rfl); (case b => rfl); (case c => decide); (case vv => walk_at "lk")) | (refine' nmC ?F ?o ?d ?l ?_ ?a ?b ?c; (case F => assumption); (case a => rfl); (case b => rfl); (case c => decide); (case l => rfl); (case o => assumption); (case d => assumption)) | (refine' nmG ?F ?X ?T ?e ?_ ?g ?a ?b ?c; (case F => assumption); (case X => assumption); (case T => assumption); (case g => rfl); (case a => rfl); (case b => rfl); (case c => decide); (case e => k_is)) | (refine' nmB ?F ?X ?T ?e ?vv ?n ?_ ?g ?h ?a ?b ?c; (case F => assumption); (case X => assumption); (case T => assumption); (case g => rfl); (case h => rfl); (case a => rfl); (case b => rfl); (case c => decide); (case e => k_is); (case vv => boot_fast); (case n => decide))); k_whole))
theorem fill_T12 : PySem.Challenge.rw_wf0080_01 = PySem.Challenge.rw_wf0080_01 ∧ KM = KM := by
  w_on
  k_fill
  exact ⟨rfl, rfl⟩

local macro_rules | `(tactic| walk_at "mine") => `(tactic| ((with_reducible show wpAny _ _ (subscriptTail _ _ (Value.ref _) (Value.int _ _)) _ _ _); (refine' pickL (vs := [_, _, _, _, _]) ?T ?I ?a ?b ?x ?_; (case T => exact Fr.keep (by assumption) _ _ (by assumption)); (case I => exact IntsAre.cons _ _ (.cons _ _ (.cons _ _ (.cons _ _ (.cons _ _ .nil))))); (case a => omega); (case b => omega); (case x => with_reducible assumption)); intro t'; (try dsimp only)))
theorem isl_keep {h h' : Heap} {a : Addr} {xs : Array Value} (x : h.IsList a xs) (k : ∀ b o, h.get? b = some o → h'.get? b = some o) : h'.IsList a xs := let ⟨o, ho, r⟩ := x; ⟨o, k _ _ ho, r⟩
theorem stp_ints : ∀ {n ys own}, Stp (fun _ => true) (fun _ y o => o = [] ∧ ∃ z t, y = Value.int z t) n ys own → own = [] ∧ ∃ ds : List Int, IntsAre ys ds ∧ ds.length = n
  | 0, _, _, h => ⟨h.2, [], h.1 ▸ .nil, rfl⟩
  | n + 1, _, _, h => by
    unfold Stp at h
    rw [if_pos rfl] at h
    obtain ⟨ys', y, own', o, rfl, rfl, hS, rfl, z, t, rfl⟩ := h
    obtain ⟨rfl, ds, hI, hl⟩ := stp_ints hS
    exact ⟨rfl, ds ++ [z], hI.append (.cons z t .nil), by simp [hl]⟩
theorem ints_of : ∀ {us : List Value}, (∀ v ∈ us, ∃ z t, v = Value.int z t) → ∃ ms, IntsAre us ms
  | [], _ => ⟨[], .nil⟩
  | v :: us, h => by
    obtain ⟨z, t, rfl⟩ := h v (.head _)
    obtain ⟨ms, hm⟩ := ints_of fun v hv => h v (.tail _ hv)
    exact ⟨z :: ms, .cons z t hm⟩
theorem ints_mem {vs : List Value} {ns : List Int} (h : IntsAre vs ns) {i : Nat} {v : Value} (hv : vs[i]? = some v) : ∃ z t, v = Value.int z t := by
  have hi : i < ns.length := by rw [← h.length]; exact (List.getElem?_eq_some_iff.mp hv).1
  obtain ⟨t, ht⟩ := h.get i ns[i] (List.getElem?_eq_getElem hi)
  rw [hv] at ht
  exact ⟨_, t, Option.some.inj ht⟩
theorem pick_ints {vs : List Value} {ns : List Int} (h : IntsAre vs ns) (a b c : Option Int) : ∃ us ms, slicePick vs.toArray a b c = List.toArray us ∧ IntsAre us ms := by
  obtain ⟨ms, hm⟩ := ints_of (us := ((sliceRange (sliceBounds a b c vs.toArray.size).1 (sliceBounds a b c vs.toArray.size).2.1 (sliceBounds a b c vs.toArray.size).2.2).filterMap (vs.toArray[·]?))) (fun v hv => by
    obtain ⟨i, _, e⟩ := List.mem_filterMap.mp hv
    exact ints_mem h (i := i) (by simpa using e))
  exact ⟨_, ms, rfl, hm⟩
theorem drawn_c {w : World} {mg mb : Str → Option Value} {A : Around} {h : Heap} {ax : Addr} {vs : List Value} {ns : List Int} (G : Gl w mg mb h) (hax : h.IsList ax vs.toArray) (hI : IntsAre vs ns) (gd : Gd 2 A) (hn : ns.length ≤ 63) :
    Ok w A (call (.ref 215) [.ref ax]) (fun v h' => h.StaysIn h' ∧ ∃ r o, v = .ref r ∧ h.get? r = none ∧ h'.get? r = some o ∧ ∃ (us : List Value) (ds : List Int) (c : Nat), o = W.listOf us.toArray c ∧ IntsAre us ds ∧ ds.length = 5) h := by
  have H : Hid h h [] := ⟨fun _ _ e => e, Nat.le_refl _, fun _ h => nomatch h⟩
  refine Cd.call ?_
  w_on
  have X := G.X
  have T := G.T
  refine' enterHC (n := 1) [("script", .ref ax)] G H gd ?k6 ?k7 ?k9 ?kB ?kN ?_ ?c2 ?c3 ?c4
  case k6 => k_is
  case k7 => k_is
  case k9 => exact fun s _ => BindsTo.of_eq (by with_unfolding_all rfl)
  case kB => exact rfl
  case kN => decide
  case c2 => exact rfl
  case c3 => exact rfl
  case c4 => exact rfl
  intro L h₁ cells F N hd Y fr G gd g d tk os Q E q
  obtain ⟨oS, oT, hE', dS, dT⟩ := CellsAre.two Y
  subst hE'
  have dT : oT.data = .cell (some (.ref ax)) := dT
  repeat' ((fail_if_success (with_reducible show wpAny _ _ (exec (Stmt.While _ _ _ _) _) _ _ _)); (fail_if_success (with_reducible show wpAny _ _ (exec (Stmt.For _ _ _ _ _) _) _ _ _)); (fail_if_success (with_reducible show wpAny _ _ (pyIter _) _ _ _)); (fail_if_success (with_reducible show wpAny _ _ (eval (Expr.ListComp _ _ _ _) _) _ _ _)); (fail_if_success (with_reducible show wpAny _ _ (delItem _ _) _ _ _)); (fail_if_success (with_reducible show wpAny _ _ (setItem _ _ _) _ _ _)); (fail_if_success (with_reducible show wpAny _ _ (compareOp _ (Value.ref _) (Value.ref _)) _ _ _)); (fail_if_success (with_reducible show wpAny _ _ (exec (Stmt.Assign _ (Expr.ListComp _ _ _ _) _) _) _ _ _)); first | walk_at "mine" | walk1 | (dsimp only; walk1))
  rename_i T4 h4 F4 N4 l4 h5 o5 F5 N5 d5
  have F5 : Fr h L h5 (am []) := F5
  have hT4 := (N5 _ (.head _)).1
  have hc1 := (N5 _ (.tail _ (.head _))).1
  have hc2 := (N5 _ (.tail _ (.tail _ (.head _)))).1
  refine lc_open [(Str.ofString "told", L + 1 + 1), (Str.ofString "script", L + 1)] (by with_unfolding_all rfl) rfl (by decide) ?_
  repeat' ((fail_if_success (with_reducible show wpAny _ _ (exec (Stmt.While _ _ _ _) _) _ _ _)); (fail_if_success (with_reducible show wpAny _ _ (exec (Stmt.For _ _ _ _ _) _) _ _ _)); (fail_if_success (with_reducible show wpAny _ _ (pyIter _) _ _ _)); (fail_if_success (with_reducible show wpAny _ _ (eval (Expr.ListComp _ _ _ _) _) _ _ _)); (fail_if_success (with_reducible show wpAny _ _ (delItem _ _) _ _ _)); (fail_if_success (with_reducible show wpAny _ _ (setItem _ _ _) _ _ _)); (fail_if_success (with_reducible show wpAny _ _ (compareOp _ (Value.ref _) (Value.ref _)) _ _ _)); (fail_if_success (with_reducible show wpAny _ _ (exec (Stmt.Assign _ (Expr.ListComp _ _ _ _) _) _) _ _ _)); first | walk_at "mine" | walk1 | (dsimp only; walk1))
  rename_i t6 u6 v6 hr6 F6 N6 st6
  refine lc_range (fun _ => true) (fun i y o => o = [] ∧ ∃ z t, y = .int z t) (Gd.han (by assumption)) hr6 (by decide) (by decide) (by decide) (by decide) rfl (fun _ _ => rfl) ?turn (lc_fin F6 N6 ?fin)
  case turn =>
    intro i u hi C hC l7 h7 aux prev F7 N7
    have G7 := G.keeps F6.keep
    have X7 := G7.X
    have T7 := G7.T
    have hT7 := st6 _ _ hT4
    have hc17 := st6 _ _ hc1
    have hc27 := st6 _ _ hc2
    have hax7 : Heap.IsList _ ax vs.toArray := isl_keep hax F6.keep
    obtain ⟨z, hz⟩ : ∃ z, ([377, 237, 331, 8, 6] : List Int)[((i : Nat) : Int).toNat]? = some z := ⟨_, List.getElem?_eq_getElem (by simp; omega)⟩
    refine asgN F7 N7 rfl rfl fun h8 F8 N8 => tst_nil ⟨rfl, ?_⟩
    rw [if_pos rfl]
    intro g8 d8 tk8 os8 Q8 E8 q8
    repeat' ((fail_if_success (with_reducible show wpAny _ _ (exec (Stmt.While _ _ _ _) _) _ _ _)); (fail_if_success (with_reducible show wpAny _ _ (exec (Stmt.For _ _ _ _ _) _) _ _ _)); (fail_if_success (with_reducible show wpAny _ _ (pyIter _) _ _ _)); (fail_if_success (with_reducible show wpAny _ _ (eval (Expr.ListComp _ _ _ _) _) _ _ _)); (fail_if_success (with_reducible show wpAny _ _ (delItem _ _) _ _ _)); (fail_if_success (with_reducible show wpAny _ _ (setItem _ _ _) _ _ _)); (fail_if_success (with_reducible show wpAny _ _ (compareOp _ (Value.ref _) (Value.ref _)) _ _ _)); (fail_if_success (with_reducible show wpAny _ _ (exec (Stmt.Assign _ (Expr.ListComp _ _ _ _) _) _) _ _ _)); first | walk_at "mine" | walk1 | (dsimp only; walk1))
    rename Fr _ _ _ _ => F9
    rename News _ _ _ _ => N9
    obtain ⟨us, ms, hus, hms⟩ := pick_ints hI (some (i : Int)) none (some 5)
    refine sumK (Gd.han (by assumption)) F9 N9 (vs := us) (hus ▸ News.isList N9 (.head _)) hms ?_
    intro h10 tk10 t10 F10 N10
    (try dsimp only)
    repeat' ((fail_if_success (with_reducible show wpAny _ _ (exec (Stmt.While _ _ _ _) _) _ _ _)); (fail_if_success (with_reducible show wpAny _ _ (exec (Stmt.For _ _ _ _ _) _) _ _ _)); (fail_if_success (with_reducible show wpAny _ _ (pyIter _) _ _ _)); (fail_if_success (with_reducible show wpAny _ _ (eval (Expr.ListComp _ _ _ _) _) _ _ _)); (fail_if_success (with_reducible show wpAny _ _ (delItem _ _) _ _ _)); (fail_if_success (with_reducible show wpAny _ _ (setItem _ _ _) _ _ _)); (fail_if_success (with_reducible show wpAny _ _ (compareOp _ (Value.ref _) (Value.ref _)) _ _ _)); (fail_if_success (with_reducible show wpAny _ _ (exec (Stmt.Assign _ (Expr.ListComp _ _ _ _) _) _) _ _ _)); first | walk_at "mine" | walk1 | (dsimp only; walk1))
    exact q8 _ _ _ ⟨_, [], F10, News.mono N10 fun p hp => .tail _ hp, (fun _ h => nomatch h), rfl, _, _, rfl⟩
  case fin =>
    intro D ys own3 c8 h8 tk8 k8 F8 N8 hd8 hS
    (try dsimp only)
    repeat' ((fail_if_success (with_reducible show wpAny _ _ (exec (Stmt.While _ _ _ _) _) _ _ _)); (fail_if_success (with_reducible show wpAny _ _ (exec (Stmt.For _ _ _ _ _) _) _ _ _)); (fail_if_success (with_reducible show wpAny _ _ (pyIter _) _ _ _)); (fail_if_success (with_reducible show wpAny _ _ (eval (Expr.ListComp _ _ _ _) _) _ _ _)); (fail_if_success (with_reducible show wpAny _ _ (delItem _ _) _ _ _)); (fail_if_success (with_reducible show wpAny _ _ (setItem _ _ _) _ _ _)); (fail_if_success (with_reducible show wpAny _ _ (compareOp _ (Value.ref _) (Value.ref _)) _ _ _)); (fail_if_success (with_reducible show wpAny _ _ (exec (Stmt.Assign _ (Expr.ListComp _ _ _ _) _) _) _ _ _)); first | walk_at "mine" | walk1 | (dsimp only; walk1))
    obtain ⟨rfl, ds, hI8, hl8⟩ := stp_ints hS
    refine q _ _ _ ⟨F8.keep, D, _, rfl, (N8 _ (.head _)).2.2, (N8 _ (.head _)).1, ys, ds, c8, rfl, hI8, hl8⟩
end Mine
namespace Mine
/-- the machine's number -/
noncomputable def numI (f : Int → Int) (now : Int) : Int := 2 ^ (f 2).toNat * 3 ^ (f 3).toNat * 5 ^ (f 5).toNat * now
noncomputable def upd (f : Int → Int) (k v : Int) : Int → Int := fun y => if y = k then v else f y
/-- the line of a state that counts -/
noncomputable def lineOf (ds : List Int) (now : Int) : Option Int := ((ds.take 4).filter fun x => decide (stF x = now)).getLast?
noncomputable def stepM (x : Int) (f : Int → Int) : (Int → Int) × Int :=
  if moF x then (upd f (cnF x) (f (cnF x) + 1), afF x) else if 0 < f (cnF x) then (upd f (cnF x) (f (cnF x) - 1), afF x) else (f, otF x)
noncomputable def runM (ds : List Int) : Nat → (Int → Int) → Int → List Int
  | 0, f, now => [numI f now]
  | k + 1, f, now => match lineOf ds now with
    | none => [numI f now]
    | some x => numI f now :: runM ds k (stepM x f).1 (stepM x f).2
noncomputable def cnt0 (ds : List Int) : Int → Int := fun y => if y = 2 then (ds.getD 4 0).fmod 4 else if y = 3 then ((ds.getD 4 0).fdiv 4).fmod 4 else if y = 5 then ((ds.getD 4 0).fdiv 16).fmod 4 else 0
theorem runM_stop {ds : List Int} {k : Nat} {f : Int → Int} {now : Int} (h : lineOf ds now = none) : runM ds k f now = [numI f now] := by
  cases k with
  | zero => rfl
  | succ k => show (match lineOf ds now with | none => [numI f now] | some x => numI f now :: runM ds k (stepM x f).1 (stepM x f).2) = _; rw [h]
theorem runM_go {ds : List Int} {k : Nat} {f : Int → Int} {now x : Int} (h : lineOf ds now = some x) : runM ds (k + 1) f now = numI f now :: runM ds k (stepM x f).1 (stepM x f).2 := by
  show (match lineOf ds now with | none => [numI f now] | some x => numI f now :: runM ds k (stepM x f).1 (stepM x f).2) = _; rw [h]
/-- the counters' dict -/
noncomputable def CntO (w : World) (o : Obj) (f : Int → Int) : Prop := ∃ t2 t3 t5, o.IsDictOf (PySem.intKind prM w) [((2 : Int), Value.int (f 2) t2), (3, .int (f 3) t3), (5, .int (f 5) t5)]
theorem cnt_val {f : Int → Int} {k : Int} {t2 t3 t5 : Tok} (hk : k ∈ [(2 : Int), 3, 5]) : ∃ t, valueAt [((2 : Int), Value.int (f 2) t2), (3, .int (f 3) t3), (5, .int (f 5) t5)] k = some (.int (f k) t) := by
  rcases List.mem_cons.mp hk with rfl | hk
  · exact ⟨t2, rfl⟩
  rcases List.mem_cons.mp hk with rfl | hk
  · exact ⟨t3, rfl⟩
  · rw [List.mem_singleton.mp hk]; exact ⟨t5, rfl⟩
theorem cnt_put {f : Int → Int} {k v : Int} {t t2 t3 t5 : Tok} (hk : k ∈ [(2 : Int), 3, 5]) : ∃ t2' t3' t5', stored [((2 : Int), Value.int (f 2) t2), (3, .int (f 3) t3), (5, .int (f 5) t5)] k (.int v t) = [((2 : Int), Value.int (upd f k v 2) t2'), (3, .int (upd f k v 3) t3'), (5, .int (upd f k v 5) t5')] := by
  rcases List.mem_cons.mp hk with rfl | hk
  · exact ⟨t, t3, t5, rfl⟩
  rcases List.mem_cons.mp hk with rfl | hk
  · exact ⟨t2, t, t5, rfl⟩
  · rw [List.mem_singleton.mp hk]; exact ⟨t2, t3, t, rfl⟩
section
variable {w : World} {A : Around} {E : Value → Shared → Prop} {s : Shared} {h₀ : Heap} {L d : Addr} {m : Str → Option Value} {news : List (Addr × Obj)} {g : Obj → List (Addr × Obj)} {o : Obj} {f : Int → Int} {k v : Int} {u t : Tok}
theorem cnt_item {value slice : Expr} {Q : Value → Shared → Prop} (N : News h₀ L s.heap news) (hp : (d, o) ∈ news) (hd : CntO w o f) (hk : k ∈ [(2 : Int), 3, 5]) (h : ∀ t tk, Q (.int (f k) t) { s with toks := tk })
    (hs : subscripted slice false (.ref d) (.int k u) = operate [.ref d, .int k u] (getItem (.ref d) (.int k u)) := by with_unfolding_all rfl) (hg : ∀ r, letTemporaryGo value (.ref d) r = pure () := by intro _; with_unfolding_all rfl) :
    wpAny (model prM w) A (subscriptTail value slice (.ref d) (.int k u)) Q E s := by
  obtain ⟨t2, t3, t5, hd⟩ := hd
  obtain ⟨t, ht⟩ := cnt_val (f := f) (t2 := t2) (t3 := t3) (t5 := t5) hk
  exact kda_item N hp hd (intKind_is prM w k u) ht (h t _) hs hg
theorem cnt_set {Q : Unit → Shared → Prop} (F : Fr h₀ L s.heap m) (N : News h₀ L s.heap news) (U : UpdF d o news g) (hd : CntO w o f) (hk : k ∈ [(2 : Int), 3, 5])
    (h : ∀ h' o' tk, Fr h₀ L h' m → News h₀ L h' (g o') → CntO w o' (upd f k v) → Q () { s with heap := h', toks := tk }) : wpAny (model prM w) A (setItem (.ref d) (.int k u) (.int v t)) Q E s := by
  obtain ⟨t2, t3, t5, hd⟩ := hd
  obtain ⟨u2, u3, u5, hu⟩ := cnt_put (f := f) (v := v) (t := t) (t2 := t2) (t3 := t3) (t5 := t5) hk
  exact kda_set F N U hd (intKind_is prM w k u) (by rw [sizeLine_eq]; exact Nat.le_of_ble_eq_true rfl) fun h' o' F' N' hd' => h h' o' _ F' N' ⟨u2, u3, u5, hu ▸ hd'⟩
end
/-- the lines told: address, draw, identities -/
noncomputable abbrev TRow := Addr × Int × Tok × Tok × Tok × Tok
noncomputable def trO (e : TRow) : Addr × Obj := (e.1, tupO [.int (stF e.2.1) e.2.2.1, .int (cnF e.2.1) e.2.2.2.1, .int (afF e.2.1) e.2.2.2.2.1, .int (otF e.2.1) e.2.2.2.2.2, .bool (moF e.2.1)])
noncomputable def trR (e : TRow) : Value := .ref e.1
noncomputable def trD (e : TRow) : PyData := .tuple [.int (stF e.2.1), .int (cnF e.2.1), .int (afF e.2.1), .int (otF e.2.1), .bool (moF e.2.1)]
theorem stp_told {xs : List Int} : ∀ {n ys own}, n ≤ xs.length → Stp (fun _ => true) (fun i y o => ∃ e : TRow, e.2.1 = xs.getD i 0 ∧ y = trR e ∧ o = [trO e]) n ys own → ∃ tl : List TRow, ys = tl.map trR ∧ tl.map (fun e : TRow => e.2.1) = xs.take n ∧ ∀ e ∈ tl, trO e ∈ own
  | 0, _, _, _, h => ⟨[], h.1, rfl, fun _ h => nomatch h⟩
  | n + 1, _, _, hn, h => by
    unfold Stp at h
    rw [if_pos rfl] at h
    obtain ⟨ys', y, own', o, rfl, rfl, hS, e, he, rfl, rfl⟩ := h
    obtain ⟨tl, rfl, hx, ho⟩ := stp_told (by omega) hS
    refine ⟨tl ++ [e], by rw [List.map_append]; rfl, ?_, fun e' he' => ?_⟩
    · rw [List.map_append, hx, List.take_succ, List.getElem?_eq_getElem (by omega : n < xs.length)]
      show _ ++ [e.2.1] = _
      rw [he, List.getD_eq_getElem?_getD, List.getElem?_eq_getElem (by omega : n < xs.length)]
      rfl
    · rcases List.mem_append.mp he' with he' | he'
      · exact .tail _ (ho e' he')
      · rw [List.mem_singleton.mp he']; exact .head _
theorem line_last {ds : List Int} {tl : List TRow} {now : Int} (h : tl.map (fun e : TRow => e.2.1) = ds.take 4) : lineOf ds now = ((tl.filter fun e : TRow => decide (stF e.2.1 = now)).getLast?).map fun e : TRow => e.2.1 := by
  unfold lineOf
  rw [← h, List.filter_map, List.getLast?_map]
  rfl
theorem reads_told {h : Heap} : ∀ {tl : List TRow}, (∀ e ∈ tl, h.get? e.1 = some (trO e).2) → ∃ as, ReadsAll h (tl.map trR) (tl.map trD) as
  | [], _ => ⟨_, .nil⟩
  | e :: tl, k => by
    obtain ⟨as, ha⟩ := reads_told fun e he => k e (.tail _ he)
    exact ⟨_, .cons (reads_tuple_at (k e (.head _)) rfl rfl (.cons (.int _ _) (.cons (.int _ _) (.cons (.int _ _) (.cons (.int _ _) (.cons (.bool _) .nil)))))) ha⟩
theorem lay_told {tl : List TRow} : ∀ d ∈ tl.map trD, d.canLay0 = true ∧ d.depth ≤ 10 := by
  intro d hd
  obtain ⟨e, _, rfl⟩ := List.mem_map.mp hd
  exact ⟨rfl, by show 1 ≤ 10; decide⟩
theorem pw_small {b : Nat} (hb : b ≤ 5) {z : Int} (h : z ≤ 13) : (((b : Int)) ^ z.toNat).natAbs < 2 ^ 64 := by
  rw [Int.natAbs_pow, Int.natAbs_natCast]
  exact Nat.lt_of_le_of_lt (Nat.le_trans (Nat.pow_le_pow_left hb _) (Nat.pow_le_pow_right (by decide) (by omega : z.toNat ≤ 13))) (by decide)
theorem pw3 {z : Int} (h : z ≤ 13) : ((3 : Int) ^ z.toNat).natAbs < 2 ^ 64 := pw_small (b := 3) (by decide) h
theorem pw5 {z : Int} (h : z ≤ 13) : ((5 : Int) ^ z.toNat).natAbs < 2 ^ 64 := pw_small (b := 5) (by decide) h
section
variable {prog : Program} {w : World} {A : Around} {E : Value → Shared → Prop} {s : Shared} {h₀ : Heap} {L D : Addr} {m : Str → Option Value} {a : List (Addr × Obj)} {vs : List Value} {n : Nat} {x : Value} {Q : Value → Shared → Prop}
theorem appF (bf : Value → List (Addr × Obj)) (F : Fr h₀ L s.heap m) (N : News h₀ L s.heap a) (hm : (D, W.listOf vs.toArray n) ∈ a) (hz : vs.length ≤ 1000000) (hb : ∀ x, ∀ p ∈ bf x, p = (D, W.listOf (vs ++ [x]).toArray (n + 1)) ∨ p ∈ a ∧ p.1 ≠ D)
    (h : ∀ h', Fr h₀ L h' m → News h₀ L h' (bf x) → Q .none { s with heap := h' }) : wpAny (model prog w) A (call (.builtin "list.append") [.ref D, x]) Q E s := appS (bf x) F N hm hz (hb x) h
end
theorem cnt0_r (ds : List Int) : (0 ≤ cnt0 ds 2 ∧ cnt0 ds 2 ≤ 3) ∧ (0 ≤ cnt0 ds 3 ∧ cnt0 ds 3 ≤ 3) ∧ (0 ≤ cnt0 ds 5 ∧ cnt0 ds 5 ≤ 3) := by
  have h1 := fm4 (ds.getD 4 0)
  have h2 := fm4 ((ds.getD 4 0).fdiv 4)
  have h3 := fm4 ((ds.getD 4 0).fdiv 16)
  have e1 : cnt0 ds 2 = (ds.getD 4 0).fmod 4 := rfl
  have e2 : cnt0 ds 3 = ((ds.getD 4 0).fdiv 4).fmod 4 := rfl
  have e3 : cnt0 ds 5 = ((ds.getD 4 0).fdiv 16).fmod 4 := rfl
  omega
/-- bounds of the counters ahead of turn i -/
noncomputable def CB (f : Int → Int) (i : Nat) : Prop := (0 ≤ f 2 ∧ f 2 ≤ 3 + i) ∧ (0 ≤ f 3 ∧ f 3 ≤ 3 + i) ∧ (0 ≤ f 5 ∧ f 5 ≤ 3 + i)
theorem CB.up {f : Int → Int} {i : Nat} (h : CB f i) : CB f (i + 1) := by unfold CB at h ⊢; push_cast; omega
theorem upd_at {f : Int → Int} {k v : Int} {P : Int → Prop} (hv : P v) (h2 : P (f 2)) (h3 : P (f 3)) (h5 : P (f 5)) : P (upd f k v 2) ∧ P (upd f k v 3) ∧ P (upd f k v 5) := by
  unfold upd
  refine ⟨?_, ?_, ?_⟩ <;> split <;> assumption
theorem CB.at {f : Int → Int} {i : Nat} (h : CB f i) {k : Int} (hk : k ∈ [(2 : Int), 3, 5]) : 0 ≤ f k ∧ f k ≤ 3 + i := by
  rcases List.mem_cons.mp hk with rfl | hk
  · exact h.1
  rcases List.mem_cons.mp hk with rfl | hk
  · exact h.2.1
  · rw [List.mem_singleton.mp hk]; exact h.2.2
theorem CB.put {f : Int → Int} {i : Nat} {k v : Int} (h : CB f i) (hv : 0 ≤ v ∧ v ≤ 4 + i) : CB (upd f k v) (i + 1) := by
  have h' := h.up
  unfold CB at h'
  push_cast at h'
  have := upd_at (f := f) (k := k) (P := fun z => 0 ≤ z ∧ z ≤ 3 + ((i : Int) + 1)) (v := v) (by omega) h'.1 h'.2.1 h'.2.2
  unfold CB
  push_cast
  exact this
theorem mul_ok {a b : Int} (h : b.natAbs < 2 ^ 64) : IntMulOk a b := IntMulOk.of_right (intBits_le h)
end Mine
namespace Mine
noncomputable def Wn (a b c : Nat) : Nat := 2 ^ a * 3 ^ b * 5 ^ c
theorem Wn_a (a b c : Nat) : Wn (a + 1) b c = Wn a b c * 2 := by unfold Wn; rw [Nat.pow_succ]; simp only [Nat.mul_assoc, Nat.mul_comm, Nat.mul_left_comm]
theorem Wn_b (a b c : Nat) : Wn a (b + 1) c = Wn a b c * 3 := by unfold Wn; rw [Nat.pow_succ]; simp only [Nat.mul_assoc, Nat.mul_comm, Nat.mul_left_comm]
theorem Wn_c (a b c : Nat) : Wn a b (c + 1) = Wn a b c * 5 := by unfold Wn; rw [Nat.pow_succ]; simp only [Nat.mul_assoc]
theorem Wn_p (p : Nat) (hp : p = 7 ∨ p = 11 ∨ p = 13) : ∀ a b c, Wn a b c % p ≠ 0 := by
  intro a b c
  induction c with
  | succ c ih => rw [Wn_c]; rcases hp with rfl | rfl | rfl <;> omega
  | zero =>
    induction b with
    | succ b ih => rw [Wn_b]; rcases hp with rfl | rfl | rfl <;> omega
    | zero =>
      induction a with
      | succ a ih => rw [Wn_a]; rcases hp with rfl | rfl | rfl <;> omega
      | zero => rcases hp with rfl | rfl | rfl <;> decide
theorem Wn_2 : ∀ b c, Wn 0 b c % 2 ≠ 0 := by
  intro b c
  induction c with
  | succ c ih => rw [Wn_c]; omega
  | zero =>
    induction b with
    | succ b ih => rw [Wn_b]; omega
    | zero => decide
theorem Wn_3 : ∀ a c, Wn a 0 c % 3 ≠ 0 := by
  intro a c
  induction c with
  | succ c ih => rw [Wn_c]; omega
  | zero =>
    induction a with
    | succ a ih => rw [Wn_a]; omega
    | zero => decide
theorem Wn_5 : ∀ a b, Wn a b 0 % 5 ≠ 0 := by
  intro a b
  induction b with
  | succ b ih => rw [Wn_b]; omega
  | zero =>
    induction a with
    | succ a ih => rw [Wn_a]; omega
    | zero => decide
noncomputable def Wq (f : Int → Int) : Nat := Wn (f 2).toNat (f 3).toNat (f 5).toNat
noncomputable def numN (f : Int → Int) (now : Int) : Nat := Wq f * now.toNat
theorem numI_cast {f : Int → Int} {now : Int} (h : 0 ≤ now) : numI f now = (numN f now : Int) := by
  unfold numI numN Wq Wn
  have e : (now.toNat : Int) = now := by omega
  simp only [Int.natCast_mul, Int.natCast_pow, e]
  rfl
noncomputable def F0 (f : Int → Int) : Prop := 0 ≤ f 2 ∧ 0 ≤ f 3 ∧ 0 ≤ f 5
theorem F0.at {f : Int → Int} (h : F0 f) {k : Int} (hk : k ∈ [(2 : Int), 3, 5]) : 0 ≤ f k := by
  rcases List.mem_cons.mp hk with rfl | hk
  · exact h.1
  rcases List.mem_cons.mp hk with rfl | hk
  · exact h.2.1
  · rw [List.mem_singleton.mp hk]; exact h.2.2
theorem F0.put {f : Int → Int} (h : F0 f) {k v : Int} (hv : 0 ≤ v) : F0 (upd f k v) := upd_at (P := fun z => 0 ≤ z) hv h.1 h.2.1 h.2.2
theorem Wq_up {f : Int → Int} (h : F0 f) {k : Int} (hk : k ∈ [(2 : Int), 3, 5]) : Wq (upd f k (f k + 1)) = Wq f * k.toNat := by
  have := h.at hk
  rcases List.mem_cons.mp hk with rfl | hk
  · show Wn (f 2 + 1).toNat (f 3).toNat (f 5).toNat = _
    rw [show (f 2 + 1).toNat = (f 2).toNat + 1 from by omega, Wn_a]; rfl
  rcases List.mem_cons.mp hk with rfl | hk
  · show Wn (f 2).toNat (f 3 + 1).toNat (f 5).toNat = _
    rw [show (f 3 + 1).toNat = (f 3).toNat + 1 from by omega, Wn_b]; rfl
  · rw [List.mem_singleton.mp hk] at this ⊢
    show Wn (f 2).toNat (f 3).toNat (f 5 + 1).toNat = _
    rw [show (f 5 + 1).toNat = (f 5).toNat + 1 from by omega, Wn_c]; rfl
theorem Wq_down {f : Int → Int} {k : Int} (hk : k ∈ [(2 : Int), 3, 5]) (hp : 0 < f k) : Wq f = Wq (upd f k (f k - 1)) * k.toNat := by
  rcases List.mem_cons.mp hk with rfl | hk
  · show Wn (f 2).toNat (f 3).toNat (f 5).toNat = Wn (f 2 - 1).toNat (f 3).toNat (f 5).toNat * 2
    rw [← Wn_a, show (f 2 - 1).toNat + 1 = (f 2).toNat from by omega]
  rcases List.mem_cons.mp hk with rfl | hk
  · show Wn (f 2).toNat (f 3).toNat (f 5).toNat = Wn (f 2).toNat (f 3 - 1).toNat (f 5).toNat * 3
    rw [← Wn_b, show (f 3 - 1).toNat + 1 = (f 3).toNat from by omega]
  · rw [List.mem_singleton.mp hk] at hp ⊢
    show Wn (f 2).toNat (f 3).toNat (f 5).toNat = Wn (f 2).toNat (f 3).toNat (f 5 - 1).toNat * 5
    rw [← Wn_c, show (f 5 - 1).toNat + 1 = (f 5).toNat from by omega]
theorem Wq_none {f : Int → Int} {k : Int} (hk : k ∈ [(2 : Int), 3, 5]) (hp : ¬ 0 < f k) : Wq f % k.toNat ≠ 0 := by
  have hz : (f k).toNat = 0 := by omega
  rcases List.mem_cons.mp hk with rfl | hk
  · show Wn (f 2).toNat _ _ % 2 ≠ 0
    rw [hz]; exact Wn_2 _ _
  rcases List.mem_cons.mp hk with rfl | hk
  · show Wn _ (f 3).toNat _ % 3 ≠ 0
    rw [hz]; exact Wn_3 _ _
  · rw [List.mem_singleton.mp hk] at hz ⊢
    show Wn _ _ (f 5).toNat % 5 ≠ 0
    rw [hz]; exact Wn_5 _ _
theorem Wq_pos (f : Int → Int) : 0 < Wq f := by
  have := Wn_p 7 (.inl rfl) (f 2).toNat (f 3).toNat (f 5).toNat
  unfold Wq
  omega
/-- a state divides the number where it is the one -/
theorem now_nat {now : Int} (hn : now ∈ [(7 : Int), 11, 13, 17]) : now.toNat = 7 ∨ now.toNat = 11 ∨ now.toNat = 13 ∨ now.toNat = 17 := by
  simp only [List.mem_cons, List.not_mem_nil, or_false] at hn
  omega
theorem now_r {now : Int} (hn : now ∈ [(7 : Int), 11, 13, 17]) : 0 < now ∧ now ≤ 17 := by
  simp only [List.mem_cons, List.not_mem_nil, or_false] at hn
  omega
theorem div_st {f : Int → Int} {now x : Int} (hn : now ∈ [(7 : Int), 11, 13, 17]) : numN f now % (stF x).toNat = 0 ↔ stF x = now := by
  have hs := st_nat x
  have hs' := st_r x
  have h7 := Wn_p 7 (by decide) (f 2).toNat (f 3).toNat (f 5).toNat
  have h11 := Wn_p 11 (by decide) (f 2).toNat (f 3).toNat (f 5).toNat
  have h13 := Wn_p 13 (by decide) (f 2).toNat (f 3).toNat (f 5).toNat
  have e : stF x = now ↔ (stF x).toNat = now.toNat := by have := now_r hn; omega
  have hq := now_nat hn
  rw [e]
  unfold numN Wq
  generalize Wn (f 2).toNat (f 3).toNat (f 5).toNat = W at *
  generalize (stF x).toNat = p at *
  generalize now.toNat = q at *
  rcases hq with rfl | rfl | rfl | rfl <;> rcases hs with rfl | rfl | rfl <;> omega
theorem find_none {f : Int → Int} {now x : Int} {low : Bool} (hn : now ∈ [(7 : Int), 11, 13, 17]) (h : stF x ≠ now) : (blk x low).find? (fun r => decide (numN f now % r.1.1 = 0)) = none := by
  have h1 : ¬ numN f now % (stF x).toNat = 0 := fun q => h ((div_st hn).mp q)
  have h2 : ¬ numN f now % ((stF x).toNat * (cnF x).toNat) = 0 := fun q => h1 (Nat.mod_eq_zero_of_dvd (Nat.dvd_trans (Nat.dvd_mul_right _ _) (Nat.dvd_of_mod_eq_zero q)))
  unfold blk
  split
  · simp [h1]
  · simp [h1, h2]
/-- what a block of the state in hand does -/
theorem find_blk {f : Int → Int} {now x : Int} {low : Bool} (hf : F0 f) (hn : now ∈ [(7 : Int), 11, 13, 17]) (h : stF x = now) :
    ((blk x low).find? fun r => decide (numN f now % r.1.1 = 0)).map (fun r => numN f now / r.1.1 * r.2.1) = some (numN (stepM x f).1 (stepM x f).2) := by
  have hk := cn_mem x
  have hs := st_nat x
  have hkr := cn_r x
  have hst : numN f now % (stF x).toNat = 0 := (div_st hn).mpr h
  have hp : 0 < (stF x).toNat := by omega
  have e0 : numN f now = Wq f * (stF x).toNat := by unfold numN; rw [h]
  have d0 : numN f now / (stF x).toNat = Wq f := by rw [e0]; exact Nat.mul_div_cancel _ hp
  unfold blk stepM
  cases hm : moF x with
  | true =>
    simp only [if_true, List.find?_cons, hst, decide_true, Option.map_some, d0]
    unfold numN
    rw [Wq_up hf hk]
    congr 1
    simp only [Nat.mul_assoc, Nat.mul_comm, Nat.mul_left_comm]
  | false =>
    simp only [Bool.false_eq_true, if_false]
    by_cases hpos : 0 < f (cnF x)
    · have e1 := Wq_down hk hpos
      have hck : 0 < (cnF x).toNat := by omega
      have e2 : numN f now = Wq (upd f (cnF x) (f (cnF x) - 1)) * ((stF x).toNat * (cnF x).toNat) := by
        rw [e0, e1]
        simp only [Nat.mul_assoc, Nat.mul_comm, Nat.mul_left_comm]
      have d1 : numN f now % ((stF x).toNat * (cnF x).toNat) = 0 := by rw [e2]; exact Nat.mul_mod_left _ _
      have d2 : numN f now / ((stF x).toNat * (cnF x).toNat) = Wq (upd f (cnF x) (f (cnF x) - 1)) := by rw [e2]; exact Nat.mul_div_cancel _ (Nat.mul_pos hp hck)
      simp only [List.find?_cons, d1, decide_true, Option.map_some, d2, if_pos hpos]
      rfl
    · have e1 := Wq_none hk hpos
      have d1 : ¬ numN f now % ((stF x).toNat * (cnF x).toNat) = 0 := by
        intro q
        rw [e0, Nat.mul_comm (Wq f), Nat.mul_mod_mul_left] at q
        rcases Nat.mul_eq_zero.mp q with q | q
        · omega
        · exact e1 q
      simp only [List.find?_cons, d1, decide_false, hst, decide_true, Option.map_some, d0, if_neg hpos]
      rfl
theorem kb_none {x : Int} {low : Bool} {l : List Int} {p : AR → Bool} (h : (blk x low).find? p = none) : (kb x low l).find? p = none := by
  unfold kb
  split
  · exact h
  · rfl
theorem kb_dead {x y : Int} {low : Bool} {l : List Int} (hy : y ∈ l) (h : stF y = stF x) : kb x low l = [] := by
  unfold kb keptQ
  rw [if_neg]
  intro q
  exact of_decide_eq_true (List.all_eq_true.mp q y hy) h
theorem kb_live {x : Int} {low : Bool} {l : List Int} (h : ∀ y ∈ l, stF y ≠ stF x) : kb x low l = blk x low := by
  unfold kb keptQ
  rw [if_pos (List.all_eq_true.mpr fun y hy => decide_eq_true (h y hy))]
theorem find_all {x0 x1 x2 x3 x4 now : Int} {p : AR → Bool} (hnone : ∀ x low, stF x ≠ now → (blk x low).find? p = none) :
    (lineOf [x0, x1, x2, x3, x4] now = none ∧ (compN [x0, x1, x2, x3] 4).find? p = none) ∨ ∃ x low, lineOf [x0, x1, x2, x3, x4] now = some x ∧ stF x = now ∧ (compN [x0, x1, x2, x3] 4).find? p = (blk x low).find? p := by
  have hl : lineOf [x0, x1, x2, x3, x4] now = ([x0, x1, x2, x3].filter fun x => decide (stF x = now)).getLast? := rfl
  rw [hl, compN4, List.find?_append, List.find?_append, List.find?_append]
  by_cases h3 : stF x3 = now
  · refine .inr ⟨x3, true, by simp [List.filter_cons, h3]; (repeat' split); all_goals rfl, h3, ?_⟩
    have a0 : (kb x0 false [x1, x2, x3]).find? p = none := by
      by_cases h : stF x0 = now
      · rw [kb_dead (y := x3) (by simp) (by rw [h3, h])]; rfl
      · exact kb_none (hnone _ _ h)
    have a1 : (kb x1 true [x2, x3]).find? p = none := by
      by_cases h : stF x1 = now
      · rw [kb_dead (y := x3) (by simp) (by rw [h3, h])]; rfl
      · exact kb_none (hnone _ _ h)
    have a2 : (kb x2 false [x3]).find? p = none := by
      by_cases h : stF x2 = now
      · rw [kb_dead (y := x3) (by simp) (by rw [h3, h])]; rfl
      · exact kb_none (hnone _ _ h)
    rw [a0, a1, a2, kb_live (x := x3) (l := []) (by simp)]
    rfl
  have a3 : (kb x3 true []).find? p = none := kb_none (hnone _ _ h3)
  by_cases h2 : stF x2 = now
  · refine .inr ⟨x2, false, by simp [List.filter_cons, h3, h2]; (repeat' split); all_goals rfl, h2, ?_⟩
    have a0 : (kb x0 false [x1, x2, x3]).find? p = none := by
      by_cases h : stF x0 = now
      · rw [kb_dead (y := x2) (by simp) (by rw [h2, h])]; rfl
      · exact kb_none (hnone _ _ h)
    have a1 : (kb x1 true [x2, x3]).find? p = none := by
      by_cases h : stF x1 = now
      · rw [kb_dead (y := x2) (by simp) (by rw [h2, h])]; rfl
      · exact kb_none (hnone _ _ h)
    rw [a0, a1, a3, kb_live (x := x2) (by simp [h2, h3])]
    simp
  have a2 : (kb x2 false [x3]).find? p = none := kb_none (hnone _ _ h2)
  by_cases h1 : stF x1 = now
  · refine .inr ⟨x1, true, by simp [List.filter_cons, h3, h2, h1]; (repeat' split); all_goals rfl, h1, ?_⟩
    have a0 : (kb x0 false [x1, x2, x3]).find? p = none := by
      by_cases h : stF x0 = now
      · rw [kb_dead (y := x1) (by simp) (by rw [h1, h])]; rfl
      · exact kb_none (hnone _ _ h)
    rw [a0, a2, a3, kb_live (x := x1) (by simp [h1, h2, h3])]
    simp
  have a1 : (kb x1 true [x2, x3]).find? p = none := kb_none (hnone _ _ h1)
  by_cases h0 : stF x0 = now
  · refine .inr ⟨x0, false, by simp [List.filter_cons, h3, h2, h1, h0], h0, ?_⟩
    rw [a1, a2, a3, kb_live (x := x0) (by simp [h0, h1, h2, h3])]
    simp
  · refine .inl ⟨by simp [List.filter_cons, h3, h2, h1, h0], ?_⟩
    rw [kb_none (hnone _ _ h0), a1, a2, a3]
    rfl
theorem step_all {x0 x1 x2 x3 x4 now : Int} {f : Int → Int} (hf : F0 f) (hn : now ∈ [(7 : Int), 11, 13, 17]) :
    stepA (compN [x0, x1, x2, x3] 4) (numN f now) = (lineOf [x0, x1, x2, x3, x4] now).map fun x => numN (stepM x f).1 (stepM x f).2 := by
  unfold stepA
  rcases find_all (x4 := x4) (fun x low h => find_none (f := f) (low := low) hn h) with ⟨h1, h2⟩ | ⟨x, low, h1, h2, h3⟩
  · rw [h1, h2]; rfl
  · rw [h1, h3, find_blk hf hn h2]; rfl
theorem stepM_ok {x : Int} {f : Int → Int} (hf : F0 f) : F0 (stepM x f).1 ∧ (stepM x f).2 ∈ [(7 : Int), 11, 13, 17] ∧ Wq (stepM x f).1 ≤ 5 * Wq f := by
  have hk := cn_mem x
  have h0 := hf.at hk
  have hc := cn_r x
  have hc5 : (cnF x).toNat ≤ 5 := by rcases cn_nat x with h | h | h <;> omega
  unfold stepM
  split
  · refine ⟨hf.put (by omega), af_mem x, ?_⟩
    show Wq (upd f (cnF x) (f (cnF x) + 1)) ≤ _
    rw [Wq_up hf hk, Nat.mul_comm]
    exact Nat.mul_le_mul_right _ hc5
  · split
    · rename_i hp
      refine ⟨hf.put (by omega), af_mem x, ?_⟩
      have := Wq_down hk hp
      show Wq (upd f (cnF x) (f (cnF x) - 1)) ≤ _
      rw [this]
      have h1 : 0 < (cnF x).toNat := by omega
      have h2 : Wq (upd f (cnF x) (f (cnF x) - 1)) ≤ Wq (upd f (cnF x) (f (cnF x) - 1)) * (cnF x).toNat := Nat.le_mul_of_pos_right _ h1
      omega
    · exact ⟨hf, ot_mem x, by show Wq f ≤ 5 * Wq f; omega⟩
/-- the fractions run as the machine does -/
theorem run_all {x0 x1 x2 x3 x4 : Int} : ∀ (k : Nat) (f : Int → Int) (now : Int), F0 f → now ∈ [(7 : Int), 11, 13, 17] → ((runF (compN [x0, x1, x2, x3] 4) k (numN f now)).map fun n : Nat => (n : Int)) = runM [x0, x1, x2, x3, x4] k f now
  | 0, f, now, hf, hn => by
    show [((numN f now : Nat) : Int)] = [numI f now]
    rw [numI_cast (Int.le_of_lt (now_r hn).1)]
  | k + 1, f, now, hf, hn => by
    have hs := step_all (x0 := x0) (x1 := x1) (x2 := x2) (x3 := x3) (x4 := x4) hf hn
    cases hl : lineOf [x0, x1, x2, x3, x4] now with
    | none =>
      rw [hl] at hs
      rw [runF_stop hs, runM_stop hl, numI_cast (Int.le_of_lt (now_r hn).1)]
      rfl
    | some x =>
      rw [hl] at hs
      have ok := stepM_ok (x := x) hf
      rw [runF_go hs, runM_go hl, numI_cast (Int.le_of_lt (now_r hn).1), List.map_cons, run_all k _ _ ok.1 ok.2.1]
theorem run_bound {x0 x1 x2 x3 : Int} : ∀ (k : Nat) (f : Int → Int) (now : Int) (M : Nat), F0 f → now ∈ [(7 : Int), 11, 13, 17] → Wq f ≤ M → ∀ y ∈ runF (compN [x0, x1, x2, x3] 4) k (numN f now), 0 < y ∧ y ≤ M * 5 ^ k * 17 := by
  have one : ∀ (f : Int → Int) (now : Int) (M k : Nat), now ∈ [(7 : Int), 11, 13, 17] → Wq f ≤ M → 0 < numN f now ∧ numN f now ≤ M * 5 ^ k * 17 := by
    intro f now M k hn hM
    have hp := Wq_pos f
    have hq := now_nat hn
    unfold numN
    refine ⟨Nat.mul_pos hp (by omega), Nat.mul_le_mul (Nat.le_trans hM (Nat.le_mul_of_pos_right _ (Nat.pow_pos (by decide)))) (by omega)⟩
  intro k
  induction k with
  | zero =>
    intro f now M hf hn hM y hy
    rw [List.mem_singleton.mp hy]
    exact one f now M 0 hn hM
  | succ k ih =>
    intro f now M hf hn hM y hy
    have hs := step_all (x0 := x0) (x1 := x1) (x2 := x2) (x3 := x3) (x4 := 0) hf hn
    cases hl : lineOf [x0, x1, x2, x3, 0] now with
    | none =>
      rw [hl] at hs
      rw [runF_stop hs] at hy
      rw [List.mem_singleton.mp hy]
      exact one f now M (k + 1) hn hM
    | some x =>
      rw [hl] at hs
      have ok := stepM_ok (x := x) hf
      rw [runF_go hs] at hy
      rcases List.mem_cons.mp hy with rfl | hy
      · exact one f now M (k + 1) hn hM
      · have := ih _ _ (5 * M) ok.1 ok.2.1 (Nat.le_trans ok.2.2 (Nat.mul_le_mul_left _ hM)) y hy
        refine ⟨this.1, Nat.le_trans this.2 (Nat.le_of_eq ?_)⟩
        rw [Nat.pow_succ]
        simp only [Nat.mul_assoc, Nat.mul_comm, Nat.mul_left_comm]
theorem run_ok {x0 x1 x2 x3 x4 : Int} : ∀ y ∈ runF (compN [x0, x1, x2, x3] 4) 10 (numN (cnt0 [x0, x1, x2, x3, x4]) 7), 0 < y ∧ y < 16 ^ 16 := by
  intro y hy
  have h := cnt0_r [x0, x1, x2, x3, x4]
  have hf : F0 (cnt0 [x0, x1, x2, x3, x4]) := ⟨h.1.1, h.2.1.1, h.2.2.1⟩
  have hW : Wq (cnt0 [x0, x1, x2, x3, x4]) ≤ 27000 := by
    have a1 : 2 ^ (cnt0 [x0, x1, x2, x3, x4] 2).toNat ≤ 2 ^ 3 := Nat.pow_le_pow_right (by decide) (by omega)
    have a2 : 3 ^ (cnt0 [x0, x1, x2, x3, x4] 3).toNat ≤ 3 ^ 3 := Nat.pow_le_pow_right (by decide) (by omega)
    have a3 : 5 ^ (cnt0 [x0, x1, x2, x3, x4] 5).toNat ≤ 5 ^ 3 := Nat.pow_le_pow_right (by decide) (by omega)
    exact Nat.mul_le_mul (Nat.mul_le_mul a1 a2) a3
  have := run_bound 10 (cnt0 [x0, x1, x2, x3, x4]) 7 27000 hf (by decide) hW y hy
  exact ⟨this.1, Nat.lt_of_le_of_lt this.2 (by decide)⟩
end Mine
namespace Mine
noncomputable abbrev Tk := List Nat × Int
noncomputable def tkW (z : Int) (b : Bool) : Tk := (wL z.toNat b, 254 + z)
noncomputable def semi : Tk := ([59], 13)
/-- a line's tokens -/
noncomputable def toksX (x : Int) : List Tk :=
  let b := odd (x.fdiv 288)
  if moF x then [tkW (stF x) b, ([58], 11), tkW (cnF x) b, ([43, 61], 36), tkW (afF x) b]
  else [tkW (stF x) b, ([58], 11), tkW (cnF x) b, ([45, 61], 37), tkW (afF x) b, ([33, 61], 28), tkW (otF x) b]
noncomputable def toksAll (x0 x1 x2 x3 : Int) : List Tk := toksX x0 ++ (semi :: (toksX x1 ++ (semi :: (toksX x2 ++ (semi :: toksX x3)))))
theorem flat_append {a b : List Tk} : flat (a ++ b) = flat a ++ flat b := by unfold flat; rw [List.map_append, List.flatten_append]
theorem flat_cons {a : Tk} {b : List Tk} : flat (a :: b) = a.1 ++ flat b := rfl
theorem str_app (a b : Str) : (a ++ b).cps.toList = a.cps.toList ++ b.cps.toList := by
  show (a.cps ++ b.cps).toList = _
  rw [Array.toList_append]
theorem lineS_flat (x : Int) : (lineS x).cps.toList = flat (toksX x) := by
  have h1 : (Str.ofString ":").cps.toList = [58] := by decide
  have h2 : (Str.ofString "+=").cps.toList = [43, 61] := by decide
  have h3 : (Str.ofString "-=").cps.toList = [45, 61] := by decide
  have h4 : (Str.ofString "!=").cps.toList = [33, 61] := by decide
  unfold lineS toksX
  dsimp only
  split
  · simp only [str_app, h1, h2, tkW, wS, flat, List.map_cons, List.map_nil, List.flatten_cons, List.flatten_nil, List.append_nil, List.append_assoc]
  · simp only [str_app, h1, h3, h4, tkW, wS, flat, List.map_cons, List.map_nil, List.flatten_cons, List.flatten_nil, List.append_nil, List.append_assoc]
noncomputable def Ends (r : List Nat) : Prop := r = [] ∨ ∃ c t, r = c :: t ∧ (exF [c]).isSome = true
theorem wf_word {z : Int} {b : Bool} {r : List Tk} (hz : 0 < z ∧ z < 100) (h : Wf r) (e : Ends (flat r)) : Wf (tkW z b :: r) :=
  ⟨h, .inr (.inr ⟨z.toNat, b, rfl, by omega, by omega, by omega, e⟩)⟩
theorem wf_two {a c : Nat} {v : Int} {u : Nat} {r : List Tk} (hv : exF [a, c] = some (v, u)) (h : Wf r) : Wf (([a, c], v) :: r) := ⟨h, .inl ⟨a, c, u, rfl, hv⟩⟩
theorem wf_one {a : Nat} {v : Int} {u : Nat} {z : Int} {b : Bool} {r : List Tk} (hv : exF [a] = some (v, u)) (hn : ∀ c, letter c → exF [a, c] = none) (hz : 0 < z ∧ z < 100) (h : Wf (tkW z b :: r)) : Wf (([a], v) :: tkW z b :: r) := by
  refine ⟨h, .inr (.inl ?_)⟩
  have hp := wL_pos (a := b) (n := z.toNat) (by omega)
  cases hw : wL z.toNat b with
  | nil => rw [hw] at hp; cases hp
  | cons c t => exact ⟨a, u, c, t ++ flat r, rfl, hv, by rw [flat_cons]; show wL z.toNat b ++ _ = _; rw [hw]; rfl, hn c (wL_letter c (by rw [hw]; exact .head _))⟩
theorem ex58 : exF [58] = some (11, 576) := by decide +kernel
theorem ex59 : exF [59] = some (13, 580) := by decide +kernel
theorem ex36 : exF [43, 61] = some (36, 626) := by decide +kernel
theorem ex37 : exF [45, 61] = some (37, 628) := by decide +kernel
theorem ex28 : exF [33, 61] = some (28, 610) := by decide +kernel
theorem ex43 : (exF [43]).isSome = true := by decide +kernel
theorem ex45 : (exF [45]).isSome = true := by decide +kernel
theorem ex33 : (exF [33]).isSome = true := by decide +kernel
theorem no58 (c : Nat) (h : letter c) : exF [58, c] = none := (exF_pair c (by unfold letter at h; omega) h).1
theorem no59 (c : Nat) (h : letter c) : exF [59, c] = none := (exF_pair c (by unfold letter at h; omega) h).2
theorem wf_line {x : Int} {r : List Tk} (h : Wf r) (e : Ends (flat r)) : Wf (toksX x ++ r) := by
  unfold toksX
  dsimp only
  split
  · exact wf_word (st_r x) (wf_one ex58 no58 (cn_r x) (wf_word (cn_r x) (wf_two ex36 (wf_word (af_r x) h e)) (.inr ⟨43, _, rfl, ex43⟩))) (.inr ⟨58, _, rfl, by rw [ex58]; rfl⟩)
  · exact wf_word (st_r x) (wf_one ex58 no58 (cn_r x) (wf_word (cn_r x) (wf_two ex37 (wf_word (af_r x) (wf_two ex28 (wf_word (ot_r x) h e)) (.inr ⟨33, _, rfl, ex33⟩))) (.inr ⟨45, _, rfl, ex45⟩))) (.inr ⟨58, _, rfl, by rw [ex58]; rfl⟩)
theorem wf_semi {x : Int} {r : List Tk} (h : Wf (toksX x ++ r)) : Wf (semi :: (toksX x ++ r)) := by
  revert h
  unfold toksX
  dsimp only
  split
  · exact fun h => wf_one ex59 no59 (st_r x) h
  · exact fun h => wf_one ex59 no59 (st_r x) h
theorem ends_semi {r : List Tk} : Ends (flat (semi :: r)) := .inr ⟨59, flat r, rfl, by rw [ex59]; rfl⟩
theorem wf_all (x0 x1 x2 x3 : Int) : Wf (toksAll x0 x1 x2 x3) := by
  unfold toksAll
  have h3 : Wf (toksX x3) := by have := wf_line (x := x3) (r := []) trivial (.inl rfl); rwa [List.append_nil] at this
  have h3' : Wf (semi :: toksX x3) := by have := wf_semi (x := x3) (r := []) (by rwa [List.append_nil]); rwa [List.append_nil] at this
  exact wf_line (wf_semi (wf_line (wf_semi (wf_line h3' ends_semi)) ends_semi)) ends_semi
theorem ln_word {a : List (List Int)} {l : List Int} {z : Int} (h : 2 ≤ z) : lnStep (a, l) (254 + z) = (a, l ++ [z]) := by
  unfold lnStep
  rw [if_neg (by omega), if_neg (by omega), show 254 + z - 254 = z from by omega]
theorem ln_op {a : List (List Int)} {l : List Int} {z : Int} (h0 : z ≠ 0) (h1 : z ≠ 13) (h2 : z < 256) : lnStep (a, l) z = (a, l ++ [z]) := by
  unfold lnStep
  rw [if_neg (by omega), if_pos h2]
theorem ln_cut {a : List (List Int)} {l : List Int} {z : Int} (h : z = 0 ∨ z = 13) : lnStep (a, l) z = (a ++ [l], []) := by
  unfold lnStep
  rw [if_pos h]
theorem st_2 (x : Int) : 2 ≤ stF x := by have := st_nat x; omega
theorem cn_2 (x : Int) : 2 ≤ cnF x := by have := cn_nat x; omega
theorem four_2 {z : Int} (h : z ∈ [(7 : Int), 11, 13, 17]) : 2 ≤ z := by simp only [List.mem_cons, List.not_mem_nil, or_false] at h; omega
theorem ln_line {a : List (List Int)} {x : Int} : (((toksX x).map (·.2)).foldl lnStep (a, [])) = (a, lineN x) := by
  unfold toksX lineN
  dsimp only
  split
  · simp only [List.map_cons, List.map_nil, List.foldl_cons, List.foldl_nil, tkW]
    rw [ln_word (st_2 x), ln_op (z := 11) (by decide) (by decide) (by decide), ln_word (cn_2 x), ln_op (z := 36) (by decide) (by decide) (by decide), ln_word (four_2 (af_mem x))]
    rfl
  · simp only [List.map_cons, List.map_nil, List.foldl_cons, List.foldl_nil, tkW]
    rw [ln_word (st_2 x), ln_op (z := 11) (by decide) (by decide) (by decide), ln_word (cn_2 x), ln_op (z := 37) (by decide) (by decide) (by decide), ln_word (four_2 (af_mem x)), ln_op (z := 28) (by decide) (by decide) (by decide), ln_word (four_2 (ot_mem x))]
    rfl
theorem ln_all (x0 x1 x2 x3 : Int) : lnF ((toksAll x0 x1 x2 x3).map (·.2) ++ [0]) = [x0, x1, x2, x3].map lineN := by
  unfold lnF toksAll semi
  simp only [List.map_append, List.map_cons, List.foldl_append, List.foldl_cons, List.foldl_nil, ln_line, ln_cut (.inr rfl), ln_cut (.inl rfl)]
  rfl
theorem toks_len (x : Int) : (toksX x).length ≤ 7 := by
  unfold toksX
  dsimp only
  split <;> simp
theorem flat_len (x : Int) : (flat (toksX x)).length ≤ 100 := by
  rw [← lineS_flat]
  have h (z : Int) (b : Bool) (hz : 0 < z ∧ z < 100) : (wL z.toNat b).length ≤ 16 := wL_len (by omega)
  have h1 := fun b => h (stF x) b (st_r x)
  have h2 := fun b => h (cnF x) b (cn_r x)
  have h3 := fun b => h (afF x) b (af_r x)
  have h4 := fun b => h (otF x) b (ot_r x)
  rw [lineS_flat]
  unfold toksX
  dsimp only
  have := h1 (odd (x.fdiv 288))
  have := h2 (odd (x.fdiv 288))
  have := h3 (odd (x.fdiv 288))
  have := h4 (odd (x.fdiv 288))
  split
  · simp only [flat, tkW, List.map_cons, List.map_nil, List.flatten_cons, List.flatten_nil, List.length_append, List.length_cons, List.length_nil]; omega
  · simp only [flat, tkW, List.map_cons, List.map_nil, List.flatten_cons, List.flatten_nil, List.length_append, List.length_cons, List.length_nil]; omega
theorem all_len (x0 x1 x2 x3 : Int) : (flat (toksAll x0 x1 x2 x3)).length ≤ 10000 ∧ (toksAll x0 x1 x2 x3).length ≤ 10000 := by
  have a0 := flat_len x0
  have a1 := flat_len x1
  have a2 := flat_len x2
  have a3 := flat_len x3
  have b0 := toks_len x0
  have b1 := toks_len x1
  have b2 := toks_len x2
  have b3 := toks_len x3
  unfold toksAll semi
  simp only [flat_append, flat_cons, List.length_append, List.length_cons, List.length_nil]
  omega
theorem join_flat (x0 x1 x2 x3 : Int) : (Txt.join (Str.ofString ";") ([x0, x1, x2, x3].map lineS)).cps.toList = flat (toksAll x0 x1 x2 x3) := by
  have e : Txt.join (Str.ofString ";") ([x0, x1, x2, x3].map lineS) = lineS x0 ++ Str.ofString ";" ++ lineS x1 ++ Str.ofString ";" ++ lineS x2 ++ Str.ofString ";" ++ lineS x3 := rfl
  have h : (Str.ofString ";").cps.toList = [59] := by decide
  rw [e]
  unfold toksAll semi
  simp only [str_app, lineS_flat, h, flat_append, flat_cons, List.append_assoc]
theorem lineS_len (x : Int) : (lineS x).length ≤ 100 := by
  have := flat_len x
  rw [← lineS_flat] at this
  exact this
theorem join_ok4 (x0 x1 x2 x3 : Int) : JoinOk (Str.ofString ";") ([x0, x1, x2, x3].map lineS) = true := by
  have a0 := lineS_len x0
  have a1 := lineS_len x1
  have a2 := lineS_len x2
  have a3 := lineS_len x3
  refine joinOk_of_weight ?_ (by decide)
  simp only [List.map_cons, List.map_nil, List.sum_cons, List.sum_nil, List.length_cons, List.length_nil]
  omega
end Mine
namespace Mine
local macro_rules | `(tactic| walk_at "storeName") => `(tactic| (k_dflt (refine' stM ?F ?N ?_ ?a ?b; (case F => first | with_reducible assumption | assumption); (case N => first | with_reducible assumption | assumption); (case a => rfl); (case b => rfl); k_whole); intro h' F' N'; (try k_sweep); (try dsimp only)))
local macro_rules | `(tactic| walk_at "subscriptTail") => `(tactic| ((with_reducible show wpAny _ _ (subscriptTail _ _ (Value.ref _) (Value.int _ _)) _ _ _); k_dflt (refine' pickT ?t ?i ?a ?b ?z ?_ ?s; (case t => exact News.isTup (by k_asm) (by k_mem)); (case i => l_ints); (case a => l_idx); (case b => l_idx); (case z => decide); (case s => with_unfolding_all rfl); k_whole); intro t'))
local macro_rules | `(tactic| walk_at "assign Tuple") => `(tactic| ((with_reducible show wpAny _ _ (assign (Expr.Tuple _ _ _) _ (Value.ref _)) _ _ _); k_dflt (refine' unpackN_ ?F ?N ?T ?hh ?k2 ?k3 ?_; (case F => k_asm); (case N => k_asm); (case T => exact News.isTup (by k_asm) (by k_mem)); (case hh => exact Gd.han (by assumption)); (case k2 => exact rfl); (case k3 => exact rfl)); intro h' F' N'; (try k_sweep); (try dsimp only)))
local macro_rules | `(tactic| walk_at "lk") => `(tactic| first | with_reducible exact am_hit | with_reducible exact am_skip (by kernel_rfl) am_hit | with_reducible exact am_skip (by kernel_rfl) (am_skip (by kernel_rfl) am_hit) | (with_reducible refine' am_skip (by kernel_rfl) ?_; walk_at "lk") | assumption)
local macro_rules | `(tactic| walk_at "eval Name") => `(tactic| (k_dflt (first | (refine' nmL ?F ?vv ?_ ?a ?b ?c; (case F => assumption); (case a => rfl); (case b => rfl); (case c => decide); (case vv => walk_at "lk")) | (refine' nmC ?F ?o ?d ?l ?_ ?a ?b ?c; (case F => assumption); (case a => rfl); (case b => rfl); (case c => decide); (case l => rfl); (case o => assumption); (case d => assumption)) | (refine' nmG ?F ?X ?T ?e ?_ ?g ?a ?b ?c; (case F => assumption); (case X => assumption); (case T => assumption); (case g => rfl); (case a => rfl); (case b => rfl); (case c => decide); (case e => k_is)) | (refine' nmB ?F ?X ?T ?e ?vv ?n ?_ ?g ?h ?a ?b ?c; (case F => assumption); (case X => assumption); (case T => assumption); (case g => rfl); (case h => rfl); (case a => rfl); (case b => rfl); (case c => decide); (case e => k_is); (case vv => boot_fast); (case n => decide))); k_whole))
theorem fill_T13 : PySem.Challenge.rw_wf0080_01 = PySem.Challenge.rw_wf0080_01 ∧ KM = KM := by
  w_on
  k_fill
  exact ⟨rfl, rfl⟩

local macro_rules | `(tactic| walk_at "storeName") => `(tactic| ((refine' stG ?F ?N ?_ ?a ?b; (case F => assumption); (case N => assumption); (case a => rfl); (case b => rfl)); intro h' tk' F' N'; (try k_sweep); (try dsimp only)))
local macro_rules | `(tactic| walk_at "mine") => `(tactic| ((with_reducible show wpAny _ _ (assign (Expr.Tuple _ _ _) _ (Value.ref _)) _ _ _); (refine' unpk ?F ?N ?T ?hh ?k2 ?k3 ?_; (case F => assumption); (case N => assumption); (case T => exact News.get (by assumption) (.head _)); (case hh => exact Gd.han (by assumption)); (case k2 => exact rfl); (case k3 => exact rfl)); intro h' F' N'; (try k_sweep); (try dsimp only)))
local macro_rules | `(tactic| walk_at "mine") => `(tactic| ((with_reducible show wpAny _ _ (call (Value.ref 236) _ _) _ _ _); refine use_n (by assumption) (by assumption) (told_n (Gl.keeps (by assumption) (Fr.keep (by assumption))) (Gd.le (by assumption) (by decide))) ?_; rintro r' o' h' tk' F' N' e' n' ⟨t1, t2, t3, t4, hv'⟩; (try subst hv'); (try k_sweep); (try dsimp only)))
local macro_rules | `(tactic| walk_at "mine") => `(tactic| ((with_reducible show wpAny _ _ (subscriptTail _ _ (Value.ref _) (Value.int _ _)) _ _ _); (refine' pickL ?T ?I ?a ?b ?x ?_; (case T => exact Fr.keep (by assumption) _ _ (by assumption)); (case I => assumption); (case a => omega); (case b => omega); (case x => with_reducible assumption)); intro t'; (try dsimp only)))
local macro_rules | `(tactic| walk_at "mine") => `(tactic| ((with_reducible show Frag.In _ _ ∧ _); refine And.intro (Frag.In.keeps (Gl.X (by assumption)) (Fr.keep (by assumption))) ?_))
theorem frac_c {w : World} {mg mb : Str → Option Value} {A : Around} {h : Heap} {ax : Addr} {vs : List Value} {ds : List Int} {c : Nat} (G : Gl w mg mb h) (hax : h.get? ax = some (W.listOf vs.toArray c)) (hI : IntsAre vs ds) (gd : Gd 3 A) (hn : ds.length = 5) :
    Ok w A (call (.ref 279) [.ref ax]) (fun v h' => h.StaysIn h' ∧ ∃ own, Frsh h h' own ∧ ∃ (R : Addr) (fs : List FRow) (c : Nat), v = .ref R ∧ own = (R, W.listOf (fs.map frR).toArray c) :: fs.map frO ∧ fs.map abF = fracN ds 4) h := by
  have H : Hid h h [] := ⟨fun _ _ e => e, Nat.le_refl _, fun _ h => nomatch h⟩
  refine Cd.call ?_
  w_on
  have X := G.X
  have T := G.T
  refine' enterHC (n := 2) [("draws", .ref ax)] G H gd ?k6 ?k7 ?k9 ?kB ?kN ?_ ?c2 ?c3 ?c4
  case k6 => k_is
  case k7 => k_is
  case k9 => exact fun s _ => BindsTo.of_eq (by with_unfolding_all rfl)
  case kB => exact rfl
  case kN => decide
  case c2 => exact rfl
  case c3 => exact rfl
  case c4 => exact rfl
  intro L h₁ cells F N hd Y fr G gd g d tk os Q E q
  obtain ⟨o', hE', d1'⟩ := CellsAre.one Y
  subst hE'
  have F : Fr h L h₁ (fun y => if y = Str.ofString "draws" then some (.ref ax) else am [] y) := F
  rw [am_put] at F
  repeat' ((fail_if_success (with_reducible show wpAny _ _ (exec (Stmt.While _ _ _ _) _) _ _ _)); (fail_if_success (with_reducible show wpAny _ _ (exec (Stmt.For _ _ _ _ _) _) _ _ _)); (fail_if_success (with_reducible show wpAny _ _ (pyIter _) _ _ _)); (fail_if_success (with_reducible show wpAny _ _ (eval (Expr.ListComp _ _ _ _) _) _ _ _)); (fail_if_success (with_reducible show wpAny _ _ (delItem _ _) _ _ _)); (fail_if_success (with_reducible show wpAny _ _ (setItem _ _ _) _ _ _)); (fail_if_success (with_reducible show wpAny _ _ (compareOp _ (Value.ref _) (Value.ref _)) _ _ _)); (fail_if_success (with_reducible show wpAny _ _ (exec (Stmt.Assign _ (Expr.ListComp _ _ _ _) _) _) _ _ _)); first | walk_at "mine" | walk1 | (dsimp only; walk1))
  refine wpAny_For ?_
  repeat' ((fail_if_success (with_reducible show wpAny _ _ (exec (Stmt.While _ _ _ _) _) _ _ _)); (fail_if_success (with_reducible show wpAny _ _ (exec (Stmt.For _ _ _ _ _) _) _ _ _)); (fail_if_success (with_reducible show wpAny _ _ (pyIter _) _ _ _)); (fail_if_success (with_reducible show wpAny _ _ (eval (Expr.ListComp _ _ _ _) _) _ _ _)); (fail_if_success (with_reducible show wpAny _ _ (delItem _ _) _ _ _)); (fail_if_success (with_reducible show wpAny _ _ (setItem _ _ _) _ _ _)); (fail_if_success (with_reducible show wpAny _ _ (compareOp _ (Value.ref _) (Value.ref _)) _ _ _)); (fail_if_success (with_reducible show wpAny _ _ (exec (Stmt.Assign _ (Expr.ListComp _ _ _ _) _) _) _ _ _)); first | walk_at "mine" | walk1 | (dsimp only; walk1))
  rename_i R h3 lR h4 F4 N4 h5 tk5 t5 u5 v5 hr5 F5 N5 st5
  have hRc : L + 1 ≠ R := Nat.ne_of_lt (lR (L + 1, o') (.head _))
  refine it_range (fun i l' news => ∃ (fs : List FRow) (c : Nat) (oC : Obj), news = (R, W.listOf (fs.map frR).toArray c) :: (L + 1, oC) :: fs.map frO ∧ (∃ vc, oC.data = .cell vc) ∧ (∀ e ∈ fs, e.1 ≠ R ∧ e.1 ≠ L + 1) ∧ fs.map abF = fracN ds i ∧ am l' "draws" = some (.ref ax) ∧ am l' "fractions" = some (.ref R)) (Gd.han (by assumption)) hr5 (by decide) (by decide) F5 N5 ⟨[], 0, o', rfl, ⟨_, d1'⟩, (fun _ h => nomatch h), rfl, am_skip (by kernel_rfl) am_hit, am_hit⟩ (fun _ _ => rfl) ?turn ?fin
  case turn =>
    rintro i u l' news h6 own I hi ⟨fs, c6, oC, rfl, ⟨vc, hvc⟩, hfs, hab, hda, hfr⟩ F6 N6 hnI ⟨hown, oI, hoI⟩ g2 d2 tk2 os2 Q2 E2 q2
    have hx : ds[((i : Nat) : Int).toNat]? = some (ds.getD i 0) := by
      show ds[i]? = _
      rw [List.getD_eq_getElem?_getD, List.getElem?_eq_getElem (by omega : i < ds.length)]
      rfl
    generalize hz : ds.getD i 0 = x at hx
    obtain ⟨bs0, bs1⟩ := st_r x
    obtain ⟨bc0, bc1⟩ := cn_r x
    obtain ⟨ba0, ba1⟩ := af_r x
    obtain ⟨bo0, bo1⟩ := ot_r x
    repeat' ((fail_if_success (with_reducible show wpAny _ _ (exec (Stmt.While _ _ _ _) _) _ _ _)); (fail_if_success (with_reducible show wpAny _ _ (exec (Stmt.For _ _ _ _ _) _) _ _ _)); (fail_if_success (with_reducible show wpAny _ _ (pyIter _) _ _ _)); (fail_if_success (with_reducible show wpAny _ _ (eval (Expr.ListComp _ _ _ _) _) _ _ _)); (fail_if_success (with_reducible show wpAny _ _ (delItem _ _) _ _ _)); (fail_if_success (with_reducible show wpAny _ _ (setItem _ _ _) _ _ _)); (fail_if_success (with_reducible show wpAny _ _ (compareOp _ (Value.ref _) (Value.ref _)) _ _ _)); (fail_if_success (with_reducible show wpAny _ _ (exec (Stmt.Assign _ (Expr.ListComp _ _ _ _) _) _) _ _ _)); first | walk_at "mine" | walk1 | (dsimp only; walk1))
    refine q2 _ _ _ ?_
    intro g3 d3 tk3 os3 Q3 E3 q3
    repeat' ((fail_if_success (with_reducible show wpAny _ _ (exec (Stmt.While _ _ _ _) _) _ _ _)); (fail_if_success (with_reducible show wpAny _ _ (exec (Stmt.For _ _ _ _ _) _) _ _ _)); (fail_if_success (with_reducible show wpAny _ _ (pyIter _) _ _ _)); (fail_if_success (with_reducible show wpAny _ _ (eval (Expr.ListComp _ _ _ _) _) _ _ _)); (fail_if_success (with_reducible show wpAny _ _ (delItem _ _) _ _ _)); (fail_if_success (with_reducible show wpAny _ _ (setItem _ _ _) _ _ _)); (fail_if_success (with_reducible show wpAny _ _ (compareOp _ (Value.ref _) (Value.ref _)) _ _ _)); (fail_if_success (with_reducible show wpAny _ _ (exec (Stmt.Assign _ (Expr.ListComp _ _ _ _) _) _) _ _ _)); first | walk_at "mine" | walk1 | (dsimp only; walk1))
    rename Fr _ _ _ _ => F8
    rename News _ _ _ _ => N8
    have hcI : L + 1 ≠ I := hnI (L + 1, oC) (.tail _ (.head _))
    have hcr : ∀ p ∈ own ++ (R, W.listOf (fs.map frR).toArray c6) :: fs.map frO, p.1 ≠ L + 1 := by
      intro p hp
      rcases List.mem_append.mp hp with hp | hp
      · rw [hown p hp]; exact hcI.symm
      rcases List.mem_cons.mp hp with rfl | hp
      · exact hRc.symm
      · obtain ⟨e, he, rfl⟩ := List.mem_map.mp hp
        exact (hfs e he).2
    have N9 := News.mono N8 (b := (L + 1, oC) :: (own ++ (R, W.listOf (fs.map frR).toArray c6) :: fs.map frO)) fun p hp => by
      rcases List.mem_cons.mp hp with rfl | hp
      · exact .tail _ (List.mem_append_right _ (.tail _ (.head _)))
      rcases List.mem_append.mp hp with hp | hp
      · exact .tail _ (List.mem_append_left _ hp)
      rcases List.mem_cons.mp hp with rfl | hp
      · exact .tail _ (List.mem_append_right _ (.head _))
      · exact .tail _ (List.mem_append_right _ (.tail _ (.tail _ hp)))
    clear N8
    refine storeX_C (g := fun o' => (L + 1, o') :: (own ++ (R, W.listOf (fs.map frR).toArray c6) :: fs.map frO)) F8 N9 rfl (.head hcr) hvc ?_ (by rfl) (by rfl)
    clear N9 F8
    intro h10 oC2 F10 N10 d10
    have hlax : Heap.IsList h ax vs.toArray := ⟨_, hax, rfl, _, rfl⟩
    (try dsimp only)
    repeat' ((fail_if_success (with_reducible show wpAny _ _ (exec (Stmt.While _ _ _ _) _) _ _ _)); (fail_if_success (with_reducible show wpAny _ _ (exec (Stmt.For _ _ _ _ _) _) _ _ _)); (fail_if_success (with_reducible show wpAny _ _ (pyIter _) _ _ _)); (fail_if_success (with_reducible show wpAny _ _ (eval (Expr.ListComp _ _ _ _) _) _ _ _)); (fail_if_success (with_reducible show wpAny _ _ (delItem _ _) _ _ _)); (fail_if_success (with_reducible show wpAny _ _ (setItem _ _ _) _ _ _)); (fail_if_success (with_reducible show wpAny _ _ (compareOp _ (Value.ref _) (Value.ref _)) _ _ _)); (fail_if_success (with_reducible show wpAny _ _ (exec (Stmt.Assign _ (Expr.ListComp _ _ _ _) _) _) _ _ _)); first | walk_at "mine" | walk1 | (dsimp only; walk1))
    rename Fr _ _ _ _ => F11
    rename News _ _ _ _ => N11
    refine lc_open [(Str.ofString "state", L + 1)] (by with_unfolding_all rfl) rfl (by decide) ?_
    repeat' ((fail_if_success (with_reducible show wpAny _ _ (exec (Stmt.While _ _ _ _) _) _ _ _)); (fail_if_success (with_reducible show wpAny _ _ (exec (Stmt.For _ _ _ _ _) _) _ _ _)); (fail_if_success (with_reducible show wpAny _ _ (pyIter _) _ _ _)); (fail_if_success (with_reducible show wpAny _ _ (eval (Expr.ListComp _ _ _ _) _) _ _ _)); (fail_if_success (with_reducible show wpAny _ _ (delItem _ _) _ _ _)); (fail_if_success (with_reducible show wpAny _ _ (setItem _ _ _) _ _ _)); (fail_if_success (with_reducible show wpAny _ _ (compareOp _ (Value.ref _) (Value.ref _)) _ _ _)); (fail_if_success (with_reducible show wpAny _ _ (exec (Stmt.Assign _ (Expr.ListComp _ _ _ _) _) _) _ _ _)); first | walk_at "mine" | walk1 | (dsimp only; walk1))
    rename_i D11 ws11 h11 F11 N11 hI11 hC11 hL11 l11
    rw [show (↑i + 1 : Int).toNat = i + 1 from by omega, hn, show min 4 5 - (i + 1) = 3 - i from by omega] at hI11
    clear hC11 hL11
    generalize hlt : (ds.drop (i + 1)).take (3 - i) = later at hI11
    have hll : later.length ≤ 5 := by rw [← hlt, List.length_take, List.length_drop]; omega
    have hcl : h11.get? (L + 1) = some oC2 := (N11 _ (.tail _ (.head _))).1
    refine lc_list (items := ws11.toArray) (fun j => decide (stF (later.getD j 0) = stF x)) (fun _ y o => o = [] ∧ ∃ z t, y = .int z t) (Gd.han (by assumption)) (News.isList N11 (.head _)) (by rw [List.size_toArray, hI11.length]; omega) (by decide) rfl (fun _ _ => .inl rfl) ?turn3 (lc_fin F11 N11 ?fin3)
    case turn3 =>
      rintro j v hv C hC l15 h15 aux prev F15 N15
      have hj : j < later.length := by
        rw [← hI11.length]
        rw [List.getElem?_toArray] at hv
        exact (List.getElem?_eq_some_iff.mp hv).1
      obtain ⟨ty, hty⟩ := hI11.get j later[j] (List.getElem?_eq_getElem hj)
      have hv' : v = .int (later.getD j 0) ty := by
        rw [List.getElem?_toArray, hty] at hv
        rw [List.getD_eq_getElem?_getD, List.getElem?_eq_getElem hj]
        exact (Option.some.inj hv).symm
      subst hv'
      generalize hy : later.getD j 0 = y at hv ⊢
      have G14 := G.keeps F11.keep
      have X14 := G14.X
      have T14 := G14.T
      refine asgN F15 N15 rfl rfl fun h16 F16 N16 => tst_one ?_
      intro g7 d7 tk7 os7 Q7 E7 q7
      repeat' ((fail_if_success (with_reducible show wpAny _ _ (exec (Stmt.While _ _ _ _) _) _ _ _)); (fail_if_success (with_reducible show wpAny _ _ (exec (Stmt.For _ _ _ _ _) _) _ _ _)); (fail_if_success (with_reducible show wpAny _ _ (pyIter _) _ _ _)); (fail_if_success (with_reducible show wpAny _ _ (eval (Expr.ListComp _ _ _ _) _) _ _ _)); (fail_if_success (with_reducible show wpAny _ _ (delItem _ _) _ _ _)); (fail_if_success (with_reducible show wpAny _ _ (setItem _ _ _) _ _ _)); (fail_if_success (with_reducible show wpAny _ _ (compareOp _ (Value.ref _) (Value.ref _)) _ _ _)); (fail_if_success (with_reducible show wpAny _ _ (exec (Stmt.Assign _ (Expr.ListComp _ _ _ _) _) _) _ _ _)); first | walk_at "mine" | walk1 | (dsimp only; walk1))
      rename Fr _ _ _ _ => F18
      rename News _ _ _ _ => N18
      refine q7 _ _ _ ⟨by show _ = decide (stF (later.getD j 0) = stF x); rw [hy]; rfl, ?_⟩
      split
      · intro g8 d8 tk8 os8 Q8 E8 q8
        repeat' ((fail_if_success (with_reducible show wpAny _ _ (exec (Stmt.While _ _ _ _) _) _ _ _)); (fail_if_success (with_reducible show wpAny _ _ (exec (Stmt.For _ _ _ _ _) _) _ _ _)); (fail_if_success (with_reducible show wpAny _ _ (pyIter _) _ _ _)); (fail_if_success (with_reducible show wpAny _ _ (eval (Expr.ListComp _ _ _ _) _) _ _ _)); (fail_if_success (with_reducible show wpAny _ _ (delItem _ _) _ _ _)); (fail_if_success (with_reducible show wpAny _ _ (setItem _ _ _) _ _ _)); (fail_if_success (with_reducible show wpAny _ _ (compareOp _ (Value.ref _) (Value.ref _)) _ _ _)); (fail_if_success (with_reducible show wpAny _ _ (exec (Stmt.Assign _ (Expr.ListComp _ _ _ _) _) _) _ _ _)); first | walk_at "mine" | walk1 | (dsimp only; walk1))
        exact q8 _ _ _ ⟨_, [], F18, News.mono N18 fun p hp => .tail _ hp, (fun _ h => nomatch h), rfl, _, _, rfl⟩
      · exact ⟨_, F18, News.mono N18 fun p hp => .tail _ hp⟩
    case fin3 =>
      intro D ys own3 c17 h17 tk17 k17 F17 N17 hd17 hS
      obtain ⟨rfl, zs, hzs, hzq⟩ := stp_keep hS
      (try dsimp only)
      repeat' ((fail_if_success (with_reducible show wpAny _ _ (exec (Stmt.While _ _ _ _) _) _ _ _)); (fail_if_success (with_reducible show wpAny _ _ (exec (Stmt.For _ _ _ _ _) _) _ _ _)); (fail_if_success (with_reducible show wpAny _ _ (pyIter _) _ _ _)); (fail_if_success (with_reducible show wpAny _ _ (eval (Expr.ListComp _ _ _ _) _) _ _ _)); (fail_if_success (with_reducible show wpAny _ _ (delItem _ _) _ _ _)); (fail_if_success (with_reducible show wpAny _ _ (setItem _ _ _) _ _ _)); (fail_if_success (with_reducible show wpAny _ _ (compareOp _ (Value.ref _) (Value.ref _)) _ _ _)); (fail_if_success (with_reducible show wpAny _ _ (exec (Stmt.Assign _ (Expr.ListComp _ _ _ _) _) _) _ _ _)); first | walk_at "mine" | walk1 | (dsimp only; walk1))
      rename Fr _ _ _ _ => F18
      rename News _ _ _ _ => N18
      refine ke_eq_ints (ys := []) (ms := []) (News.isList N18 (.tail _ (.head _))) (News.isList N18 (.head _)) hzs .nil (Gd.u64 (by assumption)) ?_
      have hQ : decide (zs = []) = lastQ ds i := lastQ_eq hz hlt (by rw [List.size_toArray, hI11.length] at hzq; exact hzq)
      rw [hQ]
      have N19 := News.mono N18 (b := own ++ FL R (L + 1) oC2 fs c6) fun p hp => by
        refine .tail _ (.tail _ (.tail _ ?_))
        rcases List.mem_append.mp hp with hp | hp
        · exact .tail _ (List.mem_append_left _ hp)
        rcases List.mem_cons.mp hp with rfl | hp
        · exact .tail _ (List.mem_append_right _ (.head _))
        rcases List.mem_cons.mp hp with rfl | hp
        · exact .head _
        · exact .tail _ (List.mem_append_right _ (.tail _ hp))
      clear N18
      have hnI2 : ∀ p ∈ FL R (L + 1) oC2 fs c6, p.1 ≠ I := fun p hp => by
        rcases List.mem_cons.mp hp with rfl | hp
        · exact hnI _ (.head _)
        rcases List.mem_cons.mp hp with rfl | hp
        · exact hcI
        · exact hnI p (.tail _ (.tail _ hp))
      cases hL : lastQ ds i
      · repeat' ((fail_if_success (with_reducible show wpAny _ _ (exec (Stmt.While _ _ _ _) _) _ _ _)); (fail_if_success (with_reducible show wpAny _ _ (exec (Stmt.For _ _ _ _ _) _) _ _ _)); (fail_if_success (with_reducible show wpAny _ _ (pyIter _) _ _ _)); (fail_if_success (with_reducible show wpAny _ _ (eval (Expr.ListComp _ _ _ _) _) _ _ _)); (fail_if_success (with_reducible show wpAny _ _ (delItem _ _) _ _ _)); (fail_if_success (with_reducible show wpAny _ _ (setItem _ _ _) _ _ _)); (fail_if_success (with_reducible show wpAny _ _ (compareOp _ (Value.ref _) (Value.ref _)) _ _ _)); (fail_if_success (with_reducible show wpAny _ _ (exec (Stmt.Assign _ (Expr.ListComp _ _ _ _) _) _) _ _ _)); first | walk_at "mine" | walk1 | (dsimp only; walk1))
        refine q3 _ _ _ ⟨_, FL R (L + 1) oC2 fs c6, ⟨fs, c6, oC2, rfl, ⟨_, d10⟩, hfs, ?_, am_skip (by kernel_rfl) (am_skip (by kernel_rfl) (am_skip (by kernel_rfl) (am_skip (by kernel_rfl) (am_skip (by kernel_rfl) hda)))), am_skip (by kernel_rfl) (am_skip (by kernel_rfl) (am_skip (by kernel_rfl) (am_skip (by kernel_rfl) (am_skip (by kernel_rfl) hfr))))⟩, F18, N19, hnI2⟩
        show _ = fracN ds i ++ fracK ds i
        unfold fracK
        dsimp only
        rw [hL, if_neg Bool.false_ne_true, List.append_nil, hab]
      · have hfl : fs.length ≤ 8 := by
          have h1 := congrArg List.length hab
          rw [List.length_map] at h1
          have h2 := fracN_len ds i
          omega
        repeat' ((fail_if_success (with_reducible show wpAny _ _ (exec (Stmt.While _ _ _ _) _) _ _ _)); (fail_if_success (with_reducible show wpAny _ _ (exec (Stmt.For _ _ _ _ _) _) _ _ _)); (fail_if_success (with_reducible show wpAny _ _ (pyIter _) _ _ _)); (fail_if_success (with_reducible show wpAny _ _ (eval (Expr.ListComp _ _ _ _) _) _ _ _)); (fail_if_success (with_reducible show wpAny _ _ (delItem _ _) _ _ _)); (fail_if_success (with_reducible show wpAny _ _ (setItem _ _ _) _ _ _)); (fail_if_success (with_reducible show wpAny _ _ (compareOp _ (Value.ref _) (Value.ref _)) _ _ _)); (fail_if_success (with_reducible show wpAny _ _ (exec (Stmt.Assign _ (Expr.ListComp _ _ _ _) _) _) _ _ _)); first | walk_at "mine" | walk1 | (dsimp only; walk1))
        · rename_i hM T20 h20 F20 N20 l20
          obtain ⟨u10, u20, N20⟩ : ∃ u1 u2, News h L h20 (frO (T20, (stF x, u1), (afF x * cnF x, u2), odd (i : Int), odd (i : Int)) :: (own ++ FL R (L + 1) oC2 (fs) (c6))) := ⟨_, _, N20⟩
          have hadd0 := fl_add (e := (T20, (stF x, u10), (afF x * cnF x, u20), odd (i : Int), odd (i : Int))) hfs hRc hown hoI hnI2 l20
          refine appS (vs := (fs).map frR) (n := c6) _ F20 N20 (.tail _ (List.mem_append_right _ (.head _))) (by rw [List.length_map]; (try rw [List.length_append]); (try simp only [List.length_cons, List.length_nil]); omega) hadd0.2.1 ?_
          clear F20 N20
          intro h30 F30 N30
          (try dsimp only)
          repeat' ((fail_if_success (with_reducible show wpAny _ _ (exec (Stmt.While _ _ _ _) _) _ _ _)); (fail_if_success (with_reducible show wpAny _ _ (exec (Stmt.For _ _ _ _ _) _) _ _ _)); (fail_if_success (with_reducible show wpAny _ _ (pyIter _) _ _ _)); (fail_if_success (with_reducible show wpAny _ _ (eval (Expr.ListComp _ _ _ _) _) _ _ _)); (fail_if_success (with_reducible show wpAny _ _ (delItem _ _) _ _ _)); (fail_if_success (with_reducible show wpAny _ _ (setItem _ _ _) _ _ _)); (fail_if_success (with_reducible show wpAny _ _ (compareOp _ (Value.ref _) (Value.ref _)) _ _ _)); (fail_if_success (with_reducible show wpAny _ _ (exec (Stmt.Assign _ (Expr.ListComp _ _ _ _) _) _) _ _ _)); first | walk_at "mine" | walk1 | (dsimp only; walk1))
          refine q3 _ _ _ ⟨_, FL R (L + 1) oC2 (fs ++ [(T20, (stF x, u10), (afF x * cnF x, u20), odd (i : Int), odd (i : Int))]) (c6 + 1), ⟨fs ++ [(T20, (stF x, u10), (afF x * cnF x, u20), odd (i : Int), odd (i : Int))], c6 + 1, oC2, rfl, ⟨_, d10⟩, hadd0.1, ?_, am_skip (by kernel_rfl) (am_skip (by kernel_rfl) (am_skip (by kernel_rfl) (am_skip (by kernel_rfl) (am_skip (by kernel_rfl) hda)))), am_skip (by kernel_rfl) (am_skip (by kernel_rfl) (am_skip (by kernel_rfl) (am_skip (by kernel_rfl) (am_skip (by kernel_rfl) hfr))))⟩, F30, N30, hadd0.2.2⟩
          show _ = fracN ds i ++ fracK ds i
          unfold fracK
          dsimp only
          rw [hL, if_pos rfl, hz, hM, if_pos rfl]
          simp only [List.map_append, hab, List.append_assoc]
          rfl
        · rename_i hM T20 h20 F20 N20 l20
          obtain ⟨u10, u20, N20⟩ : ∃ u1 u2, News h L h20 (frO (T20, (stF x * cnF x, u1), (afF x, u2), odd (i : Int), odd (i : Int)) :: (own ++ FL R (L + 1) oC2 (fs) (c6))) := ⟨_, _, N20⟩
          have hadd0 := fl_add (e := (T20, (stF x * cnF x, u10), (afF x, u20), odd (i : Int), odd (i : Int))) hfs hRc hown hoI hnI2 l20
          refine appS (vs := (fs).map frR) (n := c6) _ F20 N20 (.tail _ (List.mem_append_right _ (.head _))) (by rw [List.length_map]; (try rw [List.length_append]); (try simp only [List.length_cons, List.length_nil]); omega) hadd0.2.1 ?_
          clear F20 N20
          intro h30 F30 N30
          (try dsimp only)
          repeat' ((fail_if_success (with_reducible show wpAny _ _ (exec (Stmt.While _ _ _ _) _) _ _ _)); (fail_if_success (with_reducible show wpAny _ _ (exec (Stmt.For _ _ _ _ _) _) _ _ _)); (fail_if_success (with_reducible show wpAny _ _ (pyIter _) _ _ _)); (fail_if_success (with_reducible show wpAny _ _ (eval (Expr.ListComp _ _ _ _) _) _ _ _)); (fail_if_success (with_reducible show wpAny _ _ (delItem _ _) _ _ _)); (fail_if_success (with_reducible show wpAny _ _ (setItem _ _ _) _ _ _)); (fail_if_success (with_reducible show wpAny _ _ (compareOp _ (Value.ref _) (Value.ref _)) _ _ _)); (fail_if_success (with_reducible show wpAny _ _ (exec (Stmt.Assign _ (Expr.ListComp _ _ _ _) _) _) _ _ _)); first | walk_at "mine" | walk1 | (dsimp only; walk1))
          rename_i T21 h21 F21 N21 l21
          obtain ⟨u11, u21, N21⟩ : ∃ u1 u2, News h L h21 (frO (T21, (stF x, u1), (otF x, u2), odd (i : Int), odd (i : Int)) :: (own ++ FL R (L + 1) oC2 (fs ++ [(T20, (stF x * cnF x, u10), (afF x, u20), odd (i : Int), odd (i : Int))]) (c6 + 1))) := ⟨_, _, N21⟩
          have hadd1 := fl_add (e := (T21, (stF x, u11), (otF x, u21), odd (i : Int), odd (i : Int))) hadd0.1 hRc hown hoI hadd0.2.2 l21
          refine appS (vs := (fs ++ [(T20, (stF x * cnF x, u10), (afF x, u20), odd (i : Int), odd (i : Int))]).map frR) (n := c6 + 1) _ F21 N21 (.tail _ (List.mem_append_right _ (.head _))) (by rw [List.length_map]; (try rw [List.length_append]); (try simp only [List.length_cons, List.length_nil]); omega) hadd1.2.1 ?_
          clear F21 N21
          intro h31 F31 N31
          (try dsimp only)
          repeat' ((fail_if_success (with_reducible show wpAny _ _ (exec (Stmt.While _ _ _ _) _) _ _ _)); (fail_if_success (with_reducible show wpAny _ _ (exec (Stmt.For _ _ _ _ _) _) _ _ _)); (fail_if_success (with_reducible show wpAny _ _ (pyIter _) _ _ _)); (fail_if_success (with_reducible show wpAny _ _ (eval (Expr.ListComp _ _ _ _) _) _ _ _)); (fail_if_success (with_reducible show wpAny _ _ (delItem _ _) _ _ _)); (fail_if_success (with_reducible show wpAny _ _ (setItem _ _ _) _ _ _)); (fail_if_success (with_reducible show wpAny _ _ (compareOp _ (Value.ref _) (Value.ref _)) _ _ _)); (fail_if_success (with_reducible show wpAny _ _ (exec (Stmt.Assign _ (Expr.ListComp _ _ _ _) _) _) _ _ _)); first | walk_at "mine" | walk1 | (dsimp only; walk1))
          refine q3 _ _ _ ⟨_, FL R (L + 1) oC2 ((fs ++ [(T20, (stF x * cnF x, u10), (afF x, u20), odd (i : Int), odd (i : Int))]) ++ [(T21, (stF x, u11), (otF x, u21), odd (i : Int), odd (i : Int))]) (c6 + 1 + 1), ⟨(fs ++ [(T20, (stF x * cnF x, u10), (afF x, u20), odd (i : Int), odd (i : Int))]) ++ [(T21, (stF x, u11), (otF x, u21), odd (i : Int), odd (i : Int))], c6 + 1 + 1, oC2, rfl, ⟨_, d10⟩, hadd1.1, ?_, am_skip (by kernel_rfl) (am_skip (by kernel_rfl) (am_skip (by kernel_rfl) (am_skip (by kernel_rfl) (am_skip (by kernel_rfl) hda)))), am_skip (by kernel_rfl) (am_skip (by kernel_rfl) (am_skip (by kernel_rfl) (am_skip (by kernel_rfl) (am_skip (by kernel_rfl) hfr))))⟩, F31, N31, hadd1.2.2⟩
          show _ = fracN ds i ++ fracK ds i
          unfold fracK
          dsimp only
          rw [hL, if_pos rfl, hz, hM, if_neg Bool.false_ne_true]
          simp only [List.map_append, hab, List.append_assoc]
          rfl
  case fin =>
    rintro l' news h6 tk6 ⟨fs, c6, oC, rfl, ⟨vc, hvc⟩, hfs, hab, hda, hfr⟩ F6 N6
    (try dsimp only)
    repeat' ((fail_if_success (with_reducible show wpAny _ _ (exec (Stmt.While _ _ _ _) _) _ _ _)); (fail_if_success (with_reducible show wpAny _ _ (exec (Stmt.For _ _ _ _ _) _) _ _ _)); (fail_if_success (with_reducible show wpAny _ _ (pyIter _) _ _ _)); (fail_if_success (with_reducible show wpAny _ _ (eval (Expr.ListComp _ _ _ _) _) _ _ _)); (fail_if_success (with_reducible show wpAny _ _ (delItem _ _) _ _ _)); (fail_if_success (with_reducible show wpAny _ _ (setItem _ _ _) _ _ _)); (fail_if_success (with_reducible show wpAny _ _ (compareOp _ (Value.ref _) (Value.ref _)) _ _ _)); (fail_if_success (with_reducible show wpAny _ _ (exec (Stmt.Assign _ (Expr.ListComp _ _ _ _) _) _) _ _ _)); first | walk_at "mine" | walk1 | (dsimp only; walk1))
    refine q _ _ _ ⟨F6.keep, (R, W.listOf (fs.map frR).toArray c6) :: fs.map frO, Frsh.of (News.mono N6 fun p hp => ?_), R, fs, c6, rfl, rfl, hab⟩
    rcases List.mem_cons.mp hp with rfl | hp
    · exact .head _
    · exact .tail _ (.tail _ hp)
end Mine
namespace Mine
local macro_rules | `(tactic| walk_at "storeName") => `(tactic| (k_dflt (refine' stM ?F ?N ?_ ?a ?b; (case F => first | with_reducible assumption | assumption); (case N => first | with_reducible assumption | assumption); (case a => rfl); (case b => rfl); k_whole); intro h' F' N'; (try k_sweep); (try dsimp only)))
local macro_rules | `(tactic| walk_at "subscriptTail") => `(tactic| ((with_reducible show wpAny _ _ (subscriptTail _ _ (Value.ref _) (Value.int _ _)) _ _ _); k_dflt (refine' pickT ?t ?i ?a ?b ?z ?_ ?s; (case t => exact News.isTup (by k_asm) (by k_mem)); (case i => l_ints); (case a => l_idx); (case b => l_idx); (case z => decide); (case s => with_unfolding_all rfl); k_whole); intro t'))
local macro_rules | `(tactic| walk_at "assign Tuple") => `(tactic| ((with_reducible show wpAny _ _ (assign (Expr.Tuple _ _ _) _ (Value.ref _)) _ _ _); k_dflt (refine' unpackN_ ?F ?N ?T ?hh ?k2 ?k3 ?_; (case F => k_asm); (case N => k_asm); (case T => exact News.isTup (by k_asm) (by k_mem)); (case hh => exact Gd.han (by assumption)); (case k2 => exact rfl); (case k3 => exact rfl)); intro h' F' N'; (try k_sweep); (try dsimp only)))
local macro_rules | `(tactic| walk_at "lk") => `(tactic| first | with_reducible exact am_hit | with_reducible exact am_skip (by kernel_rfl) am_hit | with_reducible exact am_skip (by kernel_rfl) (am_skip (by kernel_rfl) am_hit) | (with_reducible refine' am_skip (by kernel_rfl) ?_; walk_at "lk") | assumption)
local macro_rules | `(tactic| walk_at "eval Name") => `(tactic| (k_dflt (first | (refine' nmL ?F ?vv ?_ ?a ?b ?c; (case F => assumption); (case a => rfl); (case b => rfl); (case c => decide); (case vv => walk_at "lk")) | (refine' nmC ?F ?o ?d ?l ?_ ?a ?b ?c; (case F => assumption); (case a => rfl); (case b => rfl); (case c => decide); (case l => rfl); (case o => assumption); (case d => assumption)) | (refine' nmG ?F ?X ?T ?e ?_ ?g ?a ?b ?c; (case F => assumption); (case X => assumption); (case T => assumption); (case g => rfl); (case a => rfl); (case b => rfl); (case c => decide); (case e => k_is)) | (refine' nmB ?F ?X ?T ?e ?vv ?n ?_ ?g ?h ?a ?b ?c; (case F => assumption); (case X => assumption); (case T => assumption); (case g => rfl); (case h => rfl); (case a => rfl); (case b => rfl); (case c => decide); (case e => k_is); (case vv => boot_fast); (case n => decide))); k_whole))
theorem fill_T11 : PySem.Challenge.rw_wf0080_01 = PySem.Challenge.rw_wf0080_01 ∧ KM = KM := by
  w_on
  k_fill
  exact ⟨rfl, rfl⟩

local macro_rules | `(tactic| walk_at "call builtin:str.upper") => `(tactic| ((with_reducible show wpAny _ _ (call _ [Value.str (wS _ _) _]) _ _ _); refine upper_w (by with_reducible assumption) ?_; intro _))
open Builtin Builtin.Str in
theorem ap_head : ∀ n, 0 < n → ∃ d t, apL n = d :: t ∧ 66 ≤ d.toNat := by
  intro n
  induction n using Nat.strongRecOn with
  | ind n ih =>
    intro h
    rw [apL, dif_neg (by omega)]
    by_cases z : n / 16 = 0
    · rw [z, apL, dif_pos rfl]
      refine ⟨_, [], rfl, ?_⟩
      rw [UInt8.toNat_ofNat_of_lt' (by show _ < 256; omega)]
      omega
    · obtain ⟨d, t, e, hd⟩ := ih (n / 16) (by omega) (by omega)
      exact ⟨d, t ++ [_], by rw [e]; rfl, hd⟩
theorem slice_one (x : Str) : Txt.slice x none (some 1) = ⟨(x.cps.toList.take 1).toArray⟩ := by
  have e : Txt.slice x none (some 1) = Txt.slice x (some ((0 : Nat) : Int)) (some ((1 : Nat) : Int)) := by rfl
  rw [e, slice_list (Nat.zero_le _) (Nat.zero_le _)]
  rfl
open Builtin Builtin.Str in
theorem first_no {n : Nat} {b : Bool} (h : 0 < n) : ∃ c, Txt.slice (wS n b) none (some 1) = ⟨#[c]⟩ ∧ (Txt.upper ⟨#[c]⟩ == PySem.Str.ofString "A") = false := by
  obtain ⟨d, t, e, hd⟩ := ap_head n h
  have hm := apL_mem (n := n) d (by rw [e]; exact .head _)
  refine ⟨d.toNat + up b, ?_, ?_⟩
  · rw [slice_one]
    show (⟨((wL n b).take 1).toArray⟩ : PySem.Str) = _
    unfold wL
    rw [e]
    rfl
  · have hu : ∀ c ∈ (⟨#[d.toNat + up b]⟩ : PySem.Str).cps.toList, c < 128 := by
      intro c hc
      rw [List.mem_singleton.mp hc]
      rcases up_le b with q | q <;> omega
    rw [upper_ascii hu, beq_eq_false_iff_ne]
    intro q
    have q2 : ((#[d.toNat + up b] : Array Nat).map up1).toList = (PySem.Str.ofString "A").cps.toList := congrArg (fun s : PySem.Str => s.cps.toList) q
    rw [Array.toList_map, show (PySem.Str.ofString "A").cps.toList = [65] from by decide] at q2
    have q3 : up1 (d.toNat + up b) = 65 := by simpa using q2
    unfold up1 at q3
    cases b
    · rw [show up false = 0 from rfl, if_neg (by omega)] at q3; omega
    · rw [show up true = 32 from rfl, if_pos (by omega)] at q3; omega
theorem in_AP : ∀ c, c < 81 → 65 ≤ c → Txt.contains (Str.ofString "ABCDEFGHIJKLMNOP") ⟨#[c]⟩ = true := by decide +kernel
local macro_rules | `(tactic| walk_at "mine") => `(tactic| ((with_reducible show wpAny _ _ (compareOp CmpOp.Eq (Value.str (Txt.upper _) _) (Value.str _ _)) _ _ _); refine PyProof.Rows.eq_str ?_; simp (disch := fail) only [(by assumption : (Txt.upper _ == _) = false)]))
theorem stp_none {R : Nat → Value → List (Addr × Obj) → Prop} : ∀ {n ys own}, Stp (fun _ => false) R n ys own → ys = [] ∧ own = []
  | 0, _, _, h => h
  | n + 1, _, _, h => stp_none (n := n) (by unfold Stp at h; rw [if_neg Bool.false_ne_true] at h; exact h)
local macro_rules | `(tactic| walk_at "mine") => `(tactic| ((with_reducible show wpAny _ _ (compareOp CmpOp.NotIn (Value.str _ _) (Value.str _ _)) _ _ _); refine SB.notContains ?_; simp (disch := fail) only [(by assumption : Txt.contains _ _ = true)]; (try dsimp only [Bool.not_true])))
theorem plain_c {w : World} {mg mb : Str → Option Value} {A : Around} {h : Heap} {ax : Addr} {ws : List Wd} {c : Nat} (G : Gl w mg mb h) (hax : h.get? ax = some (W.listOf (ws.map wdV).toArray c)) (gd : Gd 3 A) (hok : ∀ x ∈ ws, WdOk x) :
    Ok w A (call (.ref 274) [.ref ax]) (fun v h' => h.StaysIn h' ∧ v = .bool true) h := by
  w_on
  have X := G.X
  have T := G.T
  refine' enter (n := 2) [("words", .ref ax)] G gd ?k6 ?k7 ?k9 ?kB ?_ ?k10 ?c2 ?c3 ?c4
  case k6 => k_is
  case k7 => k_is
  case k9 => exact fun s _ => BindsTo.of_eq (by with_unfolding_all rfl)
  case kB => exact locs rfl
  case c2 => exact rfl
  case c3 => exact rfl
  case c4 => exact rfl
  case k10 => decide
  intro L h₁ F fr G gd g d tk os Q E q
  have N : News h L h₁ [] := News.nil
  dsimp only [List.reverse, List.reverseAux] at F
  repeat' ((fail_if_success (with_reducible show wpAny _ _ (exec (Stmt.While _ _ _ _) _) _ _ _)); (fail_if_success (with_reducible show wpAny _ _ (exec (Stmt.For _ _ _ _ _) _) _ _ _)); (fail_if_success (with_reducible show wpAny _ _ (pyIter _) _ _ _)); (fail_if_success (with_reducible show wpAny _ _ (eval (Expr.ListComp _ _ _ _) _) _ _ _)); (fail_if_success (with_reducible show wpAny _ _ (delItem _ _) _ _ _)); (fail_if_success (with_reducible show wpAny _ _ (setItem _ _ _) _ _ _)); (fail_if_success (with_reducible show wpAny _ _ (compareOp _ (Value.ref _) (Value.ref _)) _ _ _)); (fail_if_success (with_reducible show wpAny _ _ (exec (Stmt.Assign _ (Expr.ListComp _ _ _ _) _) _) _ _ _)); first | walk_at "mine" | walk1 | (dsimp only; walk1))
  refine wpAny_For ?_
  repeat' ((fail_if_success (with_reducible show wpAny _ _ (exec (Stmt.While _ _ _ _) _) _ _ _)); (fail_if_success (with_reducible show wpAny _ _ (exec (Stmt.For _ _ _ _ _) _) _ _ _)); (fail_if_success (with_reducible show wpAny _ _ (pyIter _) _ _ _)); (fail_if_success (with_reducible show wpAny _ _ (eval (Expr.ListComp _ _ _ _) _) _ _ _)); (fail_if_success (with_reducible show wpAny _ _ (delItem _ _) _ _ _)); (fail_if_success (with_reducible show wpAny _ _ (setItem _ _ _) _ _ _)); (fail_if_success (with_reducible show wpAny _ _ (compareOp _ (Value.ref _) (Value.ref _)) _ _ _)); (fail_if_success (with_reducible show wpAny _ _ (exec (Stmt.Assign _ (Expr.ListComp _ _ _ _) _) _) _ _ _)); first | walk_at "mine" | walk1 | (dsimp only; walk1))
  have hl : h₁.IsList ax (ws.map wdV).toArray := ⟨_, F.keep _ _ hax, rfl, _, rfl⟩
  refine it_list (items := (ws.map wdV).toArray) (fun i l' news => news = []) (Gd.han (by assumption)) hl F N ?hL rfl (fun _ _ => .inl rfl) ?turn ?fin
  case hL => exact fun e => by rw [e, fr] at hax; cases hax
  case turn =>
    rintro i v l1 news h3 own I hv rfl F3 N3 hnI - - g2 d2 tk2 os2 Q2 E2 q2
    have hv' : ∃ x, ws[i]? = some x ∧ v = wdV x := by
      rw [List.getElem?_toArray, List.getElem?_map] at hv
      obtain ⟨e, he, rfl⟩ := Option.map_eq_some_iff.mp hv
      exact ⟨e, he, rfl⟩
    obtain ⟨⟨n1, b1, t1⟩, he, rfl⟩ := hv'
    have hw := hok _ (List.mem_of_getElem? he)
    have hn0 : 0 < n1 := hw.1
    have hn1 : n1 < 16 ^ 16 := hw.2
    have hlen : (wS n1 b1).length ≤ sizeLine := by rw [sizeLine_eq]; exact Nat.le_trans (wS_len hn1) (by decide)
    obtain ⟨c0, hc0, hA⟩ := first_no (b := b1) hn0
    dsimp only [wdV]
    repeat' ((fail_if_success (with_reducible show wpAny _ _ (exec (Stmt.While _ _ _ _) _) _ _ _)); (fail_if_success (with_reducible show wpAny _ _ (exec (Stmt.For _ _ _ _ _) _) _ _ _)); (fail_if_success (with_reducible show wpAny _ _ (pyIter _) _ _ _)); (fail_if_success (with_reducible show wpAny _ _ (eval (Expr.ListComp _ _ _ _) _) _ _ _)); (fail_if_success (with_reducible show wpAny _ _ (delItem _ _) _ _ _)); (fail_if_success (with_reducible show wpAny _ _ (setItem _ _ _) _ _ _)); (fail_if_success (with_reducible show wpAny _ _ (compareOp _ (Value.ref _) (Value.ref _)) _ _ _)); (fail_if_success (with_reducible show wpAny _ _ (exec (Stmt.Assign _ (Expr.ListComp _ _ _ _) _) _) _ _ _)); first | walk_at "mine" | walk1 | (dsimp only; walk1))
    refine q2 _ _ _ ?_
    intro g3 d3 tk3 os3 Q3 E3 q3
    repeat' ((fail_if_success (with_reducible show wpAny _ _ (exec (Stmt.While _ _ _ _) _) _ _ _)); (fail_if_success (with_reducible show wpAny _ _ (exec (Stmt.For _ _ _ _ _) _) _ _ _)); (fail_if_success (with_reducible show wpAny _ _ (pyIter _) _ _ _)); (fail_if_success (with_reducible show wpAny _ _ (eval (Expr.ListComp _ _ _ _) _) _ _ _)); (fail_if_success (with_reducible show wpAny _ _ (delItem _ _) _ _ _)); (fail_if_success (with_reducible show wpAny _ _ (setItem _ _ _) _ _ _)); (fail_if_success (with_reducible show wpAny _ _ (compareOp _ (Value.ref _) (Value.ref _)) _ _ _)); (fail_if_success (with_reducible show wpAny _ _ (exec (Stmt.Assign _ (Expr.ListComp _ _ _ _) _) _) _ _ _)); first | walk_at "mine" | walk1 | (dsimp only; walk1))
    rw [hc0]
    (try dsimp only)
    repeat' ((fail_if_success (with_reducible show wpAny _ _ (exec (Stmt.While _ _ _ _) _) _ _ _)); (fail_if_success (with_reducible show wpAny _ _ (exec (Stmt.For _ _ _ _ _) _) _ _ _)); (fail_if_success (with_reducible show wpAny _ _ (pyIter _) _ _ _)); (fail_if_success (with_reducible show wpAny _ _ (eval (Expr.ListComp _ _ _ _) _) _ _ _)); (fail_if_success (with_reducible show wpAny _ _ (delItem _ _) _ _ _)); (fail_if_success (with_reducible show wpAny _ _ (setItem _ _ _) _ _ _)); (fail_if_success (with_reducible show wpAny _ _ (compareOp _ (Value.ref _) (Value.ref _)) _ _ _)); (fail_if_success (with_reducible show wpAny _ _ (exec (Stmt.Assign _ (Expr.ListComp _ _ _ _) _) _) _ _ _)); first | walk_at "mine" | walk1 | (dsimp only; walk1))
    refine SCL.upper (show (#[c0] : Array Nat).size ≤ _ from Nat.le_of_ble_eq_true rfl) ?_
    intro _
    (try dsimp only)
    repeat' ((fail_if_success (with_reducible show wpAny _ _ (exec (Stmt.While _ _ _ _) _) _ _ _)); (fail_if_success (with_reducible show wpAny _ _ (exec (Stmt.For _ _ _ _ _) _) _ _ _)); (fail_if_success (with_reducible show wpAny _ _ (pyIter _) _ _ _)); (fail_if_success (with_reducible show wpAny _ _ (eval (Expr.ListComp _ _ _ _) _) _ _ _)); (fail_if_success (with_reducible show wpAny _ _ (delItem _ _) _ _ _)); (fail_if_success (with_reducible show wpAny _ _ (setItem _ _ _) _ _ _)); (fail_if_success (with_reducible show wpAny _ _ (compareOp _ (Value.ref _) (Value.ref _)) _ _ _)); (fail_if_success (with_reducible show wpAny _ _ (exec (Stmt.Assign _ (Expr.ListComp _ _ _ _) _) _) _ _ _)); first | walk_at "mine" | walk1 | (dsimp only; walk1))
    rename Fr _ _ _ _ => F5
    rename News _ _ _ _ => N5
    refine lc_open [] (by with_unfolding_all rfl) rfl (by decide) ?_
    repeat' ((fail_if_success (with_reducible show wpAny _ _ (exec (Stmt.While _ _ _ _) _) _ _ _)); (fail_if_success (with_reducible show wpAny _ _ (exec (Stmt.For _ _ _ _ _) _) _ _ _)); (fail_if_success (with_reducible show wpAny _ _ (pyIter _) _ _ _)); (fail_if_success (with_reducible show wpAny _ _ (eval (Expr.ListComp _ _ _ _) _) _ _ _)); (fail_if_success (with_reducible show wpAny _ _ (delItem _ _) _ _ _)); (fail_if_success (with_reducible show wpAny _ _ (setItem _ _ _) _ _ _)); (fail_if_success (with_reducible show wpAny _ _ (compareOp _ (Value.ref _) (Value.ref _)) _ _ _)); (fail_if_success (with_reducible show wpAny _ _ (exec (Stmt.Assign _ (Expr.ListComp _ _ _ _) _) _) _ _ _)); first | walk_at "mine" | walk1 | (dsimp only; walk1))
    refine lc_str (fun _ => false) (fun _ _ _ => False) (Gd.han (by assumption)) wL_ascii (show (wL n1 false).toArray.size ≤ _ by rw [List.size_toArray]; exact Nat.le_trans (wL_len hn1) (by decide)) (by decide) rfl (fun _ _ => rfl) ?turn3 (lc_fin F5 N5 ?fin3)
    case turn3 =>
      intro j c1 u hc C hC l5 h5 aux prev F6 N6
      have hcm := wL_mem (n := n1) (low := false) c1 (List.mem_of_getElem? hc)
      rw [show up false = 0 from rfl] at hcm
      have hin := in_AP c1 (by omega) (by omega)
      refine asgN F6 N6 rfl rfl fun h7 F7 N7 => tst_one ?_
      intro g7 d7 tk7 os7 Q7 E7 q7
      repeat' ((fail_if_success (with_reducible show wpAny _ _ (exec (Stmt.While _ _ _ _) _) _ _ _)); (fail_if_success (with_reducible show wpAny _ _ (exec (Stmt.For _ _ _ _ _) _) _ _ _)); (fail_if_success (with_reducible show wpAny _ _ (pyIter _) _ _ _)); (fail_if_success (with_reducible show wpAny _ _ (eval (Expr.ListComp _ _ _ _) _) _ _ _)); (fail_if_success (with_reducible show wpAny _ _ (delItem _ _) _ _ _)); (fail_if_success (with_reducible show wpAny _ _ (setItem _ _ _) _ _ _)); (fail_if_success (with_reducible show wpAny _ _ (compareOp _ (Value.ref _) (Value.ref _)) _ _ _)); (fail_if_success (with_reducible show wpAny _ _ (exec (Stmt.Assign _ (Expr.ListComp _ _ _ _) _) _) _ _ _)); first | walk_at "mine" | walk1 | (dsimp only; walk1))
      refine q7 _ _ _ ⟨rfl, ?_⟩
      rw [if_neg (show ¬ ((!true) = true) from Bool.false_ne_true)]
      exact ⟨_, F7, N7⟩
    case fin3 =>
      intro D ys own3 c8 h8 tk8 k8 F8 N8 hd8 hS
      obtain ⟨rfl, rfl⟩ := stp_none hS
      (try dsimp only)
      repeat' ((fail_if_success (with_reducible show wpAny _ _ (exec (Stmt.While _ _ _ _) _) _ _ _)); (fail_if_success (with_reducible show wpAny _ _ (exec (Stmt.For _ _ _ _ _) _) _ _ _)); (fail_if_success (with_reducible show wpAny _ _ (pyIter _) _ _ _)); (fail_if_success (with_reducible show wpAny _ _ (eval (Expr.ListComp _ _ _ _) _) _ _ _)); (fail_if_success (with_reducible show wpAny _ _ (delItem _ _) _ _ _)); (fail_if_success (with_reducible show wpAny _ _ (setItem _ _ _) _ _ _)); (fail_if_success (with_reducible show wpAny _ _ (compareOp _ (Value.ref _) (Value.ref _)) _ _ _)); (fail_if_success (with_reducible show wpAny _ _ (exec (Stmt.Assign _ (Expr.ListComp _ _ _ _) _) _) _ _ _)); first | walk_at "mine" | walk1 | (dsimp only; walk1))
      rename Fr _ _ _ _ => F9
      rename News _ _ _ _ => N9
      refine ne_nilD (ds := []) (reads_newData (ys := []) (News.isList N9 (.tail _ (.head _))) .nil) (fun _ h => nomatch h) (News.isList N9 (.head _)) (Gd.u64 (by assumption)) ?_
      (try dsimp only [List.isEmpty_nil, Bool.not_true])
      repeat' ((fail_if_success (with_reducible show wpAny _ _ (exec (Stmt.While _ _ _ _) _) _ _ _)); (fail_if_success (with_reducible show wpAny _ _ (exec (Stmt.For _ _ _ _ _) _) _ _ _)); (fail_if_success (with_reducible show wpAny _ _ (pyIter _) _ _ _)); (fail_if_success (with_reducible show wpAny _ _ (eval (Expr.ListComp _ _ _ _) _) _ _ _)); (fail_if_success (with_reducible show wpAny _ _ (delItem _ _) _ _ _)); (fail_if_success (with_reducible show wpAny _ _ (setItem _ _ _) _ _ _)); (fail_if_success (with_reducible show wpAny _ _ (compareOp _ (Value.ref _) (Value.ref _)) _ _ _)); (fail_if_success (with_reducible show wpAny _ _ (exec (Stmt.Assign _ (Expr.ListComp _ _ _ _) _) _) _ _ _)); first | walk_at "mine" | walk1 | (dsimp only; walk1))
      rename Fr _ _ _ _ => FX
      rename News _ _ _ _ => NX
      exact q3 _ _ _ ⟨_, [], rfl, FX, News.mono NX fun p hp => .tail _ (.tail _ hp), fun _ h => nomatch h⟩
  case fin =>
    rintro l1 news h3 tk3 rfl F3 N3
    repeat' ((fail_if_success (with_reducible show wpAny _ _ (exec (Stmt.While _ _ _ _) _) _ _ _)); (fail_if_success (with_reducible show wpAny _ _ (exec (Stmt.For _ _ _ _ _) _) _ _ _)); (fail_if_success (with_reducible show wpAny _ _ (pyIter _) _ _ _)); (fail_if_success (with_reducible show wpAny _ _ (eval (Expr.ListComp _ _ _ _) _) _ _ _)); (fail_if_success (with_reducible show wpAny _ _ (delItem _ _) _ _ _)); (fail_if_success (with_reducible show wpAny _ _ (setItem _ _ _) _ _ _)); (fail_if_success (with_reducible show wpAny _ _ (compareOp _ (Value.ref _) (Value.ref _)) _ _ _)); (fail_if_success (with_reducible show wpAny _ _ (exec (Stmt.Assign _ (Expr.ListComp _ _ _ _) _) _) _ _ _)); first | walk_at "mine" | walk1 | (dsimp only; walk1))
    refine q _ _ _ ⟨F3.keep, rfl⟩
end Mine
namespace Mine
local macro_rules | `(tactic| walk_at "storeName") => `(tactic| (k_dflt (refine' stM ?F ?N ?_ ?a ?b; (case F => first | with_reducible assumption | assumption); (case N => first | with_reducible assumption | assumption); (case a => rfl); (case b => rfl); k_whole); intro h' F' N'; (try k_sweep); (try dsimp only)))
local macro_rules | `(tactic| walk_at "subscriptTail") => `(tactic| ((with_reducible show wpAny _ _ (subscriptTail _ _ (Value.ref _) (Value.int _ _)) _ _ _); k_dflt (refine' pickT ?t ?i ?a ?b ?z ?_ ?s; (case t => exact News.isTup (by k_asm) (by k_mem)); (case i => l_ints); (case a => l_idx); (case b => l_idx); (case z => decide); (case s => with_unfolding_all rfl); k_whole); intro t'))
local macro_rules | `(tactic| walk_at "assign Tuple") => `(tactic| ((with_reducible show wpAny _ _ (assign (Expr.Tuple _ _ _) _ (Value.ref _)) _ _ _); k_dflt (refine' unpackN_ ?F ?N ?T ?hh ?k2 ?k3 ?_; (case F => k_asm); (case N => k_asm); (case T => exact News.isTup (by k_asm) (by k_mem)); (case hh => exact Gd.han (by assumption)); (case k2 => exact rfl); (case k3 => exact rfl)); intro h' F' N'; (try k_sweep); (try dsimp only)))
local macro_rules | `(tactic| walk_at "lk") => `(tactic| first | with_reducible exact am_hit | with_reducible exact am_skip (by kernel_rfl) am_hit | with_reducible exact am_skip (by kernel_rfl) (am_skip (by kernel_rfl) am_hit) | (with_reducible refine' am_skip (by kernel_rfl) ?_; walk_at "lk") | assumption)
local macro_rules | `(tactic| walk_at "eval Name") => `(tactic| (k_dflt (first | (refine' nmL ?F ?vv ?_ ?a ?b ?c; (case F => assumption); (case a => rfl); (case b => rfl); (case c => decide); (case vv => walk_at "lk")) | (refine' nmC ?F ?o ?d ?l ?_ ?a ?b ?c; (case F => assumption); (case a => rfl); (case b => rfl); (case c => decide); (case l => rfl); (case o => assumption); (case d => assumption)) | (refine' nmG ?F ?X ?T ?e ?_ ?g ?a ?b ?c; (case F => assumption); (case X => assumption); (case T => assumption); (case g => rfl); (case a => rfl); (case b => rfl); (case c => decide); (case e => k_is)) | (refine' nmB ?F ?X ?T ?e ?vv ?n ?_ ?g ?h ?a ?b ?c; (case F => assumption); (case X => assumption); (case T => assumption); (case g => rfl); (case h => rfl); (case a => rfl); (case b => rfl); (case c => decide); (case e => k_is); (case vv => boot_fast); (case n => decide))); k_whole))
theorem fill_T10 : PySem.Challenge.rw_wf0080_01 = PySem.Challenge.rw_wf0080_01 ∧ KM = KM := by
  w_on
  k_fill
  exact ⟨rfl, rfl⟩

local macro_rules | `(tactic| walk_at "storeName") => `(tactic| ((refine' stG ?F ?N ?_ ?a ?b; (case F => assumption); (case N => assumption); (case a => rfl); (case b => rfl)); intro h' tk' F' N'; (try k_sweep); (try dsimp only)))
local macro_rules | `(tactic| walk_at "rng") => `(tactic| first | with_reducible assumption | omega)
local macro_rules | `(tactic| walk_at "im1") => `(tactic| first | exact List.Mem.head _ | exact List.mem_append_left _ (List.Mem.head _) | (refine List.mem_append_right _ ?_; walk_at "im1") | (refine List.Mem.tail _ ?_; walk_at "im1"))
local macro_rules | `(tactic| walk_at "im2") => `(tactic| first | exact List.Mem.head _ | exact List.Mem.tail _ (List.Mem.head _) | exact List.mem_append_left _ (List.Mem.tail _ (List.Mem.head _)) | (refine List.mem_append_right _ ?_; walk_at "im2") | (refine List.Mem.tail _ ?_; walk_at "im2"))
local macro_rules | `(tactic| walk_at "mine") => `(tactic| ((with_reducible show wpAny _ _ (getMethod (Value.ref _) _ _) _ _ _); refine' method_inst ?F ?X ?I ?g ?f ?t ?l ?_; (case F => assumption); (case X => exact Gl.X (by assumption)); (case I => exact InstAt.of_news (by assumption) (by walk_at "im1") (by walk_at "im2")); (case g => k_is); (case f => k_is); (case t => k_is); (case l => k_get)))
local macro_rules | `(tactic| walk_at "mine") => `(tactic| ((with_reducible show Frag.In _ _ ∧ _); refine And.intro (Frag.In.keeps (Gl.X (by assumption)) (Fr.keep (by assumption))) ?_))
local macro_rules | `(tactic| walk_at "mine") => `(tactic| ((with_reducible show wpAny _ _ (call (Value.ref 222) _ _) _ _ _); refine use_c (by assumption) (by assumption) (word_c (Gl.keeps (by assumption) (Fr.keep (by assumption))) (Gd.le (by assumption) (by decide)) (by walk_at "rng") (by walk_at "rng")) ?_; rintro v' h' tk' F' N' e' ⟨t', hv'⟩; (try subst hv'); (try k_sweep); (try dsimp only)))
local macro_rules | `(tactic| walk_at "mine") => `(tactic| ((with_reducible show wpAny _ _ (call (Value.ref 229) _ _) _ _ _); refine use_c (by assumption) (by assumption) (read_c (Gl.keeps (by assumption) (Fr.keep (by assumption))) (Gd.le (by assumption) (by decide)) (by walk_at "rng")) ?_; rintro v' h' tk' F' N' e' ⟨t', hv'⟩; (try subst hv'); (try k_sweep); (try dsimp only)))
local macro_rules | `(tactic| walk_at "mine") => `(tactic| ((with_reducible show wpAny _ _ (subscriptTail _ _ (Value.ref _) (Value.int (-1) _)) _ _ _); refine pickE (News.isList (by assumption) (.head _)) (by assumption) ?_; (try dsimp only)))
local macro_rules | `(tactic| walk_at "mine") => `(tactic| ((with_reducible show wpAny _ _ (subscriptTail _ _ (Value.ref _) (Value.int 0 _)) _ _ _); refine pickV (News.isList (by assumption) (.tail _ (.head _))) (by decide) (by decide) (by assumption) ?_; (try dsimp only)))
theorem py16 {n : Nat} (h : n < 16 ^ 16) : (n : Int).natAbs.log2 < 9000 := by
  rw [Int.natAbs_natCast]
  by_cases h0 : n = 0
  · rw [h0]; decide +kernel
  · exact Nat.lt_trans ((Nat.log2_lt h0 (k := 64)).mpr (Nat.lt_of_lt_of_le h (by decide))) (by decide)
theorem eq_w {prog : Program} {w : World} {A : Around} {E : Value → Shared → Prop} {s : Shared} {n : Nat} {a b : Bool} {t u : Tok} {Q : Value → Shared → Prop} (hn : 0 < n) (h : Q (.bool (a == b)) s) : wpAny (model prog w) A (compareOp .Eq (.str (wS n a) t) (.str (wS n b) u)) Q E s := by
  refine eq_str ?_
  have e : (wS n a == wS n b) = (a == b) := by
    by_cases q : a = b
    · subst q; simp
    · have h1 : ¬ (wS n a = wS n b) := fun e => q ((wS_inj hn).mp e).2
      rw [beq_eq_false_iff_ne.mpr h1, beq_eq_false_iff_ne.mpr q]
  rw [e]; exact h
local macro_rules | `(tactic| walk_at "mine") => `(tactic| ((with_reducible show wpAny _ _ (compareOp CmpOp.Eq (Value.str (wS _ _) _) (Value.str (wS _ _) _)) _ _ _); refine eq_w (by assumption) ?_; (try dsimp only)))
local macro_rules | `(tactic| walk_at "call builtin:str.lower") => `(tactic| ((with_reducible show wpAny _ _ (call _ [Value.str (wS _ _) _]) _ _ _); refine lower_w (by with_reducible assumption) ?_; intro _))
local macro_rules | `(tactic| walk_at "call builtin:str.upper") => `(tactic| ((with_reducible show wpAny _ _ (call _ [Value.str (wS _ _) _]) _ _ _); refine upper_w (by with_reducible assumption) ?_; intro _))
local macro_rules | `(tactic| walk_at "mine") => `(tactic| ((with_reducible show wpAny _ _ (binaryOp Operator.FloorDiv (Value.int _ _) (Value.int _ _)) _ _ _); refine floordiv_int (by assumption) ?_ (Or.inl (PyProof.noPylong_of_log2 (py16 (by with_reducible assumption)))); (try dsimp only)))
theorem run_c {w : World} {mg mb : Str → Option Value} {A : Around} {base h : Heap} {a dx b : Addr} {k : Tok} {rows : List Row} {n : Nat} {x0 : Nat} {t : Tok} (G : Gl w mg mb base) (H : Hid base h (TL w.params a dx b k rows n)) (S : Sep a dx b rows) (gd : Gd 6 A) (hr : ∀ e ∈ rows, RowOk e) (hrn : rows.length ≤ 200) (hB : ∀ y ∈ runF (rows.map abR) 10 x0, 0 < y ∧ y < 16 ^ 16) :
    Cd w A (.call (.ref 269) ⟨[.ref a, .int (x0 : Nat) t], []⟩) (fun v h' => ∃ r o n', v = .ref r ∧ (∃ (ws : List Wd) (c : Nat), o = W.listOf (ws.map wdV).toArray c ∧ ws.map (·.1) = runF (rows.map abR) 10 x0) ∧ RT w.params base h' a dx b k rows n' r o) h := by
  have b0 := hB _ runF_head
  obtain ⟨b00, b01⟩ := b0
  w_on
  have X := G.X
  have T := G.T
  refine' enterHC (n := 5) [("table", .ref a), ("start", .int (x0 : Nat) t)] G H gd ?k6 ?k7 ?k9 ?kB ?kN ?_ ?c2 ?c3 ?c4
  case k6 => k_is
  case k7 => k_is
  case k9 => exact fun s _ => BindsTo.of_eq (by with_unfolding_all rfl)
  case kB => exact rfl
  case kN => decide
  case c2 => exact rfl
  case c3 => exact rfl
  case c4 => exact rfl
  intro L h₁ cells F N hd Y fr G gd g d tk os Q E q
  obtain ⟨o', hE', d1'⟩ := CellsAre.one Y
  subst hE'
  have F : Fr base L h₁ (fun y => if y = Str.ofString "start" then some (.int (x0 : Nat) t) else (fun y => if y = Str.ofString "table" then some (.ref a) else am [] y) y) := F
  rw [am_put, am_put] at F
  have hdd : ∀ p ∈ TL w.params a dx b k rows n, p.1 ≠ L + 1 := fun p hp e => hd _ (.head _) p hp e.symm
  iterate 5 (((fail_if_success (with_reducible show wpAny _ _ (exec (Stmt.While _ _ _ _) _) _ _ _)); (fail_if_success (with_reducible show wpAny _ _ (exec (Stmt.For _ _ _ _ _) _) _ _ _)); (fail_if_success (with_reducible show wpAny _ _ (pyIter _) _ _ _)); (fail_if_success (with_reducible show wpAny _ _ (eval (Expr.ListComp _ _ _ _) _) _ _ _)); (fail_if_success (with_reducible show wpAny _ _ (delItem _ _) _ _ _)); (fail_if_success (with_reducible show wpAny _ _ (setItem _ _ _) _ _ _)); (fail_if_success (with_reducible show wpAny _ _ (compareOp _ (Value.ref _) (Value.ref _)) _ _ _)); (fail_if_success (with_reducible show wpAny _ _ (exec (Stmt.Assign _ (Expr.ListComp _ _ _ _) _) _) _ _ _)); first | walk_at "mine" | walk1 | (dsimp only; walk1)))
  refine make_t G F N (gd.le (by decide)) ?_
  intro aW dW bW kW h2 tk2 F2 N2 d2 S2
  clear F N
  repeat' ((fail_if_success (with_reducible show wpAny _ _ (exec (Stmt.While _ _ _ _) _) _ _ _)); (fail_if_success (with_reducible show wpAny _ _ (exec (Stmt.For _ _ _ _ _) _) _ _ _)); (fail_if_success (with_reducible show wpAny _ _ (pyIter _) _ _ _)); (fail_if_success (with_reducible show wpAny _ _ (eval (Expr.ListComp _ _ _ _) _) _ _ _)); (fail_if_success (with_reducible show wpAny _ _ (delItem _ _) _ _ _)); (fail_if_success (with_reducible show wpAny _ _ (setItem _ _ _) _ _ _)); (fail_if_success (with_reducible show wpAny _ _ (compareOp _ (Value.ref _) (Value.ref _)) _ _ _)); (fail_if_success (with_reducible show wpAny _ _ (exec (Stmt.Assign _ (Expr.ListComp _ _ _ _) _) _) _ _ _)); first | walk_at "mine" | walk1 | (dsimp only; walk1))
  rename_i h3 tk3 F3 N3 e3 t3
  rw [N_great, Int.toNat_natCast]
  refine add_t G F3 N3 d2 S2 (gd.le (by decide)) (by simp) (by decide) (by decide) b00 b01 ?_
  intro rW tW nW h4 tk4 F4 N4 d4 S4
  clear F3 N3
  (try dsimp only)
  repeat' ((fail_if_success (with_reducible show wpAny _ _ (exec (Stmt.While _ _ _ _) _) _ _ _)); (fail_if_success (with_reducible show wpAny _ _ (exec (Stmt.For _ _ _ _ _) _) _ _ _)); (fail_if_success (with_reducible show wpAny _ _ (pyIter _) _ _ _)); (fail_if_success (with_reducible show wpAny _ _ (eval (Expr.ListComp _ _ _ _) _) _ _ _)); (fail_if_success (with_reducible show wpAny _ _ (delItem _ _) _ _ _)); (fail_if_success (with_reducible show wpAny _ _ (setItem _ _ _) _ _ _)); (fail_if_success (with_reducible show wpAny _ _ (compareOp _ (Value.ref _) (Value.ref _)) _ _ _)); (fail_if_success (with_reducible show wpAny _ _ (exec (Stmt.Assign _ (Expr.ListComp _ _ _ _) _) _) _ _ _)); first | walk_at "mine" | walk1 | (dsimp only; walk1))
  refine wpAny_For ?_
  repeat' ((fail_if_success (with_reducible show wpAny _ _ (exec (Stmt.While _ _ _ _) _) _ _ _)); (fail_if_success (with_reducible show wpAny _ _ (exec (Stmt.For _ _ _ _ _) _) _ _ _)); (fail_if_success (with_reducible show wpAny _ _ (pyIter _) _ _ _)); (fail_if_success (with_reducible show wpAny _ _ (eval (Expr.ListComp _ _ _ _) _) _ _ _)); (fail_if_success (with_reducible show wpAny _ _ (delItem _ _) _ _ _)); (fail_if_success (with_reducible show wpAny _ _ (setItem _ _ _) _ _ _)); (fail_if_success (with_reducible show wpAny _ _ (compareOp _ (Value.ref _) (Value.ref _)) _ _ _)); (fail_if_success (with_reducible show wpAny _ _ (exec (Stmt.Assign _ (Expr.ListComp _ _ _ _) _) _) _ _ _)); first | walk_at "mine" | walk1 | (dsimp only; walk1))
  rename_i t1 u1 v1 hr5 F5 N5 st5
  refine it_rangeB (fun i l' news => ∃ rw nW n' oC acc x, news = TL w.params aW dW bW kW rw nW ++ ([(L + 1, oC)] ++ TL w.params a dx b k rows n') ∧ (∃ vc, oC.data = .cell vc) ∧ Apart (TL w.params aW dW bW kW rw nW) ([(L + 1, oC)] ++ TL w.params a dx b k rows n') ∧ (∀ p ∈ TL w.params a dx b k rows n', p.1 ≠ L + 1) ∧ Sep aW dW bW rw ∧ am l' "table" = some (.ref a) ∧ am l' "way" = some (.ref aW) ∧ Way rw (acc ++ [x]) ∧ runF (rows.map abR) 10 x0 = acc ++ runF (rows.map abR) (10 - i) x ∧ acc.length = i)
    (fun l' news => ∃ rw nW n' oC, news = TL w.params aW dW bW kW rw nW ++ ([(L + 1, oC)] ++ TL w.params a dx b k rows n') ∧ Apart (TL w.params aW dW bW kW rw nW) ([(L + 1, oC)] ++ TL w.params a dx b k rows n') ∧ Sep aW dW bW rw ∧ am l' "way" = some (.ref aW) ∧ Way rw (runF (rows.map abR) 10 x0)) (Gd.han (by assumption)) hr5 (by decide) (by decide) F5 N5 ?j0 (fun _ _ => rfl) ?turn ?hJ ?fin
  case j0 => exact ⟨_, nW, n, o', [], x0, rfl, ⟨_, d1'⟩, d4, hdd, S4, am_skip (by kernel_rfl) (am_skip (by kernel_rfl) am_hit), am_hit, ⟨rfl, fun e he => by rw [List.mem_singleton.mp he]⟩, rfl, rfl⟩
  case hJ =>
    rintro l' news ⟨rw, nW, n', oC, acc, x, rfl, hc, hA, hcT, SW, hta, hwa, hW, hrun, hacc⟩
    refine ⟨rw, nW, n', oC, rfl, hA, SW, hwa, ?_⟩
    rw [hrun]; exact hW
  case turn =>
    rintro i u l' news h6 own I hi ⟨rw, nW, n', oC, acc, x, rfl, ⟨vc, hvc⟩, hA, hcT, SW, hta, hwa, hW, hrun, hacc⟩ F6 N6 hnI ⟨hown, oI, hoI⟩ g2 d2 tk2 os2 Q2 E2 q2
    have hb : ∀ y ∈ acc ++ [x], 0 < y ∧ y < 16 ^ 16 := fun y hy => hB y (by
      rw [hrun]
      rcases List.mem_append.mp hy with hy | hy
      · exact List.mem_append_left _ hy
      · rw [List.mem_singleton.mp hy]; exact List.mem_append_right _ runF_head)
    obtain ⟨bx0, bx1⟩ := hb x (List.mem_append_right _ (.head _))
    have hokW := hW.ok hb
    have hlenW : rw.length ≤ 20 := by rw [hW.len, List.length_append, hacc]; simp only [List.length_cons, List.length_nil]; omega
    have hI : ∀ p ∈ own, p.1 = I := hown
    have hAo : Apart (TL w.params aW dW bW kW rw nW) (own ++ ([(L + 1, oC)] ++ TL w.params a dx b k rows n')) := Apart.app (fun p hp q hq => by rw [hI q hq]; exact hnI p (List.mem_append_left _ hp)) hA
    have N7 := News.swap N6
    clear N6
    repeat' ((fail_if_success (with_reducible show wpAny _ _ (exec (Stmt.While _ _ _ _) _) _ _ _)); (fail_if_success (with_reducible show wpAny _ _ (exec (Stmt.For _ _ _ _ _) _) _ _ _)); (fail_if_success (with_reducible show wpAny _ _ (pyIter _) _ _ _)); (fail_if_success (with_reducible show wpAny _ _ (eval (Expr.ListComp _ _ _ _) _) _ _ _)); (fail_if_success (with_reducible show wpAny _ _ (delItem _ _) _ _ _)); (fail_if_success (with_reducible show wpAny _ _ (setItem _ _ _) _ _ _)); (fail_if_success (with_reducible show wpAny _ _ (compareOp _ (Value.ref _) (Value.ref _)) _ _ _)); (fail_if_success (with_reducible show wpAny _ _ (exec (Stmt.Assign _ (Expr.ListComp _ _ _ _) _) _) _ _ _)); first | walk_at "mine" | walk1 | (dsimp only; walk1))
    refine q2 _ _ _ ?_
    intro g3 d3 tk3 os3 Q3 E3 q3
    repeat' ((fail_if_success (with_reducible show wpAny _ _ (exec (Stmt.While _ _ _ _) _) _ _ _)); (fail_if_success (with_reducible show wpAny _ _ (exec (Stmt.For _ _ _ _ _) _) _ _ _)); (fail_if_success (with_reducible show wpAny _ _ (pyIter _) _ _ _)); (fail_if_success (with_reducible show wpAny _ _ (eval (Expr.ListComp _ _ _ _) _) _ _ _)); (fail_if_success (with_reducible show wpAny _ _ (delItem _ _) _ _ _)); (fail_if_success (with_reducible show wpAny _ _ (setItem _ _ _) _ _ _)); (fail_if_success (with_reducible show wpAny _ _ (compareOp _ (Value.ref _) (Value.ref _)) _ _ _)); (fail_if_success (with_reducible show wpAny _ _ (exec (Stmt.Assign _ (Expr.ListComp _ _ _ _) _) _) _ _ _)); first | walk_at "mine" | walk1 | (dsimp only; walk1))
    rename_i F8 N8
    rw [N_small]
    refine getall_t G F8 N8 hAo SW (gd.le (by decide)) hokW (by omega) (by decide) (by decide) ?_
    intro r9 c9 h9 tk9 F9 N9 d9
    rw [hW.all] at N9
    obtain ⟨lx, tx, hlast⟩ := hW.last
    clear F8 N8
    (try dsimp only)
    repeat' ((fail_if_success (with_reducible show wpAny _ _ (exec (Stmt.While _ _ _ _) _) _ _ _)); (fail_if_success (with_reducible show wpAny _ _ (exec (Stmt.For _ _ _ _ _) _) _ _ _)); (fail_if_success (with_reducible show wpAny _ _ (pyIter _) _ _ _)); (fail_if_success (with_reducible show wpAny _ _ (eval (Expr.ListComp _ _ _ _) _) _ _ _)); (fail_if_success (with_reducible show wpAny _ _ (delItem _ _) _ _ _)); (fail_if_success (with_reducible show wpAny _ _ (setItem _ _ _) _ _ _)); (fail_if_success (with_reducible show wpAny _ _ (compareOp _ (Value.ref _) (Value.ref _)) _ _ _)); (fail_if_success (with_reducible show wpAny _ _ (exec (Stmt.Assign _ (Expr.ListComp _ _ _ _) _) _) _ _ _)); first | walk_at "mine" | walk1 | (dsimp only; walk1))
    rename_i h10 tk10 F10 N10 e10 t10
    have hcI : L + 1 ≠ I := hnI (L + 1, oC) (List.mem_append_right _ (.head _))
    have hcr : ∀ p ∈ TL w.params aW dW bW kW rw nW ++ (own ++ TL w.params a dx b k rows n'), p.1 ≠ L + 1 := by
      intro p hp
      rcases List.mem_append.mp hp with hp | hp
      · exact hA p hp (L + 1, oC) (.head _)
      rcases List.mem_append.mp hp with hp | hp
      · rw [hI p hp]; exact hcI.symm
      · exact hcT p hp
    have N11 : News base L h10 ((L + 1, oC) :: (TL w.params aW dW bW kW rw nW ++ (own ++ TL w.params a dx b k rows n'))) := News.mono N10 fun p hp => by
      rcases List.mem_cons.mp hp with rfl | hp
      · exact .tail _ (List.mem_append_right _ (List.mem_append_right _ (.head _)))
      rcases List.mem_append.mp hp with hp | hp
      · exact .tail _ (List.mem_append_left _ hp)
      rcases List.mem_append.mp hp with hp | hp
      · exact .tail _ (List.mem_append_right _ (List.mem_append_left _ hp))
      · exact .tail _ (List.mem_append_right _ (List.mem_append_right _ (.tail _ hp)))
    refine storeX_C (g := fun o' => (L + 1, o') :: (TL w.params aW dW bW kW rw nW ++ (own ++ TL w.params a dx b k rows n'))) F10 N11 rfl (.head hcr) hvc ?_ (by rfl) (by rfl)
    clear N11 N10 F10
    intro h12 oC2 F12 N12 d12
    have N13 : News base L h12 (TL w.params a dx b k rows n' ++ ((L + 1, oC2) :: (TL w.params aW dW bW kW rw nW ++ own))) := News.mono N12 fun p hp => by
      rcases List.mem_append.mp hp with hp | hp
      · exact .tail _ (List.mem_append_right _ (List.mem_append_right _ hp))
      rcases List.mem_cons.mp hp with rfl | hp
      · exact .head _
      rcases List.mem_append.mp hp with hp | hp
      · exact .tail _ (List.mem_append_left _ hp)
      · exact .tail _ (List.mem_append_right _ (List.mem_append_left _ hp))
    have hTo : Apart (TL w.params a dx b k rows n') ((L + 1, oC2) :: (TL w.params aW dW bW kW rw nW ++ own)) := fun p hp q hq => by
      rcases List.mem_cons.mp hq with rfl | hq
      · exact hcT p hp
      rcases List.mem_append.mp hq with hq | hq
      · exact fun e => hA q hq p (.tail _ hp) e.symm
      · rw [hI q hq]; exact hnI p (List.mem_append_right _ (.tail _ hp))
    clear N12
    (try dsimp only)
    have hA2 : Apart (TL w.params aW dW bW kW rw nW) ([(L + 1, oC2)] ++ TL w.params a dx b k rows n') := fun p hp q hq => by
      rcases List.mem_cons.mp hq with rfl | hq
      · exact hA p hp (L + 1, oC) (.head _)
      · exact hA p hp q (.tail _ hq)
    have hmem : ∀ p ∈ TL w.params aW dW bW kW rw nW ++ ([(L + 1, oC2)] ++ TL w.params a dx b k rows n'), p ∈ TL w.params a dx b k rows n' ++ ((L + 1, oC2) :: (TL w.params aW dW bW kW rw nW ++ own)) := fun p hp => by
      rcases List.mem_append.mp hp with hp | hp
      · exact List.mem_append_right _ (.tail _ (List.mem_append_left _ hp))
      rcases List.mem_cons.mp hp with rfl | hp
      · exact List.mem_append_right _ (.head _)
      · exact List.mem_append_left _ hp
    repeat' ((fail_if_success (with_reducible show wpAny _ _ (exec (Stmt.While _ _ _ _) _) _ _ _)); (fail_if_success (with_reducible show wpAny _ _ (exec (Stmt.For _ _ _ _ _) _) _ _ _)); (fail_if_success (with_reducible show wpAny _ _ (pyIter _) _ _ _)); (fail_if_success (with_reducible show wpAny _ _ (eval (Expr.ListComp _ _ _ _) _) _ _ _)); (fail_if_success (with_reducible show wpAny _ _ (delItem _ _) _ _ _)); (fail_if_success (with_reducible show wpAny _ _ (setItem _ _ _) _ _ _)); (fail_if_success (with_reducible show wpAny _ _ (compareOp _ (Value.ref _) (Value.ref _)) _ _ _)); (fail_if_success (with_reducible show wpAny _ _ (exec (Stmt.Assign _ (Expr.ListComp _ _ _ _) _) _) _ _ _)); first | walk_at "mine" | walk1 | (dsimp only; walk1))
    refine lc_openA [(Str.ofString "number", L + 1)] (by with_unfolding_all rfl) (by with_unfolding_all rfl) rfl (by decide) ?_
    repeat' ((fail_if_success (with_reducible show wpAny _ _ (exec (Stmt.While _ _ _ _) _) _ _ _)); (fail_if_success (with_reducible show wpAny _ _ (exec (Stmt.For _ _ _ _ _) _) _ _ _)); (fail_if_success (with_reducible show wpAny _ _ (pyIter _) _ _ _)); (fail_if_success (with_reducible show wpAny _ _ (eval (Expr.ListComp _ _ _ _) _) _ _ _)); (fail_if_success (with_reducible show wpAny _ _ (delItem _ _) _ _ _)); (fail_if_success (with_reducible show wpAny _ _ (setItem _ _ _) _ _ _)); (fail_if_success (with_reducible show wpAny _ _ (compareOp _ (Value.ref _) (Value.ref _)) _ _ _)); (fail_if_success (with_reducible show wpAny _ _ (exec (Stmt.Assign _ (Expr.ListComp _ _ _ _) _) _) _ _ _)); first | walk_at "mine" | walk1 | (dsimp only; walk1))
    refine keys_t G F12 N13 hTo S (gd.le (by decide)) (by omega) ?_
    intro r14 c14 h14 tk14 F14 N14 d14
    clear F12 N13
    have hbL : h14.IsList r14 (rows.map fun e : Row => wdV e.2.1).toArray := News.isList N14 (.head _)
    have hcl : h14.get? (L + 1) = some oC2 := (N14 _ (.tail _ (List.mem_append_right _ (.head _)))).1
    refine lc_list (items := (rows.map fun e : Row => wdV e.2.1).toArray) (fun i => match rows[i]? with | some e => decide (x % e.2.1.1 = 0) | none => false) (fun i y o => o = [] ∧ ∃ e, rows[i]? = some e ∧ y = (fun e : Row => wdV e.2.1) e) (Gd.han (by assumption)) hbL (by simp; omega) (by decide) rfl (fun _ _ => .inl rfl) ?turn3 (lc_finA F14 N14 rfl rfl ?fin3)
    case turn3 =>
      rintro j v hv C hC l15 h15 aux prev F15 N15
      have hv' : ∃ e, rows[j]? = some e ∧ v = wdV e.2.1 := by
        rw [List.getElem?_toArray, List.getElem?_map] at hv
        obtain ⟨e, he, rfl⟩ := Option.map_eq_some_iff.mp hv
        exact ⟨e, he, rfl⟩
      obtain ⟨e, he, rfl⟩ := hv'
      have G14 := G.keeps F14.keep
      have X14 := G14.X
      have T14 := G14.T
      have hre := hr e (List.mem_of_getElem? he)
      obtain ⟨r, ⟨n1, b1, t1⟩, ⟨n2, b2, t2⟩⟩ := e
      have hn0 : 0 < n1 := hre.1.1
      have hn1 : n1 < 16 ^ 16 := hre.1.2
      have hnz : ¬ ((n1 : Int) = 0) := by omega
      dsimp only [wdV]
      refine asgN F15 N15 rfl rfl fun h16 F16 N16 => tst_one ?_
      intro g7 d7 tk7 os7 Q7 E7 q7
      repeat' ((fail_if_success (with_reducible show wpAny _ _ (exec (Stmt.While _ _ _ _) _) _ _ _)); (fail_if_success (with_reducible show wpAny _ _ (exec (Stmt.For _ _ _ _ _) _) _ _ _)); (fail_if_success (with_reducible show wpAny _ _ (pyIter _) _ _ _)); (fail_if_success (with_reducible show wpAny _ _ (eval (Expr.ListComp _ _ _ _) _) _ _ _)); (fail_if_success (with_reducible show wpAny _ _ (delItem _ _) _ _ _)); (fail_if_success (with_reducible show wpAny _ _ (setItem _ _ _) _ _ _)); (fail_if_success (with_reducible show wpAny _ _ (compareOp _ (Value.ref _) (Value.ref _)) _ _ _)); (fail_if_success (with_reducible show wpAny _ _ (exec (Stmt.Assign _ (Expr.ListComp _ _ _ _) _) _) _ _ _)); first | walk_at "mine" | walk1 | (dsimp only; walk1))
      have hm : ((x : Int).fmod (n1 : Int) == 0) = decide (x % n1 = 0) := by
        rw [Int.fmod_eq_emod_of_nonneg _ (by omega), ← Int.natCast_emod]
        by_cases q : x % n1 = 0
        · rw [q]; rfl
        · rw [decide_eq_false q, beq_eq_false_iff_ne]; omega
      rw [hm]
      refine q7 _ _ _ ⟨by rw [he], ?_⟩
      split
      · intro g8 d8 tk8 os8 Q8 E8 q8
        repeat' ((fail_if_success (with_reducible show wpAny _ _ (exec (Stmt.While _ _ _ _) _) _ _ _)); (fail_if_success (with_reducible show wpAny _ _ (exec (Stmt.For _ _ _ _ _) _) _ _ _)); (fail_if_success (with_reducible show wpAny _ _ (pyIter _) _ _ _)); (fail_if_success (with_reducible show wpAny _ _ (eval (Expr.ListComp _ _ _ _) _) _ _ _)); (fail_if_success (with_reducible show wpAny _ _ (delItem _ _) _ _ _)); (fail_if_success (with_reducible show wpAny _ _ (setItem _ _ _) _ _ _)); (fail_if_success (with_reducible show wpAny _ _ (compareOp _ (Value.ref _) (Value.ref _)) _ _ _)); (fail_if_success (with_reducible show wpAny _ _ (exec (Stmt.Assign _ (Expr.ListComp _ _ _ _) _) _) _ _ _)); first | walk_at "mine" | walk1 | (dsimp only; walk1))
        exact q8 _ _ _ ⟨_, [], by assumption, by assumption, (fun _ h => nomatch h), rfl, _, he, rfl⟩
      · exact ⟨_, by assumption, by assumption⟩
    case fin3 =>
      intro D ys own3 c17 h17 tk17 F17 N17 hd17 hS
      obtain ⟨hys, rfl⟩ := Stp.filter (rows := rows) (pr := fun e : Row => decide (x % e.2.1.1 = 0)) (f := fun e : Row => wdV e.2.1) (fun i e he => by rw [he]) (fun i y o h => h) _ (by simp) ys own3 hS
      rw [List.size_toArray, List.length_map, List.take_length] at hys
      subst hys
      (try dsimp only)
      repeat' ((fail_if_success (with_reducible show wpAny _ _ (exec (Stmt.While _ _ _ _) _) _ _ _)); (fail_if_success (with_reducible show wpAny _ _ (exec (Stmt.For _ _ _ _ _) _) _ _ _)); (fail_if_success (with_reducible show wpAny _ _ (pyIter _) _ _ _)); (fail_if_success (with_reducible show wpAny _ _ (eval (Expr.ListComp _ _ _ _) _) _ _ _)); (fail_if_success (with_reducible show wpAny _ _ (delItem _ _) _ _ _)); (fail_if_success (with_reducible show wpAny _ _ (setItem _ _ _) _ _ _)); (fail_if_success (with_reducible show wpAny _ _ (compareOp _ (Value.ref _) (Value.ref _)) _ _ _)); (fail_if_success (with_reducible show wpAny _ _ (exec (Stmt.Assign _ (Expr.ListComp _ _ _ _) _) _) _ _ _)); first | walk_at "mine" | walk1 | (dsimp only; walk1))
      rename_i E18 h18 F18 N18 lt18
      rcases hfind : rows.find? (fun e : Row => decide (x % e.2.1.1 = 0)) with _ | ⟨r1, ⟨n1, b1, t1⟩, ⟨n2, b2, t2⟩⟩
      · have hnil : (rows.filter fun e : Row => decide (x % e.2.1.1 = 0)) = [] := by
          rw [List.filter_eq_nil_iff]
          intro e he
          exact List.find?_eq_none.mp hfind e he
        refine eq_nilD (reads_newData (News.isList N18 (.tail _ (.head _))) (carried_names _)) (lay_names _) (News.isList N18 (.head _)) (Gd.u64 (by assumption)) ?_
        rw [hnil]
        (try dsimp only [List.map_nil, List.isEmpty_nil])
        repeat' ((fail_if_success (with_reducible show wpAny _ _ (exec (Stmt.While _ _ _ _) _) _ _ _)); (fail_if_success (with_reducible show wpAny _ _ (exec (Stmt.For _ _ _ _ _) _) _ _ _)); (fail_if_success (with_reducible show wpAny _ _ (pyIter _) _ _ _)); (fail_if_success (with_reducible show wpAny _ _ (eval (Expr.ListComp _ _ _ _) _) _ _ _)); (fail_if_success (with_reducible show wpAny _ _ (delItem _ _) _ _ _)); (fail_if_success (with_reducible show wpAny _ _ (setItem _ _ _) _ _ _)); (fail_if_success (with_reducible show wpAny _ _ (compareOp _ (Value.ref _) (Value.ref _)) _ _ _)); (fail_if_success (with_reducible show wpAny _ _ (exec (Stmt.Assign _ (Expr.ListComp _ _ _ _) _) _) _ _ _)); first | walk_at "mine" | walk1 | (dsimp only; walk1))
        refine q3 _ _ _ ⟨_, TL w.params aW dW bW kW rw nW ++ ([(L + 1, oC2)] ++ TL w.params a dx b k rows n'), ⟨rw, nW, n', oC2, rfl, hA2, SW, am_skip (by kernel_rfl) (am_skip (by kernel_rfl) hwa), ?way⟩, F18, News.mono N18 fun p hp => .tail _ (.tail _ (.tail _ (hmem p hp)))⟩
        rw [hrun, runF_stop (stepA_rows.trans (by rw [hfind]; rfl))]
        exact hW
      · have hf0 : ((rows.filter fun e : Row => decide (x % e.2.1.1 = 0)).map fun e : Row => wdV e.2.1)[0]? = some (.str (wS n1 b1) t1) := by rw [List.getElem?_map, filter_head, hfind]; rfl
        have hem : (r1, (n1, b1, t1), (n2, b2, t2)) ∈ rows := List.mem_of_find?_eq_some hfind
        have hre := hr _ hem
        have hn0 : 0 < n1 := hre.1.1
        have hn1 : n1 < 16 ^ 16 := hre.1.2
        have hn2 : n2 < 16 ^ 16 := hre.2.2
        have hnz : ¬ ((n1 : Int) = 0) := by omega
        have hE : ((rows.filter fun e : Row => decide (x % e.2.1.1 = 0)).map fun e : Row => PyData.str (wS e.2.1.1 e.2.1.2.1)).isEmpty = false := by
          cases hq : rows.filter fun e : Row => decide (x % e.2.1.1 = 0) with
          | nil => rw [hq] at hf0; cases hf0
          | cons e l => rfl
        refine eq_nilD (reads_newData (News.isList N18 (.tail _ (.head _))) (carried_names _)) (lay_names _) (News.isList N18 (.head _)) (Gd.u64 (by assumption)) ?_
        rw [hE]
        have hst : stepA (rows.map abR) x = some (x / n1 * n2) := by rw [stepA_rows, hfind]; rfl
        have hi' : 10 - i = (10 - (i + 1)) + 1 := by omega
        have hrun2 : runF (rows.map abR) 10 x0 = (acc ++ [x]) ++ runF (rows.map abR) (10 - (i + 1)) (x / n1 * n2) := by
          rw [hrun, hi', runF_go hst, List.append_assoc]
          rfl
        obtain ⟨by0, by1⟩ := hB (x / n1 * n2) (by rw [hrun2]; exact List.mem_append_right _ runF_head)
        have ey : (x : Int).fdiv (n1 : Int) * (n2 : Int) = ((x / n1 * n2 : Nat) : Int) := by
          rw [Int.fdiv_eq_ediv_of_nonneg _ (by omega), ← Int.natCast_ediv, ← Int.natCast_mul]
        have p0 : (0 : Int) < (x : Int).fdiv (n1 : Int) * (n2 : Int) := by rw [ey]; omega
        have p1 : (x : Int).fdiv (n1 : Int) * (n2 : Int) < 16 ^ 16 := by rw [ey]; omega
        have p2 : ((x : Int).fdiv (n1 : Int) * (n2 : Int)).toNat = x / n1 * n2 := by rw [ey]; rfl
        cases b1
        all_goals
          (try dsimp only)
          repeat' ((fail_if_success (with_reducible show wpAny _ _ (exec (Stmt.While _ _ _ _) _) _ _ _)); (fail_if_success (with_reducible show wpAny _ _ (exec (Stmt.For _ _ _ _ _) _) _ _ _)); (fail_if_success (with_reducible show wpAny _ _ (pyIter _) _ _ _)); (fail_if_success (with_reducible show wpAny _ _ (eval (Expr.ListComp _ _ _ _) _) _ _ _)); (fail_if_success (with_reducible show wpAny _ _ (delItem _ _) _ _ _)); (fail_if_success (with_reducible show wpAny _ _ (setItem _ _ _) _ _ _)); (fail_if_success (with_reducible show wpAny _ _ (compareOp _ (Value.ref _) (Value.ref _)) _ _ _)); (fail_if_success (with_reducible show wpAny _ _ (exec (Stmt.Assign _ (Expr.ListComp _ _ _ _) _) _) _ _ _)); first | walk_at "mine" | walk1 | (dsimp only; walk1))
          rename Fr _ _ _ _ => F19
          rename News _ _ _ _ => N19
          have N20 := News.mono N19 (b := TL w.params a dx b k rows n' ++ ((L + 1, oC2) :: (TL w.params aW dW bW kW rw nW ++ own))) fun p hp => .tail _ (.tail _ (.tail _ hp))
          clear N19
          refine get_t G F19 N20 hTo S (gd.le (by decide)) hr (by omega) hn0 hn1 (find_same hfind) ?_
          intro n21 h21 tk21 F21 N21 d21
          clear F19 N20
          dsimp only [wdV]
          repeat' ((fail_if_success (with_reducible show wpAny _ _ (exec (Stmt.While _ _ _ _) _) _ _ _)); (fail_if_success (with_reducible show wpAny _ _ (exec (Stmt.For _ _ _ _ _) _) _ _ _)); (fail_if_success (with_reducible show wpAny _ _ (pyIter _) _ _ _)); (fail_if_success (with_reducible show wpAny _ _ (eval (Expr.ListComp _ _ _ _) _) _ _ _)); (fail_if_success (with_reducible show wpAny _ _ (delItem _ _) _ _ _)); (fail_if_success (with_reducible show wpAny _ _ (setItem _ _ _) _ _ _)); (fail_if_success (with_reducible show wpAny _ _ (compareOp _ (Value.ref _) (Value.ref _)) _ _ _)); (fail_if_success (with_reducible show wpAny _ _ (exec (Stmt.Assign _ (Expr.ListComp _ _ _ _) _) _) _ _ _)); first | walk_at "mine" | walk1 | (dsimp only; walk1))
          rename Fr _ _ _ _ => F22
          rename News _ _ _ _ => N22
          rw [p2]
          (try rw [N_small])
          have hsub := tl_sub (P := w.params) (a := a) (dx := dx) (b := b) (k := k) (n := n') (n' := n21) (rows := rows) (rows' := rows) (fun _ h => h)
          have N23 := News.mono N22 (b := TL w.params aW dW bW kW rw nW ++ (own ++ ([(L + 1, oC2)] ++ TL w.params a dx b k rows n21))) fun p hp => by
            rcases List.mem_append.mp hp with hp | hp
            · exact List.mem_append_right _ (.tail _ (List.mem_append_left _ hp))
            rcases List.mem_append.mp hp with hp | hp
            · exact List.mem_append_right _ (.tail _ (List.mem_append_right _ hp))
            rcases List.mem_cons.mp hp with rfl | hp
            · exact List.mem_append_right _ (.head _)
            · exact List.mem_append_left _ hp
          clear N22
          have hA3 : Apart (TL w.params aW dW bW kW rw nW) (own ++ ([(L + 1, oC2)] ++ TL w.params a dx b k rows n21)) := by
            refine Apart.app (fun p hp q hq => by rw [hI q hq]; exact hnI p (List.mem_append_left _ hp)) fun p hp q hq => ?_
            rcases List.mem_cons.mp hq with rfl | hq
            · exact hA p hp (L + 1, oC) (.head _)
            · obtain ⟨q', hq', e⟩ := hsub q hq
              rw [← e]; exact hA p hp q' (.tail _ hq')
          refine add_t G F22 N23 hA3 SW (gd.le (by decide)) (by omega) (by decide) (by decide) by0 by1 ?_
          intro rX tX nX hX tkX FX NX dX SX
          clear F22 N23
          (try dsimp only)
          repeat' ((fail_if_success (with_reducible show wpAny _ _ (exec (Stmt.While _ _ _ _) _) _ _ _)); (fail_if_success (with_reducible show wpAny _ _ (exec (Stmt.For _ _ _ _ _) _) _ _ _)); (fail_if_success (with_reducible show wpAny _ _ (pyIter _) _ _ _)); (fail_if_success (with_reducible show wpAny _ _ (eval (Expr.ListComp _ _ _ _) _) _ _ _)); (fail_if_success (with_reducible show wpAny _ _ (delItem _ _) _ _ _)); (fail_if_success (with_reducible show wpAny _ _ (setItem _ _ _) _ _ _)); (fail_if_success (with_reducible show wpAny _ _ (compareOp _ (Value.ref _) (Value.ref _)) _ _ _)); (fail_if_success (with_reducible show wpAny _ _ (exec (Stmt.Assign _ (Expr.ListComp _ _ _ _) _) _) _ _ _)); first | walk_at "mine" | walk1 | (dsimp only; walk1))
          rename Fr _ _ _ _ => FY
          rename News _ _ _ _ => NY
          refine q3 _ _ _ ⟨_, TL w.params aW dW bW kW (rw ++ [(rX, (13, true, _), (x / n1 * n2, odd (i : Int), tX))]) nX ++ ([(L + 1, oC2)] ++ TL w.params a dx b k rows n21), ⟨_, nX, n21, oC2, acc ++ [x], x / n1 * n2, rfl, ⟨_, d12⟩, Apart.right dX, fun p hp => ?hc9, SX, am_skip (by kernel_rfl) (am_skip (by kernel_rfl) (am_skip (by kernel_rfl) (am_skip (by kernel_rfl) hta))), am_skip (by kernel_rfl) (am_skip (by kernel_rfl) (am_skip (by kernel_rfl) (am_skip (by kernel_rfl) hwa))), hW.app, hrun2, by rw [List.length_append, hacc]; rfl⟩, FY, News.swap NY, fun p hp => ?ne9⟩
          case hc9 =>
            obtain ⟨q', hq', e⟩ := hsub p hp
            rw [← e]; exact hcT q' hq'
          case ne9 =>
            rcases List.mem_append.mp hp with hp | hp
            · exact dX p hp (I, oI) (List.mem_append_left _ hoI)
            rcases List.mem_cons.mp hp with rfl | hp
            · exact hcI
            · obtain ⟨q', hq', e⟩ := hsub p hp
              rw [← e]; exact hnI q' (List.mem_append_right _ (.tail _ hq'))
  case fin =>
    rintro l' news h6 tk6 ⟨rw, nW, n', oC, rfl, hA, SW, hwa, hW⟩ F6 N6
    have hokW := hW.ok hB
    have hlenW : rw.length ≤ 20 := by
      rw [hW.len]
      exact Nat.le_trans (runF_len _ _ _) (by decide)
    (try dsimp only)
    repeat' ((fail_if_success (with_reducible show wpAny _ _ (exec (Stmt.While _ _ _ _) _) _ _ _)); (fail_if_success (with_reducible show wpAny _ _ (exec (Stmt.For _ _ _ _ _) _) _ _ _)); (fail_if_success (with_reducible show wpAny _ _ (pyIter _) _ _ _)); (fail_if_success (with_reducible show wpAny _ _ (eval (Expr.ListComp _ _ _ _) _) _ _ _)); (fail_if_success (with_reducible show wpAny _ _ (delItem _ _) _ _ _)); (fail_if_success (with_reducible show wpAny _ _ (setItem _ _ _) _ _ _)); (fail_if_success (with_reducible show wpAny _ _ (compareOp _ (Value.ref _) (Value.ref _)) _ _ _)); (fail_if_success (with_reducible show wpAny _ _ (exec (Stmt.Assign _ (Expr.ListComp _ _ _ _) _) _) _ _ _)); first | walk_at "mine" | walk1 | (dsimp only; walk1))
    refine getall_t G F6 N6 hA SW (gd.le (by decide)) hokW (by omega) (by decide) (by decide) ?_
    intro r9 c9 h9 tk9 F9 N9 d9
    rw [hW.all] at N9
    (try dsimp only)
    repeat' ((fail_if_success (with_reducible show wpAny _ _ (exec (Stmt.While _ _ _ _) _) _ _ _)); (fail_if_success (with_reducible show wpAny _ _ (exec (Stmt.For _ _ _ _ _) _) _ _ _)); (fail_if_success (with_reducible show wpAny _ _ (pyIter _) _ _ _)); (fail_if_success (with_reducible show wpAny _ _ (eval (Expr.ListComp _ _ _ _) _) _ _ _)); (fail_if_success (with_reducible show wpAny _ _ (delItem _ _) _ _ _)); (fail_if_success (with_reducible show wpAny _ _ (setItem _ _ _) _ _ _)); (fail_if_success (with_reducible show wpAny _ _ (compareOp _ (Value.ref _) (Value.ref _)) _ _ _)); (fail_if_success (with_reducible show wpAny _ _ (exec (Stmt.Assign _ (Expr.ListComp _ _ _ _) _) _) _ _ _)); first | walk_at "mine" | walk1 | (dsimp only; walk1))
    refine q _ _ _ ⟨r9, _, n', rfl, ⟨rw.map (fun e : Row => e.2.2), c9, ?_, ?_⟩, F9.keep, fun p hp => ⟨(N9 p (.tail _ (List.mem_append_right _ (.tail _ hp)))).1, (N9 p (.tail _ (List.mem_append_right _ (.tail _ hp)))).2.2, d9 p (List.mem_append_right _ (.tail _ hp))⟩, (N9 _ (.head _)).1, (N9 _ (.head _)).2.2⟩
    · rw [List.map_map]; rfl
    · rw [List.map_map]; exact hW.1
end Mine
namespace Mine
section
variable {w : World} {mg mb : Str → Option Value} {A : Around} {h h₀ : Heap} {L a dx b : Addr} {k : Tok} {rows : List Row} {n : Nat} {mm : Str → Option Value} {news : List (Addr × Obj)} {g : Array GenState} {d : Drawn} {tk : Nat} {os : OsState} {x0 : Nat} {t : Tok}
theorem run_t {Q : Value → Shared → Prop} {E : Value → Shared → Prop} (G : Gl w mg mb h₀) (F : Fr h₀ L h mm) (N : News h₀ L h (TL w.params a dx b k rows n ++ news)) (hd : Apart (TL w.params a dx b k rows n) news) (S : Sep a dx b rows) (gd : Gd 6 A) (hr : ∀ e ∈ rows, RowOk e) (hrn : rows.length ≤ 200) (hB : ∀ y ∈ runF (rows.map abR) 10 x0, 0 < y ∧ y < 16 ^ 16)
    (q : ∀ r (ws : List Wd) c n' h' tk', Fr h₀ L h' mm → News h₀ L h' ((r, W.listOf (ws.map wdV).toArray c) :: (TL w.params a dx b k rows n' ++ news)) → (∀ p ∈ TL w.params a dx b k rows n' ++ news, p.1 ≠ r) → ws.map (·.1) = runF (rows.map abR) 10 x0 → Q (.ref r) ⟨h', g, d, tk', os⟩) : wpAny (model prM w) A (call (.ref 269) [.ref a, .int (x0 : Nat) t]) Q E ⟨h, g, d, tk, os⟩ :=
  (run_c (hid_gl G F N) (Hid.of N) S gd hr hrn hB).call.use fun v h' tk' ⟨r, o, n', hv, ⟨ws, c, ho, hws⟩, hk, hT, hr1, hr0⟩ => by
    subst hv ho
    obtain ⟨F', N', d'⟩ := hid_back (own' := (r, W.listOf (ws.map wdV).toArray c) :: TL w.params a dx b k rows n') F N hd hk (fun p hp => by
      rcases List.mem_cons.mp hp with rfl | hp
      · exact ⟨hr1, hr0⟩
      · exact ⟨(hT p hp).1, (hT p hp).2.1⟩)
    refine q r ws c n' h' tk' F' N' (fun p hp => ?_) hws
    rcases List.mem_append.mp hp with hp | hp
    · exact (hT p hp).2.2
    · exact fun e => d' _ (.head _) p hp e.symm
end
noncomputable def frD (r : FA) : PyData := .tuple [.int r.1, .int r.2.1, .bool r.2.2.1, .bool r.2.2.2]
theorem eqv_fr (l : List FA) : PyData.eqv (.list (l.map frD)) (.list (l.map frD)) = true := by
  simp only [PyData.eqv]
  induction l with
  | nil => simp [PyData.eqvAll]
  | cons r l ih =>
    simp only [List.map_cons, PyData.eqvAll, ih, Bool.and_true]
    simp [frD, PyData.eqv, PyData.eqvAll]
theorem lay_fr {l : List FA} : ∀ d ∈ l.map frD, d.canLay0 = true ∧ d.depth ≤ 10 := by
  intro d hd
  obtain ⟨e, _, rfl⟩ := List.mem_map.mp hd
  exact ⟨rfl, by show 1 ≤ 10; decide⟩
theorem reads_fr {h : Heap} : ∀ {fs : List FRow}, (∀ e ∈ fs, h.get? e.1 = some (frO e).2) → ∃ as, ReadsAll h (fs.map frR) ((fs.map abF).map frD) as
  | [], _ => ⟨_, .nil⟩
  | e :: fs, k => by
    obtain ⟨as, ha⟩ := reads_fr fun e he => k e (.tail _ he)
    exact ⟨_, .cons (reads_tuple_at (k e (.head _)) rfl rfl (.cons (.int _ _) (.cons (.int _ _) (.cons (.bool _) (.cons (.bool _) .nil))))) ha⟩
theorem stp_seen {rows : List Row} : ∀ {n ys own}, n ≤ rows.length → Stp (fun _ => true) (fun i y o => ∃ (e : FRow) (r : Row), rows[i]? = some r ∧ abF e = frA (abR r) ∧ y = frR e ∧ o = [frO e]) n ys own → ∃ fs : List FRow, ys = fs.map frR ∧ fs.map abF = ((rows.take n).map abR).map frA ∧ ∀ e ∈ fs, frO e ∈ own
  | 0, _, _, _, h => ⟨[], h.1, rfl, fun _ h => nomatch h⟩
  | n + 1, _, _, hn, h => by
    unfold Stp at h
    rw [if_pos rfl] at h
    obtain ⟨ys', y, own', o, rfl, rfl, hS, e, r, hr, he, rfl, rfl⟩ := h
    obtain ⟨fs, rfl, hx, ho⟩ := stp_seen (by omega) hS
    refine ⟨fs ++ [e], by rw [List.map_append]; rfl, ?_, fun e' he' => ?_⟩
    · rw [List.map_append, hx, List.take_succ, hr, List.map_append, List.map_append]
      show _ ++ [abF e] = _
      rw [he]; rfl
    · rcases List.mem_append.mp he' with he' | he'
      · exact .tail _ (ho e' he')
      · rw [List.mem_singleton.mp he']; exact .head _
theorem stp_lines {xs : List Int} : ∀ {n ys own}, n ≤ xs.length → Stp (fun _ => true) (fun i y o => o = [] ∧ ∃ t, y = Value.str (lineS (xs.getD i 0)) t) n ys own → own = [] ∧ ∃ l : List (Str × Tok), ys = strValues l ∧ l.map (·.1) = (xs.take n).map lineS
  | 0, _, _, _, h => ⟨h.2, [], h.1, rfl⟩
  | n + 1, _, _, hn, h => by
    unfold Stp at h
    rw [if_pos rfl] at h
    obtain ⟨ys', y, own', o, rfl, rfl, hS, rfl, t, rfl⟩ := h
    obtain ⟨rfl, l, rfl, hx⟩ := stp_lines (by omega) hS
    refine ⟨rfl, l ++ [(lineS (xs.getD n 0), t)], by simp [strValues], ?_⟩
    rw [List.map_append, hx, List.take_succ, List.getElem?_eq_getElem (by omega : n < xs.length), List.map_append]
    show _ ++ [lineS (xs.getD n 0)] = _
    rw [List.getD_eq_getElem?_getD, List.getElem?_eq_getElem (by omega : n < xs.length)]
    rfl
theorem stp_read {ns : List Int} : ∀ {n ys own}, n ≤ ns.length → Stp (fun _ => true) (fun i y o => o = [] ∧ ∃ t, y = Value.int (ns.getD i 0) t) n ys own → own = [] ∧ IntsAre ys (ns.take n)
  | 0, _, _, _, h => ⟨h.2, h.1 ▸ .nil⟩
  | n + 1, _, _, hn, h => by
    unfold Stp at h
    rw [if_pos rfl] at h
    obtain ⟨ys', y, own', o, rfl, rfl, hS, rfl, t, rfl⟩ := h
    obtain ⟨rfl, hI⟩ := stp_read (by omega) hS
    refine ⟨rfl, ?_⟩
    rw [List.take_succ, List.getElem?_eq_getElem (by omega : n < ns.length)]
    refine hI.append ?_
    rw [List.getD_eq_getElem?_getD, List.getElem?_eq_getElem (by omega : n < ns.length)]
    exact .cons _ t .nil
/-- what a comprehension over rows of a map gives -/
theorem stp_map {α : Type} {rows : List α} {f : α → Value} {n : Nat} {ys : List Value} {own : List (Addr × Obj)} (hn : n ≤ rows.length) (h : Stp (fun _ => true) (fun i y o => o = [] ∧ ∃ e, rows[i]? = some e ∧ y = f e) n ys own) : ys = (rows.take n).map f ∧ own = [] := by
  obtain ⟨h1, h2⟩ := Stp.filter (rows := rows) (pr := fun _ => true) (f := f) (fun i e he => rfl) (fun i y o h => h) n hn ys own h
  exact ⟨by rw [h1, List.filter_eq_self.mpr (fun _ _ => rfl)], h2⟩
theorem runM_head {ds : List Int} {k : Nat} {f : Int → Int} {now : Int} : (runM ds k f now)[0]? = some (numI f now) := by
  cases hl : lineOf ds now with
  | none => rw [runM_stop hl]; rfl
  | some x =>
    cases k with
    | zero => rfl
    | succ k => rw [runM_go hl]; rfl
end Mine
namespace Mine
local macro_rules | `(tactic| walk_at "storeName") => `(tactic| (k_dflt (refine' stM ?F ?N ?_ ?a ?b; (case F => first | with_reducible assumption | assumption); (case N => first | with_reducible assumption | assumption); (case a => rfl); (case b => rfl); k_whole); intro h' F' N'; (try k_sweep); (try dsimp only)))
local macro_rules | `(tactic| walk_at "subscriptTail") => `(tactic| ((with_reducible show wpAny _ _ (subscriptTail _ _ (Value.ref _) (Value.int _ _)) _ _ _); k_dflt (refine' pickT ?t ?i ?a ?b ?z ?_ ?s; (case t => exact News.isTup (by k_asm) (by k_mem)); (case i => l_ints); (case a => l_idx); (case b => l_idx); (case z => decide); (case s => with_unfolding_all rfl); k_whole); intro t'))
local macro_rules | `(tactic| walk_at "assign Tuple") => `(tactic| ((with_reducible show wpAny _ _ (assign (Expr.Tuple _ _ _) _ (Value.ref _)) _ _ _); k_dflt (refine' unpackN_ ?F ?N ?T ?hh ?k2 ?k3 ?_; (case F => k_asm); (case N => k_asm); (case T => exact News.isTup (by k_asm) (by k_mem)); (case hh => exact Gd.han (by assumption)); (case k2 => exact rfl); (case k3 => exact rfl)); intro h' F' N'; (try k_sweep); (try dsimp only)))
local macro_rules | `(tactic| walk_at "lk") => `(tactic| first | with_reducible exact am_hit | with_reducible exact am_skip (by kernel_rfl) am_hit | with_reducible exact am_skip (by kernel_rfl) (am_skip (by kernel_rfl) am_hit) | (with_reducible refine' am_skip (by kernel_rfl) ?_; walk_at "lk") | assumption)
local macro_rules | `(tactic| walk_at "eval Name") => `(tactic| (k_dflt (first | (refine' nmL ?F ?vv ?_ ?a ?b ?c; (case F => assumption); (case a => rfl); (case b => rfl); (case c => decide); (case vv => walk_at "lk")) | (refine' nmC ?F ?o ?d ?l ?_ ?a ?b ?c; (case F => assumption); (case a => rfl); (case b => rfl); (case c => decide); (case l => rfl); (case o => assumption); (case d => assumption)) | (refine' nmG ?F ?X ?T ?e ?_ ?g ?a ?b ?c; (case F => assumption); (case X => assumption); (case T => assumption); (case g => rfl); (case a => rfl); (case b => rfl); (case c => decide); (case e => k_is)) | (refine' nmB ?F ?X ?T ?e ?vv ?n ?_ ?g ?h ?a ?b ?c; (case F => assumption); (case X => assumption); (case T => assumption); (case g => rfl); (case h => rfl); (case a => rfl); (case b => rfl); (case c => decide); (case e => k_is); (case vv => boot_fast); (case n => decide))); k_whole))
theorem fill_T14 : PySem.Challenge.rw_wf0080_01 = PySem.Challenge.rw_wf0080_01 ∧ KM = KM := by
  w_on
  k_fill
  exact ⟨rfl, rfl⟩

local macro_rules | `(tactic| walk_at "storeName") => `(tactic| ((refine' stG ?F ?N ?_ ?a ?b; (case F => assumption); (case N => assumption); (case a => rfl); (case b => rfl)); intro h' tk' F' N'; (try k_sweep); (try dsimp only)))
local macro_rules | `(tactic| walk_at "mine") => `(tactic| ((with_reducible show wpAny _ _ (assign (Expr.Tuple _ _ _) _ (Value.ref _)) _ _ _); (refine' unpk ?F ?N ?T ?hh ?k2 ?k3 ?_; (case F => assumption); (case N => assumption); (case T => exact News.get (by assumption) (.tail _ (.tail _ (.tail _ (List.mem_append_right _ (.tail _ (by assumption))))))); (case hh => exact Gd.han (by assumption)); (case k2 => exact rfl); (case k3 => exact rfl)); intro h' F' N'; (try k_sweep); (try dsimp only)))
local macro_rules | `(tactic| walk_at "mine") => `(tactic| ((with_reducible show wpAny _ _ (subscriptTail _ _ (Value.ref _) (Value.int _ _)) _ _ _); (refine' pickL ?T ?I ?a ?b ?x ?_; (case T => exact Fr.keep (by assumption) _ _ (by assumption)); (case I => assumption); (case a => omega); (case b => omega); (case x => with_reducible assumption)); intro t'; (try dsimp only)))
local macro_rules | `(tactic| walk_at "mine") => `(tactic| ((with_reducible show Frag.In _ _ ∧ _); refine And.intro (Frag.In.keeps (Gl.X (by assumption)) (Fr.keep (by assumption))) ?_))
local macro_rules | `(tactic| walk_at "mine") => `(tactic| ((with_reducible show wpAny _ _ (subscriptTail _ _ (Value.ref _) (Value.int _ _)) _ _ _); (refine' cnt_item ?N ?p ?d ?k ?_; (case N => assumption); (case p => exact List.Mem.head _); (case d => assumption); (case k => first | decide | assumption)); intro t' tk'; (try dsimp only)))
local macro_rules | `(tactic| walk_at "mine") => `(tactic| ((with_reducible show wpAny _ _ (binaryOp Operator.Pow (Value.int _ _) (Value.int _ _)) _ _ _); refine pow_int_small (by with_reducible assumption) (by omega) (by decide) ?_; (try dsimp only)))
local macro_rules | `(tactic| walk_at "mine") => `(tactic| ((with_reducible show wpAny _ _ (binaryOp Operator.Mult (Value.int _ _) (Value.int _ _)) _ _ _); refine PyProof.Rows.mul_int ?_ (mul_ok (by first | with_reducible assumption | omega)); (try dsimp only)))
local macro_rules | `(tactic| walk_at "mine") => `(tactic| ((with_reducible show wpAny _ _ (subscriptTail _ _ (Value.ref _) (Value.int _ _)) _ _ _); refine' pickW ?F ?T ?a ?b ?c ?e ?_; (case F => assumption); (case T => assumption); (case a => decide); (case b => decide); (case c => exact rfl); (case e => exact rfl)))
local macro_rules | `(tactic| walk_at "mine") => `(tactic| ((with_reducible show wpAny _ _ (subscriptTail _ _ (Value.ref _) (Value.int (-1) _)) _ _ _); refine pickE (News.isList (by assumption) (.tail _ (.tail _ (.head _)))) (by assumption) ?_; (try dsimp only)))
local macro_rules | `(tactic| walk_at "im1") => `(tactic| first | exact List.Mem.head _ | exact List.mem_append_left _ (List.Mem.head _) | (refine List.mem_append_right _ ?_; walk_at "im1") | (refine List.Mem.tail _ ?_; walk_at "im1"))
local macro_rules | `(tactic| walk_at "mine") => `(tactic| ((with_reducible show wpAny _ _ (getMethod (Value.ref _) (PySem.Str.ofString "append") _) _ _ _); refine' listMethod_K ?N ?m PySem.F.slot_list_append PySem.F.type_list_append ?_; (case N => assumption); (case m => walk_at "im1")))
local macro_rules | `(tactic| walk_at "mine") => `(tactic| ((with_reducible show wpAny _ _ (call (Value.ref 236) _ _) _ _ _); refine use_n (by assumption) (by assumption) (told_n (Gl.keeps (by assumption) (Fr.keep (by assumption))) (Gd.le (by assumption) (by decide))) ?_; rintro r' o' h' tk' F' N' e' n' ⟨t1, t2, t3, t4, hv'⟩; (try subst hv'); (try k_sweep); (try dsimp only)))
theorem counted_c {w : World} {mg mb : Str → Option Value} {A : Around} {h : Heap} {ax : Addr} {vs : List Value} {ds : List Int} {c : Nat} (G : Gl w mg mb h) (hax : h.get? ax = some (W.listOf vs.toArray c)) (hI : IntsAre vs ds) (gd : Gd 3 A) (hn : ds.length = 5) :
    Ok w A (call (.ref 284) [.ref ax]) (fun v h' => h.StaysIn h' ∧ ∃ r o, v = .ref r ∧ h.get? r = none ∧ h'.get? r = some o ∧ ∃ (us : List Value) (c : Nat), o = W.listOf us.toArray c ∧ IntsAre us (runM ds 10 (cnt0 ds) 7)) h := by
  have H : Hid h h [] := ⟨fun _ _ e => e, Nat.le_refl _, fun _ h => nomatch h⟩
  refine Cd.call ?_
  w_on
  have X := G.X
  have T := G.T
  refine' enterHC (n := 2) [("draws", .ref ax)] G H gd ?k6 ?k7 ?k9 ?kB ?kN ?_ ?c2 ?c3 ?c4
  case k6 => k_is
  case k7 => k_is
  case k9 => exact fun s _ => BindsTo.of_eq (by with_unfolding_all rfl)
  case kB => exact rfl
  case kN => decide
  case c2 => exact rfl
  case c3 => exact rfl
  case c4 => exact rfl
  intro L h₁ cells F N hd Y fr G gd g d tk os Q E q
  obtain ⟨o', hE', d1'⟩ := CellsAre.one Y
  subst hE'
  have F : Fr h L h₁ (fun y => if y = Str.ofString "draws" then some (.ref ax) else am [] y) := F
  rw [am_put] at F
  have hx4 : ds[((4 : Int)).toNat]? = some (ds.getD 4 0) := by
    show ds[4]? = _
    rw [List.getD_eq_getElem?_getD, List.getElem?_eq_getElem (by omega : 4 < ds.length)]
    rfl
  have hlax : Heap.IsList h ax vs.toArray := ⟨_, hax, rfl, _, rfl⟩
  generalize hz4 : ds.getD 4 0 = z4 at hx4
  iterate 2 (((fail_if_success (with_reducible show wpAny _ _ (exec (Stmt.While _ _ _ _) _) _ _ _)); (fail_if_success (with_reducible show wpAny _ _ (exec (Stmt.For _ _ _ _ _) _) _ _ _)); (fail_if_success (with_reducible show wpAny _ _ (pyIter _) _ _ _)); (fail_if_success (with_reducible show wpAny _ _ (eval (Expr.ListComp _ _ _ _) _) _ _ _)); (fail_if_success (with_reducible show wpAny _ _ (delItem _ _) _ _ _)); (fail_if_success (with_reducible show wpAny _ _ (setItem _ _ _) _ _ _)); (fail_if_success (with_reducible show wpAny _ _ (compareOp _ (Value.ref _) (Value.ref _)) _ _ _)); (fail_if_success (with_reducible show wpAny _ _ (exec (Stmt.Assign _ (Expr.ListComp _ _ _ _) _) _) _ _ _)); first | walk_at "mine" | walk1 | (dsimp only; walk1)))
  refine kdn_int (by rfl) F N G.T.nolimit (by rfl) (by rfl) (List.cons_ne_nil _ _) (by decide) ?_
  intro D h2 o2 F2 N2 lt2 hDs hd2
  repeat' ((fail_if_success (with_reducible show wpAny _ _ (exec (Stmt.While _ _ _ _) _) _ _ _)); (fail_if_success (with_reducible show wpAny _ _ (exec (Stmt.For _ _ _ _ _) _) _ _ _)); (fail_if_success (with_reducible show wpAny _ _ (pyIter _) _ _ _)); (fail_if_success (with_reducible show wpAny _ _ (eval (Expr.ListComp _ _ _ _) _) _ _ _)); (fail_if_success (with_reducible show wpAny _ _ (delItem _ _) _ _ _)); (fail_if_success (with_reducible show wpAny _ _ (setItem _ _ _) _ _ _)); (fail_if_success (with_reducible show wpAny _ _ (compareOp _ (Value.ref _) (Value.ref _)) _ _ _)); (fail_if_success (with_reducible show wpAny _ _ (exec (Stmt.Assign _ (Expr.ListComp _ _ _ _) _) _) _ _ _)); first | walk_at "mine" | walk1 | (dsimp only; walk1))
  rename_i t31 t32 t33 h31 oD hdD hfD h3 F3 N3
  have hD0 : CntO w oD (cnt0 ds) := by subst hz4; exact ⟨_, _, _, hdD⟩
  clear hfD hdD
  have hDc : L + 1 ≠ D := Nat.ne_of_lt (lt2 (L + 1, o') (.head _))
  refine storeX_C F3 N3 rfl (.tail hDc.symm (.head fun _ h => nomatch h)) d1' ?_ (by rfl) (by rfl)
  clear F3 N3
  intro h4 oC F4 N4 dC
  (try dsimp only)
  repeat' ((fail_if_success (with_reducible show wpAny _ _ (exec (Stmt.While _ _ _ _) _) _ _ _)); (fail_if_success (with_reducible show wpAny _ _ (exec (Stmt.For _ _ _ _ _) _) _ _ _)); (fail_if_success (with_reducible show wpAny _ _ (pyIter _) _ _ _)); (fail_if_success (with_reducible show wpAny _ _ (eval (Expr.ListComp _ _ _ _) _) _ _ _)); (fail_if_success (with_reducible show wpAny _ _ (delItem _ _) _ _ _)); (fail_if_success (with_reducible show wpAny _ _ (setItem _ _ _) _ _ _)); (fail_if_success (with_reducible show wpAny _ _ (compareOp _ (Value.ref _) (Value.ref _)) _ _ _)); (fail_if_success (with_reducible show wpAny _ _ (exec (Stmt.Assign _ (Expr.ListComp _ _ _ _) _) _) _ _ _)); first | walk_at "mine" | walk1 | (dsimp only; walk1))
  refine lc_openA [] (by with_unfolding_all rfl) (by with_unfolding_all rfl) rfl (by decide) ?_
  repeat' ((fail_if_success (with_reducible show wpAny _ _ (exec (Stmt.While _ _ _ _) _) _ _ _)); (fail_if_success (with_reducible show wpAny _ _ (exec (Stmt.For _ _ _ _ _) _) _ _ _)); (fail_if_success (with_reducible show wpAny _ _ (pyIter _) _ _ _)); (fail_if_success (with_reducible show wpAny _ _ (eval (Expr.ListComp _ _ _ _) _) _ _ _)); (fail_if_success (with_reducible show wpAny _ _ (delItem _ _) _ _ _)); (fail_if_success (with_reducible show wpAny _ _ (setItem _ _ _) _ _ _)); (fail_if_success (with_reducible show wpAny _ _ (compareOp _ (Value.ref _) (Value.ref _)) _ _ _)); (fail_if_success (with_reducible show wpAny _ _ (exec (Stmt.Assign _ (Expr.ListComp _ _ _ _) _) _) _ _ _)); first | walk_at "mine" | walk1 | (dsimp only; walk1))
  rename_i D5 ws5 h5 F5 N5 hI5 hC5 hL5 l5
  clear hC5 hL5
  have hl5 : (ds.take 4).length = 4 := by rw [List.length_take]; omega
  refine lc_list (items := ws5.toArray) (fun _ => true) (fun i y o => ∃ e : TRow, e.2.1 = (ds.take 4).getD i 0 ∧ y = trR e ∧ o = [trO e]) (Gd.han (by assumption)) (News.isList N5 (.head _)) (by rw [List.size_toArray, hI5.length, hl5]; decide) (by decide) rfl (fun _ _ => .inl rfl) ?turn3 (lc_finA F5 N5 rfl rfl ?fin3)
  case turn3 =>
    rintro j v hv C hC l15 h15 aux prev F15 N15
    have hj : j < (ds.take 4).length := by
      rw [← hI5.length]
      rw [List.getElem?_toArray] at hv
      exact (List.getElem?_eq_some_iff.mp hv).1
    obtain ⟨ty, hty⟩ := hI5.get j (ds.take 4)[j] (List.getElem?_eq_getElem hj)
    have hv' : v = .int ((ds.take 4).getD j 0) ty := by
      rw [List.getElem?_toArray, hty] at hv
      rw [List.getD_eq_getElem?_getD, List.getElem?_eq_getElem hj]
      exact (Option.some.inj hv).symm
    subst hv'
    generalize hy : (ds.take 4).getD j 0 = y at hv ⊢
    have G14 := G.keeps F5.keep
    have X14 := G14.X
    have T14 := G14.T
    refine asgN F15 N15 rfl rfl fun h16 F16 N16 => tst_nil ⟨rfl, ?_⟩
    rw [if_pos rfl]
    intro g8 d8 tk8 os8 Q8 E8 q8
    repeat' ((fail_if_success (with_reducible show wpAny _ _ (exec (Stmt.While _ _ _ _) _) _ _ _)); (fail_if_success (with_reducible show wpAny _ _ (exec (Stmt.For _ _ _ _ _) _) _ _ _)); (fail_if_success (with_reducible show wpAny _ _ (pyIter _) _ _ _)); (fail_if_success (with_reducible show wpAny _ _ (eval (Expr.ListComp _ _ _ _) _) _ _ _)); (fail_if_success (with_reducible show wpAny _ _ (delItem _ _) _ _ _)); (fail_if_success (with_reducible show wpAny _ _ (setItem _ _ _) _ _ _)); (fail_if_success (with_reducible show wpAny _ _ (compareOp _ (Value.ref _) (Value.ref _)) _ _ _)); (fail_if_success (with_reducible show wpAny _ _ (exec (Stmt.Assign _ (Expr.ListComp _ _ _ _) _) _) _ _ _)); first | walk_at "mine" | walk1 | (dsimp only; walk1))
    rename_i r7 h7 tk7 F7 e7 n7 u1 u2 u3 u4 N7
    exact q8 _ _ _ ⟨_, [trO (r7, y, u1, u2, u3, u4)], F7, N7, (fun p hp q hq => by rw [List.mem_singleton.mp hp]; exact fun e => n7 q (List.mem_append_left _ hq) e.symm), ⟨(r7, y, u1, u2, u3, u4), hy.symm, rfl, rfl⟩⟩
  case fin3 =>
    intro K ys own7 c7 h7 tk7 F7 N7 hd7 hS
    rw [List.size_toArray, hI5.length] at hS
    obtain ⟨tl, rfl, htl, hto⟩ := stp_told (Nat.le_refl _) hS
    rw [List.take_length] at htl
    have N8 := News.mono N7 (b := (D, oD) :: (L + 1, oC) :: (K, W.listOf (tl.map trR).toArray c7) :: own7) fun p hp => by
      rcases List.mem_cons.mp hp with rfl | hp
      · exact .tail _ (List.mem_append_right _ (.tail _ (.head _)))
      rcases List.mem_cons.mp hp with rfl | hp
      · exact .tail _ (List.mem_append_right _ (.tail _ (.tail _ (.head _))))
      rcases List.mem_cons.mp hp with rfl | hp
      · exact .head _
      · exact .tail _ (List.mem_append_left _ hp)
    have hLD : ∀ p ∈ (K, W.listOf (tl.map trR).toArray c7) :: own7, p.1 ≠ D ∧ p.1 ≠ L + 1 := fun p hp => ⟨hd7 p hp (D, oD) (.tail _ (.head _)), hd7 p hp (L + 1, oC) (.tail _ (.tail _ (.head _)))⟩
    clear N7
    obtain ⟨⟨b20, b21⟩, ⟨b30, b31⟩, ⟨b50, b51⟩⟩ := cnt0_r ds
    have p3 := pw3 (z := cnt0 ds 3) (by omega)
    have p5 := pw5 (z := cnt0 ds 5) (by omega)
    (try dsimp only)
    repeat' ((fail_if_success (with_reducible show wpAny _ _ (exec (Stmt.While _ _ _ _) _) _ _ _)); (fail_if_success (with_reducible show wpAny _ _ (exec (Stmt.For _ _ _ _ _) _) _ _ _)); (fail_if_success (with_reducible show wpAny _ _ (pyIter _) _ _ _)); (fail_if_success (with_reducible show wpAny _ _ (eval (Expr.ListComp _ _ _ _) _) _ _ _)); (fail_if_success (with_reducible show wpAny _ _ (delItem _ _) _ _ _)); (fail_if_success (with_reducible show wpAny _ _ (setItem _ _ _) _ _ _)); (fail_if_success (with_reducible show wpAny _ _ (compareOp _ (Value.ref _) (Value.ref _)) _ _ _)); (fail_if_success (with_reducible show wpAny _ _ (exec (Stmt.Assign _ (Expr.ListComp _ _ _ _) _) _) _ _ _)); first | walk_at "mine" | walk1 | (dsimp only; walk1))
    refine wpAny_For ?_
    repeat' ((fail_if_success (with_reducible show wpAny _ _ (exec (Stmt.While _ _ _ _) _) _ _ _)); (fail_if_success (with_reducible show wpAny _ _ (exec (Stmt.For _ _ _ _ _) _) _ _ _)); (fail_if_success (with_reducible show wpAny _ _ (pyIter _) _ _ _)); (fail_if_success (with_reducible show wpAny _ _ (eval (Expr.ListComp _ _ _ _) _) _ _ _)); (fail_if_success (with_reducible show wpAny _ _ (delItem _ _) _ _ _)); (fail_if_success (with_reducible show wpAny _ _ (setItem _ _ _) _ _ _)); (fail_if_success (with_reducible show wpAny _ _ (compareOp _ (Value.ref _) (Value.ref _)) _ _ _)); (fail_if_success (with_reducible show wpAny _ _ (exec (Stmt.Assign _ (Expr.ListComp _ _ _ _) _) _) _ _ _)); first | walk_at "mine" | walk1 | (dsimp only; walk1))
    rename_i R h8 F8b N8b lR h9 F9 N9 h10 tk10 t10 u10 v10 hr10 F10 N10 st10
    clear F9 N9 F8b N8b
    have hRD : R ≠ D := Nat.ne_of_gt lR.1
    have hRL : R ≠ L + 1 := Nat.ne_of_gt lR.2.1
    have hRS : ∀ p ∈ (K, W.listOf (tl.map trR).toArray c7) :: own7, p.1 ≠ R := fun p hp => Nat.ne_of_lt (by
      rcases List.mem_cons.mp hp with rfl | hp
      · exact lR.2.2.1
      · exact allLt_all _ lR.2.2.2 p hp)
    generalize hLS : (K, W.listOf (tl.map trR).toArray c7) :: own7 = LS at N10 hLD hRS
    have hKm : (K, W.listOf (tl.map trR).toArray c7) ∈ LS := hLS ▸ List.Mem.head _
    have htm : ∀ e ∈ tl, trO e ∈ LS := fun e he => hLS ▸ List.Mem.tail _ (hto e he)
    have hll : tl.length = 4 := by rw [← List.length_map (f := fun e : TRow => e.2.1), htl, hl5]
    obtain ⟨tX, N10⟩ : ∃ t, News h L h10 ((D, oD) :: (L + 1, oC) :: (R, W.listOf [Value.int (numI (cnt0 ds) 7) t].toArray 0) :: LS) := ⟨_, News.mono N10 fun p hp => by
      rcases List.mem_cons.mp hp with rfl | hp
      · exact .tail _ (.head _)
      rcases List.mem_cons.mp hp with rfl | hp
      · exact .tail _ (.tail _ (.head _))
      rcases List.mem_cons.mp hp with rfl | hp
      · exact .head _
      · exact .tail _ (.tail _ (.tail _ hp))⟩
    refine it_rangeB (fun i l' news => ∃ (f : Int → Int) (now : Int) (oD oC : Obj) (us : List Value) (cR : Nat) (acc : List Int) (tn : Tok), news = (D, oD) :: (L + 1, oC) :: (R, W.listOf us.toArray cR) :: LS ∧ CntO w oD f ∧ oC.data = .cell (some (.int now tn)) ∧ IntsAre us (acc ++ [numI f now]) ∧ runM ds 10 (cnt0 ds) 7 = acc ++ runM ds (10 - i) f now ∧ acc.length = i ∧ CB f i ∧ am l' "counts" = some (.ref D) ∧ am l' "lines" = some (.ref K) ∧ am l' "rows" = some (.ref R))
      (fun l' news => ∃ (us : List Value) (cR : Nat), (R, W.listOf us.toArray cR) ∈ news ∧ IntsAre us (runM ds 10 (cnt0 ds) 7) ∧ am l' "rows" = some (.ref R)) (Gd.han (by assumption)) hr10 (by decide) (by decide) F10 N10 ?j0 (fun _ _ => rfl) ?turn ?hJ ?fin
    case j0 => exact ⟨cnt0 ds, 7, oD, oC, [Value.int (numI (cnt0 ds) 7) tX], 0, [], _, rfl, hD0, dC, .cons _ _ .nil, rfl, rfl, by unfold CB; push_cast; omega, am_skip (by kernel_rfl) (am_skip (by kernel_rfl) am_hit), am_skip (by kernel_rfl) am_hit, am_hit⟩
    case hJ =>
      rintro l' news ⟨f, now, oD, oC, us, cR, acc, tn, rfl, hCD, hoC, hus, hrun, hacc, hcb, hcn, hln, hrw⟩
      exact ⟨us, cR, .tail _ (.tail _ (.head _)), by rw [hrun]; exact hus, hrw⟩
    case turn =>
      rintro i u l' news h11 own I hi ⟨f, now, oD, oC, us, cR, acc, tn, rfl, hCD, hoC, hus, hrun, hacc, hcb, hcn, hln, hrw⟩ F11 N11 hnI ⟨hown, oI, hoI⟩ g2 d2 tk2 os2 Q2 E2 q2
      have hDI : D ≠ I := hnI (D, oD) (.head _)
      have hcI : L + 1 ≠ I := hnI (L + 1, oC) (.tail _ (.head _))
      have hRI : R ≠ I := hnI (R, _) (.tail _ (.tail _ (.head _)))
      have hLI : ∀ p ∈ LS, p.1 ≠ I := fun p hp => hnI p (.tail _ (.tail _ (.tail _ hp)))
      have hsD : ∀ x, ∀ p ∈ own ++ ((R, x) :: LS), p.1 ≠ D ∧ p.1 ≠ L + 1 := fun x p hp => by
        rcases List.mem_append.mp hp with hp | hp
        · rw [hown p hp]; exact ⟨hDI.symm, hcI.symm⟩
        rcases List.mem_cons.mp hp with rfl | hp
        · exact ⟨hRD, hRL⟩
        · exact hLD p hp
      have N12 := News.mono N11 (b := (D, oD) :: (L + 1, oC) :: (own ++ ((R, W.listOf us.toArray cR) :: LS))) fun p hp => by
        rcases List.mem_cons.mp hp with rfl | hp
        · exact List.mem_append_right _ (.head _)
        rcases List.mem_cons.mp hp with rfl | hp
        · exact List.mem_append_right _ (.tail _ (.head _))
        rcases List.mem_append.mp hp with hp | hp
        · exact List.mem_append_left _ hp
        · exact List.mem_append_right _ (.tail _ (.tail _ hp))
      clear N11
      repeat' ((fail_if_success (with_reducible show wpAny _ _ (exec (Stmt.While _ _ _ _) _) _ _ _)); (fail_if_success (with_reducible show wpAny _ _ (exec (Stmt.For _ _ _ _ _) _) _ _ _)); (fail_if_success (with_reducible show wpAny _ _ (pyIter _) _ _ _)); (fail_if_success (with_reducible show wpAny _ _ (eval (Expr.ListComp _ _ _ _) _) _ _ _)); (fail_if_success (with_reducible show wpAny _ _ (delItem _ _) _ _ _)); (fail_if_success (with_reducible show wpAny _ _ (setItem _ _ _) _ _ _)); (fail_if_success (with_reducible show wpAny _ _ (compareOp _ (Value.ref _) (Value.ref _)) _ _ _)); (fail_if_success (with_reducible show wpAny _ _ (exec (Stmt.Assign _ (Expr.ListComp _ _ _ _) _) _) _ _ _)); first | walk_at "mine" | walk1 | (dsimp only; walk1))
      refine q2 _ _ _ ?_
      intro g3 d3 tk3 os3 Q3 E3 q3
      repeat' ((fail_if_success (with_reducible show wpAny _ _ (exec (Stmt.While _ _ _ _) _) _ _ _)); (fail_if_success (with_reducible show wpAny _ _ (exec (Stmt.For _ _ _ _ _) _) _ _ _)); (fail_if_success (with_reducible show wpAny _ _ (pyIter _) _ _ _)); (fail_if_success (with_reducible show wpAny _ _ (eval (Expr.ListComp _ _ _ _) _) _ _ _)); (fail_if_success (with_reducible show wpAny _ _ (delItem _ _) _ _ _)); (fail_if_success (with_reducible show wpAny _ _ (setItem _ _ _) _ _ _)); (fail_if_success (with_reducible show wpAny _ _ (compareOp _ (Value.ref _) (Value.ref _)) _ _ _)); (fail_if_success (with_reducible show wpAny _ _ (exec (Stmt.Assign _ (Expr.ListComp _ _ _ _) _) _) _ _ _)); first | walk_at "mine" | walk1 | (dsimp only; walk1))
      rename Fr _ _ _ _ => F13
      rename News _ _ _ _ => N13
      refine lc_openA [(Str.ofString "now", L + 1)] (by with_unfolding_all rfl) (by with_unfolding_all rfl) rfl (by decide) ?_
      repeat' ((fail_if_success (with_reducible show wpAny _ _ (exec (Stmt.While _ _ _ _) _) _ _ _)); (fail_if_success (with_reducible show wpAny _ _ (exec (Stmt.For _ _ _ _ _) _) _ _ _)); (fail_if_success (with_reducible show wpAny _ _ (pyIter _) _ _ _)); (fail_if_success (with_reducible show wpAny _ _ (eval (Expr.ListComp _ _ _ _) _) _ _ _)); (fail_if_success (with_reducible show wpAny _ _ (delItem _ _) _ _ _)); (fail_if_success (with_reducible show wpAny _ _ (setItem _ _ _) _ _ _)); (fail_if_success (with_reducible show wpAny _ _ (compareOp _ (Value.ref _) (Value.ref _)) _ _ _)); (fail_if_success (with_reducible show wpAny _ _ (exec (Stmt.Assign _ (Expr.ListComp _ _ _ _) _) _) _ _ _)); first | walk_at "mine" | walk1 | (dsimp only; walk1))
      have hcl13 := (N13 _ (.tail _ (.head _))).1
      refine lc_list (items := (tl.map trR).toArray) (fun j => match tl[j]? with | some e => decide (stF e.2.1 = now) | none => false) (fun j y o => o = [] ∧ ∃ e, tl[j]? = some e ∧ y = trR e) (Gd.han (by assumption)) (News.isList N13 (.tail _ (.tail _ (List.mem_append_right _ (.tail _ hKm))))) (by rw [List.size_toArray, List.length_map, hll]; decide) (by decide) rfl (fun _ _ => .inl rfl) ?turn4 (lc_finA F13 N13 rfl rfl ?fin4)
      case turn4 =>
        rintro j v hv C hC l15 h15 aux prev F15 N15
        have hv' : ∃ e, tl[j]? = some e ∧ v = trR e := by
          rw [List.getElem?_toArray, List.getElem?_map] at hv
          obtain ⟨e, he, rfl⟩ := Option.map_eq_some_iff.mp hv
          exact ⟨e, he, rfl⟩
        obtain ⟨e, he, rfl⟩ := hv'
        have hT := (N13 _ (.tail _ (.tail _ (List.mem_append_right _ (.tail _ (htm e (List.mem_of_getElem? he))))))).1
        obtain ⟨ea, ex, e1, e2, e3, e4⟩ := e
        dsimp only [trO, trR] at hT ⊢
        have G14 := G.keeps F13.keep
        have X14 := G14.X
        have T14 := G14.T
        refine asgN F15 N15 rfl rfl fun h16 F16 N16 => tst_one ?_
        intro g7 d7 tk7 os7 Q7 E7 q7
        repeat' ((fail_if_success (with_reducible show wpAny _ _ (exec (Stmt.While _ _ _ _) _) _ _ _)); (fail_if_success (with_reducible show wpAny _ _ (exec (Stmt.For _ _ _ _ _) _) _ _ _)); (fail_if_success (with_reducible show wpAny _ _ (pyIter _) _ _ _)); (fail_if_success (with_reducible show wpAny _ _ (eval (Expr.ListComp _ _ _ _) _) _ _ _)); (fail_if_success (with_reducible show wpAny _ _ (delItem _ _) _ _ _)); (fail_if_success (with_reducible show wpAny _ _ (setItem _ _ _) _ _ _)); (fail_if_success (with_reducible show wpAny _ _ (compareOp _ (Value.ref _) (Value.ref _)) _ _ _)); (fail_if_success (with_reducible show wpAny _ _ (exec (Stmt.Assign _ (Expr.ListComp _ _ _ _) _) _) _ _ _)); first | walk_at "mine" | walk1 | (dsimp only; walk1))
        rename Fr _ _ _ _ => F18
        rename News _ _ _ _ => N18
        refine q7 _ _ _ ⟨by rw [he]; rfl, ?_⟩
        split
        · intro g8 d8 tk8 os8 Q8 E8 q8
          repeat' ((fail_if_success (with_reducible show wpAny _ _ (exec (Stmt.While _ _ _ _) _) _ _ _)); (fail_if_success (with_reducible show wpAny _ _ (exec (Stmt.For _ _ _ _ _) _) _ _ _)); (fail_if_success (with_reducible show wpAny _ _ (pyIter _) _ _ _)); (fail_if_success (with_reducible show wpAny _ _ (eval (Expr.ListComp _ _ _ _) _) _ _ _)); (fail_if_success (with_reducible show wpAny _ _ (delItem _ _) _ _ _)); (fail_if_success (with_reducible show wpAny _ _ (setItem _ _ _) _ _ _)); (fail_if_success (with_reducible show wpAny _ _ (compareOp _ (Value.ref _) (Value.ref _)) _ _ _)); (fail_if_success (with_reducible show wpAny _ _ (exec (Stmt.Assign _ (Expr.ListComp _ _ _ _) _) _) _ _ _)); first | walk_at "mine" | walk1 | (dsimp only; walk1))
          exact q8 _ _ _ ⟨_, [], by assumption, by assumption, (fun _ h => nomatch h), rfl, _, he, rfl⟩
        · exact ⟨_, F18, N18⟩
      case fin4 =>
        intro D17 ys own17 c17 h17 tk17 F17 N17 hd17 hS
        obtain ⟨hys, rfl⟩ := Stp.filter (rows := tl) (pr := fun e : TRow => decide (stF e.2.1 = now)) (f := trR) (fun i e he => by rw [he]) (fun i y o h => h) _ (by simp) ys own17 hS
        rw [List.size_toArray, List.length_map, List.take_length] at hys
        subst hys
        have hll17 := line_last (now := now) htl
        (try dsimp only)
        repeat' ((fail_if_success (with_reducible show wpAny _ _ (exec (Stmt.While _ _ _ _) _) _ _ _)); (fail_if_success (with_reducible show wpAny _ _ (exec (Stmt.For _ _ _ _ _) _) _ _ _)); (fail_if_success (with_reducible show wpAny _ _ (pyIter _) _ _ _)); (fail_if_success (with_reducible show wpAny _ _ (eval (Expr.ListComp _ _ _ _) _) _ _ _)); (fail_if_success (with_reducible show wpAny _ _ (delItem _ _) _ _ _)); (fail_if_success (with_reducible show wpAny _ _ (setItem _ _ _) _ _ _)); (fail_if_success (with_reducible show wpAny _ _ (compareOp _ (Value.ref _) (Value.ref _)) _ _ _)); (fail_if_success (with_reducible show wpAny _ _ (exec (Stmt.Assign _ (Expr.ListComp _ _ _ _) _) _) _ _ _)); first | walk_at "mine" | walk1 | (dsimp only; walk1))
        rename Fr _ _ _ _ => F18
        rename News _ _ _ _ => N18
        obtain ⟨as18, hR18⟩ := reads_told (tl := tl.filter fun e : TRow => decide (stF e.2.1 = now)) fun e he => (N18 (trO e) (.tail _ (.tail _ (.tail _ (.tail _ (List.mem_append_right _ (.tail _ (htm e (List.mem_filter.mp he).1)))))))).1
        refine eq_nilD (reads_list_at (News.get N18 (.tail _ (.head _))) rfl rfl hR18) lay_told (News.isList N18 (.head _)) (Gd.u64 (by assumption)) ?_
        rcases hfind : (tl.filter fun e : TRow => decide (stF e.2.1 = now)).getLast? with _ | ⟨ea, x, e1, e2, e3, e4⟩
        · have hnil := List.getLast?_eq_none_iff.mp hfind
          rw [hnil]
          (try dsimp only [List.map_nil, List.isEmpty_nil])
          repeat' ((fail_if_success (with_reducible show wpAny _ _ (exec (Stmt.While _ _ _ _) _) _ _ _)); (fail_if_success (with_reducible show wpAny _ _ (exec (Stmt.For _ _ _ _ _) _) _ _ _)); (fail_if_success (with_reducible show wpAny _ _ (pyIter _) _ _ _)); (fail_if_success (with_reducible show wpAny _ _ (eval (Expr.ListComp _ _ _ _) _) _ _ _)); (fail_if_success (with_reducible show wpAny _ _ (delItem _ _) _ _ _)); (fail_if_success (with_reducible show wpAny _ _ (setItem _ _ _) _ _ _)); (fail_if_success (with_reducible show wpAny _ _ (compareOp _ (Value.ref _) (Value.ref _)) _ _ _)); (fail_if_success (with_reducible show wpAny _ _ (exec (Stmt.Assign _ (Expr.ListComp _ _ _ _) _) _) _ _ _)); first | walk_at "mine" | walk1 | (dsimp only; walk1))
          refine q3 _ _ _ ⟨_, [(R, W.listOf us.toArray cR)], ⟨us, cR, .head _, ?run9, am_skip (by kernel_rfl) (am_skip (by kernel_rfl) hrw)⟩, F18, fun p hp => N18 p ?mm⟩
          case run9 =>
            rw [hrun, runM_stop (by rw [hll17, hfind]; rfl)]
            exact hus
          case mm =>
            rw [List.mem_singleton.mp hp]
            exact .tail _ (.tail _ (.tail _ (.tail _ (List.mem_append_right _ (.head _)))))
        · have hem : (ea, x, e1, e2, e3, e4) ∈ tl := (List.mem_filter.mp (List.mem_of_getLast? hfind)).1
          have hTe : (ea, tupO [.int (stF x) e1, .int (cnF x) e2, .int (afF x) e3, .int (otF x) e4, .bool (moF x)]) ∈ LS := htm _ hem
          have hline : lineOf ds now = some x := by rw [hll17, hfind]; rfl
          have hlast : ((tl.filter fun e : TRow => decide (stF e.2.1 = now)).map trR).getLast? = some (.ref ea) := by rw [List.getLast?_map, hfind]; rfl
          have hE : ((tl.filter fun e : TRow => decide (stF e.2.1 = now)).map trD).isEmpty = false := by
            cases hq : tl.filter fun e : TRow => decide (stF e.2.1 = now) with
            | nil => rw [hq] at hfind; cases hfind
            | cons e l => rfl
          rw [hE]
          have hi' : 10 - i = (10 - (i + 1)) + 1 := by omega
          have hk := cn_mem x
          have hfk := hcb.at hk
          have hA1 : (afF x).natAbs < 2 ^ 64 := by have := af_r x; omega
          have hA2 : (otF x).natAbs < 2 ^ 64 := by have := ot_r x; omega
          have N19 := News.mono N18 (b := (D, oD) :: (L + 1, oC) :: (D17, W.listOf ((tl.filter fun e : TRow => decide (stF e.2.1 = now)).map trR).toArray c17) :: (own ++ ((R, W.listOf us.toArray cR) :: LS))) fun p hp => by
            rcases List.mem_cons.mp hp with rfl | hp
            · exact .tail _ (.tail _ (.head _))
            rcases List.mem_cons.mp hp with rfl | hp
            · exact .tail _ (.tail _ (.tail _ (.head _)))
            rcases List.mem_cons.mp hp with rfl | hp
            · exact .tail _ (.head _)
            · exact .tail _ (.tail _ (.tail _ (.tail _ hp)))
          have hDr : ∀ p ∈ (L + 1, oC) :: (D17, W.listOf ((tl.filter fun e : TRow => decide (stF e.2.1 = now)).map trR).toArray c17) :: (own ++ ((R, W.listOf us.toArray cR) :: LS)), p.1 ≠ D := fun p hp => by
            rcases List.mem_cons.mp hp with rfl | hp
            · exact hDc
            rcases List.mem_cons.mp hp with rfl | hp
            · exact hd17 _ (.head _) (D, oD) (.head _)
            · exact (hsD _ p hp).1
          have hLr : ∀ p ∈ (D17, W.listOf ((tl.filter fun e : TRow => decide (stF e.2.1 = now)).map trR).toArray c17) :: (own ++ ((R, W.listOf us.toArray cR) :: LS)), p.1 ≠ L + 1 := fun p hp => by
            rcases List.mem_cons.mp hp with rfl | hp
            · exact hd17 _ (.head _) (L + 1, oC) (.tail _ (.head _))
            · exact (hsD _ p hp).2
          clear N18
          (try dsimp only)
          repeat' ((fail_if_success (with_reducible show wpAny _ _ (exec (Stmt.While _ _ _ _) _) _ _ _)); (fail_if_success (with_reducible show wpAny _ _ (exec (Stmt.For _ _ _ _ _) _) _ _ _)); (fail_if_success (with_reducible show wpAny _ _ (pyIter _) _ _ _)); (fail_if_success (with_reducible show wpAny _ _ (eval (Expr.ListComp _ _ _ _) _) _ _ _)); (fail_if_success (with_reducible show wpAny _ _ (delItem _ _) _ _ _)); (fail_if_success (with_reducible show wpAny _ _ (setItem _ _ _) _ _ _)); (fail_if_success (with_reducible show wpAny _ _ (compareOp _ (Value.ref _) (Value.ref _)) _ _ _)); (fail_if_success (with_reducible show wpAny _ _ (exec (Stmt.Assign _ (Expr.ListComp _ _ _ _) _) _) _ _ _)); first | walk_at "mine" | walk1 | (dsimp only; walk1))
          · have hM : moF x = true := by assumption
            rename Fr _ _ _ _ => F20
            rename News _ _ _ _ => N20
            refine cnt_set F20 N20 (.head hDr) hCD hk ?_
            clear F20 N20
            intro h21 oD2 tk21 F21 N21 hCD2
            (try dsimp only)
            repeat' ((fail_if_success (with_reducible show wpAny _ _ (exec (Stmt.While _ _ _ _) _) _ _ _)); (fail_if_success (with_reducible show wpAny _ _ (exec (Stmt.For _ _ _ _ _) _) _ _ _)); (fail_if_success (with_reducible show wpAny _ _ (pyIter _) _ _ _)); (fail_if_success (with_reducible show wpAny _ _ (eval (Expr.ListComp _ _ _ _) _) _ _ _)); (fail_if_success (with_reducible show wpAny _ _ (delItem _ _) _ _ _)); (fail_if_success (with_reducible show wpAny _ _ (setItem _ _ _) _ _ _)); (fail_if_success (with_reducible show wpAny _ _ (compareOp _ (Value.ref _) (Value.ref _)) _ _ _)); (fail_if_success (with_reducible show wpAny _ _ (exec (Stmt.Assign _ (Expr.ListComp _ _ _ _) _) _) _ _ _)); first | walk_at "mine" | walk1 | (dsimp only; walk1))
            refine storeX_C F21 N21 rfl (.tail hDc.symm (.head hLr)) hoC ?_ (by rfl) (by rfl)
            clear F21 N21
            intro h22 oC2 F22 N22 hoC2
            have hcb2 : CB (upd f (cnF x) (f (cnF x) + 1)) (i + 1) := hcb.put (by omega)
            have hcb3 := hcb2
            obtain ⟨⟨b20, b21⟩, ⟨b30, b31⟩, ⟨b50, b51⟩⟩ := hcb3
            have p3 := pw3 (z := (upd f (cnF x) (f (cnF x) + 1)) 3) (by omega)
            have p5 := pw5 (z := (upd f (cnF x) (f (cnF x) + 1)) 5) (by omega)
            (try dsimp only)
            repeat' ((fail_if_success (with_reducible show wpAny _ _ (exec (Stmt.While _ _ _ _) _) _ _ _)); (fail_if_success (with_reducible show wpAny _ _ (exec (Stmt.For _ _ _ _ _) _) _ _ _)); (fail_if_success (with_reducible show wpAny _ _ (pyIter _) _ _ _)); (fail_if_success (with_reducible show wpAny _ _ (eval (Expr.ListComp _ _ _ _) _) _ _ _)); (fail_if_success (with_reducible show wpAny _ _ (delItem _ _) _ _ _)); (fail_if_success (with_reducible show wpAny _ _ (setItem _ _ _) _ _ _)); (fail_if_success (with_reducible show wpAny _ _ (compareOp _ (Value.ref _) (Value.ref _)) _ _ _)); (fail_if_success (with_reducible show wpAny _ _ (exec (Stmt.Assign _ (Expr.ListComp _ _ _ _) _) _) _ _ _)); first | walk_at "mine" | walk1 | (dsimp only; walk1))
            rename Fr _ _ _ _ => F23
            rename News _ _ _ _ => N23
            refine appF (vs := us) (n := cR) (fun z => own ++ ((D, oD2) :: (L + 1, oC2) :: (R, W.listOf (us ++ [z]).toArray (cR + 1)) :: LS)) F23 N23 (.tail _ (.tail _ (.tail _ (List.mem_append_right _ (.head _))))) (by rw [hus.length, List.length_append, hacc]; simp only [List.length_cons, List.length_nil]; omega) (fun z p hp => ?hb1) ?_
            case hb1 =>
              rcases List.mem_append.mp hp with hp | hp
              · exact .inr ⟨.tail _ (.tail _ (.tail _ (List.mem_append_left _ hp))), by rw [hown p hp]; exact hRI.symm⟩
              rcases List.mem_cons.mp hp with rfl | hp
              · exact .inr ⟨.head _, hRD.symm⟩
              rcases List.mem_cons.mp hp with rfl | hp
              · exact .inr ⟨.tail _ (.head _), hRL.symm⟩
              rcases List.mem_cons.mp hp with rfl | hp
              · exact .inl rfl
              · exact .inr ⟨.tail _ (.tail _ (.tail _ (List.mem_append_right _ (.tail _ hp)))), hRS p hp⟩
            clear F23 N23
            intro h24 F24 N24
            (try dsimp only)
            repeat' ((fail_if_success (with_reducible show wpAny _ _ (exec (Stmt.While _ _ _ _) _) _ _ _)); (fail_if_success (with_reducible show wpAny _ _ (exec (Stmt.For _ _ _ _ _) _) _ _ _)); (fail_if_success (with_reducible show wpAny _ _ (pyIter _) _ _ _)); (fail_if_success (with_reducible show wpAny _ _ (eval (Expr.ListComp _ _ _ _) _) _ _ _)); (fail_if_success (with_reducible show wpAny _ _ (delItem _ _) _ _ _)); (fail_if_success (with_reducible show wpAny _ _ (setItem _ _ _) _ _ _)); (fail_if_success (with_reducible show wpAny _ _ (compareOp _ (Value.ref _) (Value.ref _)) _ _ _)); (fail_if_success (with_reducible show wpAny _ _ (exec (Stmt.Assign _ (Expr.ListComp _ _ _ _) _) _) _ _ _)); first | walk_at "mine" | walk1 | (dsimp only; walk1))
            have hsm : stepM x f = (upd f (cnF x) (f (cnF x) + 1), afF x) := by unfold stepM; rw [hM, if_pos rfl]
            obtain ⟨tz, N24⟩ : ∃ tz, News h L h24 (own ++ ((D, oD2) :: (L + 1, oC2) :: (R, W.listOf (us ++ [Value.int (numI (upd f (cnF x) (f (cnF x) + 1)) (afF x)) tz]).toArray (cR + 1)) :: LS)) := ⟨_, N24⟩
            refine q3 _ _ _ ⟨_, (D, oD2) :: (L + 1, oC2) :: (R, W.listOf (us ++ [Value.int (numI (upd f (cnF x) (f (cnF x) + 1)) (afF x)) tz]).toArray (cR + 1)) :: LS, ⟨upd f (cnF x) (f (cnF x) + 1), afF x, oD2, oC2, us ++ [Value.int (numI (upd f (cnF x) (f (cnF x) + 1)) (afF x)) tz], cR + 1, acc ++ [numI f now], _, rfl, hCD2, hoC2, hus.append (.cons _ _ .nil), ?hrun91, by rw [List.length_append, hacc]; rfl, hcb2, am_skip (by kernel_rfl) (am_skip (by kernel_rfl) (am_skip (by kernel_rfl) (am_skip (by kernel_rfl) (am_skip (by kernel_rfl) (am_skip (by kernel_rfl) (am_skip (by kernel_rfl) (hcn))))))), am_skip (by kernel_rfl) (am_skip (by kernel_rfl) (am_skip (by kernel_rfl) (am_skip (by kernel_rfl) (am_skip (by kernel_rfl) (am_skip (by kernel_rfl) (am_skip (by kernel_rfl) (hln))))))), am_skip (by kernel_rfl) (am_skip (by kernel_rfl) (am_skip (by kernel_rfl) (am_skip (by kernel_rfl) (am_skip (by kernel_rfl) (am_skip (by kernel_rfl) (am_skip (by kernel_rfl) (hrw)))))))⟩, F24, N24, fun p hp => ?ne91⟩
            case hrun91 =>
              rw [hrun, hi', runM_go hline, hsm, List.append_assoc]
              rfl
            case ne91 =>
              rcases List.mem_cons.mp hp with rfl | hp
              · exact hDI
              rcases List.mem_cons.mp hp with rfl | hp
              · exact hcI
              rcases List.mem_cons.mp hp with rfl | hp
              · exact hRI
              · exact hLI p hp
          · have hM : moF x = false := by assumption
            have hP : 0 < f (cnF x) := by omega
            rename Fr _ _ _ _ => F20
            rename News _ _ _ _ => N20
            refine cnt_set F20 N20 (.head hDr) hCD hk ?_
            clear F20 N20
            intro h21 oD2 tk21 F21 N21 hCD2
            (try dsimp only)
            repeat' ((fail_if_success (with_reducible show wpAny _ _ (exec (Stmt.While _ _ _ _) _) _ _ _)); (fail_if_success (with_reducible show wpAny _ _ (exec (Stmt.For _ _ _ _ _) _) _ _ _)); (fail_if_success (with_reducible show wpAny _ _ (pyIter _) _ _ _)); (fail_if_success (with_reducible show wpAny _ _ (eval (Expr.ListComp _ _ _ _) _) _ _ _)); (fail_if_success (with_reducible show wpAny _ _ (delItem _ _) _ _ _)); (fail_if_success (with_reducible show wpAny _ _ (setItem _ _ _) _ _ _)); (fail_if_success (with_reducible show wpAny _ _ (compareOp _ (Value.ref _) (Value.ref _)) _ _ _)); (fail_if_success (with_reducible show wpAny _ _ (exec (Stmt.Assign _ (Expr.ListComp _ _ _ _) _) _) _ _ _)); first | walk_at "mine" | walk1 | (dsimp only; walk1))
            refine storeX_C F21 N21 rfl (.tail hDc.symm (.head hLr)) hoC ?_ (by rfl) (by rfl)
            clear F21 N21
            intro h22 oC2 F22 N22 hoC2
            have hcb2 : CB (upd f (cnF x) (f (cnF x) - 1)) (i + 1) := hcb.put (by omega)
            have hcb3 := hcb2
            obtain ⟨⟨b20, b21⟩, ⟨b30, b31⟩, ⟨b50, b51⟩⟩ := hcb3
            have p3 := pw3 (z := (upd f (cnF x) (f (cnF x) - 1)) 3) (by omega)
            have p5 := pw5 (z := (upd f (cnF x) (f (cnF x) - 1)) 5) (by omega)
            (try dsimp only)
            repeat' ((fail_if_success (with_reducible show wpAny _ _ (exec (Stmt.While _ _ _ _) _) _ _ _)); (fail_if_success (with_reducible show wpAny _ _ (exec (Stmt.For _ _ _ _ _) _) _ _ _)); (fail_if_success (with_reducible show wpAny _ _ (pyIter _) _ _ _)); (fail_if_success (with_reducible show wpAny _ _ (eval (Expr.ListComp _ _ _ _) _) _ _ _)); (fail_if_success (with_reducible show wpAny _ _ (delItem _ _) _ _ _)); (fail_if_success (with_reducible show wpAny _ _ (setItem _ _ _) _ _ _)); (fail_if_success (with_reducible show wpAny _ _ (compareOp _ (Value.ref _) (Value.ref _)) _ _ _)); (fail_if_success (with_reducible show wpAny _ _ (exec (Stmt.Assign _ (Expr.ListComp _ _ _ _) _) _) _ _ _)); first | walk_at "mine" | walk1 | (dsimp only; walk1))
            rename Fr _ _ _ _ => F23
            rename News _ _ _ _ => N23
            refine appF (vs := us) (n := cR) (fun z => own ++ ((D, oD2) :: (L + 1, oC2) :: (R, W.listOf (us ++ [z]).toArray (cR + 1)) :: LS)) F23 N23 (.tail _ (.tail _ (.tail _ (List.mem_append_right _ (.head _))))) (by rw [hus.length, List.length_append, hacc]; simp only [List.length_cons, List.length_nil]; omega) (fun z p hp => ?hb2) ?_
            case hb2 =>
              rcases List.mem_append.mp hp with hp | hp
              · exact .inr ⟨.tail _ (.tail _ (.tail _ (List.mem_append_left _ hp))), by rw [hown p hp]; exact hRI.symm⟩
              rcases List.mem_cons.mp hp with rfl | hp
              · exact .inr ⟨.head _, hRD.symm⟩
              rcases List.mem_cons.mp hp with rfl | hp
              · exact .inr ⟨.tail _ (.head _), hRL.symm⟩
              rcases List.mem_cons.mp hp with rfl | hp
              · exact .inl rfl
              · exact .inr ⟨.tail _ (.tail _ (.tail _ (List.mem_append_right _ (.tail _ hp)))), hRS p hp⟩
            clear F23 N23
            intro h24 F24 N24
            (try dsimp only)
            repeat' ((fail_if_success (with_reducible show wpAny _ _ (exec (Stmt.While _ _ _ _) _) _ _ _)); (fail_if_success (with_reducible show wpAny _ _ (exec (Stmt.For _ _ _ _ _) _) _ _ _)); (fail_if_success (with_reducible show wpAny _ _ (pyIter _) _ _ _)); (fail_if_success (with_reducible show wpAny _ _ (eval (Expr.ListComp _ _ _ _) _) _ _ _)); (fail_if_success (with_reducible show wpAny _ _ (delItem _ _) _ _ _)); (fail_if_success (with_reducible show wpAny _ _ (setItem _ _ _) _ _ _)); (fail_if_success (with_reducible show wpAny _ _ (compareOp _ (Value.ref _) (Value.ref _)) _ _ _)); (fail_if_success (with_reducible show wpAny _ _ (exec (Stmt.Assign _ (Expr.ListComp _ _ _ _) _) _) _ _ _)); first | walk_at "mine" | walk1 | (dsimp only; walk1))
            have hsm : stepM x f = (upd f (cnF x) (f (cnF x) - 1), afF x) := by unfold stepM; rw [hM, if_neg Bool.false_ne_true, if_pos hP]
            obtain ⟨tz, N24⟩ : ∃ tz, News h L h24 (own ++ ((D, oD2) :: (L + 1, oC2) :: (R, W.listOf (us ++ [Value.int (numI (upd f (cnF x) (f (cnF x) - 1)) (afF x)) tz]).toArray (cR + 1)) :: LS)) := ⟨_, N24⟩
            refine q3 _ _ _ ⟨_, (D, oD2) :: (L + 1, oC2) :: (R, W.listOf (us ++ [Value.int (numI (upd f (cnF x) (f (cnF x) - 1)) (afF x)) tz]).toArray (cR + 1)) :: LS, ⟨upd f (cnF x) (f (cnF x) - 1), afF x, oD2, oC2, us ++ [Value.int (numI (upd f (cnF x) (f (cnF x) - 1)) (afF x)) tz], cR + 1, acc ++ [numI f now], _, rfl, hCD2, hoC2, hus.append (.cons _ _ .nil), ?hrun92, by rw [List.length_append, hacc]; rfl, hcb2, am_skip (by kernel_rfl) (am_skip (by kernel_rfl) (am_skip (by kernel_rfl) (am_skip (by kernel_rfl) (am_skip (by kernel_rfl) (am_skip (by kernel_rfl) (am_skip (by kernel_rfl) (hcn))))))), am_skip (by kernel_rfl) (am_skip (by kernel_rfl) (am_skip (by kernel_rfl) (am_skip (by kernel_rfl) (am_skip (by kernel_rfl) (am_skip (by kernel_rfl) (am_skip (by kernel_rfl) (hln))))))), am_skip (by kernel_rfl) (am_skip (by kernel_rfl) (am_skip (by kernel_rfl) (am_skip (by kernel_rfl) (am_skip (by kernel_rfl) (am_skip (by kernel_rfl) (am_skip (by kernel_rfl) (hrw)))))))⟩, F24, N24, fun p hp => ?ne92⟩
            case hrun92 =>
              rw [hrun, hi', runM_go hline, hsm, List.append_assoc]
              rfl
            case ne92 =>
              rcases List.mem_cons.mp hp with rfl | hp
              · exact hDI
              rcases List.mem_cons.mp hp with rfl | hp
              · exact hcI
              rcases List.mem_cons.mp hp with rfl | hp
              · exact hRI
              · exact hLI p hp
          · have hM : moF x = false := by assumption
            have hP : ¬ 0 < f (cnF x) := by omega
            rename Fr _ _ _ _ => F21
            rename News _ _ _ _ => N21
            have hCD2 := hCD
            refine storeX_C F21 N21 rfl (.tail hDc.symm (.head hLr)) hoC ?_ (by rfl) (by rfl)
            clear F21 N21
            intro h22 oC2 F22 N22 hoC2
            have hcb2 : CB (f) (i + 1) := hcb.up
            have hcb3 := hcb2
            obtain ⟨⟨b20, b21⟩, ⟨b30, b31⟩, ⟨b50, b51⟩⟩ := hcb3
            have p3 := pw3 (z := (f) 3) (by omega)
            have p5 := pw5 (z := (f) 5) (by omega)
            (try dsimp only)
            repeat' ((fail_if_success (with_reducible show wpAny _ _ (exec (Stmt.While _ _ _ _) _) _ _ _)); (fail_if_success (with_reducible show wpAny _ _ (exec (Stmt.For _ _ _ _ _) _) _ _ _)); (fail_if_success (with_reducible show wpAny _ _ (pyIter _) _ _ _)); (fail_if_success (with_reducible show wpAny _ _ (eval (Expr.ListComp _ _ _ _) _) _ _ _)); (fail_if_success (with_reducible show wpAny _ _ (delItem _ _) _ _ _)); (fail_if_success (with_reducible show wpAny _ _ (setItem _ _ _) _ _ _)); (fail_if_success (with_reducible show wpAny _ _ (compareOp _ (Value.ref _) (Value.ref _)) _ _ _)); (fail_if_success (with_reducible show wpAny _ _ (exec (Stmt.Assign _ (Expr.ListComp _ _ _ _) _) _) _ _ _)); first | walk_at "mine" | walk1 | (dsimp only; walk1))
            rename Fr _ _ _ _ => F23
            rename News _ _ _ _ => N23
            refine appF (vs := us) (n := cR) (fun z => own ++ ((D, oD) :: (L + 1, oC2) :: (R, W.listOf (us ++ [z]).toArray (cR + 1)) :: LS)) F23 N23 (.tail _ (.tail _ (.tail _ (List.mem_append_right _ (.head _))))) (by rw [hus.length, List.length_append, hacc]; simp only [List.length_cons, List.length_nil]; omega) (fun z p hp => ?hb3) ?_
            case hb3 =>
              rcases List.mem_append.mp hp with hp | hp
              · exact .inr ⟨.tail _ (.tail _ (.tail _ (List.mem_append_left _ hp))), by rw [hown p hp]; exact hRI.symm⟩
              rcases List.mem_cons.mp hp with rfl | hp
              · exact .inr ⟨.head _, hRD.symm⟩
              rcases List.mem_cons.mp hp with rfl | hp
              · exact .inr ⟨.tail _ (.head _), hRL.symm⟩
              rcases List.mem_cons.mp hp with rfl | hp
              · exact .inl rfl
              · exact .inr ⟨.tail _ (.tail _ (.tail _ (List.mem_append_right _ (.tail _ hp)))), hRS p hp⟩
            clear F23 N23
            intro h24 F24 N24
            (try dsimp only)
            repeat' ((fail_if_success (with_reducible show wpAny _ _ (exec (Stmt.While _ _ _ _) _) _ _ _)); (fail_if_success (with_reducible show wpAny _ _ (exec (Stmt.For _ _ _ _ _) _) _ _ _)); (fail_if_success (with_reducible show wpAny _ _ (pyIter _) _ _ _)); (fail_if_success (with_reducible show wpAny _ _ (eval (Expr.ListComp _ _ _ _) _) _ _ _)); (fail_if_success (with_reducible show wpAny _ _ (delItem _ _) _ _ _)); (fail_if_success (with_reducible show wpAny _ _ (setItem _ _ _) _ _ _)); (fail_if_success (with_reducible show wpAny _ _ (compareOp _ (Value.ref _) (Value.ref _)) _ _ _)); (fail_if_success (with_reducible show wpAny _ _ (exec (Stmt.Assign _ (Expr.ListComp _ _ _ _) _) _) _ _ _)); first | walk_at "mine" | walk1 | (dsimp only; walk1))
            have hsm : stepM x f = (f, otF x) := by unfold stepM; rw [hM, if_neg Bool.false_ne_true, if_neg hP]
            obtain ⟨tz, N24⟩ : ∃ tz, News h L h24 (own ++ ((D, oD) :: (L + 1, oC2) :: (R, W.listOf (us ++ [Value.int (numI (f) (otF x)) tz]).toArray (cR + 1)) :: LS)) := ⟨_, N24⟩
            refine q3 _ _ _ ⟨_, (D, oD) :: (L + 1, oC2) :: (R, W.listOf (us ++ [Value.int (numI (f) (otF x)) tz]).toArray (cR + 1)) :: LS, ⟨f, otF x, oD, oC2, us ++ [Value.int (numI (f) (otF x)) tz], cR + 1, acc ++ [numI f now], _, rfl, hCD2, hoC2, hus.append (.cons _ _ .nil), ?hrun93, by rw [List.length_append, hacc]; rfl, hcb2, am_skip (by kernel_rfl) (am_skip (by kernel_rfl) (am_skip (by kernel_rfl) (am_skip (by kernel_rfl) (am_skip (by kernel_rfl) (am_skip (by kernel_rfl) (am_skip (by kernel_rfl) (hcn))))))), am_skip (by kernel_rfl) (am_skip (by kernel_rfl) (am_skip (by kernel_rfl) (am_skip (by kernel_rfl) (am_skip (by kernel_rfl) (am_skip (by kernel_rfl) (am_skip (by kernel_rfl) (hln))))))), am_skip (by kernel_rfl) (am_skip (by kernel_rfl) (am_skip (by kernel_rfl) (am_skip (by kernel_rfl) (am_skip (by kernel_rfl) (am_skip (by kernel_rfl) (am_skip (by kernel_rfl) (hrw)))))))⟩, F24, N24, fun p hp => ?ne93⟩
            case hrun93 =>
              rw [hrun, hi', runM_go hline, hsm, List.append_assoc]
              rfl
            case ne93 =>
              rcases List.mem_cons.mp hp with rfl | hp
              · exact hDI
              rcases List.mem_cons.mp hp with rfl | hp
              · exact hcI
              rcases List.mem_cons.mp hp with rfl | hp
              · exact hRI
              · exact hLI p hp
    case fin =>
      rintro l' news h11 tk11 ⟨us, cR, hm, hus, hrw⟩ F11 N11
      (try dsimp only)
      repeat' ((fail_if_success (with_reducible show wpAny _ _ (exec (Stmt.While _ _ _ _) _) _ _ _)); (fail_if_success (with_reducible show wpAny _ _ (exec (Stmt.For _ _ _ _ _) _) _ _ _)); (fail_if_success (with_reducible show wpAny _ _ (pyIter _) _ _ _)); (fail_if_success (with_reducible show wpAny _ _ (eval (Expr.ListComp _ _ _ _) _) _ _ _)); (fail_if_success (with_reducible show wpAny _ _ (delItem _ _) _ _ _)); (fail_if_success (with_reducible show wpAny _ _ (setItem _ _ _) _ _ _)); (fail_if_success (with_reducible show wpAny _ _ (compareOp _ (Value.ref _) (Value.ref _)) _ _ _)); (fail_if_success (with_reducible show wpAny _ _ (exec (Stmt.Assign _ (Expr.ListComp _ _ _ _) _) _) _ _ _)); first | walk_at "mine" | walk1 | (dsimp only; walk1))
      exact q _ _ _ ⟨F11.keep, R, _, rfl, (N11 _ hm).2.2, (N11 _ hm).1, us, cR, rfl, hus⟩
end Mine
namespace Mine
local macro_rules | `(tactic| walk_at "storeName") => `(tactic| (k_dflt (refine' stM ?F ?N ?_ ?a ?b; (case F => first | with_reducible assumption | assumption); (case N => first | with_reducible assumption | assumption); (case a => rfl); (case b => rfl); k_whole); intro h' F' N'; (try k_sweep); (try dsimp only)))
local macro_rules | `(tactic| walk_at "subscriptTail") => `(tactic| ((with_reducible show wpAny _ _ (subscriptTail _ _ (Value.ref _) (Value.int _ _)) _ _ _); k_dflt (refine' pickT ?t ?i ?a ?b ?z ?_ ?s; (case t => exact News.isTup (by k_asm) (by k_mem)); (case i => l_ints); (case a => l_idx); (case b => l_idx); (case z => decide); (case s => with_unfolding_all rfl); k_whole); intro t'))
local macro_rules | `(tactic| walk_at "assign Tuple") => `(tactic| ((with_reducible show wpAny _ _ (assign (Expr.Tuple _ _ _) _ (Value.ref _)) _ _ _); k_dflt (refine' unpackN_ ?F ?N ?T ?hh ?k2 ?k3 ?_; (case F => k_asm); (case N => k_asm); (case T => exact News.isTup (by k_asm) (by k_mem)); (case hh => exact Gd.han (by assumption)); (case k2 => exact rfl); (case k3 => exact rfl)); intro h' F' N'; (try k_sweep); (try dsimp only)))
local macro_rules | `(tactic| walk_at "lk") => `(tactic| first | with_reducible exact am_hit | with_reducible exact am_skip (by kernel_rfl) am_hit | with_reducible exact am_skip (by kernel_rfl) (am_skip (by kernel_rfl) am_hit) | (with_reducible refine' am_skip (by kernel_rfl) ?_; walk_at "lk") | assumption)
local macro_rules | `(tactic| walk_at "eval Name") => `(tactic| (k_dflt (first | (refine' nmL ?F ?vv ?_ ?a ?b ?c; (case F => assumption); (case a => rfl); (case b => rfl); (case c => decide); (case vv => walk_at "lk")) | (refine' nmC ?F ?o ?d ?l ?_ ?a ?b ?c; (case F => assumption); (case a => rfl); (case b => rfl); (case c => decide); (case l => rfl); (case o => assumption); (case d => assumption)) | (refine' nmG ?F ?X ?T ?e ?_ ?g ?a ?b ?c; (case F => assumption); (case X => assumption); (case T => assumption); (case g => rfl); (case a => rfl); (case b => rfl); (case c => decide); (case e => k_is)) | (refine' nmB ?F ?X ?T ?e ?vv ?n ?_ ?g ?h ?a ?b ?c; (case F => assumption); (case X => assumption); (case T => assumption); (case g => rfl); (case h => rfl); (case a => rfl); (case b => rfl); (case c => decide); (case e => k_is); (case vv => boot_fast); (case n => decide))); k_whole))
theorem fill_T15 : PySem.Challenge.rw_wf0080_01 = PySem.Challenge.rw_wf0080_01 ∧ KM = KM := by
  w_on
  k_fill
  exact ⟨rfl, rfl⟩

local macro_rules | `(tactic| walk_at "storeName") => `(tactic| ((refine' stG ?F ?N ?_ ?a ?b; (case F => assumption); (case N => assumption); (case a => rfl); (case b => rfl)); intro h' tk' F' N'; (try k_sweep); (try dsimp only)))
local macro_rules | `(tactic| walk_at "mine") => `(tactic| ((with_reducible show Frag.In _ _ ∧ _); refine And.intro (Frag.In.keeps (Gl.X (by assumption)) (Fr.keep (by assumption))) ?_))
local macro_rules | `(tactic| walk_at "im1") => `(tactic| first | exact List.Mem.head _ | exact List.mem_append_left _ (List.Mem.head _) | (refine List.mem_append_right _ ?_; walk_at "im1") | (refine List.Mem.tail _ ?_; walk_at "im1"))
local macro_rules | `(tactic| walk_at "im2") => `(tactic| first | exact List.Mem.head _ | exact List.Mem.tail _ (List.Mem.head _) | exact List.mem_append_left _ (List.Mem.tail _ (List.Mem.head _)) | (refine List.mem_append_right _ ?_; walk_at "im2") | (refine List.Mem.tail _ ?_; walk_at "im2"))
local macro_rules | `(tactic| walk_at "mine") => `(tactic| ((with_reducible show wpAny _ _ (getMethod (Value.ref _) _ _) _ _ _); refine' method_inst ?F ?X ?I ?g ?f ?t ?l ?_; (case F => assumption); (case X => exact Gl.X (by assumption)); (case I => exact InstAt.of_news (by assumption) (by walk_at "im1") (by walk_at "im2")); (case g => k_is); (case f => k_is); (case t => k_is); (case l => k_get)))
local macro_rules | `(tactic| walk_at "mine") => `(tactic| ((with_reducible show wpAny _ _ (subscriptTail _ _ (Value.ref _) (Value.int _ _)) _ _ _); (refine' pickL ?T ?I ?a ?b ?x ?_; (case T => exact News.get (by assumption) (.head _)); (case I => assumption); (case a => decide); (case b => decide); (case x => assumption)); intro t'; (try dsimp only)))
local macro_rules | `(tactic| walk_at "mine") => `(tactic| ((with_reducible show wpAny _ _ (subscriptTail _ _ (Value.ref _) (Value.int _ _)) _ _ _); refine' pickW ?F ?T ?a ?b ?c ?e ?_; (case F => assumption); (case T => assumption); (case a => decide); (case b => decide); (case c => exact rfl); (case e => exact rfl)))
theorem eq_lo {prog : Program} {w : World} {A : Around} {E : Value → Shared → Prop} {s : Shared} {n : Nat} {a : Bool} {t u : Tok} {Q : Value → Shared → Prop} (hn : 0 < n) (h : Q (.bool a) s) : wpAny (model prog w) A (compareOp .Eq (.str (wS n a) t) (.str (wS n true) u)) Q E s :=
  eq_w hn (by cases a <;> exact h)
local macro_rules | `(tactic| walk_at "mine") => `(tactic| ((with_reducible show wpAny _ _ (compareOp CmpOp.Eq (Value.str (wS _ _) _) (Value.str (wS _ _) _)) _ _ _); refine eq_lo (by assumption) ?_; (try dsimp only)))
local macro_rules | `(tactic| walk_at "call builtin:str.lower") => `(tactic| ((with_reducible show wpAny _ _ (call _ [Value.str (wS _ _) _]) _ _ _); refine lower_w (by with_reducible assumption) ?_; intro _))
local macro_rules | `(tactic| walk_at "mine") => `(tactic| ((with_reducible show wpAny _ _ (call (Value.ref 243) _ _) _ _ _); refine use_c (by assumption) (by assumption) (line_c (Gl.keeps (by assumption) (Fr.keep (by assumption))) (Gd.le (by assumption) (by decide))) ?_; rintro v' h' tk' F' N' e' ⟨t', hv'⟩; (try subst hv'); (try k_sweep); (try dsimp only)))
local macro_rules | `(tactic| walk_at "mine") => `(tactic| ((with_reducible show wpAny _ _ (call (Value.ref 229) _ _) _ _ _); refine use_c (by assumption) (by assumption) (read_c (Gl.keeps (by assumption) (Fr.keep (by assumption))) (Gd.le (by assumption) (by decide)) (by with_reducible assumption)) ?_; rintro v' h' tk' F' N' e' ⟨t', hv'⟩; (try subst hv'); (try k_sweep); (try dsimp only)))
theorem SeqAt_shaped_fr {l : List FA} : SeqAt.shaped (.list (l.map frD)) = true := shp_list lay_fr
theorem gd_law (n : Str) (sc : Scope) (L f : Addr) (c : Value) : Gd 9 (callerA.deeper (envOf n sc L f c)) := ⟨rfl, (by show callerA.depth + 1 + 9 < recursionLimit; decide), (by show callerA.units + 3 + 100 * 9 < cLine; decide)⟩
theorem gd_in {w : World} {n : Str} {sc : Scope} {L f : Addr} {c : Value} {t : Sem Flow} {P : Flow → Heap → Prop} {h : Heap} (x : Gd 9 (callerA.deeper (envOf n sc L f c)) → Ok w (callerA.deeper (envOf n sc L f c)) t P h) : Ok w (callerA.deeper (envOf n sc L f c)) t P h := x (gd_law n sc L f c)
theorem lawend : PySem.Challenge.rw_wf0080_01.Holds := by
  w_on
  refine holds_law Mine.said1 fun said => ?_
  refine holds_open (q := Mine.qv) (loose := Mine.looseM) (Xt := fun s => xlAt Mine.qv [] s && recOk (RowW.records Mine.rM) s) (XP := XL Mine.qv []) (Yf := Hook.obs Mine.hookM) (Ya := Hook.val Mine.hookM) (YP := Hook.says Mine.hookM) (N := 6030) Mine.left1 (Hook.of Mine.hookM) (Hook.keeps Mine.hookM) (fun s e => xl_of s (Bool.and_eq_true_iff.mp e).1) XL.keeps (by rfl) (by rfl) (by rfl) (fun s e => recFacts_of (Bool.and_eq_true_iff.mp e).2) (by rfl) (by first | assumption | decide +kernel) (by decide +kernel) ⟨rfl, rfl, rfl, rfl, rfl, by decide +kernel⟩ ?hw ?hc
  case hw => w_witness2
  case hc =>
    k_fill
    intro w s₀ s₁ mg mb G0 Y0 fa o0 pm cd doc dV kV ho0 hd0 hcd0 hD0 hmg0 hg0 args vals as hpre hlay hrd hwl hlo
    have KX := kIn_of Y0
    refine Ground.open G0 ?_
    intro T B0 D0 TE TW
    clear D0
    obtain ⟨_, _, he, M0⟩ := based_of_top T rfl hmg0 ho0 hd0
    have he' : cd = _ := he
    subst he'
    clear he hmg0
    wrow_args hpre hlay hrd hwl hlo
    refine enter_call ?_
    w_top on
    refine codeAny_mono ?_ fun _ _ g => GoodW.toG g
    w_call any ho0 hd0 hcd0 hD0 T F0
    k_drop
    rename_i z1 z2 ns hs0 hlay0 hL0 hr0 hl20 z4 z5 ax vs z6 hlax ra0 w10 r0 hI hr10 hlen ht0 h₁ N0
    have G : Gl w mg mb s₁.heap := ⟨KX, topRead_of T⟩
    clear G0 Y0 B0 TE TW hcd0 hd0 hs0 hlay0 hr0 hl20 ra0 w10 r0 hr10 ht0 hD0 ho0
    dsimp only at F0 ⊢
    refine Ok.use (P := fun fl h' => fl = .ret (.bool true) ∧ s₁.heap.StaysIn h') ?walk ?fin
    case fin =>
      rintro _ h' tk' ⟨rfl, hk⟩
      refine ⟨.inl ⟨_, .bool true, [], rfl, fun cls => ?hn, .bool true, ?hp, fun _ => ⟨.nil, fun _ ha => nomatch ha⟩⟩, hk, rfl, hg0⟩
      case hn => rfl
      case hp => kernel_rfl
    case walk =>
      have X := G.X
      have T' := G.T
      have F : Fr s₁.heap s₁.heap.objs.size h₁ (am [(Str.ofString "script", Value.ref ax)]) := F0
      have N := N0
      clear F0 N0 T hL0
      have fr : s₁.heap.get? s₁.heap.objs.size = none := by
        cases e : s₁.heap.get? s₁.heap.objs.size with
        | none => rfl
        | some o => exact absurd (Heap.lt_size e) (Nat.lt_irrefl _)
      refine gd_in ?_
      intro gd g d tk os Q E q
      repeat' ((fail_if_success (with_reducible show wpAny _ _ (exec (Stmt.While _ _ _ _) _) _ _ _)); (fail_if_success (with_reducible show wpAny _ _ (exec (Stmt.For _ _ _ _ _) _) _ _ _)); (fail_if_success (with_reducible show wpAny _ _ (pyIter _) _ _ _)); (fail_if_success (with_reducible show wpAny _ _ (eval (Expr.ListComp _ _ _ _) _) _ _ _)); (fail_if_success (with_reducible show wpAny _ _ (delItem _ _) _ _ _)); (fail_if_success (with_reducible show wpAny _ _ (setItem _ _ _) _ _ _)); (fail_if_success (with_reducible show wpAny _ _ (compareOp _ (Value.ref _) (Value.ref _)) _ _ _)); (fail_if_success (with_reducible show wpAny _ _ (exec (Stmt.Assign _ (Expr.ListComp _ _ _ _) _) _) _ _ _)); (fail_if_success (with_reducible show wpAny _ _ (call (Value.ref _) _ _) _ _ _)); first | walk_at "mine" | walk1 | (dsimp only; walk1))
      refine use_n F N (drawn_c (G.keeps F.keep) (isl_keep hlax F.keep) hI (gd.le (by decide)) (by omega)) ?_
      rintro C0 _ h2 tk2 F2 N2 e2 n2 ⟨us, ds, c2, rfl, hds, hl5⟩
      obtain ⟨x0, x1, x2, x3, x4, rfl⟩ : ∃ x0 x1 x2 x3 x4, ds = [x0, x1, x2, x3, x4] := by
        match ds, hl5 with
        | [x0, x1, x2, x3, x4], _ => exact ⟨x0, x1, x2, x3, x4, rfl⟩
      clear F N hI hlax
      (try dsimp only)
      repeat' ((fail_if_success (with_reducible show wpAny _ _ (exec (Stmt.While _ _ _ _) _) _ _ _)); (fail_if_success (with_reducible show wpAny _ _ (exec (Stmt.For _ _ _ _ _) _) _ _ _)); (fail_if_success (with_reducible show wpAny _ _ (pyIter _) _ _ _)); (fail_if_success (with_reducible show wpAny _ _ (eval (Expr.ListComp _ _ _ _) _) _ _ _)); (fail_if_success (with_reducible show wpAny _ _ (delItem _ _) _ _ _)); (fail_if_success (with_reducible show wpAny _ _ (setItem _ _ _) _ _ _)); (fail_if_success (with_reducible show wpAny _ _ (compareOp _ (Value.ref _) (Value.ref _)) _ _ _)); (fail_if_success (with_reducible show wpAny _ _ (exec (Stmt.Assign _ (Expr.ListComp _ _ _ _) _) _) _ _ _)); (fail_if_success (with_reducible show wpAny _ _ (call (Value.ref _) _ _) _ _ _)); first | walk_at "mine" | walk1 | (dsimp only; walk1))
      refine lc_open [] (by with_unfolding_all rfl) rfl (by decide) ?_
      repeat' ((fail_if_success (with_reducible show wpAny _ _ (exec (Stmt.While _ _ _ _) _) _ _ _)); (fail_if_success (with_reducible show wpAny _ _ (exec (Stmt.For _ _ _ _ _) _) _ _ _)); (fail_if_success (with_reducible show wpAny _ _ (pyIter _) _ _ _)); (fail_if_success (with_reducible show wpAny _ _ (eval (Expr.ListComp _ _ _ _) _) _ _ _)); (fail_if_success (with_reducible show wpAny _ _ (delItem _ _) _ _ _)); (fail_if_success (with_reducible show wpAny _ _ (setItem _ _ _) _ _ _)); (fail_if_success (with_reducible show wpAny _ _ (compareOp _ (Value.ref _) (Value.ref _)) _ _ _)); (fail_if_success (with_reducible show wpAny _ _ (exec (Stmt.Assign _ (Expr.ListComp _ _ _ _) _) _) _ _ _)); (fail_if_success (with_reducible show wpAny _ _ (call (Value.ref _) _ _) _ _ _)); first | walk_at "mine" | walk1 | (dsimp only; walk1))
      rename_i D5 ws5 h5 F5 N5 hI5 hC5 hL5 l5
      clear hC5 hL5
      have hI5 : IntsAre ws5 [x0, x1, x2, x3] := hI5
      refine lc_list (items := ws5.toArray) (fun _ => true) (fun i y o => o = [] ∧ ∃ t, y = .str (lineS ([x0, x1, x2, x3].getD i 0)) t) (Gd.han gd) (News.isList N5 (.head _)) (by rw [List.size_toArray, hI5.length]; show 4 ≤ 100000; decide) (by decide) rfl (fun _ _ => .inl rfl) ?turn1 (lc_fin F5 N5 ?fin1)
      case turn1 =>
        rintro j v hv C hC l15 h15 aux prev F15 N15
        have hj : j < [x0, x1, x2, x3].length := by
          rw [← hI5.length]
          rw [List.getElem?_toArray] at hv
          exact (List.getElem?_eq_some_iff.mp hv).1
        obtain ⟨ty, hty⟩ := hI5.get j [x0, x1, x2, x3][j] (List.getElem?_eq_getElem hj)
        have hv' : v = .int ([x0, x1, x2, x3].getD j 0) ty := by
          rw [List.getElem?_toArray, hty] at hv
          rw [List.getD_eq_getElem?_getD, List.getElem?_eq_getElem hj]
          exact (Option.some.inj hv).symm
        subst hv'
        generalize hy : [x0, x1, x2, x3].getD j 0 = y at hv ⊢
        have G14 := G.keeps F5.keep
        have X14 := G14.X
        have T14 := G14.T
        refine asgN F15 N15 rfl rfl fun h16 F16 N16 => tst_nil ⟨rfl, ?_⟩
        rw [if_pos rfl]
        intro g8 d8 tk8 os8 Q8 E8 q8
        repeat' ((fail_if_success (with_reducible show wpAny _ _ (exec (Stmt.While _ _ _ _) _) _ _ _)); (fail_if_success (with_reducible show wpAny _ _ (exec (Stmt.For _ _ _ _ _) _) _ _ _)); (fail_if_success (with_reducible show wpAny _ _ (pyIter _) _ _ _)); (fail_if_success (with_reducible show wpAny _ _ (eval (Expr.ListComp _ _ _ _) _) _ _ _)); (fail_if_success (with_reducible show wpAny _ _ (delItem _ _) _ _ _)); (fail_if_success (with_reducible show wpAny _ _ (setItem _ _ _) _ _ _)); (fail_if_success (with_reducible show wpAny _ _ (compareOp _ (Value.ref _) (Value.ref _)) _ _ _)); (fail_if_success (with_reducible show wpAny _ _ (exec (Stmt.Assign _ (Expr.ListComp _ _ _ _) _) _) _ _ _)); (fail_if_success (with_reducible show wpAny _ _ (call (Value.ref _) _ _) _ _ _)); first | walk_at "mine" | walk1 | (dsimp only; walk1))
        refine use_c F16 N16 (line_c (G14.keeps F16.keep) (gd.le (by decide))) ?_
        rintro _ h18 tk18 F18 N18 e18 ⟨t18, rfl⟩
        (try dsimp only)
        exact q8 _ _ _ ⟨_, [], by assumption, by assumption, (fun _ h => nomatch h), rfl, _, by rw [hy]⟩
      case fin1 =>
        intro D7 ys own7 c7 h7 tk7 k7 F7 N7 hd7 hS
        rw [List.size_toArray, hI5.length] at hS
        obtain ⟨rfl, sl, rfl, hsl⟩ := stp_lines (Nat.le_refl _) hS
        rw [List.take_length] at hsl
        (try dsimp only)
        ((fail_if_success (with_reducible show wpAny _ _ (exec (Stmt.While _ _ _ _) _) _ _ _)); (fail_if_success (with_reducible show wpAny _ _ (exec (Stmt.For _ _ _ _ _) _) _ _ _)); (fail_if_success (with_reducible show wpAny _ _ (pyIter _) _ _ _)); (fail_if_success (with_reducible show wpAny _ _ (eval (Expr.ListComp _ _ _ _) _) _ _ _)); (fail_if_success (with_reducible show wpAny _ _ (delItem _ _) _ _ _)); (fail_if_success (with_reducible show wpAny _ _ (setItem _ _ _) _ _ _)); (fail_if_success (with_reducible show wpAny _ _ (compareOp _ (Value.ref _) (Value.ref _)) _ _ _)); (fail_if_success (with_reducible show wpAny _ _ (exec (Stmt.Assign _ (Expr.ListComp _ _ _ _) _) _) _ _ _)); (fail_if_success (with_reducible show wpAny _ _ (call (Value.ref _) _ _) _ _ _)); first | walk_at "mine" | walk1 | (dsimp only; walk1))
        refine SC.join (l := sl) (texts := [x0, x1, x2, x3].map lineS) (News.isList N7 (.head _)) hsl (join_ok4 x0 x1 x2 x3) ?_
        intro t8 k8
        (try dsimp only)
        repeat' ((fail_if_success (with_reducible show wpAny _ _ (exec (Stmt.While _ _ _ _) _) _ _ _)); (fail_if_success (with_reducible show wpAny _ _ (exec (Stmt.For _ _ _ _ _) _) _ _ _)); (fail_if_success (with_reducible show wpAny _ _ (pyIter _) _ _ _)); (fail_if_success (with_reducible show wpAny _ _ (eval (Expr.ListComp _ _ _ _) _) _ _ _)); (fail_if_success (with_reducible show wpAny _ _ (delItem _ _) _ _ _)); (fail_if_success (with_reducible show wpAny _ _ (setItem _ _ _) _ _ _)); (fail_if_success (with_reducible show wpAny _ _ (compareOp _ (Value.ref _) (Value.ref _)) _ _ _)); (fail_if_success (with_reducible show wpAny _ _ (exec (Stmt.Assign _ (Expr.ListComp _ _ _ _) _) _) _ _ _)); (fail_if_success (with_reducible show wpAny _ _ (call (Value.ref _) _ _) _ _ _)); first | walk_at "mine" | walk1 | (dsimp only; walk1))
        refine use_m F7 N7 (comp_c (G.keeps F7.keep) (gd.le (by decide)) (join_flat x0 x1 x2 x3) (wf_all x0 x1 x2 x3) (all_len x0 x1 x2 x3).1 (all_len x0 x1 x2 x3).2 (ln_all x0 x1 x2 x3) (show 4 ≤ 100 by decide)) ?_
        rintro _ _ h9 tk9 F9 N9 e9 d9 ⟨a, dx, b, k, rows, n, rfl, rfl, S, hab⟩
        have N10 := News.mono N9 (b := TL w.params a dx b k rows n ++ [(C0, W.listOf us.toArray c2)]) fun p hp => by
          rcases List.mem_append.mp hp with hp | hp
          · exact List.mem_append_left _ hp
          · rw [List.mem_singleton.mp hp]; exact List.mem_append_right _ (.tail _ (.tail _ (.head _)))
        have hd10 : Apart (TL w.params a dx b k rows n) [(C0, W.listOf us.toArray c2)] := fun p hp q hq => d9 p hp q (by rw [List.mem_singleton.mp hq]; exact .tail _ (.tail _ (.head _)))
        have hok := rows_ok hab
        have hab : rows.map abR = compN [x0, x1, x2, x3] 4 := hab
        have hrl : rows.length ≤ 8 := hok.2
        clear N9 F7 N7 d9
        (try dsimp only)
        repeat' ((fail_if_success (with_reducible show wpAny _ _ (exec (Stmt.While _ _ _ _) _) _ _ _)); (fail_if_success (with_reducible show wpAny _ _ (exec (Stmt.For _ _ _ _ _) _) _ _ _)); (fail_if_success (with_reducible show wpAny _ _ (pyIter _) _ _ _)); (fail_if_success (with_reducible show wpAny _ _ (eval (Expr.ListComp _ _ _ _) _) _ _ _)); (fail_if_success (with_reducible show wpAny _ _ (delItem _ _) _ _ _)); (fail_if_success (with_reducible show wpAny _ _ (setItem _ _ _) _ _ _)); (fail_if_success (with_reducible show wpAny _ _ (compareOp _ (Value.ref _) (Value.ref _)) _ _ _)); (fail_if_success (with_reducible show wpAny _ _ (exec (Stmt.Assign _ (Expr.ListComp _ _ _ _) _) _) _ _ _)); (fail_if_success (with_reducible show wpAny _ _ (call (Value.ref _) _ _) _ _ _)); first | walk_at "mine" | walk1 | (dsimp only; walk1))
        rename Fr _ _ _ _ => F10
        rename News _ _ _ _ => N10
        refine items_t G F10 N10 hd10 S (gd.le (by decide)) (by omega) ?_
        intro r11 c11 h11 tk11 F11 N11 d11
        clear F10 N10
        (try dsimp only)
        repeat' ((fail_if_success (with_reducible show wpAny _ _ (exec (Stmt.While _ _ _ _) _) _ _ _)); (fail_if_success (with_reducible show wpAny _ _ (exec (Stmt.For _ _ _ _ _) _) _ _ _)); (fail_if_success (with_reducible show wpAny _ _ (pyIter _) _ _ _)); (fail_if_success (with_reducible show wpAny _ _ (eval (Expr.ListComp _ _ _ _) _) _ _ _)); (fail_if_success (with_reducible show wpAny _ _ (delItem _ _) _ _ _)); (fail_if_success (with_reducible show wpAny _ _ (setItem _ _ _) _ _ _)); (fail_if_success (with_reducible show wpAny _ _ (compareOp _ (Value.ref _) (Value.ref _)) _ _ _)); (fail_if_success (with_reducible show wpAny _ _ (exec (Stmt.Assign _ (Expr.ListComp _ _ _ _) _) _) _ _ _)); (fail_if_success (with_reducible show wpAny _ _ (call (Value.ref _) _ _) _ _ _)); first | walk_at "mine" | walk1 | (dsimp only; walk1))
        rename Fr _ _ _ _ => F12
        rename News _ _ _ _ => N12
        refine lc_openA [] (by with_unfolding_all rfl) (by with_unfolding_all rfl) rfl (by decide) ?_
        repeat' ((fail_if_success (with_reducible show wpAny _ _ (exec (Stmt.While _ _ _ _) _) _ _ _)); (fail_if_success (with_reducible show wpAny _ _ (exec (Stmt.For _ _ _ _ _) _) _ _ _)); (fail_if_success (with_reducible show wpAny _ _ (pyIter _) _ _ _)); (fail_if_success (with_reducible show wpAny _ _ (eval (Expr.ListComp _ _ _ _) _) _ _ _)); (fail_if_success (with_reducible show wpAny _ _ (delItem _ _) _ _ _)); (fail_if_success (with_reducible show wpAny _ _ (setItem _ _ _) _ _ _)); (fail_if_success (with_reducible show wpAny _ _ (compareOp _ (Value.ref _) (Value.ref _)) _ _ _)); (fail_if_success (with_reducible show wpAny _ _ (exec (Stmt.Assign _ (Expr.ListComp _ _ _ _) _) _) _ _ _)); (fail_if_success (with_reducible show wpAny _ _ (call (Value.ref _) _ _) _ _ _)); first | walk_at "mine" | walk1 | (dsimp only; walk1))
        refine lc_list (items := (rows.map rowR).toArray) (fun _ => true) (fun i y o => ∃ (e : FRow) (r : Row), rows[i]? = some r ∧ abF e = frA (abR r) ∧ y = frR e ∧ o = [frO e]) (Gd.han gd) (News.isList N12 (.head _)) (by rw [List.size_toArray, List.length_map]; omega) (by decide) rfl (fun _ _ => .inl rfl) ?turn2 (lc_finA F12 N12 rfl rfl ?fin2)
        case turn2 =>
          rintro j v hv C hC l15 h15 aux prev F15 N15
          have hv' : ∃ e, rows[j]? = some e ∧ v = rowR e := by
            rw [List.getElem?_toArray, List.getElem?_map] at hv
            obtain ⟨e, he, rfl⟩ := Option.map_eq_some_iff.mp hv
            exact ⟨e, he, rfl⟩
          obtain ⟨e, he, rfl⟩ := hv'
          have hT := (N12 (rowO e) (.tail _ (List.mem_append_left _ (.tail _ (.tail _ (.tail _ (List.mem_map_of_mem (List.mem_of_getElem? he)))))))).1
          have hre := hok.1 e (List.mem_of_getElem? he)
          obtain ⟨r, ⟨n1, b1, t1⟩, ⟨n2, b2, t2⟩⟩ := e
          have hn0 : 0 < n1 := hre.1.1
          have hn1 : n1 < 16 ^ 16 := hre.1.2
          have hm0 : 0 < n2 := hre.2.1
          have hm1 : n2 < 16 ^ 16 := hre.2.2
          dsimp only [rowO, rowR, wdV] at hT ⊢
          have G14 := G.keeps F12.keep
          have X14 := G14.X
          have T14 := G14.T
          refine asgN F15 N15 rfl rfl fun h16 F16 N16 => tst_nil ⟨rfl, ?_⟩
          rw [if_pos rfl]
          intro g8 d8 tk8 os8 Q8 E8 q8
          repeat' ((fail_if_success (with_reducible show wpAny _ _ (exec (Stmt.While _ _ _ _) _) _ _ _)); (fail_if_success (with_reducible show wpAny _ _ (exec (Stmt.For _ _ _ _ _) _) _ _ _)); (fail_if_success (with_reducible show wpAny _ _ (pyIter _) _ _ _)); (fail_if_success (with_reducible show wpAny _ _ (eval (Expr.ListComp _ _ _ _) _) _ _ _)); (fail_if_success (with_reducible show wpAny _ _ (delItem _ _) _ _ _)); (fail_if_success (with_reducible show wpAny _ _ (setItem _ _ _) _ _ _)); (fail_if_success (with_reducible show wpAny _ _ (compareOp _ (Value.ref _) (Value.ref _)) _ _ _)); (fail_if_success (with_reducible show wpAny _ _ (exec (Stmt.Assign _ (Expr.ListComp _ _ _ _) _) _) _ _ _)); first | walk_at "mine" | walk1 | (dsimp only; walk1))
          rename_i T18 h18 F18 N18 l18
          refine q8 _ _ _ ⟨_, [frO (T18, ((n1 : Int), _), ((n2 : Int), _), b1, b2)], F18, N18, (fun p hp q hq => by rw [List.mem_singleton.mp hp]; exact Nat.ne_of_gt (l18 q (List.mem_append_left _ hq))), ⟨(T18, ((n1 : Int), _), ((n2 : Int), _), b1, b2), _, he, rfl, rfl, rfl⟩⟩
        case fin2 =>
          intro D13 ys own13 c13 h13 tk13 F13 N13 hd13 hS
          rw [List.size_toArray, List.length_map] at hS
          obtain ⟨fs, rfl, hfs, hfo⟩ := stp_seen (Nat.le_refl _) hS
          rw [List.take_length, hab, table_frac x0 x1 x2 x3 x4] at hfs
          (try dsimp only)
          repeat' ((fail_if_success (with_reducible show wpAny _ _ (exec (Stmt.While _ _ _ _) _) _ _ _)); (fail_if_success (with_reducible show wpAny _ _ (exec (Stmt.For _ _ _ _ _) _) _ _ _)); (fail_if_success (with_reducible show wpAny _ _ (pyIter _) _ _ _)); (fail_if_success (with_reducible show wpAny _ _ (eval (Expr.ListComp _ _ _ _) _) _ _ _)); (fail_if_success (with_reducible show wpAny _ _ (delItem _ _) _ _ _)); (fail_if_success (with_reducible show wpAny _ _ (setItem _ _ _) _ _ _)); (fail_if_success (with_reducible show wpAny _ _ (compareOp _ (Value.ref _) (Value.ref _)) _ _ _)); (fail_if_success (with_reducible show wpAny _ _ (exec (Stmt.Assign _ (Expr.ListComp _ _ _ _) _) _) _ _ _)); (fail_if_success (with_reducible show wpAny _ _ (call (Value.ref _) _ _) _ _ _)); first | walk_at "mine" | walk1 | (dsimp only; walk1))
          have hC13 := (N13 (C0, W.listOf us.toArray c2) (.tail _ (List.mem_append_right _ (.tail _ (List.mem_append_right _ (.head _)))))).1
          refine use_m F13 N13 (frac_c (G.keeps F13.keep) hC13 hds (gd.le (by decide)) rfl) ?_
          rintro _ _ h14 tk14 F14 N14 e14 d14 ⟨R14, fs2, c14, rfl, rfl, hfs2⟩
          obtain ⟨as1, hR1⟩ := reads_fr (fs := fs) (fun e he => (N14 (frO e) (List.mem_append_right _ (.tail _ (List.mem_append_left _ (hfo e he))))).1)
          obtain ⟨as2, hR2⟩ := reads_fr (fs := fs2) (fun e he => (N14 (frO e) (List.mem_append_left _ (.tail _ (List.mem_map_of_mem he)))).1)
          rw [hfs] at hR1
          rw [hfs2] at hR2
          refine ne_dataH (reads_list_at (News.get N14 (List.mem_append_right _ (.head _))) rfl rfl hR1) (reads_list_at (News.get N14 (List.mem_append_left _ (.head _))) rfl rfl hR2) (SeqAt_shaped_fr) (SeqAt_shaped_fr) (Gd.u64 gd) ?_
          rw [eqv_fr]
          have N15 := News.mono N14 (b := TL w.params a dx b k rows n ++ ((r11, W.listOf (rows.map rowR).toArray c11) :: [(C0, W.listOf us.toArray c2)])) fun p hp => by
            refine List.mem_append_right _ (.tail _ (List.mem_append_right _ ?_))
            rcases List.mem_append.mp hp with hp | hp
            · exact .tail _ (List.mem_append_left _ hp)
            rcases List.mem_cons.mp hp with rfl | hp
            · exact .head _
            · exact .tail _ (List.mem_append_right _ hp)
          clear N14 F13 N13
          (try dsimp only [Bool.not_true])
          repeat' ((fail_if_success (with_reducible show wpAny _ _ (exec (Stmt.While _ _ _ _) _) _ _ _)); (fail_if_success (with_reducible show wpAny _ _ (exec (Stmt.For _ _ _ _ _) _) _ _ _)); (fail_if_success (with_reducible show wpAny _ _ (pyIter _) _ _ _)); (fail_if_success (with_reducible show wpAny _ _ (eval (Expr.ListComp _ _ _ _) _) _ _ _)); (fail_if_success (with_reducible show wpAny _ _ (delItem _ _) _ _ _)); (fail_if_success (with_reducible show wpAny _ _ (setItem _ _ _) _ _ _)); (fail_if_success (with_reducible show wpAny _ _ (compareOp _ (Value.ref _) (Value.ref _)) _ _ _)); (fail_if_success (with_reducible show wpAny _ _ (exec (Stmt.Assign _ (Expr.ListComp _ _ _ _) _) _) _ _ _)); (fail_if_success (with_reducible show wpAny _ _ (call (Value.ref _) _ _) _ _ _)); first | walk_at "mine" | walk1 | (dsimp only; walk1))
          have hC15 := (N15 (C0, W.listOf us.toArray c2) (List.mem_append_right _ (.tail _ (.head _)))).1
          refine use_n F14 N15 (counted_c (G.keeps F14.keep) hC15 hds (gd.le (by decide)) rfl) ?_
          rintro U _ h16 tk16 F16 N16 e16 n16 ⟨us2, c16, rfl, hus2⟩
          clear F14 N15
          obtain ⟨N0, hB0, hru, hrun0⟩ : ∃ N0 : Nat, (∀ y ∈ runF (rows.map abR) 10 N0, 0 < y ∧ y < 16 ^ 16) ∧ (runM [x0, x1, x2, x3, x4] 10 (cnt0 [x0, x1, x2, x3, x4]) 7)[(0 : Int).toNat]? = some (N0 : Int) ∧ ((runF (rows.map abR) 10 N0).map fun n : Nat => (n : Int)) = runM [x0, x1, x2, x3, x4] 10 (cnt0 [x0, x1, x2, x3, x4]) 7 := by
            have hc := cnt0_r [x0, x1, x2, x3, x4]
            refine ⟨numN (cnt0 [x0, x1, x2, x3, x4]) 7, by rw [hab]; exact run_ok, runM_head.trans (by rw [numI_cast (by decide)]), by rw [hab]; exact run_all 10 _ _ ⟨hc.1.1, hc.2.1.1, hc.2.2.1⟩ (by decide)⟩
          generalize runM [x0, x1, x2, x3, x4] 10 (cnt0 [x0, x1, x2, x3, x4]) 7 = rm at hus2 hru hrun0
          (try dsimp only)
          iterate 13 (((fail_if_success (with_reducible show wpAny _ _ (exec (Stmt.While _ _ _ _) _) _ _ _)); (fail_if_success (with_reducible show wpAny _ _ (exec (Stmt.For _ _ _ _ _) _) _ _ _)); (fail_if_success (with_reducible show wpAny _ _ (pyIter _) _ _ _)); (fail_if_success (with_reducible show wpAny _ _ (eval (Expr.ListComp _ _ _ _) _) _ _ _)); (fail_if_success (with_reducible show wpAny _ _ (delItem _ _) _ _ _)); (fail_if_success (with_reducible show wpAny _ _ (setItem _ _ _) _ _ _)); (fail_if_success (with_reducible show wpAny _ _ (compareOp _ (Value.ref _) (Value.ref _)) _ _ _)); (fail_if_success (with_reducible show wpAny _ _ (exec (Stmt.Assign _ (Expr.ListComp _ _ _ _) _) _) _ _ _)); (fail_if_success (with_reducible show wpAny _ _ (call (Value.ref _) _ _) _ _ _)); first | walk_at "mine" | walk1 | (dsimp only; walk1)))
          rename News _ _ _ _ => N17
          refine pickL (News.get N17 (.head _)) hus2 (by decide) (by decide) hru ?_
          intro t17
          (try dsimp only)
          repeat' ((fail_if_success (with_reducible show wpAny _ _ (exec (Stmt.While _ _ _ _) _) _ _ _)); (fail_if_success (with_reducible show wpAny _ _ (exec (Stmt.For _ _ _ _ _) _) _ _ _)); (fail_if_success (with_reducible show wpAny _ _ (pyIter _) _ _ _)); (fail_if_success (with_reducible show wpAny _ _ (eval (Expr.ListComp _ _ _ _) _) _ _ _)); (fail_if_success (with_reducible show wpAny _ _ (delItem _ _) _ _ _)); (fail_if_success (with_reducible show wpAny _ _ (setItem _ _ _) _ _ _)); (fail_if_success (with_reducible show wpAny _ _ (compareOp _ (Value.ref _) (Value.ref _)) _ _ _)); (fail_if_success (with_reducible show wpAny _ _ (exec (Stmt.Assign _ (Expr.ListComp _ _ _ _) _) _) _ _ _)); (fail_if_success (with_reducible show wpAny _ _ (call (Value.ref _) _ _) _ _ _)); first | walk_at "mine" | walk1 | (dsimp only; walk1))
          rename Fr _ _ _ _ => F17
          have N18 := News.mono N17 (b := TL w.params a dx b k rows n ++ ((U, W.listOf us2.toArray c16) :: (r11, W.listOf (rows.map rowR).toArray c11) :: [(C0, W.listOf us.toArray c2)])) fun p hp => by
            rcases List.mem_append.mp hp with hp | hp
            · exact .tail _ (List.mem_append_left _ hp)
            rcases List.mem_cons.mp hp with rfl | hp
            · exact .head _
            · exact .tail _ (List.mem_append_right _ hp)
          have hd18 : Apart (TL w.params a dx b k rows n) ((U, W.listOf us2.toArray c16) :: (r11, W.listOf (rows.map rowR).toArray c11) :: [(C0, W.listOf us.toArray c2)]) := fun p hp q hq => by
            rcases List.mem_cons.mp hq with rfl | hq
            · exact n16 p (List.mem_append_left _ hp)
            rcases List.mem_cons.mp hq with rfl | hq
            · exact d11 p (List.mem_append_left _ hp)
            · exact hd10 p hp q hq
          clear N17
          refine run_t G F17 N18 hd18 S (gd.le (by decide)) hok.1 (by omega) hB0 ?_
          intro r19 ws c19 n19 h19 tk19 F19 N19 d19 hws
          clear F17 N18
          (try dsimp only)
          repeat' ((fail_if_success (with_reducible show wpAny _ _ (exec (Stmt.While _ _ _ _) _) _ _ _)); (fail_if_success (with_reducible show wpAny _ _ (exec (Stmt.For _ _ _ _ _) _) _ _ _)); (fail_if_success (with_reducible show wpAny _ _ (pyIter _) _ _ _)); (fail_if_success (with_reducible show wpAny _ _ (eval (Expr.ListComp _ _ _ _) _) _ _ _)); (fail_if_success (with_reducible show wpAny _ _ (delItem _ _) _ _ _)); (fail_if_success (with_reducible show wpAny _ _ (setItem _ _ _) _ _ _)); (fail_if_success (with_reducible show wpAny _ _ (compareOp _ (Value.ref _) (Value.ref _)) _ _ _)); (fail_if_success (with_reducible show wpAny _ _ (exec (Stmt.Assign _ (Expr.ListComp _ _ _ _) _) _) _ _ _)); (fail_if_success (with_reducible show wpAny _ _ (call (Value.ref _) _ _) _ _ _)); first | walk_at "mine" | walk1 | (dsimp only; walk1))
          rename Fr _ _ _ _ => F20
          rename News _ _ _ _ => N20
          refine lc_open [] (by with_unfolding_all rfl) rfl (by decide) ?_
          repeat' ((fail_if_success (with_reducible show wpAny _ _ (exec (Stmt.While _ _ _ _) _) _ _ _)); (fail_if_success (with_reducible show wpAny _ _ (exec (Stmt.For _ _ _ _ _) _) _ _ _)); (fail_if_success (with_reducible show wpAny _ _ (pyIter _) _ _ _)); (fail_if_success (with_reducible show wpAny _ _ (eval (Expr.ListComp _ _ _ _) _) _ _ _)); (fail_if_success (with_reducible show wpAny _ _ (delItem _ _) _ _ _)); (fail_if_success (with_reducible show wpAny _ _ (setItem _ _ _) _ _ _)); (fail_if_success (with_reducible show wpAny _ _ (compareOp _ (Value.ref _) (Value.ref _)) _ _ _)); (fail_if_success (with_reducible show wpAny _ _ (exec (Stmt.Assign _ (Expr.ListComp _ _ _ _) _) _) _ _ _)); (fail_if_success (with_reducible show wpAny _ _ (call (Value.ref _) _ _) _ _ _)); first | walk_at "mine" | walk1 | (dsimp only; walk1))
          refine lc_list (items := (rows.map rowR).toArray) (fun _ => true) (fun i y o => o = [] ∧ ∃ e, rows[i]? = some e ∧ y = (fun e : Row => wdV e.2.1) e) (Gd.han gd) (News.isList N20 (.tail _ (List.mem_append_right _ (.tail _ (.head _))))) (by rw [List.size_toArray, List.length_map]; omega) (by decide) rfl (fun _ _ => .inl rfl) ?turn5 (lc_fin F20 N20 ?fin5)
          case turn5 =>
            rintro j v hv C hC l15 h15 aux prev F15 N15
            have hv' : ∃ e, rows[j]? = some e ∧ v = rowR e := by
              rw [List.getElem?_toArray, List.getElem?_map] at hv
              obtain ⟨e, he, rfl⟩ := Option.map_eq_some_iff.mp hv
              exact ⟨e, he, rfl⟩
            obtain ⟨e, he, rfl⟩ := hv'
            have hT := (N20 (rowO e) (.tail _ (List.mem_append_left _ (.tail _ (.tail _ (.tail _ (List.mem_map_of_mem (List.mem_of_getElem? he)))))))).1
            dsimp only [rowO, rowR] at hT ⊢
            have G14 := G.keeps (F20).keep
            refine asgN F15 N15 rfl rfl fun h16 F16 N16 => tst_nil ⟨rfl, ?_⟩
            rw [if_pos rfl]
            intro g8 d8 tk8 os8 Q8 E8 q8
            iterate 3 (((fail_if_success (with_reducible show wpAny _ _ (exec (Stmt.While _ _ _ _) _) _ _ _)); (fail_if_success (with_reducible show wpAny _ _ (exec (Stmt.For _ _ _ _ _) _) _ _ _)); (fail_if_success (with_reducible show wpAny _ _ (pyIter _) _ _ _)); (fail_if_success (with_reducible show wpAny _ _ (eval (Expr.ListComp _ _ _ _) _) _ _ _)); (fail_if_success (with_reducible show wpAny _ _ (delItem _ _) _ _ _)); (fail_if_success (with_reducible show wpAny _ _ (setItem _ _ _) _ _ _)); (fail_if_success (with_reducible show wpAny _ _ (compareOp _ (Value.ref _) (Value.ref _)) _ _ _)); (fail_if_success (with_reducible show wpAny _ _ (exec (Stmt.Assign _ (Expr.ListComp _ _ _ _) _) _) _ _ _)); first | walk_at "mine" | walk1 | (dsimp only; walk1)))
            refine pickW F16 hT (by decide) (by decide) rfl rfl ?_
            exact q8 _ _ _ ⟨_, [], F16, N16, (fun _ h => nomatch h), rfl, _, he, rfl⟩
          case fin5 =>
            intro D21 ys21 own21 c21 h21 tk21 k21 F21 N21 hd21 hS21
            rw [List.size_toArray, List.length_map] at hS21
            obtain ⟨rfl, rfl⟩ := stp_map (Nat.le_refl _) hS21
            rw [List.take_length] at N21
            have hwl : ws.length ≤ 20 := by
              have h1 := congrArg List.length hws
              rw [List.length_map] at h1
              have h2 := runF_len (rows.map abR) 10 N0
              omega
            (try dsimp only)
            refine add_lists F21 N21 (vs := ws.map wdV) (ws := rows.map fun e : Row => wdV e.2.1) (News.isList N21 (.tail _ (.head _))) (News.isList N21 (.head _)) ?_ (by rw [sizeLine_eq, List.length_map, List.length_map]; omega)
            intro h22 F22 N22
            clear F21 N21
            (try dsimp only)
            refine lc_open [] (by with_unfolding_all rfl) rfl (by decide) ?_
            repeat' ((fail_if_success (with_reducible show wpAny _ _ (exec (Stmt.While _ _ _ _) _) _ _ _)); (fail_if_success (with_reducible show wpAny _ _ (exec (Stmt.For _ _ _ _ _) _) _ _ _)); (fail_if_success (with_reducible show wpAny _ _ (pyIter _) _ _ _)); (fail_if_success (with_reducible show wpAny _ _ (eval (Expr.ListComp _ _ _ _) _) _ _ _)); (fail_if_success (with_reducible show wpAny _ _ (delItem _ _) _ _ _)); (fail_if_success (with_reducible show wpAny _ _ (setItem _ _ _) _ _ _)); (fail_if_success (with_reducible show wpAny _ _ (compareOp _ (Value.ref _) (Value.ref _)) _ _ _)); (fail_if_success (with_reducible show wpAny _ _ (exec (Stmt.Assign _ (Expr.ListComp _ _ _ _) _) _) _ _ _)); (fail_if_success (with_reducible show wpAny _ _ (call (Value.ref _) _ _) _ _ _)); first | walk_at "mine" | walk1 | (dsimp only; walk1))
            refine lc_list (items := (rows.map rowR).toArray) (fun _ => true) (fun i y o => o = [] ∧ ∃ e, rows[i]? = some e ∧ y = (fun e : Row => wdV e.2.2) e) (Gd.han gd) (News.isList N22 (.tail _ (.tail _ (.tail _ (List.mem_append_right _ (.tail _ (.head _))))))) (by rw [List.size_toArray, List.length_map]; omega) (by decide) rfl (fun _ _ => .inl rfl) ?turn6 (lc_fin F22 N22 ?fin6)
            case turn6 =>
              rintro j v hv C hC l15 h15 aux prev F15 N15
              have hv' : ∃ e, rows[j]? = some e ∧ v = rowR e := by
                rw [List.getElem?_toArray, List.getElem?_map] at hv
                obtain ⟨e, he, rfl⟩ := Option.map_eq_some_iff.mp hv
                exact ⟨e, he, rfl⟩
              obtain ⟨e, he, rfl⟩ := hv'
              have hT := (N22 (rowO e) (.tail _ (.tail _ (.tail _ (List.mem_append_left _ (.tail _ (.tail _ (.tail _ (List.mem_map_of_mem (List.mem_of_getElem? he)))))))))).1
              dsimp only [rowO, rowR] at hT ⊢
              have G14 := G.keeps (F22).keep
              refine asgN F15 N15 rfl rfl fun h16 F16 N16 => tst_nil ⟨rfl, ?_⟩
              rw [if_pos rfl]
              intro g8 d8 tk8 os8 Q8 E8 q8
              iterate 3 (((fail_if_success (with_reducible show wpAny _ _ (exec (Stmt.While _ _ _ _) _) _ _ _)); (fail_if_success (with_reducible show wpAny _ _ (exec (Stmt.For _ _ _ _ _) _) _ _ _)); (fail_if_success (with_reducible show wpAny _ _ (pyIter _) _ _ _)); (fail_if_success (with_reducible show wpAny _ _ (eval (Expr.ListComp _ _ _ _) _) _ _ _)); (fail_if_success (with_reducible show wpAny _ _ (delItem _ _) _ _ _)); (fail_if_success (with_reducible show wpAny _ _ (setItem _ _ _) _ _ _)); (fail_if_success (with_reducible show wpAny _ _ (compareOp _ (Value.ref _) (Value.ref _)) _ _ _)); (fail_if_success (with_reducible show wpAny _ _ (exec (Stmt.Assign _ (Expr.ListComp _ _ _ _) _) _) _ _ _)); first | walk_at "mine" | walk1 | (dsimp only; walk1)))
              refine pickW F16 hT (by decide) (by decide) rfl rfl ?_
              exact q8 _ _ _ ⟨_, [], F16, N16, (fun _ h => nomatch h), rfl, _, he, rfl⟩
            case fin6 =>
              intro D23 ys23 own23 c23 h23 tk23 k23 F23 N23 hd23 hS23
              rw [List.size_toArray, List.length_map] at hS23
              obtain ⟨rfl, rfl⟩ := stp_map (Nat.le_refl _) hS23
              rw [List.take_length] at N23
              (try dsimp only)
              refine add_lists F23 N23 (vs := ws.map wdV ++ rows.map fun e : Row => wdV e.2.1) (ws := rows.map fun e : Row => wdV e.2.2) (News.isList N23 (.tail _ (.head _))) (News.isList N23 (.head _)) ?_ (by rw [sizeLine_eq, List.length_append, List.length_map, List.length_map, List.length_map]; omega)
              intro h24 F24 N24
              clear F23 N23
              (try dsimp only)
              repeat' ((fail_if_success (with_reducible show wpAny _ _ (exec (Stmt.While _ _ _ _) _) _ _ _)); (fail_if_success (with_reducible show wpAny _ _ (exec (Stmt.For _ _ _ _ _) _) _ _ _)); (fail_if_success (with_reducible show wpAny _ _ (pyIter _) _ _ _)); (fail_if_success (with_reducible show wpAny _ _ (eval (Expr.ListComp _ _ _ _) _) _ _ _)); (fail_if_success (with_reducible show wpAny _ _ (delItem _ _) _ _ _)); (fail_if_success (with_reducible show wpAny _ _ (setItem _ _ _) _ _ _)); (fail_if_success (with_reducible show wpAny _ _ (compareOp _ (Value.ref _) (Value.ref _)) _ _ _)); (fail_if_success (with_reducible show wpAny _ _ (exec (Stmt.Assign _ (Expr.ListComp _ _ _ _) _) _) _ _ _)); (fail_if_success (with_reducible show wpAny _ _ (call (Value.ref _) _ _) _ _ _)); first | walk_at "mine" | walk1 | (dsimp only; walk1))
              have eall : (ws.map wdV ++ rows.map fun e : Row => wdV e.2.1) ++ (rows.map fun e : Row => wdV e.2.2) = (ws ++ (rows.map fun e : Row => e.2.1) ++ (rows.map fun e : Row => e.2.2)).map wdV := by
                rw [List.map_append, List.map_append, List.map_map, List.map_map]; rfl
              have hA2 := (N24 _ (.head _)).1
              rw [eall] at hA2
              refine use_c F24 N24 (plain_c (c := 0) (G.keeps F24.keep) hA2 (gd.le (by decide)) (fun x hx => ?okw)) ?_
              case okw =>
                rcases List.mem_append.mp hx with hx | hx
                · rcases List.mem_append.mp hx with hx | hx
                  · exact hB0 x.1 (hws ▸ List.mem_map_of_mem (f := fun x : Wd => x.1) hx)
                  · obtain ⟨e, he, rfl⟩ := List.mem_map.mp hx
                    exact (hok.1 e he).1
                · obtain ⟨e, he, rfl⟩ := List.mem_map.mp hx
                  exact (hok.1 e he).2
              rintro _ h25 tk25 F25 N25 e25 rfl
              clear F24 N24
              (try dsimp only)
              repeat' ((fail_if_success (with_reducible show wpAny _ _ (exec (Stmt.While _ _ _ _) _) _ _ _)); (fail_if_success (with_reducible show wpAny _ _ (exec (Stmt.For _ _ _ _ _) _) _ _ _)); (fail_if_success (with_reducible show wpAny _ _ (pyIter _) _ _ _)); (fail_if_success (with_reducible show wpAny _ _ (eval (Expr.ListComp _ _ _ _) _) _ _ _)); (fail_if_success (with_reducible show wpAny _ _ (delItem _ _) _ _ _)); (fail_if_success (with_reducible show wpAny _ _ (setItem _ _ _) _ _ _)); (fail_if_success (with_reducible show wpAny _ _ (compareOp _ (Value.ref _) (Value.ref _)) _ _ _)); (fail_if_success (with_reducible show wpAny _ _ (exec (Stmt.Assign _ (Expr.ListComp _ _ _ _) _) _) _ _ _)); (fail_if_success (with_reducible show wpAny _ _ (call (Value.ref _) _ _) _ _ _)); first | walk_at "mine" | walk1 | (dsimp only; walk1))
              rename Fr _ _ _ _ => F25
              rename News _ _ _ _ => N25
              refine lc_open [] (by with_unfolding_all rfl) rfl (by decide) ?_
              repeat' ((fail_if_success (with_reducible show wpAny _ _ (exec (Stmt.While _ _ _ _) _) _ _ _)); (fail_if_success (with_reducible show wpAny _ _ (exec (Stmt.For _ _ _ _ _) _) _ _ _)); (fail_if_success (with_reducible show wpAny _ _ (pyIter _) _ _ _)); (fail_if_success (with_reducible show wpAny _ _ (eval (Expr.ListComp _ _ _ _) _) _ _ _)); (fail_if_success (with_reducible show wpAny _ _ (delItem _ _) _ _ _)); (fail_if_success (with_reducible show wpAny _ _ (setItem _ _ _) _ _ _)); (fail_if_success (with_reducible show wpAny _ _ (compareOp _ (Value.ref _) (Value.ref _)) _ _ _)); (fail_if_success (with_reducible show wpAny _ _ (exec (Stmt.Assign _ (Expr.ListComp _ _ _ _) _) _) _ _ _)); (fail_if_success (with_reducible show wpAny _ _ (call (Value.ref _) _ _) _ _ _)); first | walk_at "mine" | walk1 | (dsimp only; walk1))
              have hlW : (ws.map fun x : Wd => ((x.1 : Nat) : Int)) = rm := by
                rw [← hrun0, ← hws, List.map_map]; rfl
              refine lc_list (items := (ws.map wdV).toArray) (fun _ => true) (fun i y o => o = [] ∧ ∃ t, y = .int ((ws.map fun x : Wd => ((x.1 : Nat) : Int)).getD i 0) t) (Gd.han gd) (News.isList N25 (.tail _ (.tail _ (.tail _ (.tail _ (.head _)))))) (by rw [List.size_toArray, List.length_map]; omega) (by decide) rfl (fun _ _ => .inl rfl) ?turn7 (lc_fin F25 N25 ?fin7)
              case turn7 =>
                rintro j v hv C hC l15 h15 aux prev F15 N15
                have hv' : ∃ x, ws[j]? = some x ∧ v = wdV x := by
                  rw [List.getElem?_toArray, List.getElem?_map] at hv
                  obtain ⟨e, he, rfl⟩ := Option.map_eq_some_iff.mp hv
                  exact ⟨e, he, rfl⟩
                obtain ⟨⟨n1, b1, t1⟩, he, rfl⟩ := hv'
                have hn1 : n1 < 16 ^ 16 := (hB0 n1 (hws ▸ List.mem_map_of_mem (f := fun x : Wd => x.1) (List.mem_of_getElem? he))).2
                have hgd : (ws.map fun x : Wd => ((x.1 : Nat) : Int)).getD j 0 = (n1 : Int) := by
                  rw [List.getD_eq_getElem?_getD, List.getElem?_map, he]; rfl
                dsimp only [wdV]
                have G14 := G.keeps F25.keep
                have X14 := G14.X
                have T14 := G14.T
                refine asgN F15 N15 rfl rfl fun h16 F16 N16 => tst_nil ⟨rfl, ?_⟩
                rw [if_pos rfl]
                intro g8 d8 tk8 os8 Q8 E8 q8
                repeat' ((fail_if_success (with_reducible show wpAny _ _ (exec (Stmt.While _ _ _ _) _) _ _ _)); (fail_if_success (with_reducible show wpAny _ _ (exec (Stmt.For _ _ _ _ _) _) _ _ _)); (fail_if_success (with_reducible show wpAny _ _ (pyIter _) _ _ _)); (fail_if_success (with_reducible show wpAny _ _ (eval (Expr.ListComp _ _ _ _) _) _ _ _)); (fail_if_success (with_reducible show wpAny _ _ (delItem _ _) _ _ _)); (fail_if_success (with_reducible show wpAny _ _ (setItem _ _ _) _ _ _)); (fail_if_success (with_reducible show wpAny _ _ (compareOp _ (Value.ref _) (Value.ref _)) _ _ _)); (fail_if_success (with_reducible show wpAny _ _ (exec (Stmt.Assign _ (Expr.ListComp _ _ _ _) _) _) _ _ _)); (fail_if_success (with_reducible show wpAny _ _ (call (Value.ref _) _ _) _ _ _)); first | walk_at "mine" | walk1 | (dsimp only; walk1))
                refine use_c F16 N16 (read_c (G14.keeps F16.keep) (gd.le (by decide)) hn1) ?_
                rintro _ h18 tk18 F18 N18 e18 ⟨t18, rfl⟩
                exact q8 _ _ _ ⟨_, [], F18, N18, (fun _ h => nomatch h), rfl, t18, by rw [hgd]⟩
              case fin7 =>
                intro D26 ys26 own26 c26 h26 tk26 k26 F26 N26 hd26 hS26
                rw [List.size_toArray, List.length_map] at hS26
                obtain ⟨rfl, hI26⟩ := stp_read (ns := ws.map fun x : Wd => ((x.1 : Nat) : Int)) (by rw [List.length_map]; exact Nat.le_refl _) hS26
                rw [List.take_of_length_le (by rw [List.length_map]; exact Nat.le_refl _), hlW] at hI26
                (try dsimp only)
                repeat' ((fail_if_success (with_reducible show wpAny _ _ (exec (Stmt.While _ _ _ _) _) _ _ _)); (fail_if_success (with_reducible show wpAny _ _ (exec (Stmt.For _ _ _ _ _) _) _ _ _)); (fail_if_success (with_reducible show wpAny _ _ (pyIter _) _ _ _)); (fail_if_success (with_reducible show wpAny _ _ (eval (Expr.ListComp _ _ _ _) _) _ _ _)); (fail_if_success (with_reducible show wpAny _ _ (delItem _ _) _ _ _)); (fail_if_success (with_reducible show wpAny _ _ (setItem _ _ _) _ _ _)); (fail_if_success (with_reducible show wpAny _ _ (compareOp _ (Value.ref _) (Value.ref _)) _ _ _)); (fail_if_success (with_reducible show wpAny _ _ (exec (Stmt.Assign _ (Expr.ListComp _ _ _ _) _) _) _ _ _)); (fail_if_success (with_reducible show wpAny _ _ (call (Value.ref _) _ _) _ _ _)); first | walk_at "mine" | walk1 | (dsimp only; walk1))
                refine ke_eq_ints (News.isList N26 (.head _)) (News.isList N26 (by walk_at "im1")) hI26 hus2 (Gd.u64 gd) ?_
                rw [decide_eq_true rfl]
                (try dsimp only)
                repeat' ((fail_if_success (with_reducible show wpAny _ _ (exec (Stmt.While _ _ _ _) _) _ _ _)); (fail_if_success (with_reducible show wpAny _ _ (exec (Stmt.For _ _ _ _ _) _) _ _ _)); (fail_if_success (with_reducible show wpAny _ _ (pyIter _) _ _ _)); (fail_if_success (with_reducible show wpAny _ _ (eval (Expr.ListComp _ _ _ _) _) _ _ _)); (fail_if_success (with_reducible show wpAny _ _ (delItem _ _) _ _ _)); (fail_if_success (with_reducible show wpAny _ _ (setItem _ _ _) _ _ _)); (fail_if_success (with_reducible show wpAny _ _ (compareOp _ (Value.ref _) (Value.ref _)) _ _ _)); (fail_if_success (with_reducible show wpAny _ _ (exec (Stmt.Assign _ (Expr.ListComp _ _ _ _) _) _) _ _ _)); (fail_if_success (with_reducible show wpAny _ _ (call (Value.ref _) _ _) _ _ _)); first | walk_at "mine" | walk1 | (dsimp only; walk1))
                exact q _ _ _ ⟨rfl, F26.keep⟩
end Mine
theorem PySem.Challenge.cw_wf0080_01_holds : PySem.Challenge.rw_wf0080_01.Holds := by
  exact Mine.lawend
