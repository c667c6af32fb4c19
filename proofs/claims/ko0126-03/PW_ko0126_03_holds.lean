import PyProof.Rows.All
import Wide.All
import OpenK.AllK
import Wide.FinOn
import Lean
import PySem.Challenge.RW_ko0126_03
set_option Elab.async false
set_option maxRecDepth 100000
set_option compiler.extract_closed false
set_option hygiene false
section
open PySem PySem.W PyProof.Rows
set_option Elab.async false
set_option linter.all false
set_option maxRecDepth 100000
set_option maxHeartbeats 8000000
namespace Zh
abbrev ZO := Params → Obj
abbrev zP : Program := PySem.Challenge.rw_ko0126_03.row.prog
abbrev zT : List Stmt := zP.main.body
abbrev zS (x : String) : Str := Str.ofString x
abbrev zV (x : String) (t : Nat) : Value := .str (Str.ofString x) t
abbrev zE (P : Params) (k : Str) (t : Nat) (v : Value) : DictEntry := ⟨PyData.keyHash P k, .str k t, v⟩
def zF : List Stmt → Nat → Stmt
  | [], _ => .Pass ⟨0, 0, 0, 0⟩
  | a :: _, 0 => a
  | _ :: l, n + 1 => zF l n
def zbo : Stmt → List Stmt
  | .FunctionDef _ _ b .. => b
  | .ClassDef _ _ _ b .. => b
  | _ => []
def zB (l : List Stmt) (i : Nat) : List Stmt := zbo (zF l i)
def zpa : Stmt → Arguments
  | .FunctionDef _ p .. => p
  | _ => default
def zsc : Stmt → Scope
  | .FunctionDef _ _ _ _ _ _ s .. => s
  | .ClassDef _ _ _ _ _ _ s .. => s
  | _ => default
noncomputable section
noncomputable def zo0_0 : ZO := fun P => (Obj.mk (Value.type "dict") none (Data.dict #[(zE P (zS "__name__") 1 (zV "builtins" 160)), (zE P (zS "__doc__") 2 (Value.builtin "builtins.__doc__:str#opaque")), (zE P (zS "__package__") 3 (Value.builtin "builtins.__package__:str#opaque")), (zE P (zS "__loader__") 4 (Value.builtin "builtins.__loader__:shared#opaque")), (zE P (zS "__spec__") 5 (Value.builtin "builtins.__spec__#opaque")), (zE P (zS "__build_class__") 6 (Value.builtin "__build_class__")), (zE P (zS "__import__") 7 (Value.builtin "__import__")), (zE P (zS "abs") 8 (Value.builtin "abs")), (zE P (zS "all") 9 (Value.builtin "all")), (zE P (zS "any") 10 (Value.builtin "any")), (zE P (zS "ascii") 11 (Value.builtin "ascii")), (zE P (zS "bin") 12 (Value.builtin "bin")), (zE P (zS "breakpoint") 13 (Value.builtin "breakpoint")), (zE P (zS "callable") 14 (Value.builtin "callable")), (zE P (zS "chr") 15 (Value.builtin "chr")), (zE P (zS "compile") 16 (Value.builtin "compile")), (zE P (zS "delattr") 17 (Value.builtin "delattr")), (zE P (zS "dir") 18 (Value.builtin "dir")), (zE P (zS "divmod") 19 (Value.builtin "divmod")), (zE P (zS "eval") 20 (Value.builtin "eval")), (zE P (zS "exec") 21 (Value.builtin "exec")), (zE P (zS "format") 22 (Value.builtin "format")), (zE P (zS "getattr") 23 (Value.builtin "getattr")), (zE P (zS "globals") 24 (Value.builtin "globals")), (zE P (zS "hasattr") 25 (Value.builtin "hasattr")), (zE P (zS "hash") 26 (Value.builtin "hash")), (zE P (zS "hex") 27 (Value.builtin "hex")), (zE P (zS "id") 28 (Value.builtin "id")), (zE P (zS "input") 29 (Value.builtin "input")), (zE P (zS "isinstance") 30 (Value.builtin "isinstance")), (zE P (zS "issubclass") 31 (Value.builtin "issubclass")), (zE P (zS "iter") 32 (Value.builtin "iter")), (zE P (zS "aiter") 33 (Value.builtin "aiter")), (zE P (zS "len") 34 (Value.builtin "len")), (zE P (zS "locals") 35 (Value.builtin "locals")), (zE P (zS "max") 36 (Value.builtin "max")), (zE P (zS "min") 37 (Value.builtin "min")), (zE P (zS "next") 38 (Value.builtin "next")), (zE P (zS "anext") 39 (Value.builtin "anext")), (zE P (zS "oct") 40 (Value.builtin "oct")), (zE P (zS "ord") 41 (Value.builtin "ord")), (zE P (zS "pow") 42 (Value.builtin "pow")), (zE P (zS "print") 43 (Value.builtin "print")), (zE P (zS "repr") 44 (Value.builtin "repr")), (zE P (zS "round") 45 (Value.builtin "round")), (zE P (zS "setattr") 46 (Value.builtin "setattr")), (zE P (zS "sorted") 47 (Value.builtin "sorted")), (zE P (zS "sum") 48 (Value.builtin "sum")), (zE P (zS "vars") 49 (Value.builtin "vars")), (zE P (zS "None") 50 Value.none), (zE P (zS "Ellipsis") 51 Value.ellipsis), (zE P (zS "NotImplemented") 52 Value.notImplemented), (zE P (zS "False") 53 (Value.bool Bool.false)), (zE P (zS "True") 54 (Value.bool Bool.true)), (zE P (zS "bool") 55 (Value.type "bool")), (zE P (zS "memoryview") 56 (Value.type "memoryview")), (zE P (zS "bytearray") 57 (Value.type "bytearray")), (zE P (zS "bytes") 58 (Value.type "bytes")), (zE P (zS "classmethod") 59 (Value.type "classmethod")), (zE P (zS "complex") 60 (Value.type "complex")), (zE P (zS "dict") 61 (Value.type "dict")), (zE P (zS "enumerate") 62 (Value.type "enumerate")), (zE P (zS "filter") 63 (Value.type "filter")), (zE P (zS "float") 64 (Value.type "float")), (zE P (zS "frozenset") 65 (Value.type "frozenset")), (zE P (zS "property") 66 (Value.type "property")), (zE P (zS "int") 67 (Value.type "int")), (zE P (zS "list") 68 (Value.type "list")), (zE P (zS "map") 69 (Value.type "map")), (zE P (zS "object") 70 (Value.type "object")), (zE P (zS "range") 71 (Value.type "range")), (zE P (zS "reversed") 72 (Value.type "reversed")), (zE P (zS "set") 73 (Value.type "set")), (zE P (zS "slice") 74 (Value.type "slice")), (zE P (zS "staticmethod") 75 (Value.type "staticmethod")), (zE P (zS "str") 76 (Value.type "str")), (zE P (zS "super") 77 (Value.type "super")), (zE P (zS "tuple") 78 (Value.type "tuple")), (zE P (zS "type") 79 (Value.type "type")), (zE P (zS "zip") 80 (Value.type "zip")), (zE P (zS "__debug__") 81 (Value.bool Bool.true)), (zE P (zS "BaseException") 82 (Value.type "BaseException")), (zE P (zS "BaseExceptionGroup") 83 (Value.type "BaseExceptionGroup")), (zE P (zS "Exception") 84 (Value.type "Exception")), (zE P (zS "GeneratorExit") 85 (Value.type "GeneratorExit")), (zE P (zS "KeyboardInterrupt") 86 (Value.type "KeyboardInterrupt")), (zE P (zS "SystemExit") 87 (Value.type "SystemExit")), (zE P (zS "ArithmeticError") 88 (Value.type "ArithmeticError")), (zE P (zS "AssertionError") 89 (Value.type "AssertionError")), (zE P (zS "AttributeError") 90 (Value.type "AttributeError")), (zE P (zS "BufferError") 91 (Value.type "BufferError")), (zE P (zS "EOFError") 92 (Value.type "EOFError")), (zE P (zS "ImportError") 93 (Value.type "ImportError")), (zE P (zS "LookupError") 94 (Value.type "LookupError")), (zE P (zS "MemoryError") 95 (Value.type "MemoryError")), (zE P (zS "NameError") 96 (Value.type "NameError")), (zE P (zS "OSError") 97 (Value.type "OSError")), (zE P (zS "ReferenceError") 98 (Value.type "ReferenceError")), (zE P (zS "RuntimeError") 99 (Value.type "RuntimeError")), (zE P (zS "StopAsyncIteration") 100 (Value.type "StopAsyncIteration")), (zE P (zS "StopIteration") 101 (Value.type "StopIteration")), (zE P (zS "SyntaxError") 102 (Value.type "SyntaxError")), (zE P (zS "SystemError") 103 (Value.type "SystemError")), (zE P (zS "TypeError") 104 (Value.type "TypeError")), (zE P (zS "ValueError") 105 (Value.type "ValueError")), (zE P (zS "Warning") 106 (Value.type "Warning")), (zE P (zS "FloatingPointError") 107 (Value.type "FloatingPointError")), (zE P (zS "OverflowError") 108 (Value.type "OverflowError")), (zE P (zS "ZeroDivisionError") 109 (Value.type "ZeroDivisionError")), (zE P (zS "BytesWarning") 110 (Value.type "BytesWarning")), (zE P (zS "DeprecationWarning") 111 (Value.type "DeprecationWarning")), (zE P (zS "EncodingWarning") 112 (Value.type "EncodingWarning")), (zE P (zS "FutureWarning") 113 (Value.type "FutureWarning")), (zE P (zS "ImportWarning") 114 (Value.type "ImportWarning")), (zE P (zS "PendingDeprecationWarning") 115 (Value.type "PendingDeprecationWarning")), (zE P (zS "ResourceWarning") 116 (Value.type "ResourceWarning")), (zE P (zS "RuntimeWarning") 117 (Value.type "RuntimeWarning")), (zE P (zS "SyntaxWarning") 118 (Value.type "SyntaxWarning")), (zE P (zS "UnicodeWarning") 119 (Value.type "UnicodeWarning")), (zE P (zS "UserWarning") 120 (Value.type "UserWarning")), (zE P (zS "BlockingIOError") 121 (Value.type "BlockingIOError")), (zE P (zS "ChildProcessError") 122 (Value.type "ChildProcessError")), (zE P (zS "ConnectionError") 123 (Value.type "ConnectionError")), (zE P (zS "FileExistsError") 124 (Value.type "FileExistsError")), (zE P (zS "FileNotFoundError") 125 (Value.type "FileNotFoundError")), (zE P (zS "InterruptedError") 126 (Value.type "InterruptedError")), (zE P (zS "IsADirectoryError") 127 (Value.type "IsADirectoryError")), (zE P (zS "NotADirectoryError") 128 (Value.type "NotADirectoryError")), (zE P (zS "PermissionError") 129 (Value.type "PermissionError")), (zE P (zS "ProcessLookupError") 130 (Value.type "ProcessLookupError")), (zE P (zS "TimeoutError") 131 (Value.type "TimeoutError")), (zE P (zS "IndentationError") 132 (Value.type "IndentationError")), (zE P (zS "_IncompleteInputError") 133 (Value.type "_IncompleteInputError")), (zE P (zS "IndexError") 134 (Value.type "IndexError")), (zE P (zS "KeyError") 135 (Value.type "KeyError")), (zE P (zS "ModuleNotFoundError") 136 (Value.type "ModuleNotFoundError")), (zE P (zS "NotImplementedError") 137 (Value.type "NotImplementedError")), (zE P (zS "PythonFinalizationError") 138 (Value.type "PythonFinalizationError")), (zE P (zS "RecursionError") 139 (Value.type "RecursionError")), (zE P (zS "UnboundLocalError") 140 (Value.type "UnboundLocalError")), (zE P (zS "UnicodeError") 141 (Value.type "UnicodeError")), (zE P (zS "BrokenPipeError") 142 (Value.type "BrokenPipeError")), (zE P (zS "ConnectionAbortedError") 143 (Value.type "ConnectionAbortedError")), (zE P (zS "ConnectionRefusedError") 144 (Value.type "ConnectionRefusedError")), (zE P (zS "ConnectionResetError") 145 (Value.type "ConnectionResetError")), (zE P (zS "TabError") 146 (Value.type "TabError")), (zE P (zS "UnicodeDecodeError") 147 (Value.type "UnicodeDecodeError")), (zE P (zS "UnicodeEncodeError") 148 (Value.type "UnicodeEncodeError")), (zE P (zS "UnicodeTranslateError") 149 (Value.type "UnicodeTranslateError")), (zE P (zS "ExceptionGroup") 150 (Value.type "ExceptionGroup")), (zE P (zS "EnvironmentError") 151 (Value.type "OSError")), (zE P (zS "IOError") 152 (Value.type "OSError")), (zE P (zS "open") 153 (Value.builtin "open")), (zE P (zS "quit") 154 (Value.builtin "builtins.quit#opaque")), (zE P (zS "exit") 155 (Value.builtin "builtins.exit#opaque")), (zE P (zS "copyright") 156 (Value.builtin "builtins.copyright#opaque")), (zE P (zS "credits") 157 (Value.builtin "builtins.credits#opaque")), (zE P (zS "license") 158 (Value.builtin "builtins.license#opaque")), (zE P (zS "help") 159 (Value.builtin "builtins.help#opaque"))] 159) #[])
noncomputable def zo4_0 : ZO := fun P => (Obj.mk (Value.type "module") (some 0) Data.plain #[])
noncomputable def zo5_0 : ZO := fun P => (Obj.mk (Value.type "module") (some 3) Data.plain #[])
noncomputable def zo6_0 : ZO := fun P => (Obj.mk (Value.type "dict") none (Data.dict #[] 0) #[])
noncomputable def zo7_0 : ZO := fun P => (Obj.mk (Value.type "tuple") none (Data.seq #[] 0) #[])
noncomputable def zo8_0 : ZO := fun P => (Obj.mk Value.none none (Data.fields #[]) #[])
noncomputable def zo9_0 : ZO := fun P => (Obj.mk (Value.type "code") none (Data.fields #[(zV "<module>" 176), (zV "<module>" 177), (zV "/claim/cut.py" 178), (Value.int (1 : Int) 0), (Value.int (0 : Int) 0), (Value.int (0 : Int) 0), (Value.int (0 : Int) 0), (Value.int (0 : Int) 0), (Value.ref 7), (Value.bool Bool.false), (Value.int (175 : Int) 0), (Value.ref 8), Value.none, Value.none, Value.none, Value.none, (Value.int (179 : Int) 0), (Value.int (1 : Int) 0), (zV "/claim/cut.py" 180)]) #[])
noncomputable def zo10_0 : ZO := fun P => (Obj.mk (Value.type "frame") none Data.plain #[(some (Value.ref 9)), (some (Value.ref 3)), (some (Value.ref 3)), none, (some (zV "__main__" 164)), none, (some (Value.ref 0))])
noncomputable def zo11_1 : ZO := fun P => (Obj.mk (Value.type "dict") none (Data.dict #[(zE P (zS "__name__") 247 (zV "_sre" 246)), (zE P (zS "__doc__") 248 Value.none), (zE P (zS "__package__") 250 (zV "" 249)), (zE P (zS "__loader__") 251 (Value.ref 14)), (zE P (zS "__spec__") 252 (Value.ref 26)), (zE P (zS "compile") 253 (Value.builtin "_sre.compile")), (zE P (zS "template") 254 (Value.builtin "_sre.template")), (zE P (zS "getcodesize") 255 (Value.builtin "_sre.getcodesize")), (zE P (zS "ascii_iscased") 256 (Value.builtin "_sre.ascii_iscased")), (zE P (zS "unicode_iscased") 257 (Value.builtin "_sre.unicode_iscased")), (zE P (zS "ascii_tolower") 258 (Value.builtin "_sre.ascii_tolower")), (zE P (zS "unicode_tolower") 259 (Value.builtin "_sre.unicode_tolower")), (zE P (zS "MAGIC") 261 (Value.int (20230612 : Int) 260)), (zE P (zS "CODESIZE") 263 (Value.int (4 : Int) 262)), (zE P (zS "MAXREPEAT") 265 (Value.int (4294967295 : Int) 264)), (zE P (zS "MAXGROUPS") 267 (Value.int (1073741823 : Int) 266)), (zE P (zS "copyright") 269 (zV " SRE 2.2.2 Copyright (c) 1997-2002 by Secret Labs AB " 268))] 17) #[])
noncomputable def zo12_1 : ZO := fun P => (Obj.mk (Value.type "module") (some 11) Data.plain #[])
noncomputable def zo13_1 : ZO := fun P => (Obj.mk (Value.type "dict") none (Data.dict #[(zE P (zS "__module__") 189 (zV "_frozen_importlib" 186)), (zE P (zS "__firstlineno__") 190 (Value.int (971 : Int) 187)), (zE P (zS "__doc__") 191 (Value.builtin "_frozen_importlib.BuiltinImporter.__doc__:str#opaque")), (zE P (zS "_ORIGIN") 192 (zV "built-in" 188)), (zE P (zS "find_spec") 193 (Value.builtin "_frozen_importlib.BuiltinImporter.find_spec#opaque")), (zE P (zS "create_module") 194 (Value.builtin "_frozen_importlib.BuiltinImporter.create_module#opaque")), (zE P (zS "exec_module") 195 (Value.builtin "_frozen_importlib.BuiltinImporter.exec_module#opaque")), (zE P (zS "get_code") 196 (Value.builtin "_frozen_importlib.BuiltinImporter.get_code#opaque")), (zE P (zS "get_source") 197 (Value.builtin "_frozen_importlib.BuiltinImporter.get_source#opaque")), (zE P (zS "is_package") 198 (Value.builtin "_frozen_importlib.BuiltinImporter.is_package#opaque")), (zE P (zS "load_module") 199 (Value.builtin "_frozen_importlib.BuiltinImporter.load_module#opaque")), (zE P (zS "__static_attributes__") 200 (Value.ref 15)), (zE P (zS "__dict__") 202 (Value.ref 16)), (zE P (zS "__weakref__") 204 (Value.ref 17))] 14) #[])
noncomputable def zo14_1 : ZO := fun P => (Obj.mk (Value.type "type") none (Data.cls (ClassData.mk (zS "BuiltinImporter") [(Value.type "object")] [(Value.ref 14), (Value.type "object")] 13 (zS "BuiltinImporter") Bool.true [] [] Bool.false none Bool.false)) #[])
noncomputable def zo16_1 : ZO := fun P => (Obj.mk (Value.type "getset_descriptor") none (Data.fields #[(zV "__dict__" 201), (Value.ref 14), (Value.builtin "function.__dict__"), (Value.builtin "function.__dict__#set")]) #[])
noncomputable def zo17_1 : ZO := fun P => (Obj.mk (Value.type "getset_descriptor") none (Data.fields #[(zV "__weakref__" 203), (Value.ref 14), (Value.builtin "ExceptionGroup.__weakref__"), Value.none]) #[])
noncomputable def zo19_1 : ZO := fun P => (Obj.mk (Value.type "list") none (Data.seq #[] 0) #[])
noncomputable def zo20_1 : ZO := fun P => (Obj.mk (Value.type "dict") none (Data.dict #[(zE P (zS "name") 208 (zV "_sre" 207)), (zE P (zS "loader") 209 (Value.ref 14)), (zE P (zS "origin") 210 (zV "built-in" 184)), (zE P (zS "loader_state") 211 Value.none), (zE P (zS "submodule_search_locations") 212 Value.none), (zE P (zS "_uninitialized_submodules") 213 (Value.ref 19)), (zE P (zS "_set_fileattr") 214 (Value.bool Bool.false)), (zE P (zS "_cached") 215 Value.none), (zE P (zS "_initializing") 243 (Value.bool Bool.false))] 9) #[])
noncomputable def zo21_1 : ZO := fun P => (Obj.mk (Value.type "dict") none (Data.dict #[(zE P (zS "__module__") 227 (zV "_frozen_importlib" 217)), (zE P (zS "__firstlineno__") 228 (Value.int (562 : Int) 218)), (zE P (zS "__doc__") 229 (Value.builtin "_frozen_importlib.ModuleSpec.__doc__:str#opaque")), (zE P (zS "__init__") 230 (Value.builtin "_frozen_importlib.ModuleSpec.__init__#opaque")), (zE P (zS "__repr__") 231 (Value.builtin "_frozen_importlib.ModuleSpec.__repr__#opaque")), (zE P (zS "__eq__") 232 (Value.builtin "_frozen_importlib.ModuleSpec.__eq__#opaque")), (zE P (zS "cached") 233 (Value.builtin "_frozen_importlib.ModuleSpec.cached#opaque")), (zE P (zS "parent") 234 (Value.builtin "_frozen_importlib.ModuleSpec.parent#opaque")), (zE P (zS "has_location") 235 (Value.builtin "_frozen_importlib.ModuleSpec.has_location#opaque")), (zE P (zS "__static_attributes__") 236 (Value.ref 23)), (zE P (zS "__dict__") 238 (Value.ref 24)), (zE P (zS "__weakref__") 240 (Value.ref 25)), (zE P (zS "__hash__") 241 Value.none)] 13) #[])
noncomputable def zo22_1 : ZO := fun P => (Obj.mk (Value.type "type") none (Data.cls (ClassData.mk (zS "ModuleSpec") [(Value.type "object")] [(Value.ref 22), (Value.type "object")] 21 (zS "ModuleSpec") Bool.true [] [] Bool.false none Bool.false)) #[])
noncomputable def zo23_1 : ZO := fun P => (Obj.mk (Value.type "tuple") none (Data.seq #[(zV "_cached" 219), (zV "_set_fileattr" 220), (zV "_uninitialized_submodules" 221), (zV "loader" 222), (zV "loader_state" 223), (zV "name" 224), (zV "origin" 225), (zV "submodule_search_locations" 226)] 0) #[])
noncomputable def zo24_1 : ZO := fun P => (Obj.mk (Value.type "getset_descriptor") none (Data.fields #[(zV "__dict__" 237), (Value.ref 22), (Value.builtin "function.__dict__"), (Value.builtin "function.__dict__#set")]) #[])
noncomputable def zo25_1 : ZO := fun P => (Obj.mk (Value.type "getset_descriptor") none (Data.fields #[(zV "__weakref__" 239), (Value.ref 22), (Value.builtin "ExceptionGroup.__weakref__"), Value.none]) #[])
noncomputable def zo26_1 : ZO := fun P => (Obj.mk (Value.ref 22) (some 20) Data.plain #[])
noncomputable def zo1_2 : ZO := fun P => (Obj.mk (Value.type "dict") none (Data.dict #[(zE P (zS "builtins") 162 (Value.ref 4)), (zE P (zS "__main__") 163 (Value.ref 5)), (zE P (zS "_sre") 244 (Value.ref 12)), (zE P (zS "_datetime") 352 (Value.ref 30))] 4) #[])
noncomputable def zo2_2 : ZO := fun P => (Obj.mk Value.none none (Data.dict #[(zE P (zS "imp\u006frt.loaded._sre") 183 (Value.bool Bool.true)), (zE P (zS "class._frozen_importlib.BuiltinImporter") 185 (Value.ref 14)), (zE P (zS "watched.imp\u006frt") 206 (Value.ref 18)), (zE P (zS "class._frozen_importlib.ModuleSpec") 216 (Value.ref 22)), (zE P (zS "sys.modules.booked-epoch") 245 (Value.int (4 : Int) 0)), (zE P (zS "imp\u006frt.later-laid._sre") 270 (Value.bool Bool.true)), (zE P (zS "watched.library") 272 (Value.ref 27)), (zE P (zS "watched.library-objects") 0 (Value.str (Str.mk #[12, 30]) 0)), (zE P (zS "watched.library-deep._sre") 273 (Value.str (Str.mk #[4, 0, 0, 11, 4, 0, 0, 11, 4, 0, 0, 3, 4, 0, 0, 11, 8, 4, 100, 105, 99, 116, 2]) 0)), (zE P (zS "imp\u006frt.loaded._datetime") 281 (Value.bool Bool.true)), (zE P (zS "class._frozen_importlib_external._LoaderBasics") 286 (Value.ref 33)), (zE P (zS "class._frozen_importlib_external.FileLoader") 302 (Value.ref 38)), (zE P (zS "class._frozen_importlib_external.ExtensionFileLoader") 323 (Value.ref 43)), (zE P (zS "datetime.timedelta.zero") 373 (Value.ref 49)), (zE P (zS "datetime.timezone.utc") 374 (Value.ref 50)), (zE P (zS "imp\u006frt.later-laid._datetime") 377 (Value.bool Bool.true))] 16) #[])
noncomputable def zo3_2 : ZO := fun P => (Obj.mk (Value.type "dict") none (Data.dict #[(zE P (zS "__name__") 165 (zV "__main__" 164)), (zE P (zS "__doc__") 166 Value.none), (zE P (zS "__package__") 167 Value.none), (zE P (zS "__loader__") 168 (Value.builtin "__main__.__loader__#opaque")), (zE P (zS "__spec__") 169 Value.none), (zE P (zS "__annotations__") 170 (Value.ref 6)), (zE P (zS "__builtins__") 171 (Value.ref 4)), (zE P (zS "__file__") 173 (zV "/claim/cut.py" 172)), (zE P (zS "__cached__") 174 Value.none), (zE P (zS "_sre") 275 (Value.ref 12)), (zE P (zS "datetime") 384 (Value.type "datetime.datetime")), (zE P (zS "timezone") 387 (Value.type "datetime.timezone"))] 12) #[])
noncomputable def zo18_2 : ZO := fun P => (Obj.mk Value.none none (Data.seq #[(Value.int (13 : Int) 0), (Value.str (Str.mk #[6, 189, 10, 95, 95, 109, 111, 100, 117, 108, 101, 95, 95, 6, 186, 17, 95, 102, 114, 111, 122, 101, 110, 95, 105, 109, 112, 111, 114, 116, 108, 105, 98, 6, 190, 15, 95, 95, 102, 105, 114, 115, 116, 108, 105, 110, 101, 110, 111, 95, 95, 4, 187, 0, 971, 6, 191, 7, 95, 95, 100, 111, 99, 95, 95, 9, 52, 95, 102, 114, 111, 122, 101, 110, 95, 105, 109, 112, 111, 114, 116, 108, 105, 98, 46, 66, 117, 105, 108, 116, 105, 110, 73, 109, 112, 111, 114, 116, 101, 114, 46, 95, 95, 100, 111, 99, 95, 95, 58, 115, 116, 114, 35, 111, 112, 97, 113, 117, 101, 6, 192, 7, 95, 79, 82, 73, 71, 73, 78, 6, 188, 8, 98, 117, 105, 108, 116, 45, 105, 110, 6, 193, 9, 102, 105, 110, 100, 95, 115, 112, 101, 99, 9, 50, 95, 102, 114, 111, 122, 101, 110, 95, 105, 109, 112, 111, 114, 116, 108, 105, 98, 46, 66, 117, 105, 108, 116, 105, 110, 73, 109, 112, 111, 114, 116, 101, 114, 46, 102, 105, 110, 100, 95, 115, 112, 101, 99, 35, 111, 112, 97, 113, 117, 101, 6, 194, 13, 99, 114, 101, 97, 116, 101, 95, 109, 111, 100, 117, 108, 101, 9, 54, 95, 102, 114, 111, 122, 101, 110, 95, 105, 109, 112, 111, 114, 116, 108, 105, 98, 46, 66, 117, 105, 108, 116, 105, 110, 73, 109, 112, 111, 114, 116, 101, 114, 46, 99, 114, 101, 97, 116, 101, 95, 109, 111, 100, 117, 108, 101, 35, 111, 112, 97, 113, 117, 101, 6, 195, 11, 101, 120, 101, 99, 95, 109, 111, 100, 117, 108, 101, 9, 52, 95, 102, 114, 111, 122, 101, 110, 95, 105, 109, 112, 111, 114, 116, 108, 105, 98, 46, 66, 117, 105, 108, 116, 105, 110, 73, 109, 112, 111, 114, 116, 101, 114, 46, 101, 120, 101, 99, 95, 109, 111, 100, 117, 108, 101, 35, 111, 112, 97, 113, 117, 101, 6, 196, 8, 103, 101, 116, 95, 99, 111, 100, 101, 9, 49, 95, 102, 114, 111, 122, 101, 110, 95, 105, 109, 112, 111, 114, 116, 108, 105, 98, 46, 66, 117, 105, 108, 116, 105, 110, 73, 109, 112, 111, 114, 116, 101, 114, 46, 103, 101, 116, 95, 99, 111, 100, 101, 35, 111, 112, 97, 113, 117, 101, 6, 197, 10, 103, 101, 116, 95, 115, 111, 117, 114, 99, 101, 9, 51, 95, 102, 114, 111, 122, 101, 110, 95, 105, 109, 112, 111, 114, 116, 108, 105, 98, 46, 66, 117, 105, 108, 116, 105, 110, 73, 109, 112, 111, 114, 116, 101, 114, 46, 103, 101, 116, 95, 115, 111, 117, 114, 99, 101, 35, 111, 112, 97, 113, 117, 101, 6, 198, 10, 105, 115, 95, 112, 97, 99, 107, 97, 103, 101, 9, 51, 95, 102, 114, 111, 122, 101, 110, 95, 105, 109, 112, 111, 114, 116, 108, 105, 98, 46, 66, 117, 105, 108, 116, 105, 110, 73, 109, 112, 111, 114, 116, 101, 114, 46, 105, 115, 95, 112, 97, 99, 107, 97, 103, 101, 35, 111, 112, 97, 113, 117, 101, 6, 199, 11, 108, 111, 97, 100, 95, 109, 111, 100, 117, 108, 101, 9, 52, 95, 102, 114, 111, 122, 101, 110, 95, 105, 109, 112, 111, 114, 116, 108, 105, 98, 46, 66, 117, 105, 108, 116, 105, 110, 73, 109, 112, 111, 114, 116, 101, 114, 46, 108, 111, 97, 100, 95, 109, 111, 100, 117, 108, 101, 35, 111, 112, 97, 113, 117, 101, 6, 200, 21, 95, 95, 115, 116, 97, 116, 105, 99, 95, 97, 116, 116, 114, 105, 98, 117, 116, 101, 115, 95, 95, 4, 0, 0, 15, 6, 202, 8, 95, 95, 100, 105, 99, 116, 95, 95, 4, 0, 0, 16, 6, 204, 11, 95, 95, 119, 101, 97, 107, 114, 101, 102, 95, 95, 4, 0, 0, 17]) 0), (Value.bool Bool.true), (Value.bool Bool.true), (zV "" 205), (Value.int (21 : Int) 0), (Value.str (Str.mk #[6, 227, 10, 95, 95, 109, 111, 100, 117, 108, 101, 95, 95, 6, 217, 17, 95, 102, 114, 111, 122, 101, 110, 95, 105, 109, 112, 111, 114, 116, 108, 105, 98, 6, 228, 15, 95, 95, 102, 105, 114, 115, 116, 108, 105, 110, 101, 110, 111, 95, 95, 4, 218, 0, 562, 6, 229, 7, 95, 95, 100, 111, 99, 95, 95, 9, 47, 95, 102, 114, 111, 122, 101, 110, 95, 105, 109, 112, 111, 114, 116, 108, 105, 98, 46, 77, 111, 100, 117, 108, 101, 83, 112, 101, 99, 46, 95, 95, 100, 111, 99, 95, 95, 58, 115, 116, 114, 35, 111, 112, 97, 113, 117, 101, 6, 230, 8, 95, 95, 105, 110, 105, 116, 95, 95, 9, 44, 95, 102, 114, 111, 122, 101, 110, 95, 105, 109, 112, 111, 114, 116, 108, 105, 98, 46, 77, 111, 100, 117, 108, 101, 83, 112, 101, 99, 46, 95, 95, 105, 110, 105, 116, 95, 95, 35, 111, 112, 97, 113, 117, 101, 6, 231, 8, 95, 95, 114, 101, 112, 114, 95, 95, 9, 44, 95, 102, 114, 111, 122, 101, 110, 95, 105, 109, 112, 111, 114, 116, 108, 105, 98, 46, 77, 111, 100, 117, 108, 101, 83, 112, 101, 99, 46, 95, 95, 114, 101, 112, 114, 95, 95, 35, 111, 112, 97, 113, 117, 101, 6, 232, 6, 95, 95, 101, 113, 95, 95, 9, 42, 95, 102, 114, 111, 122, 101, 110, 95, 105, 109, 112, 111, 114, 116, 108, 105, 98, 46, 77, 111, 100, 117, 108, 101, 83, 112, 101, 99, 46, 95, 95, 101, 113, 95, 95, 35, 111, 112, 97, 113, 117, 101, 6, 233, 6, 99, 97, 99, 104, 101, 100, 9, 42, 95, 102, 114, 111, 122, 101, 110, 95, 105, 109, 112, 111, 114, 116, 108, 105, 98, 46, 77, 111, 100, 117, 108, 101, 83, 112, 101, 99, 46, 99, 97, 99, 104, 101, 100, 35, 111, 112, 97, 113, 117, 101, 6, 234, 6, 112, 97, 114, 101, 110, 116, 9, 42, 95, 102, 114, 111, 122, 101, 110, 95, 105, 109, 112, 111, 114, 116, 108, 105, 98, 46, 77, 111, 100, 117, 108, 101, 83, 112, 101, 99, 46, 112, 97, 114, 101, 110, 116, 35, 111, 112, 97, 113, 117, 101, 6, 235, 12, 104, 97, 115, 95, 108, 111, 99, 97, 116, 105, 111, 110, 9, 48, 95, 102, 114, 111, 122, 101, 110, 95, 105, 109, 112, 111, 114, 116, 108, 105, 98, 46, 77, 111, 100, 117, 108, 101, 83, 112, 101, 99, 46, 104, 97, 115, 95, 108, 111, 99, 97, 116, 105, 111, 110, 35, 111, 112, 97, 113, 117, 101, 6, 236, 21, 95, 95, 115, 116, 97, 116, 105, 99, 95, 97, 116, 116, 114, 105, 98, 117, 116, 101, 115, 95, 95, 4, 0, 0, 23, 6, 238, 8, 95, 95, 100, 105, 99, 116, 95, 95, 4, 0, 0, 24, 6, 240, 11, 95, 95, 119, 101, 97, 107, 114, 101, 102, 95, 95, 4, 0, 0, 25, 6, 241, 8, 95, 95, 104, 97, 115, 104, 95, 95, 0]) 0), (Value.bool Bool.true), (Value.bool Bool.true), (zV "" 242), (Value.int (32 : Int) 0), (Value.str (Str.mk #[6, 289, 10, 95, 95, 109, 111, 100, 117, 108, 101, 95, 95, 6, 287, 26, 95, 102, 114, 111, 122, 101, 110, 95, 105, 109, 112, 111, 114, 116, 108, 105, 98, 95, 101, 120, 116, 101, 114, 110, 97, 108, 6, 290, 15, 95, 95, 102, 105, 114, 115, 116, 108, 105, 110, 101, 110, 111, 95, 95, 4, 288, 0, 1001, 6, 291, 7, 95, 95, 100, 111, 99, 95, 95, 9, 59, 95, 102, 114, 111, 122, 101, 110, 95, 105, 109, 112, 111, 114, 116, 108, 105, 98, 95, 101, 120, 116, 101, 114, 110, 97, 108, 46, 95, 76, 111, 97, 100, 101, 114, 66, 97, 115, 105, 99, 115, 46, 95, 95, 100, 111, 99, 95, 95, 58, 115, 116, 114, 35, 111, 112, 97, 113, 117, 101, 6, 292, 10, 105, 115, 95, 112, 97, 99, 107, 97, 103, 101, 9, 58, 95, 102, 114, 111, 122, 101, 110, 95, 105, 109, 112, 111, 114, 116, 108, 105, 98, 95, 101, 120, 116, 101, 114, 110, 97, 108, 46, 95, 76, 111, 97, 100, 101, 114, 66, 97, 115, 105, 99, 115, 46, 105, 115, 95, 112, 97, 99, 107, 97, 103, 101, 35, 111, 112, 97, 113, 117, 101, 6, 293, 13, 99, 114, 101, 97, 116, 101, 95, 109, 111, 100, 117, 108, 101, 9, 61, 95, 102, 114, 111, 122, 101, 110, 95, 105, 109, 112, 111, 114, 116, 108, 105, 98, 95, 101, 120, 116, 101, 114, 110, 97, 108, 46, 95, 76, 111, 97, 100, 101, 114, 66, 97, 115, 105, 99, 115, 46, 99, 114, 101, 97, 116, 101, 95, 109, 111, 100, 117, 108, 101, 35, 111, 112, 97, 113, 117, 101, 6, 294, 11, 101, 120, 101, 99, 95, 109, 111, 100, 117, 108, 101, 9, 59, 95, 102, 114, 111, 122, 101, 110, 95, 105, 109, 112, 111, 114, 116, 108, 105, 98, 95, 101, 120, 116, 101, 114, 110, 97, 108, 46, 95, 76, 111, 97, 100, 101, 114, 66, 97, 115, 105, 99, 115, 46, 101, 120, 101, 99, 95, 109, 111, 100, 117, 108, 101, 35, 111, 112, 97, 113, 117, 101, 6, 295, 11, 108, 111, 97, 100, 95, 109, 111, 100, 117, 108, 101, 9, 59, 95, 102, 114, 111, 122, 101, 110, 95, 105, 109, 112, 111, 114, 116, 108, 105, 98, 95, 101, 120, 116, 101, 114, 110, 97, 108, 46, 95, 76, 111, 97, 100, 101, 114, 66, 97, 115, 105, 99, 115, 46, 108, 111, 97, 100, 95, 109, 111, 100, 117, 108, 101, 35, 111, 112, 97, 113, 117, 101, 6, 296, 21, 95, 95, 115, 116, 97, 116, 105, 99, 95, 97, 116, 116, 114, 105, 98, 117, 116, 101, 115, 95, 95, 4, 0, 0, 34, 6, 298, 8, 95, 95, 100, 105, 99, 116, 95, 95, 4, 0, 0, 35, 6, 300, 11, 95, 95, 119, 101, 97, 107, 114, 101, 102, 95, 95, 4, 0, 0, 36]) 0), (Value.bool Bool.true), (Value.bool Bool.true), (zV "" 301), (Value.int (37 : Int) 0), (Value.str (Str.mk #[6, 307, 10, 95, 95, 109, 111, 100, 117, 108, 101, 95, 95, 6, 303, 26, 95, 102, 114, 111, 122, 101, 110, 95, 105, 109, 112, 111, 114, 116, 108, 105, 98, 95, 101, 120, 116, 101, 114, 110, 97, 108, 6, 308, 15, 95, 95, 102, 105, 114, 115, 116, 108, 105, 110, 101, 110, 111, 95, 95, 4, 304, 0, 1176, 6, 309, 7, 95, 95, 100, 111, 99, 95, 95, 9, 56, 95, 102, 114, 111, 122, 101, 110, 95, 105, 109, 112, 111, 114, 116, 108, 105, 98, 95, 101, 120, 116, 101, 114, 110, 97, 108, 46, 70, 105, 108, 101, 76, 111, 97, 100, 101, 114, 46, 95, 95, 100, 111, 99, 95, 95, 58, 115, 116, 114, 35, 111, 112, 97, 113, 117, 101, 6, 310, 8, 95, 95, 105, 110, 105, 116, 95, 95, 9, 53, 95, 102, 114, 111, 122, 101, 110, 95, 105, 109, 112, 111, 114, 116, 108, 105, 98, 95, 101, 120, 116, 101, 114, 110, 97, 108, 46, 70, 105, 108, 101, 76, 111, 97, 100, 101, 114, 46, 95, 95, 105, 110, 105, 116, 95, 95, 35, 111, 112, 97, 113, 117, 101, 6, 311, 6, 95, 95, 101, 113, 95, 95, 9, 51, 95, 102, 114, 111, 122, 101, 110, 95, 105, 109, 112, 111, 114, 116, 108, 105, 98, 95, 101, 120, 116, 101, 114, 110, 97, 108, 46, 70, 105, 108, 101, 76, 111, 97, 100, 101, 114, 46, 95, 95, 101, 113, 95, 95, 35, 111, 112, 97, 113, 117, 101, 6, 312, 8, 95, 95, 104, 97, 115, 104, 95, 95, 9, 53, 95, 102, 114, 111, 122, 101, 110, 95, 105, 109, 112, 111, 114, 116, 108, 105, 98, 95, 101, 120, 116, 101, 114, 110, 97, 108, 46, 70, 105, 108, 101, 76, 111, 97, 100, 101, 114, 46, 95, 95, 104, 97, 115, 104, 95, 95, 35, 111, 112, 97, 113, 117, 101, 6, 313, 11, 108, 111, 97, 100, 95, 109, 111, 100, 117, 108, 101, 9, 56, 95, 102, 114, 111, 122, 101, 110, 95, 105, 109, 112, 111, 114, 116, 108, 105, 98, 95, 101, 120, 116, 101, 114, 110, 97, 108, 46, 70, 105, 108, 101, 76, 111, 97, 100, 101, 114, 46, 108, 111, 97, 100, 95, 109, 111, 100, 117, 108, 101, 35, 111, 112, 97, 113, 117, 101, 6, 314, 12, 103, 101, 116, 95, 102, 105, 108, 101, 110, 97, 109, 101, 9, 57, 95, 102, 114, 111, 122, 101, 110, 95, 105, 109, 112, 111, 114, 116, 108, 105, 98, 95, 101, 120, 116, 101, 114, 110, 97, 108, 46, 70, 105, 108, 101, 76, 111, 97, 100, 101, 114, 46, 103, 101, 116, 95, 102, 105, 108, 101, 110, 97, 109, 101, 35, 111, 112, 97, 113, 117, 101, 6, 315, 8, 103, 101, 116, 95, 100, 97, 116, 97, 9, 53, 95, 102, 114, 111, 122, 101, 110, 95, 105, 109, 112, 111, 114, 116, 108, 105, 98, 95, 101, 120, 116, 101, 114, 110, 97, 108, 46, 70, 105, 108, 101, 76, 111, 97, 100, 101, 114, 46, 103, 101, 116, 95, 100, 97, 116, 97, 35, 111, 112, 97, 113, 117, 101, 6, 316, 19, 103, 101, 116, 95, 114, 101, 115, 111, 117, 114, 99, 101, 95, 114, 101, 97, 100, 101, 114, 9, 64, 95, 102, 114, 111, 122, 101, 110, 95, 105, 109, 112, 111, 114, 116, 108, 105, 98, 95, 101, 120, 116, 101, 114, 110, 97, 108, 46, 70, 105, 108, 101, 76, 111, 97, 100, 101, 114, 46, 103, 101, 116, 95, 114, 101, 115, 111, 117, 114, 99, 101, 95, 114, 101, 97, 100, 101, 114, 35, 111, 112, 97, 113, 117, 101, 6, 317, 21, 95, 95, 115, 116, 97, 116, 105, 99, 95, 97, 116, 116, 114, 105, 98, 117, 116, 101, 115, 95, 95, 4, 0, 0, 39, 6, 319, 8, 95, 95, 100, 105, 99, 116, 95, 95, 4, 0, 0, 40, 6, 321, 11, 95, 95, 119, 101, 97, 107, 114, 101, 102, 95, 95, 4, 0, 0, 41]) 0), (Value.bool Bool.true), (Value.bool Bool.true), (zV "" 322), (Value.int (42 : Int) 0), (Value.str (Str.mk #[6, 328, 10, 95, 95, 109, 111, 100, 117, 108, 101, 95, 95, 6, 324, 26, 95, 102, 114, 111, 122, 101, 110, 95, 105, 109, 112, 111, 114, 116, 108, 105, 98, 95, 101, 120, 116, 101, 114, 110, 97, 108, 6, 329, 15, 95, 95, 102, 105, 114, 115, 116, 108, 105, 110, 101, 110, 111, 95, 95, 4, 325, 0, 1296, 6, 330, 7, 95, 95, 100, 111, 99, 95, 95, 9, 65, 95, 102, 114, 111, 122, 101, 110, 95, 105, 109, 112, 111, 114, 116, 108, 105, 98, 95, 101, 120, 116, 101, 114, 110, 97, 108, 46, 69, 120, 116, 101, 110, 115, 105, 111, 110, 70, 105, 108, 101, 76, 111, 97, 100, 101, 114, 46, 95, 95, 100, 111, 99, 95, 95, 58, 115, 116, 114, 35, 111, 112, 97, 113, 117, 101, 6, 331, 8, 95, 95, 105, 110, 105, 116, 95, 95, 9, 62, 95, 102, 114, 111, 122, 101, 110, 95, 105, 109, 112, 111, 114, 116, 108, 105, 98, 95, 101, 120, 116, 101, 114, 110, 97, 108, 46, 69, 120, 116, 101, 110, 115, 105, 111, 110, 70, 105, 108, 101, 76, 111, 97, 100, 101, 114, 46, 95, 95, 105, 110, 105, 116, 95, 95, 35, 111, 112, 97, 113, 117, 101, 6, 332, 6, 95, 95, 101, 113, 95, 95, 9, 60, 95, 102, 114, 111, 122, 101, 110, 95, 105, 109, 112, 111, 114, 116, 108, 105, 98, 95, 101, 120, 116, 101, 114, 110, 97, 108, 46, 69, 120, 116, 101, 110, 115, 105, 111, 110, 70, 105, 108, 101, 76, 111, 97, 100, 101, 114, 46, 95, 95, 101, 113, 95, 95, 35, 111, 112, 97, 113, 117, 101, 6, 333, 8, 95, 95, 104, 97, 115, 104, 95, 95, 9, 62, 95, 102, 114, 111, 122, 101, 110, 95, 105, 109, 112, 111, 114, 116, 108, 105, 98, 95, 101, 120, 116, 101, 114, 110, 97, 108, 46, 69, 120, 116, 101, 110, 115, 105, 111, 110, 70, 105, 108, 101, 76, 111, 97, 100, 101, 114, 46, 95, 95, 104, 97, 115, 104, 95, 95, 35, 111, 112, 97, 113, 117, 101, 6, 334, 13, 99, 114, 101, 97, 116, 101, 95, 109, 111, 100, 117, 108, 101, 9, 67, 95, 102, 114, 111, 122, 101, 110, 95, 105, 109, 112, 111, 114, 116, 108, 105, 98, 95, 101, 120, 116, 101, 114, 110, 97, 108, 46, 69, 120, 116, 101, 110, 115, 105, 111, 110, 70, 105, 108, 101, 76, 111, 97, 100, 101, 114, 46, 99, 114, 101, 97, 116, 101, 95, 109, 111, 100, 117, 108, 101, 35, 111, 112, 97, 113, 117, 101, 6, 335, 11, 101, 120, 101, 99, 95, 109, 111, 100, 117, 108, 101, 9, 65, 95, 102, 114, 111, 122, 101, 110, 95, 105, 109, 112, 111, 114, 116, 108, 105, 98, 95, 101, 120, 116, 101, 114, 110, 97, 108, 46, 69, 120, 116, 101, 110, 115, 105, 111, 110, 70, 105, 108, 101, 76, 111, 97, 100, 101, 114, 46, 101, 120, 101, 99, 95, 109, 111, 100, 117, 108, 101, 35, 111, 112, 97, 113, 117, 101, 6, 336, 10, 105, 115, 95, 112, 97, 99, 107, 97, 103, 101, 9, 64, 95, 102, 114, 111, 122, 101, 110, 95, 105, 109, 112, 111, 114, 116, 108, 105, 98, 95, 101, 120, 116, 101, 114, 110, 97, 108, 46, 69, 120, 116, 101, 110, 115, 105, 111, 110, 70, 105, 108, 101, 76, 111, 97, 100, 101, 114, 46, 105, 115, 95, 112, 97, 99, 107, 97, 103, 101, 35, 111, 112, 97, 113, 117, 101, 6, 337, 8, 103, 101, 116, 95, 99, 111, 100, 101, 9, 62, 95, 102, 114, 111, 122, 101, 110, 95, 105, 109, 112, 111, 114, 116, 108, 105, 98, 95, 101, 120, 116, 101, 114, 110, 97, 108, 46, 69, 120, 116, 101, 110, 115, 105, 111, 110, 70, 105, 108, 101, 76, 111, 97, 100, 101, 114, 46, 103, 101, 116, 95, 99, 111, 100, 101, 35, 111, 112, 97, 113, 117, 101, 6, 338, 10, 103, 101, 116, 95, 115, 111, 117, 114, 99, 101, 9, 64, 95, 102, 114, 111, 122, 101, 110, 95, 105, 109, 112, 111, 114, 116, 108, 105, 98, 95, 101, 120, 116, 101, 114, 110, 97, 108, 46, 69, 120, 116, 101, 110, 115, 105, 111, 110, 70, 105, 108, 101, 76, 111, 97, 100, 101, 114, 46, 103, 101, 116, 95, 115, 111, 117, 114, 99, 101, 35, 111, 112, 97, 113, 117, 101, 6, 339, 12, 103, 101, 116, 95, 102, 105, 108, 101, 110, 97, 109, 101, 9, 66, 95, 102, 114, 111, 122, 101, 110, 95, 105, 109, 112, 111, 114, 116, 108, 105, 98, 95, 101, 120, 116, 101, 114, 110, 97, 108, 46, 69, 120, 116, 101, 110, 115, 105, 111, 110, 70, 105, 108, 101, 76, 111, 97, 100, 101, 114, 46, 103, 101, 116, 95, 102, 105, 108, 101, 110, 97, 109, 101, 35, 111, 112, 97, 113, 117, 101, 6, 340, 21, 95, 95, 115, 116, 97, 116, 105, 99, 95, 97, 116, 116, 114, 105, 98, 117, 116, 101, 115, 95, 95, 4, 0, 0, 44]) 0), (Value.bool Bool.true), (Value.bool Bool.true), (zV "" 341)] 4) #[])
noncomputable def zo27_2 : ZO := fun P => (Obj.mk Value.none none (Data.seq #[(Value.int (11 : Int) 0), (Value.str (Str.mk #[6, 247, 8, 95, 95, 110, 97, 109, 101, 95, 95, 6, 246, 4, 95, 115, 114, 101, 6, 248, 7, 95, 95, 100, 111, 99, 95, 95, 0, 6, 250, 11, 95, 95, 112, 97, 99, 107, 97, 103, 101, 95, 95, 6, 249, 0, 6, 251, 10, 95, 95, 108, 111, 97, 100, 101, 114, 95, 95, 4, 0, 0, 14, 6, 252, 8, 95, 95, 115, 112, 101, 99, 95, 95, 4, 0, 0, 26, 6, 253, 7, 99, 111, 109, 112, 105, 108, 101, 9, 12, 95, 115, 114, 101, 46, 99, 111, 109, 112, 105, 108, 101, 6, 254, 8, 116, 101, 109, 112, 108, 97, 116, 101, 9, 13, 95, 115, 114, 101, 46, 116, 101, 109, 112, 108, 97, 116, 101, 6, 255, 11, 103, 101, 116, 99, 111, 100, 101, 115, 105, 122, 101, 9, 16, 95, 115, 114, 101, 46, 103, 101, 116, 99, 111, 100, 101, 115, 105, 122, 101, 6, 256, 13, 97, 115, 99, 105, 105, 95, 105, 115, 99, 97, 115, 101, 100, 9, 18, 95, 115, 114, 101, 46, 97, 115, 99, 105, 105, 95, 105, 115, 99, 97, 115, 101, 100, 6, 257, 15, 117, 110, 105, 99, 111, 100, 101, 95, 105, 115, 99, 97, 115, 101, 100, 9, 20, 95, 115, 114, 101, 46, 117, 110, 105, 99, 111, 100, 101, 95, 105, 115, 99, 97, 115, 101, 100, 6, 258, 13, 97, 115, 99, 105, 105, 95, 116, 111, 108, 111, 119, 101, 114, 9, 18, 95, 115, 114, 101, 46, 97, 115, 99, 105, 105, 95, 116, 111, 108, 111, 119, 101, 114, 6, 259, 15, 117, 110, 105, 99, 111, 100, 101, 95, 116, 111, 108, 111, 119, 101, 114, 9, 20, 95, 115, 114, 101, 46, 117, 110, 105, 99, 111, 100, 101, 95, 116, 111, 108, 111, 119, 101, 114, 6, 261, 5, 77, 65, 71, 73, 67, 4, 260, 0, 20230612, 6, 263, 8, 67, 79, 68, 69, 83, 73, 90, 69, 4, 262, 0, 4, 6, 265, 9, 77, 65, 88, 82, 69, 80, 69, 65, 84, 4, 264, 0, 4294967295, 6, 267, 9, 77, 65, 88, 71, 82, 79, 85, 80, 83, 4, 266, 0, 1073741823, 6, 269, 9, 99, 111, 112, 121, 114, 105, 103, 104, 116, 6, 268, 53, 32, 83, 82, 69, 32, 50, 46, 50, 46, 50, 32, 67, 111, 112, 121, 114, 105, 103, 104, 116, 32, 40, 99, 41, 32, 49, 57, 57, 55, 45, 50, 48, 48, 50, 32, 98, 121, 32, 83, 101, 99, 114, 101, 116, 32, 76, 97, 98, 115, 32, 65, 66, 32]) 0), (Value.bool Bool.true), (Value.bool Bool.false), (zV "_sre" 271), (Value.int (29 : Int) 0), (Value.str (Str.mk #[6, 355, 8, 95, 95, 110, 97, 109, 101, 95, 95, 6, 354, 9, 95, 100, 97, 116, 101, 116, 105, 109, 101, 6, 357, 7, 95, 95, 100, 111, 99, 95, 95, 6, 356, 41, 70, 97, 115, 116, 32, 105, 109, 112, 108, 101, 109, 101, 110, 116, 97, 116, 105, 111, 110, 32, 111, 102, 32, 116, 104, 101, 32, 100, 97, 116, 101, 116, 105, 109, 101, 32, 116, 121, 112, 101, 46, 6, 359, 11, 95, 95, 112, 97, 99, 107, 97, 103, 101, 95, 95, 6, 358, 0, 6, 360, 10, 95, 95, 108, 111, 97, 100, 101, 114, 95, 95, 4, 0, 0, 45, 6, 361, 8, 95, 95, 115, 112, 101, 99, 95, 95, 4, 0, 0, 48, 6, 362, 8, 95, 95, 102, 105, 108, 101, 95, 95, 6, 282, 128, 47, 110, 105, 120, 47, 115, 116, 111, 114, 101, 47, 119, 106, 49, 102, 53, 54, 113, 107, 121, 52, 112, 109, 106, 99, 55, 108, 48, 114, 54, 98, 54, 108, 55, 119, 104, 110, 110, 119, 55, 104, 112, 54, 45, 112, 121, 116, 104, 111, 110, 51, 45, 51, 46, 49, 51, 46, 49, 53, 47, 108, 105, 98, 47, 112, 121, 116, 104, 111, 110, 51, 46, 49, 51, 47, 108, 105, 98, 45, 100, 121, 110, 108, 111, 97, 100, 47, 95, 100, 97, 116, 101, 116, 105, 109, 101, 46, 99, 112, 121, 116, 104, 111, 110, 45, 51, 49, 51, 45, 120, 56, 54, 95, 54, 52, 45, 108, 105, 110, 117, 120, 45, 103, 110, 117, 46, 115, 111, 6, 363, 4, 100, 97, 116, 101, 8, 13, 100, 97, 116, 101, 116, 105, 109, 101, 46, 100, 97, 116, 101, 6, 364, 8, 100, 97, 116, 101, 116, 105, 109, 101, 8, 17, 100, 97, 116, 101, 116, 105, 109, 101, 46, 100, 97, 116, 101, 116, 105, 109, 101, 6, 365, 4, 116, 105, 109, 101, 8, 13, 100, 97, 116, 101, 116, 105, 109, 101, 46, 116, 105, 109, 101, 6, 366, 9, 116, 105, 109, 101, 100, 101, 108, 116, 97, 8, 18, 100, 97, 116, 101, 116, 105, 109, 101, 46, 116, 105, 109, 101, 100, 101, 108, 116, 97, 6, 367, 6, 116, 122, 105, 110, 102, 111, 8, 15, 100, 97, 116, 101, 116, 105, 109, 101, 46, 116, 122, 105, 110, 102, 111, 6, 368, 8, 116, 105, 109, 101, 122, 111, 110, 101, 8, 17, 100, 97, 116, 101, 116, 105, 109, 101, 46, 116, 105, 109, 101, 122, 111, 110, 101, 6, 370, 7, 77, 73, 78, 89, 69, 65, 82, 4, 369, 0, 1, 6, 372, 7, 77, 65, 88, 89, 69, 65, 82, 4, 371, 0, 9999, 6, 375, 3, 85, 84, 67, 4, 0, 0, 50, 6, 376, 13, 100, 97, 116, 101, 116, 105, 109, 101, 95, 67, 65, 80, 73, 9, 30, 95, 100, 97, 116, 101, 116, 105, 109, 101, 46, 100, 97, 116, 101, 116, 105, 109, 101, 95, 67, 65, 80, 73, 35, 111, 112, 97, 113, 117, 101]) 0), (Value.bool Bool.true), (Value.bool Bool.false), (zV "_datetime" 378)] 1) #[])
noncomputable def zo28_2 : ZO := fun P => (Obj.mk (Value.type "tuple") none (Data.seq #[(zV "datetime" 277), (zV "timezone" 278)] 0) #[])
noncomputable def zo29_2 : ZO := fun P => (Obj.mk (Value.type "dict") none (Data.dict #[(zE P (zS "__name__") 355 (zV "_datetime" 354)), (zE P (zS "__doc__") 357 (zV "Fast implementation of the datetime type." 356)), (zE P (zS "__package__") 359 (zV "" 358)), (zE P (zS "__loader__") 360 (Value.ref 45)), (zE P (zS "__spec__") 361 (Value.ref 48)), (zE P (zS "__file__") 362 (zV "/nix/store/wj1f56qky4pmjc7l0r6b6l7whnnw7hp6-python3-3.13.15/lib/python3.13/lib-dynload/_datetime.cpython-313-x86_64-linux-gnu.so" 282)), (zE P (zS "date") 363 (Value.type "datetime.date")), (zE P (zS "datetime") 364 (Value.type "datetime.datetime")), (zE P (zS "time") 365 (Value.type "datetime.time")), (zE P (zS "timedelta") 366 (Value.type "datetime.timedelta")), (zE P (zS "tzinfo") 367 (Value.type "datetime.tzinfo")), (zE P (zS "timezone") 368 (Value.type "datetime.timezone")), (zE P (zS "MINYEAR") 370 (Value.int (1 : Int) 369)), (zE P (zS "MAXYEAR") 372 (Value.int (9999 : Int) 371)), (zE P (zS "UTC") 375 (Value.ref 50)), (zE P (zS "datetime_CAPI") 376 (Value.builtin "_datetime.datetime_CAPI#opaque"))] 16) #[])
noncomputable def zo30_2 : ZO := fun P => (Obj.mk (Value.type "module") (some 29) Data.plain #[])
noncomputable def zo31_2 : ZO := fun P => (Obj.mk (Value.type "dict") none (Data.dict #[(zE P (zS "name") 284 (zV "_datetime" 283)), (zE P (zS "path") 285 (zV "/nix/store/wj1f56qky4pmjc7l0r6b6l7whnnw7hp6-python3-3.13.15/lib/python3.13/lib-dynload/_datetime.cpython-313-x86_64-linux-gnu.so" 282))] 2) #[])
noncomputable def zo32_2 : ZO := fun P => (Obj.mk (Value.type "dict") none (Data.dict #[(zE P (zS "__module__") 289 (zV "_frozen_importlib_external" 287)), (zE P (zS "__firstlineno__") 290 (Value.int (1001 : Int) 288)), (zE P (zS "__doc__") 291 (Value.builtin "_frozen_importlib_external._LoaderBasics.__doc__:str#opaque")), (zE P (zS "is_package") 292 (Value.builtin "_frozen_importlib_external._LoaderBasics.is_package#opaque")), (zE P (zS "create_module") 293 (Value.builtin "_frozen_importlib_external._LoaderBasics.create_module#opaque")), (zE P (zS "exec_module") 294 (Value.builtin "_frozen_importlib_external._LoaderBasics.exec_module#opaque")), (zE P (zS "load_module") 295 (Value.builtin "_frozen_importlib_external._LoaderBasics.load_module#opaque")), (zE P (zS "__static_attributes__") 296 (Value.ref 34)), (zE P (zS "__dict__") 298 (Value.ref 35)), (zE P (zS "__weakref__") 300 (Value.ref 36))] 10) #[])
noncomputable def zo33_2 : ZO := fun P => (Obj.mk (Value.type "type") none (Data.cls (ClassData.mk (zS "_LoaderBasics") [(Value.type "object")] [(Value.ref 33), (Value.type "object")] 32 (zS "_LoaderBasics") Bool.true [] [(Value.ref 43)] Bool.false none Bool.false)) #[])
noncomputable def zo35_2 : ZO := fun P => (Obj.mk (Value.type "getset_descriptor") none (Data.fields #[(zV "__dict__" 297), (Value.ref 33), (Value.builtin "function.__dict__"), (Value.builtin "function.__dict__#set")]) #[])
noncomputable def zo36_2 : ZO := fun P => (Obj.mk (Value.type "getset_descriptor") none (Data.fields #[(zV "__weakref__" 299), (Value.ref 33), (Value.builtin "ExceptionGroup.__weakref__"), Value.none]) #[])
noncomputable def zo37_2 : ZO := fun P => (Obj.mk (Value.type "dict") none (Data.dict #[(zE P (zS "__module__") 307 (zV "_frozen_importlib_external" 303)), (zE P (zS "__firstlineno__") 308 (Value.int (1176 : Int) 304)), (zE P (zS "__doc__") 309 (Value.builtin "_frozen_importlib_external.FileLoader.__doc__:str#opaque")), (zE P (zS "__init__") 310 (Value.builtin "_frozen_importlib_external.FileLoader.__init__#opaque")), (zE P (zS "__eq__") 311 (Value.builtin "_frozen_importlib_external.FileLoader.__eq__#opaque")), (zE P (zS "__hash__") 312 (Value.builtin "_frozen_importlib_external.FileLoader.__hash__#opaque")), (zE P (zS "load_module") 313 (Value.builtin "_frozen_importlib_external.FileLoader.load_module#opaque")), (zE P (zS "get_filename") 314 (Value.builtin "_frozen_importlib_external.FileLoader.get_filename#opaque")), (zE P (zS "get_data") 315 (Value.builtin "_frozen_importlib_external.FileLoader.get_data#opaque")), (zE P (zS "get_resource_reader") 316 (Value.builtin "_frozen_importlib_external.FileLoader.get_resource_reader#opaque")), (zE P (zS "__static_attributes__") 317 (Value.ref 39)), (zE P (zS "__dict__") 319 (Value.ref 40)), (zE P (zS "__weakref__") 321 (Value.ref 41))] 13) #[])
noncomputable def zo38_2 : ZO := fun P => (Obj.mk (Value.type "type") none (Data.cls (ClassData.mk (zS "FileLoader") [(Value.type "object")] [(Value.ref 38), (Value.type "object")] 37 (zS "FileLoader") Bool.true [] [(Value.ref 43)] Bool.false none Bool.false)) #[])
noncomputable def zo39_2 : ZO := fun P => (Obj.mk (Value.type "tuple") none (Data.seq #[(zV "name" 305), (zV "path" 306)] 0) #[])
noncomputable def zo40_2 : ZO := fun P => (Obj.mk (Value.type "getset_descriptor") none (Data.fields #[(zV "__dict__" 318), (Value.ref 38), (Value.builtin "function.__dict__"), (Value.builtin "function.__dict__#set")]) #[])
noncomputable def zo41_2 : ZO := fun P => (Obj.mk (Value.type "getset_descriptor") none (Data.fields #[(zV "__weakref__" 320), (Value.ref 38), (Value.builtin "ExceptionGroup.__weakref__"), Value.none]) #[])
noncomputable def zo42_2 : ZO := fun P => (Obj.mk (Value.type "dict") none (Data.dict #[(zE P (zS "__module__") 328 (zV "_frozen_importlib_external" 324)), (zE P (zS "__firstlineno__") 329 (Value.int (1296 : Int) 325)), (zE P (zS "__doc__") 330 (Value.builtin "_frozen_importlib_external.ExtensionFileLoader.__doc__:str#opaque")), (zE P (zS "__init__") 331 (Value.builtin "_frozen_importlib_external.ExtensionFileLoader.__init__#opaque")), (zE P (zS "__eq__") 332 (Value.builtin "_frozen_importlib_external.ExtensionFileLoader.__eq__#opaque")), (zE P (zS "__hash__") 333 (Value.builtin "_frozen_importlib_external.ExtensionFileLoader.__hash__#opaque")), (zE P (zS "create_module") 334 (Value.builtin "_frozen_importlib_external.ExtensionFileLoader.create_module#opaque")), (zE P (zS "exec_module") 335 (Value.builtin "_frozen_importlib_external.ExtensionFileLoader.exec_module#opaque")), (zE P (zS "is_package") 336 (Value.builtin "_frozen_importlib_external.ExtensionFileLoader.is_package#opaque")), (zE P (zS "get_code") 337 (Value.builtin "_frozen_importlib_external.ExtensionFileLoader.get_code#opaque")), (zE P (zS "get_source") 338 (Value.builtin "_frozen_importlib_external.ExtensionFileLoader.get_source#opaque")), (zE P (zS "get_filename") 339 (Value.builtin "_frozen_importlib_external.ExtensionFileLoader.get_filename#opaque")), (zE P (zS "__static_attributes__") 340 (Value.ref 44))] 13) #[])
noncomputable def zo43_2 : ZO := fun P => (Obj.mk (Value.type "type") none (Data.cls (ClassData.mk (zS "ExtensionFileLoader") [(Value.ref 38), (Value.ref 33)] [(Value.ref 43), (Value.ref 38), (Value.ref 33), (Value.type "object")] 42 (zS "ExtensionFileLoader") Bool.true [] [] Bool.false none Bool.false)) #[])
noncomputable def zo44_2 : ZO := fun P => (Obj.mk (Value.type "tuple") none (Data.seq #[(zV "name" 326), (zV "path" 327)] 0) #[])
noncomputable def zo45_2 : ZO := fun P => (Obj.mk (Value.ref 43) (some 31) Data.plain #[])
noncomputable def zo47_2 : ZO := fun P => (Obj.mk (Value.type "dict") none (Data.dict #[(zE P (zS "name") 343 (zV "_datetime" 342)), (zE P (zS "loader") 344 (Value.ref 45)), (zE P (zS "origin") 345 (zV "/nix/store/wj1f56qky4pmjc7l0r6b6l7whnnw7hp6-python3-3.13.15/lib/python3.13/lib-dynload/_datetime.cpython-313-x86_64-linux-gnu.so" 282)), (zE P (zS "loader_state") 346 Value.none), (zE P (zS "submodule_search_locations") 347 Value.none), (zE P (zS "_uninitialized_submodules") 348 (Value.ref 46)), (zE P (zS "_set_fileattr") 349 (Value.bool Bool.true)), (zE P (zS "_cached") 350 Value.none), (zE P (zS "_initializing") 351 (Value.bool Bool.false))] 9) #[])
noncomputable def zo48_2 : ZO := fun P => (Obj.mk (Value.ref 22) (some 47) Data.plain #[])
noncomputable def zo49_2 : ZO := fun P => (Obj.mk (Value.type "datetime.timedelta") none (Data.fields #[(Value.int (0 : Int) 0), (Value.int (0 : Int) 0), (Value.int (0 : Int) 0)]) #[])
noncomputable def zo50_2 : ZO := fun P => (Obj.mk (Value.type "datetime.timezone") none (Data.fields #[(Value.ref 49), Value.none]) #[])
noncomputable def ztell : Params → BT := fun P => (.node (zo3_2 P) (.node (zo7_0 P) (.node (zo7_0 P) (.node (zo31_2 P) .nil .nil) (.node (zo47_2 P) .nil .nil)) (.node (zo23_1 P) (.node (zo39_2 P) .nil .nil) .nil)) (.node (zo11_1 P) (.node (zo19_1 P) (.node (zo35_2 P) .nil .nil) .nil) (.node (zo27_2 P) (.node (zo43_2 P) .nil .nil) .nil)))
noncomputable def ztelr : Params → BT := fun P => (.node (zo5_0 P) (.node (zo9_0 P) (.node (zo17_1 P) (.node (zo33_2 P) .nil .nil) (.node (zo49_2 P) .nil .nil)) (.node (zo25_1 P) (.node (zo41_2 P) .nil .nil) .nil)) (.node (zo13_1 P) (.node (zo21_1 P) (.node (zo37_2 P) .nil .nil) .nil) (.node (zo29_2 P) (.node (zo45_2 P) .nil .nil) .nil)))
noncomputable def zterl : Params → BT := fun P => (.node (zo4_0 P) (.node (zo8_0 P) (.node (zo16_1 P) (.node (zo32_2 P) .nil .nil) (.node (zo48_2 P) .nil .nil)) (.node (zo24_1 P) (.node (zo40_2 P) .nil .nil) .nil)) (.node (zo12_1 P) (.node (zo20_1 P) (.node (zo36_2 P) .nil .nil) .nil) (.node (zo28_2 P) (.node (zo44_2 P) .nil .nil) .nil)))
noncomputable def zterr : Params → BT := fun P => (.node (zo6_0 P) (.node (zo10_0 P) (.node (zo18_2 P) (.node (zo7_0 P) .nil .nil) (.node (zo50_2 P) .nil .nil)) (.node (zo26_1 P) (.node (zo42_2 P) .nil .nil) .nil)) (.node (zo14_1 P) (.node (zo22_1 P) (.node (zo38_2 P) .nil .nil) .nil) (.node (zo30_2 P) (.node (zo19_1 P) .nil .nil) .nil)))
noncomputable def zte : Params → BT := fun P => .node (zo0_0 P) (.node (zo1_2 P) (ztell P) (ztelr P)) (.node (zo2_2 P) (zterl P) (zterr P))
noncomputable def zse (w : World) (os : OsState) : SharedT := ⟨zte w.params, 51, (Life.mk [] [] [] 0 [] [] Bool.false #[] [] 0 Bool.false Bool.false Bool.false (0 : Int) [(2000 : Int), (10 : Int), (10 : Int)] Bool.false 0 Bool.true [] [] 0 Bool.false), #[], (Drawn.mk 0 0 0 0), 388, os⟩
noncomputable def zo11_3 : ZO := fun P => (Obj.mk (Value.type "dict") none (Data.dict #[(zE P (zS "__name__") 247 (zV "_sre" 246)), (zE P (zS "__doc__") 248 Value.none), (zE P (zS "__package__") 250 (zV "" 249)), (zE P (zS "__loader__") 251 (Value.builtin "off-the-table:_sre.__loader__:shared#opaque")), (zE P (zS "__spec__") 252 (Value.builtin "off-the-table:_sre.__spec__:shared#opaque")), (zE P (zS "compile") 253 (Value.builtin "_sre.compile")), (zE P (zS "template") 254 (Value.builtin "off-the-table:_sre.template:shared#opaque")), (zE P (zS "getcodesize") 255 (Value.builtin "off-the-table:_sre.getcodesize:shared#opaque")), (zE P (zS "ascii_iscased") 256 (Value.builtin "off-the-table:_sre.ascii_iscased:shared#opaque")), (zE P (zS "unicode_iscased") 257 (Value.builtin "off-the-table:_sre.unicode_iscased:shared#opaque")), (zE P (zS "ascii_tolower") 258 (Value.builtin "off-the-table:_sre.ascii_tolower:shared#opaque")), (zE P (zS "unicode_tolower") 259 (Value.builtin "off-the-table:_sre.unicode_tolower:shared#opaque")), (zE P (zS "MAGIC") 261 (Value.int (20230612 : Int) 260)), (zE P (zS "CODESIZE") 263 (Value.int (4 : Int) 262)), (zE P (zS "MAXREPEAT") 265 (Value.int (4294967295 : Int) 264)), (zE P (zS "MAXGROUPS") 267 (Value.int (1073741823 : Int) 266)), (zE P (zS "copyright") 269 (zV " SRE 2.2.2 Copyright (c) 1997-2002 by Secret Labs AB " 268))] 17) #[])
noncomputable def zo29_3 : ZO := fun P => (Obj.mk (Value.type "dict") none (Data.dict #[(zE P (zS "__name__") 355 (zV "_datetime" 354)), (zE P (zS "__doc__") 357 (zV "Fast implementation of the datetime type." 356)), (zE P (zS "__package__") 359 (zV "" 358)), (zE P (zS "__loader__") 360 (Value.builtin "off-the-table:_datetime.__loader__:shared#opaque")), (zE P (zS "__spec__") 361 (Value.builtin "off-the-table:_datetime.__spec__:shared#opaque")), (zE P (zS "__file__") 362 (zV "/nix/store/wj1f56qky4pmjc7l0r6b6l7whnnw7hp6-python3-3.13.15/lib/python3.13/lib-dynload/_datetime.cpython-313-x86_64-linux-gnu.so" 282)), (zE P (zS "date") 363 (Value.type "datetime.date")), (zE P (zS "datetime") 364 (Value.type "datetime.datetime")), (zE P (zS "time") 365 (Value.type "datetime.time")), (zE P (zS "timedelta") 366 (Value.type "datetime.timedelta")), (zE P (zS "tzinfo") 367 (Value.type "datetime.tzinfo")), (zE P (zS "timezone") 368 (Value.type "datetime.timezone")), (zE P (zS "MINYEAR") 370 (Value.int (1 : Int) 369)), (zE P (zS "MAXYEAR") 372 (Value.int (9999 : Int) 371)), (zE P (zS "UTC") 375 (Value.builtin "off-the-table:_datetime.UTC:shared#opaque")), (zE P (zS "datetime_CAPI") 376 (Value.builtin "off-the-table:_datetime.datetime_CAPI:shared#opaque"))] 16) #[])
noncomputable def zHo : Params → Heap := fun P => ⟨#[zo0_0 P, zo1_2 P, zo2_2 P, zo3_2 P, zo4_0 P, zo5_0 P, zo6_0 P, zo7_0 P, zo8_0 P, zo9_0 P, zo10_0 P, zo11_3 P, zo12_1 P, zo13_1 P, zo14_1 P, zo7_0 P, zo16_1 P, zo17_1 P, zo18_2 P, zo19_1 P, zo20_1 P, zo21_1 P, zo22_1 P, zo23_1 P, zo24_1 P, zo25_1 P, zo26_1 P, zo27_2 P, zo28_2 P, zo29_3 P, zo30_2 P, zo31_2 P, zo32_2 P, zo33_2 P, zo7_0 P, zo35_2 P, zo36_2 P, zo37_2 P, zo38_2 P, zo39_2 P, zo40_2 P, zo41_2 P, zo42_2 P, zo43_2 P, zo44_2 P, zo45_2 P, zo19_1 P, zo47_2 P, zo48_2 P, zo49_2 P, zo50_2 P], (Life.mk [] [] [] 0 [] [] Bool.false #[] [] 0 Bool.false Bool.false Bool.false (0 : Int) [(2000 : Int), (10 : Int), (10 : Int)] Bool.false 0 Bool.true [] [] 0 Bool.false)⟩
noncomputable def zo53_4 : ZO := fun P => (Obj.mk (Value.type "code") none (Data.fields #[(zV "<module>" 389), (zV "<module>" 390), (zV "/claim/cut.py" 391), (Value.int (1 : Int) 0), (Value.int (0 : Int) 0), (Value.int (0 : Int) 0), (Value.int (0 : Int) 0), (Value.int (0 : Int) 0), (Value.ref 51), (Value.bool Bool.false), (Value.int (388 : Int) 0), (Value.ref 52), Value.none, Value.none, Value.none, Value.none, (Value.int (392 : Int) 0), (Value.int (1 : Int) 0), (zV "/claim/cut.py" 393)]) #[])
noncomputable def zo54_4 : ZO := fun P => (Obj.mk (Value.type "frame") none Data.plain #[(some (Value.ref 53)), (some (Value.ref 3)), (some (Value.ref 3)), none, (some (zV "__main__" 164)), none, (some (Value.ref 0))])
noncomputable def zH0 : Params → Heap := fun P => ⟨#[zo0_0 P, zo1_2 P, zo2_2 P, zo3_2 P, zo4_0 P, zo5_0 P, zo6_0 P, zo7_0 P, zo8_0 P, zo9_0 P, zo10_0 P, zo11_3 P, zo12_1 P, zo13_1 P, zo14_1 P, zo7_0 P, zo16_1 P, zo17_1 P, zo18_2 P, zo19_1 P, zo20_1 P, zo21_1 P, zo22_1 P, zo23_1 P, zo24_1 P, zo25_1 P, zo26_1 P, zo27_2 P, zo28_2 P, zo29_3 P, zo30_2 P, zo31_2 P, zo32_2 P, zo33_2 P, zo7_0 P, zo35_2 P, zo36_2 P, zo37_2 P, zo38_2 P, zo39_2 P, zo40_2 P, zo41_2 P, zo42_2 P, zo43_2 P, zo44_2 P, zo45_2 P, zo19_1 P, zo47_2 P, zo48_2 P, zo49_2 P, zo50_2 P, zo7_0 P, zo8_0 P, zo53_4 P, zo54_4 P], (Life.mk [] [] [] 0 [] [] Bool.false #[] [] 0 Bool.false Bool.false Bool.false (0 : Int) [(2000 : Int), (10 : Int), (10 : Int)] Bool.false 0 Bool.true [] [] 0 Bool.false)⟩
noncomputable def zA (w : World) (os : OsState) : Shared := ⟨zH0 w.params, #[], (Drawn.mk 0 0 0 0), 394, os⟩
noncomputable def zt1 : Params → BT := fun P => (.node (zo0_0 P) (.node (zo1_2 P) (.node (zo3_2 P) (.node (zo7_0 P) (.node (zo7_0 P) (.node (zo31_2 P) .nil .nil) (.node (zo47_2 P) .nil .nil)) (.node (zo23_1 P) (.node (zo39_2 P) .nil .nil) .nil)) (.node (zo11_3 P) (.node (zo19_1 P) (.node (zo35_2 P) .nil .nil) (.node (zo7_0 P) .nil .nil)) (.node (zo27_2 P) (.node (zo43_2 P) .nil .nil) .nil))) (.node (zo5_0 P) (.node (zo9_0 P) (.node (zo17_1 P) (.node (zo33_2 P) .nil .nil) (.node (zo49_2 P) .nil .nil)) (.node (zo25_1 P) (.node (zo41_2 P) .nil .nil) .nil)) (.node (zo13_1 P) (.node (zo21_1 P) (.node (zo37_2 P) .nil .nil) (.node (zo53_4 P) .nil .nil)) (.node (zo29_3 P) (.node (zo45_2 P) .nil .nil) .nil)))) (.node (zo2_2 P) (.node (zo4_0 P) (.node (zo8_0 P) (.node (zo16_1 P) (.node (zo32_2 P) .nil .nil) (.node (zo48_2 P) .nil .nil)) (.node (zo24_1 P) (.node (zo40_2 P) .nil .nil) .nil)) (.node (zo12_1 P) (.node (zo20_1 P) (.node (zo36_2 P) .nil .nil) (.node (zo8_0 P) .nil .nil)) (.node (zo28_2 P) (.node (zo44_2 P) .nil .nil) .nil))) (.node (zo6_0 P) (.node (zo10_0 P) (.node (zo18_2 P) (.node (zo7_0 P) .nil .nil) (.node (zo50_2 P) .nil .nil)) (.node (zo26_1 P) (.node (zo42_2 P) .nil .nil) .nil)) (.node (zo14_1 P) (.node (zo22_1 P) (.node (zo38_2 P) .nil .nil) (.node (zo54_4 P) .nil .nil)) (.node (zo30_2 P) (.node (zo19_1 P) .nil .nil) .nil)))))
noncomputable def zs1 (w : World) (os : OsState) : SharedT := ⟨zt1 w.params, 55, (Life.mk [] [] [] 0 [] [] Bool.false #[] [] 0 Bool.false Bool.false Bool.false (0 : Int) [(2000 : Int), (10 : Int), (10 : Int)] Bool.false 0 Bool.true [] [] 0 Bool.false), #[], (Drawn.mk 0 0 0 0), 394, os⟩
noncomputable def zo3_6 : ZO := fun P => (Obj.mk (Value.type "dict") none (Data.dict #[(zE P (zS "__name__") 165 (zV "cpy313.plistlib" 471)), (zE P (zS "__doc__") 166 Value.none), (zE P (zS "__package__") 167 Value.none), (zE P (zS "__loader__") 168 (Value.builtin "__main__.__loader__#opaque")), (zE P (zS "__spec__") 169 Value.none), (zE P (zS "__annotations__") 170 (Value.ref 6)), (zE P (zS "__builtins__") 171 (Value.ref 4)), (zE P (zS "__file__") 173 (zV "/claim/cut.py" 172)), (zE P (zS "__cached__") 174 Value.none), (zE P (zS "_sre") 275 (Value.ref 12)), (zE P (zS "datetime") 384 (Value.type "datetime.datetime")), (zE P (zS "timezone") 387 (Value.type "datetime.timezone")), (zE P (zS "_wall") 400 (Value.ref 61)), (zE P (zS "PLISTHEADER") 402 (Value.bytes #[60, 63, 120, 109, 108, 32, 118, 101, 114, 115, 105, 111, 110, 61, 34, 49, 46, 48, 34, 32, 101, 110, 99, 111, 100, 105, 110, 103, 61, 34, 85, 84, 70, 45, 56, 34, 63, 62, 10, 60, 33, 68, 79, 67, 84, 89, 80, 69, 32, 112, 108, 105, 115, 116, 32, 80, 85, 66, 76, 73, 67, 32, 34, 45, 47, 47, 65, 112, 112, 108, 101, 47, 47, 68, 84, 68, 32, 80, 76, 73, 83, 84, 32, 49, 46, 48, 47, 47, 69, 78, 34, 32, 34, 104, 116, 116, 112, 58, 47, 47, 119, 119, 119, 46, 97, 112, 112, 108, 101, 46, 99, 111, 109, 47, 68, 84, 68, 115, 47, 80, 114, 111, 112, 101, 114, 116, 121, 76, 105, 115, 116, 45, 49, 46, 48, 46, 100, 116, 100, 34, 62, 10] 401)), (zE P (zS "_controlCharPat") 436 (Value.ref 66)), (zE P (zS "_buffer") 446 (Value.ref 73)), (zE P (zS "_truth") 454 (Value.ref 80)), (zE P (zS "_B64") 456 (Value.bytes #[65, 66, 67, 68, 69, 70, 71, 72, 73, 74, 75, 76, 77, 78, 79, 80, 81, 82, 83, 84, 85, 86, 87, 88, 89, 90, 97, 98, 99, 100, 101, 102, 103, 104, 105, 106, 107, 108, 109, 110, 111, 112, 113, 114, 115, 116, 117, 118, 119, 120, 121, 122, 48, 49, 50, 51, 52, 53, 54, 55, 56, 57, 43, 47] 455)), (zE P (zS "b2a_base64") 470 (Value.ref 88)), (zE P (zS "_encode_base64") 485 (Value.ref 96)), (zE P (zS "_date_to_string") 493 (Value.ref 103)), (zE P (zS "_escape") 501 (Value.ref 110)), (zE P (zS "_DumbXMLWriter") 570 (Value.ref 157)), (zE P (zS "_PlistWriter") 652 (Value.ref 214))] 24) #[])
noncomputable def zo52_6 : ZO := fun P => (Obj.mk Value.none none (Data.fields #[(Value.int (3 : Int) 0), (Value.int (0 : Int) 0), (Value.ref 60), (Value.int (9 : Int) 0), (Value.int (0 : Int) 0), (Value.ref 72), (Value.int (16 : Int) 0), (Value.int (0 : Int) 0), (Value.ref 79), (Value.int (22 : Int) 0), (Value.int (0 : Int) 0), (Value.ref 87), (Value.int (45 : Int) 0), (Value.int (0 : Int) 0), (Value.ref 95), (Value.int (52 : Int) 0), (Value.int (0 : Int) 0), (Value.ref 102), (Value.int (56 : Int) 0), (Value.int (0 : Int) 0), (Value.ref 109), (Value.int (66 : Int) 0), (Value.int (0 : Int) 0), (Value.ref 116), (Value.int (99 : Int) 0), (Value.int (0 : Int) 0), (Value.ref 167)]) #[])
noncomputable def zo57_6 : ZO := fun P => (Obj.mk (Value.type "tuple") none (Data.seq #[(zV "k" 397)] 0) #[])
noncomputable def zo59_6 : ZO := fun P => (Obj.mk Value.none none (Data.func (FuncData.mk (zS "_wall") (zS "_wall") (zpa (zF zT 2)) (FuncBody.stmts (zbo (zF zT 2))) (zsc (zF zT 2)) 0 [] Value.none Value.none Value.none Value.none none Value.none Value.none 0)) #[])
noncomputable def zo60_6 : ZO := fun P => (Obj.mk (Value.type "code") none (Data.fields #[(zV "_wall" 394), (zV "_wall" 395), (zV "/claim/cut.py" 396), (Value.int (3 : Int) 0), (Value.int (1 : Int) 0), (Value.int (0 : Int) 0), (Value.int (0 : Int) 0), (Value.int (3 : Int) 0), (Value.ref 55), (Value.bool Bool.true), (Value.int (388 : Int) 0), (Value.ref 56), Value.none, (Value.ref 57), (Value.ref 58), (Value.ref 59), (Value.int (398 : Int) 0), (Value.int (3 : Int) 0), (zV "/claim/cut.py" 399)]) #[])
noncomputable def zo61_6 : ZO := fun P => (Obj.mk (Value.type "function") none (Data.func (FuncData.mk (zS "_wall") (zS "_wall") (zpa (zF zT 2)) (FuncBody.stmts (zbo (zF zT 2))) (zsc (zF zT 2)) 3 [] Value.none Value.none Value.none (zV "__main__" 164) none (Value.ref 60) Value.none 0)) #[])
noncomputable def zo62_6 : ZO := fun P => (Obj.mk (Value.type "list") none (Data.seq #[(Value.int (14 : Int) 406), (Value.int (14 : Int) 407), (Value.int (4 : Int) 408), (Value.int (1 : Int) 409), (Value.int (1 : Int) 410), (Value.int (9 : Int) 411), (Value.int (4294957567 : Int) 412), (Value.int (0 : Int) 413), (Value.int (0 : Int) 414), (Value.int (0 : Int) 415), (Value.int (0 : Int) 416), (Value.int (0 : Int) 417), (Value.int (0 : Int) 418), (Value.int (0 : Int) 419), (Value.int (0 : Int) 420), (Value.int (13 : Int) 421), (Value.int (11 : Int) 422), (Value.int (9 : Int) 423), (Value.int (4294957567 : Int) 424), (Value.int (0 : Int) 425), (Value.int (0 : Int) 426), (Value.int (0 : Int) 427), (Value.int (0 : Int) 428), (Value.int (0 : Int) 429), (Value.int (0 : Int) 430), (Value.int (0 : Int) 431), (Value.int (0 : Int) 432), (Value.int (1 : Int) 433)] 0) #[])
noncomputable def zo64_6 : ZO := fun P => (Obj.mk (Value.type "tuple") none (Data.seq #[Value.none] 0) #[])
noncomputable def zo65_6 : ZO := fun P => (Obj.mk (Value.type "tuple") none (Data.seq #[(Value.int (14 : Int) 0), (Value.int (14 : Int) 0), (Value.int (4 : Int) 0), (Value.int (1 : Int) 0), (Value.int (1 : Int) 0), (Value.int (9 : Int) 0), (Value.int (4294957567 : Int) 0), (Value.int (0 : Int) 0), (Value.int (0 : Int) 0), (Value.int (0 : Int) 0), (Value.int (0 : Int) 0), (Value.int (0 : Int) 0), (Value.int (0 : Int) 0), (Value.int (0 : Int) 0), (Value.int (0 : Int) 0), (Value.int (13 : Int) 0), (Value.int (11 : Int) 0), (Value.int (9 : Int) 0), (Value.int (4294957567 : Int) 0), (Value.int (0 : Int) 0), (Value.int (0 : Int) 0), (Value.int (0 : Int) 0), (Value.int (0 : Int) 0), (Value.int (0 : Int) 0), (Value.int (0 : Int) 0), (Value.int (0 : Int) 0), (Value.int (0 : Int) 0), (Value.int (1 : Int) 0)] 0) #[])
noncomputable def zo66_6 : ZO := fun P => (Obj.mk (Value.type "re.Pattern") none (Data.fields #[(zV "[\\x00\\x01\\x02\\x03\\x04\\x05\\x06\\x07\\x08\\x0b\\x0c\\x0e\\x0f\\x10\\x11\\x12\\x13\\x14\\x15\\x16\\x17\\x18\\x19\\x1a\\x1b\\x1c\\x1d\\x1e\\x1f]" 404), (Value.int (32 : Int) 435), (Value.int (0 : Int) 0), Value.none, Value.none, (Value.ref 65), (Value.int (0 : Int) 0)]) #[])
noncomputable def zo69_6 : ZO := fun P => (Obj.mk (Value.type "tuple") none (Data.seq #[(zV "data" 442), (zV "t" 443)] 0) #[])
noncomputable def zo71_6 : ZO := fun P => (Obj.mk Value.none none (Data.func (FuncData.mk (zS "_buffer") (zS "_buffer") (zpa (zF zT 6)) (FuncBody.stmts (zbo (zF zT 6))) (zsc (zF zT 6)) 0 [] Value.none Value.none Value.none Value.none none Value.none Value.none 0)) #[])
noncomputable def zo72_6 : ZO := fun P => (Obj.mk (Value.type "code") none (Data.fields #[(zV "_buffer" 439), (zV "_buffer" 440), (zV "/claim/cut.py" 441), (Value.int (9 : Int) 0), (Value.int (1 : Int) 0), (Value.int (0 : Int) 0), (Value.int (0 : Int) 0), (Value.int (3 : Int) 0), (Value.ref 67), (Value.bool Bool.true), (Value.int (388 : Int) 0), (Value.ref 68), Value.none, (Value.ref 69), (Value.ref 70), (Value.ref 71), (Value.int (444 : Int) 0), (Value.int (9 : Int) 0), (zV "/claim/cut.py" 445)]) #[])
noncomputable def zo73_6 : ZO := fun P => (Obj.mk (Value.type "function") none (Data.func (FuncData.mk (zS "_buffer") (zS "_buffer") (zpa (zF zT 6)) (FuncBody.stmts (zbo (zF zT 6))) (zsc (zF zT 6)) 3 [] Value.none Value.none Value.none (zV "binascii" 437) none (Value.ref 72) Value.none 0)) #[])
noncomputable def zo76_6 : ZO := fun P => (Obj.mk (Value.type "tuple") none (Data.seq #[(zV "x" 450), (zV "t" 451)] 0) #[])
noncomputable def zo78_6 : ZO := fun P => (Obj.mk Value.none none (Data.func (FuncData.mk (zS "_truth") (zS "_truth") (zpa (zF zT 7)) (FuncBody.stmts (zbo (zF zT 7))) (zsc (zF zT 7)) 0 [] Value.none Value.none Value.none Value.none none Value.none Value.none 0)) #[])
noncomputable def zo79_6 : ZO := fun P => (Obj.mk (Value.type "code") none (Data.fields #[(zV "_truth" 447), (zV "_truth" 448), (zV "/claim/cut.py" 449), (Value.int (16 : Int) 0), (Value.int (1 : Int) 0), (Value.int (0 : Int) 0), (Value.int (0 : Int) 0), (Value.int (3 : Int) 0), (Value.ref 74), (Value.bool Bool.true), (Value.int (388 : Int) 0), (Value.ref 75), Value.none, (Value.ref 76), (Value.ref 77), (Value.ref 78), (Value.int (452 : Int) 0), (Value.int (16 : Int) 0), (zV "/claim/cut.py" 453)]) #[])
noncomputable def zo80_6 : ZO := fun P => (Obj.mk (Value.type "function") none (Data.func (FuncData.mk (zS "_truth") (zS "_truth") (zpa (zF zT 7)) (FuncBody.stmts (zbo (zF zT 7))) (zsc (zF zT 7)) 3 [] Value.none Value.none Value.none (zV "binascii" 437) none (Value.ref 79) Value.none 0)) #[])
noncomputable def zo81_6 : ZO := fun P => (Obj.mk (Value.type "dict") none (Data.dict #[(zE P (zS "newline") 457 (Value.bool Bool.true))] 1) #[])
noncomputable def zo84_6 : ZO := fun P => (Obj.mk (Value.type "tuple") none (Data.seq #[(zV "data" 461), (zV "newline" 462), (zV "bin_data" 463), (zV "out" 464), (zV "leftbits" 465), (zV "leftchar" 466), (zV "b" 467)] 0) #[])
noncomputable def zo86_6 : ZO := fun P => (Obj.mk Value.none none (Data.func (FuncData.mk (zS "b2a_base64") (zS "b2a_base64") (zpa (zF zT 9)) (FuncBody.stmts (zbo (zF zT 9))) (zsc (zF zT 9)) 0 [] Value.none Value.none Value.none Value.none none Value.none Value.none 0)) #[])
noncomputable def zo87_6 : ZO := fun P => (Obj.mk (Value.type "code") none (Data.fields #[(zV "b2a_base64" 458), (zV "b2a_base64" 459), (zV "/claim/cut.py" 460), (Value.int (22 : Int) 0), (Value.int (1 : Int) 0), (Value.int (1 : Int) 0), (Value.int (1 : Int) 0), (Value.int (3 : Int) 0), (Value.ref 82), (Value.bool Bool.true), (Value.int (388 : Int) 0), (Value.ref 83), Value.none, (Value.ref 84), (Value.ref 85), (Value.ref 86), (Value.int (468 : Int) 0), (Value.int (22 : Int) 0), (zV "/claim/cut.py" 469)]) #[])
noncomputable def zo88_6 : ZO := fun P => (Obj.mk (Value.type "function") none (Data.func (FuncData.mk (zS "b2a_base64") (zS "b2a_base64") (zpa (zF zT 9)) (FuncBody.stmts (zbo (zF zT 9))) (zsc (zF zT 9)) 3 [] Value.none (Value.ref 81) Value.none (zV "binascii" 437) none (Value.ref 87) Value.none 0)) #[])
noncomputable def zo89_6 : ZO := fun P => (Obj.mk (Value.type "tuple") none (Data.seq #[(Value.int (76 : Int) 473)] 0) #[])
noncomputable def zo92_6 : ZO := fun P => (Obj.mk (Value.type "tuple") none (Data.seq #[(zV "s" 477), (zV "maxlinelength" 478), (zV "maxbinsize" 479), (zV "pieces" 480), (zV "i" 481), (zV "chunk" 482)] 0) #[])
noncomputable def zo94_6 : ZO := fun P => (Obj.mk Value.none none (Data.func (FuncData.mk (zS "_encode_base64") (zS "_encode_base64") (zpa (zF zT 11)) (FuncBody.stmts (zbo (zF zT 11))) (zsc (zF zT 11)) 0 [] Value.none Value.none Value.none Value.none none Value.none Value.none 0)) #[])
noncomputable def zo95_6 : ZO := fun P => (Obj.mk (Value.type "code") none (Data.fields #[(zV "_encode_base64" 474), (zV "_encode_base64" 475), (zV "/claim/cut.py" 476), (Value.int (45 : Int) 0), (Value.int (2 : Int) 0), (Value.int (0 : Int) 0), (Value.int (0 : Int) 0), (Value.int (3 : Int) 0), (Value.ref 90), (Value.bool Bool.true), (Value.int (388 : Int) 0), (Value.ref 91), Value.none, (Value.ref 92), (Value.ref 93), (Value.ref 94), (Value.int (483 : Int) 0), (Value.int (45 : Int) 0), (zV "/claim/cut.py" 484)]) #[])
noncomputable def zo96_6 : ZO := fun P => (Obj.mk (Value.type "function") none (Data.func (FuncData.mk (zS "_encode_base64") (zS "_encode_base64") (zpa (zF zT 11)) (FuncBody.stmts (zbo (zF zT 11))) (zsc (zF zT 11)) 3 [] (Value.ref 89) Value.none Value.none (zV "cpy313.plistlib" 471) none (Value.ref 95) Value.none 0)) #[])
noncomputable def zo99_6 : ZO := fun P => (Obj.mk (Value.type "tuple") none (Data.seq #[(zV "d" 489), (zV "aware_datetime" 490)] 0) #[])
noncomputable def zo101_6 : ZO := fun P => (Obj.mk Value.none none (Data.func (FuncData.mk (zS "_date_to_string") (zS "_date_to_string") (zpa (zF zT 12)) (FuncBody.stmts (zbo (zF zT 12))) (zsc (zF zT 12)) 0 [] Value.none Value.none Value.none Value.none none Value.none Value.none 0)) #[])
noncomputable def zo102_6 : ZO := fun P => (Obj.mk (Value.type "code") none (Data.fields #[(zV "_date_to_string" 486), (zV "_date_to_string" 487), (zV "/claim/cut.py" 488), (Value.int (52 : Int) 0), (Value.int (2 : Int) 0), (Value.int (0 : Int) 0), (Value.int (0 : Int) 0), (Value.int (3 : Int) 0), (Value.ref 97), (Value.bool Bool.true), (Value.int (388 : Int) 0), (Value.ref 98), Value.none, (Value.ref 99), (Value.ref 100), (Value.ref 101), (Value.int (491 : Int) 0), (Value.int (52 : Int) 0), (zV "/claim/cut.py" 492)]) #[])
noncomputable def zo103_6 : ZO := fun P => (Obj.mk (Value.type "function") none (Data.func (FuncData.mk (zS "_date_to_string") (zS "_date_to_string") (zpa (zF zT 12)) (FuncBody.stmts (zbo (zF zT 12))) (zsc (zF zT 12)) 3 [] Value.none Value.none Value.none (zV "cpy313.plistlib" 471) none (Value.ref 102) Value.none 0)) #[])
noncomputable def zo106_6 : ZO := fun P => (Obj.mk (Value.type "tuple") none (Data.seq #[(zV "text" 497), (zV "m" 498)] 0) #[])
noncomputable def zo108_6 : ZO := fun P => (Obj.mk Value.none none (Data.func (FuncData.mk (zS "_escape") (zS "_escape") (zpa (zF zT 13)) (FuncBody.stmts (zbo (zF zT 13))) (zsc (zF zT 13)) 0 [] Value.none Value.none Value.none Value.none none Value.none Value.none 0)) #[])
noncomputable def zo109_6 : ZO := fun P => (Obj.mk (Value.type "code") none (Data.fields #[(zV "_escape" 494), (zV "_escape" 495), (zV "/claim/cut.py" 496), (Value.int (56 : Int) 0), (Value.int (1 : Int) 0), (Value.int (0 : Int) 0), (Value.int (0 : Int) 0), (Value.int (3 : Int) 0), (Value.ref 104), (Value.bool Bool.true), (Value.int (388 : Int) 0), (Value.ref 105), Value.none, (Value.ref 106), (Value.ref 107), (Value.ref 108), (Value.int (499 : Int) 0), (Value.int (56 : Int) 0), (zV "/claim/cut.py" 500)]) #[])
noncomputable def zo110_6 : ZO := fun P => (Obj.mk (Value.type "function") none (Data.func (FuncData.mk (zS "_escape") (zS "_escape") (zpa (zF zT 13)) (FuncBody.stmts (zbo (zF zT 13))) (zsc (zF zT 13)) 3 [] Value.none Value.none Value.none (zV "cpy313.plistlib" 471) none (Value.ref 109) Value.none 0)) #[])
noncomputable def zo112_6 : ZO := fun P => (Obj.mk (Value.type "builtin_function_or_method") none (Data.fields #[(Value.builtin "type.__prepare__"), (Value.type "type")]) #[])
noncomputable def zo113_6 : ZO := fun P => (Obj.mk (Value.type "dict") none (Data.dict #[(zE P (zS "__module__") 509 (zV "cpy313.plistlib" 471)), (zE P (zS "__qualname__") 511 (zV "_DumbXMLWriter" 510)), (zE P (zS "__firstlineno__") 513 (Value.int (66 : Int) 512)), (zE P (zS "__init__") 525 (Value.ref 125)), (zE P (zS "begin_element") 533 (Value.ref 132)), (zE P (zS "end_element") 541 (Value.ref 139)), (zE P (zS "simple_element") 550 (Value.ref 147)), (zE P (zS "writeln") 558 (Value.ref 154)), (zE P (zS "__static_attributes__") 563 (Value.ref 155))] 9) #[])
noncomputable def zo115_6 : ZO := fun P => (Obj.mk Value.none none (Data.fields #[(Value.int (68 : Int) 0), (Value.int (4 : Int) 0), (Value.ref 124), (Value.int (74 : Int) 0), (Value.int (4 : Int) 0), (Value.ref 131), (Value.int (79 : Int) 0), (Value.int (4 : Int) 0), (Value.ref 138), (Value.int (85 : Int) 0), (Value.int (4 : Int) 0), (Value.ref 146), (Value.int (92 : Int) 0), (Value.int (4 : Int) 0), (Value.ref 153)]) #[])
noncomputable def zo116_6 : ZO := fun P => (Obj.mk (Value.type "code") none (Data.fields #[(zV "_DumbXMLWriter" 504), (zV "_DumbXMLWriter" 505), (zV "/claim/cut.py" 506), (Value.int (66 : Int) 0), (Value.int (0 : Int) 0), (Value.int (0 : Int) 0), (Value.int (0 : Int) 0), (Value.int (0 : Int) 0), (Value.ref 114), (Value.bool Bool.false), (Value.int (388 : Int) 0), (Value.ref 115), Value.none, Value.none, Value.none, Value.none, (Value.int (507 : Int) 0), (Value.int (66 : Int) 0), (zV "/claim/cut.py" 508)]) #[])
noncomputable def zo117_6 : ZO := fun P => (Obj.mk (Value.type "frame") none Data.plain #[(some (Value.ref 116)), (some (Value.ref 3)), (some (Value.ref 113)), none, (some (zV "cpy313.plistlib" 471)), none, (some (Value.ref 0))])
noncomputable def zo118_6 : ZO := fun P => (Obj.mk (Value.type "tuple") none (Data.seq #[(Value.int (0 : Int) 514), (Value.str (Str.mk #[9]) 515)] 0) #[])
noncomputable def zo121_6 : ZO := fun P => (Obj.mk (Value.type "tuple") none (Data.seq #[(zV "self" 519), (zV "file" 520), (zV "indent_level" 521), (zV "indent" 522)] 0) #[])
noncomputable def zo123_6 : ZO := fun P => (Obj.mk Value.none none (Data.func (FuncData.mk (zS "__init__") (zS "_DumbXMLWriter.__init__") (zpa (zF (zB zT 14) 0)) (FuncBody.stmts (zbo (zF (zB zT 14) 0))) (zsc (zF (zB zT 14) 0)) 0 [] Value.none Value.none Value.none Value.none none Value.none Value.none 0)) #[])
noncomputable def zo124_6 : ZO := fun P => (Obj.mk (Value.type "code") none (Data.fields #[(zV "__init__" 516), (zV "_DumbXMLWriter.__init__" 517), (zV "/claim/cut.py" 518), (Value.int (68 : Int) 0), (Value.int (4 : Int) 0), (Value.int (0 : Int) 0), (Value.int (0 : Int) 0), (Value.int (3 : Int) 0), (Value.ref 119), (Value.bool Bool.true), (Value.int (388 : Int) 0), (Value.ref 120), Value.none, (Value.ref 121), (Value.ref 122), (Value.ref 123), (Value.int (523 : Int) 0), (Value.int (68 : Int) 0), (zV "/claim/cut.py" 524)]) #[])
noncomputable def zo125_6 : ZO := fun P => (Obj.mk (Value.type "function") none (Data.func (FuncData.mk (zS "__init__") (zS "_DumbXMLWriter.__init__") (zpa (zF (zB zT 14) 0)) (FuncBody.stmts (zbo (zF (zB zT 14) 0))) (zsc (zF (zB zT 14) 0)) 3 [] (Value.ref 118) Value.none Value.none (zV "cpy313.plistlib" 471) none (Value.ref 124) Value.none 0)) #[])
noncomputable def zo128_6 : ZO := fun P => (Obj.mk (Value.type "tuple") none (Data.seq #[(zV "self" 529), (zV "element" 530)] 0) #[])
noncomputable def zo130_6 : ZO := fun P => (Obj.mk Value.none none (Data.func (FuncData.mk (zS "begin_element") (zS "_DumbXMLWriter.begin_element") (zpa (zF (zB zT 14) 1)) (FuncBody.stmts (zbo (zF (zB zT 14) 1))) (zsc (zF (zB zT 14) 2)) 0 [] Value.none Value.none Value.none Value.none none Value.none Value.none 0)) #[])
noncomputable def zo131_6 : ZO := fun P => (Obj.mk (Value.type "code") none (Data.fields #[(zV "begin_element" 526), (zV "_DumbXMLWriter.begin_element" 527), (zV "/claim/cut.py" 528), (Value.int (74 : Int) 0), (Value.int (2 : Int) 0), (Value.int (0 : Int) 0), (Value.int (0 : Int) 0), (Value.int (3 : Int) 0), (Value.ref 126), (Value.bool Bool.true), (Value.int (388 : Int) 0), (Value.ref 127), Value.none, (Value.ref 128), (Value.ref 129), (Value.ref 130), (Value.int (531 : Int) 0), (Value.int (74 : Int) 0), (zV "/claim/cut.py" 532)]) #[])
noncomputable def zo132_6 : ZO := fun P => (Obj.mk (Value.type "function") none (Data.func (FuncData.mk (zS "begin_element") (zS "_DumbXMLWriter.begin_element") (zpa (zF (zB zT 14) 1)) (FuncBody.stmts (zbo (zF (zB zT 14) 1))) (zsc (zF (zB zT 14) 2)) 3 [] Value.none Value.none Value.none (zV "cpy313.plistlib" 471) none (Value.ref 131) Value.none 0)) #[])
noncomputable def zo135_6 : ZO := fun P => (Obj.mk (Value.type "tuple") none (Data.seq #[(zV "self" 537), (zV "element" 538)] 0) #[])
noncomputable def zo137_6 : ZO := fun P => (Obj.mk Value.none none (Data.func (FuncData.mk (zS "end_element") (zS "_DumbXMLWriter.end_element") (zpa (zF (zB zT 14) 2)) (FuncBody.stmts (zbo (zF (zB zT 14) 2))) (zsc (zF (zB zT 14) 2)) 0 [] Value.none Value.none Value.none Value.none none Value.none Value.none 0)) #[])
noncomputable def zo138_6 : ZO := fun P => (Obj.mk (Value.type "code") none (Data.fields #[(zV "end_element" 534), (zV "_DumbXMLWriter.end_element" 535), (zV "/claim/cut.py" 536), (Value.int (79 : Int) 0), (Value.int (2 : Int) 0), (Value.int (0 : Int) 0), (Value.int (0 : Int) 0), (Value.int (3 : Int) 0), (Value.ref 133), (Value.bool Bool.true), (Value.int (388 : Int) 0), (Value.ref 134), Value.none, (Value.ref 135), (Value.ref 136), (Value.ref 137), (Value.int (539 : Int) 0), (Value.int (79 : Int) 0), (zV "/claim/cut.py" 540)]) #[])
noncomputable def zo139_6 : ZO := fun P => (Obj.mk (Value.type "function") none (Data.func (FuncData.mk (zS "end_element") (zS "_DumbXMLWriter.end_element") (zpa (zF (zB zT 14) 2)) (FuncBody.stmts (zbo (zF (zB zT 14) 2))) (zsc (zF (zB zT 14) 2)) 3 [] Value.none Value.none Value.none (zV "cpy313.plistlib" 471) none (Value.ref 138) Value.none 0)) #[])
noncomputable def zo143_6 : ZO := fun P => (Obj.mk (Value.type "tuple") none (Data.seq #[(zV "self" 545), (zV "element" 546), (zV "value" 547)] 0) #[])
noncomputable def zo145_6 : ZO := fun P => (Obj.mk Value.none none (Data.func (FuncData.mk (zS "simple_element") (zS "_DumbXMLWriter.simple_element") (zpa (zF (zB zT 14) 3)) (FuncBody.stmts (zbo (zF (zB zT 14) 3))) (zsc (zF (zB zT 14) 3)) 0 [] Value.none Value.none Value.none Value.none none Value.none Value.none 0)) #[])
noncomputable def zo146_6 : ZO := fun P => (Obj.mk (Value.type "code") none (Data.fields #[(zV "simple_element" 542), (zV "_DumbXMLWriter.simple_element" 543), (zV "/claim/cut.py" 544), (Value.int (85 : Int) 0), (Value.int (3 : Int) 0), (Value.int (0 : Int) 0), (Value.int (0 : Int) 0), (Value.int (3 : Int) 0), (Value.ref 141), (Value.bool Bool.true), (Value.int (388 : Int) 0), (Value.ref 142), Value.none, (Value.ref 143), (Value.ref 144), (Value.ref 145), (Value.int (548 : Int) 0), (Value.int (85 : Int) 0), (zV "/claim/cut.py" 549)]) #[])
noncomputable def zo147_6 : ZO := fun P => (Obj.mk (Value.type "function") none (Data.func (FuncData.mk (zS "simple_element") (zS "_DumbXMLWriter.simple_element") (zpa (zF (zB zT 14) 3)) (FuncBody.stmts (zbo (zF (zB zT 14) 3))) (zsc (zF (zB zT 14) 3)) 3 [] (Value.ref 140) Value.none Value.none (zV "cpy313.plistlib" 471) none (Value.ref 146) Value.none 0)) #[])
noncomputable def zo150_6 : ZO := fun P => (Obj.mk (Value.type "tuple") none (Data.seq #[(zV "self" 554), (zV "line" 555)] 0) #[])
noncomputable def zo152_6 : ZO := fun P => (Obj.mk Value.none none (Data.func (FuncData.mk (zS "writeln") (zS "_DumbXMLWriter.writeln") (zpa (zF (zB zT 14) 4)) (FuncBody.stmts (zbo (zF (zB zT 14) 4))) (zsc (zF (zB zT 14) 4)) 0 [] Value.none Value.none Value.none Value.none none Value.none Value.none 0)) #[])
noncomputable def zo153_6 : ZO := fun P => (Obj.mk (Value.type "code") none (Data.fields #[(zV "writeln" 551), (zV "_DumbXMLWriter.writeln" 552), (zV "/claim/cut.py" 553), (Value.int (92 : Int) 0), (Value.int (2 : Int) 0), (Value.int (0 : Int) 0), (Value.int (0 : Int) 0), (Value.int (3 : Int) 0), (Value.ref 148), (Value.bool Bool.true), (Value.int (388 : Int) 0), (Value.ref 149), Value.none, (Value.ref 150), (Value.ref 151), (Value.ref 152), (Value.int (556 : Int) 0), (Value.int (92 : Int) 0), (zV "/claim/cut.py" 557)]) #[])
noncomputable def zo154_6 : ZO := fun P => (Obj.mk (Value.type "function") none (Data.func (FuncData.mk (zS "writeln") (zS "_DumbXMLWriter.writeln") (zpa (zF (zB zT 14) 4)) (FuncBody.stmts (zbo (zF (zB zT 14) 4))) (zsc (zF (zB zT 14) 4)) 3 [] Value.none Value.none Value.none (zV "cpy313.plistlib" 471) none (Value.ref 153) Value.none 0)) #[])
noncomputable def zo155_6 : ZO := fun P => (Obj.mk (Value.type "tuple") none (Data.seq #[(zV "_indent_level" 559), (zV "file" 560), (zV "indent" 561), (zV "stack" 562)] 0) #[])
noncomputable def zo156_6 : ZO := fun P => (Obj.mk (Value.type "dict") none (Data.dict #[(zE P (zS "__module__") 509 (zV "cpy313.plistlib" 471)), (zE P (zS "__firstlineno__") 513 (Value.int (66 : Int) 512)), (zE P (zS "__init__") 525 (Value.ref 125)), (zE P (zS "begin_element") 533 (Value.ref 132)), (zE P (zS "end_element") 541 (Value.ref 139)), (zE P (zS "simple_element") 550 (Value.ref 147)), (zE P (zS "writeln") 558 (Value.ref 154)), (zE P (zS "__static_attributes__") 563 (Value.ref 155)), (zE P (zS "__dict__") 565 (Value.ref 158)), (zE P (zS "__weakref__") 567 (Value.ref 159)), (zE P (zS "__doc__") 568 Value.none)] 4) #[])
noncomputable def zo157_6 : ZO := fun P => (Obj.mk (Value.type "type") none (Data.cls (ClassData.mk (zS "_DumbXMLWriter") [(Value.type "object")] [(Value.ref 157), (Value.type "object")] 156 (zS "_DumbXMLWriter") Bool.true [] [(Value.ref 214)] Bool.false none Bool.false)) #[none, none, (some (zV "_DumbXMLWriter" 502)), (some (zV "_DumbXMLWriter" 510)), (some (Value.builtin "object.__new__")), (some (Value.bool Bool.true))])
noncomputable def zo158_6 : ZO := fun P => (Obj.mk (Value.type "getset_descriptor") none (Data.fields #[(zV "__dict__" 564), (Value.ref 157), (Value.builtin "function.__dict__"), (Value.builtin "function.__dict__#set")]) #[])
noncomputable def zo159_6 : ZO := fun P => (Obj.mk (Value.type "getset_descriptor") none (Data.fields #[(zV "__weakref__" 566), (Value.ref 157), (Value.builtin "ExceptionGroup.__weakref__"), Value.none]) #[])
noncomputable def zo160_6 : ZO := fun P => (Obj.mk (Value.type "super") none (Data.fields #[(Value.ref 157), (Value.ref 157), (Value.ref 157)]) #[])
noncomputable def zo161_6 : ZO := fun P => (Obj.mk (Value.type "builtin_function_or_method") none (Data.fields #[(Value.builtin "object.__init_subclass__"), (Value.ref 157)]) #[])
noncomputable def zo162_6 : ZO := fun P => (Obj.mk (Value.type "tuple") none (Data.seq #[(Value.ref 157)] 0) #[])
noncomputable def zo164_6 : ZO := fun P => (Obj.mk (Value.type "dict") none (Data.dict #[(zE P (zS "__module__") 578 (zV "cpy313.plistlib" 471)), (zE P (zS "__qualname__") 580 (zV "_PlistWriter" 579)), (zE P (zS "__firstlineno__") 582 (Value.int (99 : Int) 581)), (zE P (zS "__init__") 599 (Value.ref 176)), (zE P (zS "write") 607 (Value.ref 183)), (zE P (zS "write_value") 615 (Value.ref 190)), (zE P (zS "write_bytes") 625 (Value.ref 197)), (zE P (zS "write_dict") 636 (Value.ref 204)), (zE P (zS "write_array") 645 (Value.ref 211)), (zE P (zS "__static_attributes__") 649 (Value.ref 212))] 10) #[])
noncomputable def zo166_6 : ZO := fun P => (Obj.mk Value.none none (Data.fields #[(Value.int (101 : Int) 0), (Value.int (4 : Int) 0), (Value.ref 175), (Value.int (109 : Int) 0), (Value.int (4 : Int) 0), (Value.ref 182), (Value.int (114 : Int) 0), (Value.int (4 : Int) 0), (Value.ref 189), (Value.int (139 : Int) 0), (Value.int (4 : Int) 0), (Value.ref 196), (Value.int (149 : Int) 0), (Value.int (4 : Int) 0), (Value.ref 203), (Value.int (167 : Int) 0), (Value.int (4 : Int) 0), (Value.ref 210)]) #[])
noncomputable def zo167_6 : ZO := fun P => (Obj.mk (Value.type "code") none (Data.fields #[(zV "_PlistWriter" 573), (zV "_PlistWriter" 574), (zV "/claim/cut.py" 575), (Value.int (99 : Int) 0), (Value.int (0 : Int) 0), (Value.int (0 : Int) 0), (Value.int (0 : Int) 0), (Value.int (0 : Int) 0), (Value.ref 165), (Value.bool Bool.false), (Value.int (388 : Int) 0), (Value.ref 166), Value.none, Value.none, Value.none, Value.none, (Value.int (576 : Int) 0), (Value.int (99 : Int) 0), (zV "/claim/cut.py" 577)]) #[])
noncomputable def zo168_6 : ZO := fun P => (Obj.mk (Value.type "frame") none Data.plain #[(some (Value.ref 167)), (some (Value.ref 3)), (some (Value.ref 164)), none, (some (zV "cpy313.plistlib" 471)), none, (some (Value.ref 0))])
noncomputable def zo169_6 : ZO := fun P => (Obj.mk (Value.type "tuple") none (Data.seq #[(Value.int (0 : Int) 583), (Value.bytes #[9] 584), (Value.int (1 : Int) 585), (Value.bool Bool.true), (Value.bool Bool.false), (Value.bool Bool.false)] 0) #[])
noncomputable def zo172_6 : ZO := fun P => (Obj.mk (Value.type "tuple") none (Data.seq #[(zV "self" 589), (zV "file" 590), (zV "indent_level" 591), (zV "indent" 592), (zV "writeHeader" 593), (zV "sort_keys" 594), (zV "skipkeys" 595), (zV "aware_datetime" 596)] 0) #[])
noncomputable def zo174_6 : ZO := fun P => (Obj.mk Value.none none (Data.func (FuncData.mk (zS "__init__") (zS "_PlistWriter.__init__") (zpa (zF (zB zT 15) 0)) (FuncBody.stmts (zbo (zF (zB zT 15) 0))) (zsc (zF (zB zT 15) 0)) 0 [] Value.none Value.none Value.none Value.none none Value.none Value.none 0)) #[])
noncomputable def zo175_6 : ZO := fun P => (Obj.mk (Value.type "code") none (Data.fields #[(zV "__init__" 586), (zV "_PlistWriter.__init__" 587), (zV "/claim/cut.py" 588), (Value.int (101 : Int) 0), (Value.int (8 : Int) 0), (Value.int (0 : Int) 0), (Value.int (0 : Int) 0), (Value.int (3 : Int) 0), (Value.ref 170), (Value.bool Bool.true), (Value.int (388 : Int) 0), (Value.ref 171), Value.none, (Value.ref 172), (Value.ref 173), (Value.ref 174), (Value.int (597 : Int) 0), (Value.int (101 : Int) 0), (zV "/claim/cut.py" 598)]) #[])
noncomputable def zo176_6 : ZO := fun P => (Obj.mk (Value.type "function") none (Data.func (FuncData.mk (zS "__init__") (zS "_PlistWriter.__init__") (zpa (zF (zB zT 15) 0)) (FuncBody.stmts (zbo (zF (zB zT 15) 0))) (zsc (zF (zB zT 15) 0)) 3 [] (Value.ref 169) Value.none Value.none (zV "cpy313.plistlib" 471) none (Value.ref 175) Value.none 0)) #[])
noncomputable def zo179_6 : ZO := fun P => (Obj.mk (Value.type "tuple") none (Data.seq #[(zV "self" 603), (zV "value" 604)] 0) #[])
noncomputable def zo181_6 : ZO := fun P => (Obj.mk Value.none none (Data.func (FuncData.mk (zS "write") (zS "_PlistWriter.write") (zpa (zF (zB zT 15) 1)) (FuncBody.stmts (zbo (zF (zB zT 15) 1))) (zsc (zF (zB zT 15) 1)) 0 [] Value.none Value.none Value.none Value.none none Value.none Value.none 0)) #[])
noncomputable def zo182_6 : ZO := fun P => (Obj.mk (Value.type "code") none (Data.fields #[(zV "write" 600), (zV "_PlistWriter.write" 601), (zV "/claim/cut.py" 602), (Value.int (109 : Int) 0), (Value.int (2 : Int) 0), (Value.int (0 : Int) 0), (Value.int (0 : Int) 0), (Value.int (3 : Int) 0), (Value.ref 177), (Value.bool Bool.true), (Value.int (388 : Int) 0), (Value.ref 178), Value.none, (Value.ref 179), (Value.ref 180), (Value.ref 181), (Value.int (605 : Int) 0), (Value.int (109 : Int) 0), (zV "/claim/cut.py" 606)]) #[])
noncomputable def zo183_6 : ZO := fun P => (Obj.mk (Value.type "function") none (Data.func (FuncData.mk (zS "write") (zS "_PlistWriter.write") (zpa (zF (zB zT 15) 1)) (FuncBody.stmts (zbo (zF (zB zT 15) 1))) (zsc (zF (zB zT 15) 1)) 3 [] Value.none Value.none Value.none (zV "cpy313.plistlib" 471) none (Value.ref 182) Value.none 0)) #[])
noncomputable def zo186_6 : ZO := fun P => (Obj.mk (Value.type "tuple") none (Data.seq #[(zV "self" 611), (zV "value" 612)] 0) #[])
noncomputable def zo188_6 : ZO := fun P => (Obj.mk Value.none none (Data.func (FuncData.mk (zS "write_value") (zS "_PlistWriter.write_value") (zpa (zF (zB zT 15) 2)) (FuncBody.stmts (zbo (zF (zB zT 15) 2))) (zsc (zF (zB zT 15) 2)) 0 [] Value.none Value.none Value.none Value.none none Value.none Value.none 0)) #[])
noncomputable def zo189_6 : ZO := fun P => (Obj.mk (Value.type "code") none (Data.fields #[(zV "write_value" 608), (zV "_PlistWriter.write_value" 609), (zV "/claim/cut.py" 610), (Value.int (114 : Int) 0), (Value.int (2 : Int) 0), (Value.int (0 : Int) 0), (Value.int (0 : Int) 0), (Value.int (3 : Int) 0), (Value.ref 184), (Value.bool Bool.true), (Value.int (388 : Int) 0), (Value.ref 185), Value.none, (Value.ref 186), (Value.ref 187), (Value.ref 188), (Value.int (613 : Int) 0), (Value.int (114 : Int) 0), (zV "/claim/cut.py" 614)]) #[])
noncomputable def zo190_6 : ZO := fun P => (Obj.mk (Value.type "function") none (Data.func (FuncData.mk (zS "write_value") (zS "_PlistWriter.write_value") (zpa (zF (zB zT 15) 2)) (FuncBody.stmts (zbo (zF (zB zT 15) 2))) (zsc (zF (zB zT 15) 2)) 3 [] Value.none Value.none Value.none (zV "cpy313.plistlib" 471) none (Value.ref 189) Value.none 0)) #[])
noncomputable def zo193_6 : ZO := fun P => (Obj.mk (Value.type "tuple") none (Data.seq #[(zV "self" 619), (zV "data" 620), (zV "maxlinelength" 621), (zV "line" 622)] 0) #[])
noncomputable def zo195_6 : ZO := fun P => (Obj.mk Value.none none (Data.func (FuncData.mk (zS "write_bytes") (zS "_PlistWriter.write_bytes") (zpa (zF (zB zT 15) 3)) (FuncBody.stmts (zbo (zF (zB zT 15) 3))) (zsc (zF (zB zT 15) 3)) 0 [] Value.none Value.none Value.none Value.none none Value.none Value.none 0)) #[])
noncomputable def zo196_6 : ZO := fun P => (Obj.mk (Value.type "code") none (Data.fields #[(zV "write_bytes" 616), (zV "_PlistWriter.write_bytes" 617), (zV "/claim/cut.py" 618), (Value.int (139 : Int) 0), (Value.int (2 : Int) 0), (Value.int (0 : Int) 0), (Value.int (0 : Int) 0), (Value.int (3 : Int) 0), (Value.ref 191), (Value.bool Bool.true), (Value.int (388 : Int) 0), (Value.ref 192), Value.none, (Value.ref 193), (Value.ref 194), (Value.ref 195), (Value.int (623 : Int) 0), (Value.int (139 : Int) 0), (zV "/claim/cut.py" 624)]) #[])
noncomputable def zo197_6 : ZO := fun P => (Obj.mk (Value.type "function") none (Data.func (FuncData.mk (zS "write_bytes") (zS "_PlistWriter.write_bytes") (zpa (zF (zB zT 15) 3)) (FuncBody.stmts (zbo (zF (zB zT 15) 3))) (zsc (zF (zB zT 15) 3)) 3 [] Value.none Value.none Value.none (zV "cpy313.plistlib" 471) none (Value.ref 196) Value.none 0)) #[])
noncomputable def zo200_6 : ZO := fun P => (Obj.mk (Value.type "tuple") none (Data.seq #[(zV "self" 629), (zV "d" 630), (zV "items" 631), (zV "key" 632), (zV "value" 633)] 0) #[])
noncomputable def zo202_6 : ZO := fun P => (Obj.mk Value.none none (Data.func (FuncData.mk (zS "write_dict") (zS "_PlistWriter.write_dict") (zpa (zF (zB zT 15) 4)) (FuncBody.stmts (zbo (zF (zB zT 15) 4))) (zsc (zF (zB zT 15) 4)) 0 [] Value.none Value.none Value.none Value.none none Value.none Value.none 0)) #[])
noncomputable def zo203_6 : ZO := fun P => (Obj.mk (Value.type "code") none (Data.fields #[(zV "write_dict" 626), (zV "_PlistWriter.write_dict" 627), (zV "/claim/cut.py" 628), (Value.int (149 : Int) 0), (Value.int (2 : Int) 0), (Value.int (0 : Int) 0), (Value.int (0 : Int) 0), (Value.int (3 : Int) 0), (Value.ref 198), (Value.bool Bool.true), (Value.int (388 : Int) 0), (Value.ref 199), Value.none, (Value.ref 200), (Value.ref 201), (Value.ref 202), (Value.int (634 : Int) 0), (Value.int (149 : Int) 0), (zV "/claim/cut.py" 635)]) #[])
noncomputable def zo204_6 : ZO := fun P => (Obj.mk (Value.type "function") none (Data.func (FuncData.mk (zS "write_dict") (zS "_PlistWriter.write_dict") (zpa (zF (zB zT 15) 4)) (FuncBody.stmts (zbo (zF (zB zT 15) 4))) (zsc (zF (zB zT 15) 4)) 3 [] Value.none Value.none Value.none (zV "cpy313.plistlib" 471) none (Value.ref 203) Value.none 0)) #[])
noncomputable def zo207_6 : ZO := fun P => (Obj.mk (Value.type "tuple") none (Data.seq #[(zV "self" 640), (zV "array" 641), (zV "value" 642)] 0) #[])
noncomputable def zo209_6 : ZO := fun P => (Obj.mk Value.none none (Data.func (FuncData.mk (zS "write_array") (zS "_PlistWriter.write_array") (zpa (zF (zB zT 15) 5)) (FuncBody.stmts (zbo (zF (zB zT 15) 5))) (zsc (zF (zB zT 15) 5)) 0 [] Value.none Value.none Value.none Value.none none Value.none Value.none 0)) #[])
noncomputable def zo210_6 : ZO := fun P => (Obj.mk (Value.type "code") none (Data.fields #[(zV "write_array" 637), (zV "_PlistWriter.write_array" 638), (zV "/claim/cut.py" 639), (Value.int (167 : Int) 0), (Value.int (2 : Int) 0), (Value.int (0 : Int) 0), (Value.int (0 : Int) 0), (Value.int (3 : Int) 0), (Value.ref 205), (Value.bool Bool.true), (Value.int (388 : Int) 0), (Value.ref 206), Value.none, (Value.ref 207), (Value.ref 208), (Value.ref 209), (Value.int (643 : Int) 0), (Value.int (167 : Int) 0), (zV "/claim/cut.py" 644)]) #[])
noncomputable def zo211_6 : ZO := fun P => (Obj.mk (Value.type "function") none (Data.func (FuncData.mk (zS "write_array") (zS "_PlistWriter.write_array") (zpa (zF (zB zT 15) 5)) (FuncBody.stmts (zbo (zF (zB zT 15) 5))) (zsc (zF (zB zT 15) 5)) 3 [] Value.none Value.none Value.none (zV "cpy313.plistlib" 471) none (Value.ref 210) Value.none 0)) #[])
noncomputable def zo212_6 : ZO := fun P => (Obj.mk (Value.type "tuple") none (Data.seq #[(zV "_aware_datetime" 646), (zV "_skipkeys" 647), (zV "_sort_keys" 648)] 0) #[])
noncomputable def zo213_6 : ZO := fun P => (Obj.mk (Value.type "dict") none (Data.dict #[(zE P (zS "__module__") 578 (zV "cpy313.plistlib" 471)), (zE P (zS "__firstlineno__") 582 (Value.int (99 : Int) 581)), (zE P (zS "__init__") 599 (Value.ref 176)), (zE P (zS "write") 607 (Value.ref 183)), (zE P (zS "write_value") 615 (Value.ref 190)), (zE P (zS "write_bytes") 625 (Value.ref 197)), (zE P (zS "write_dict") 636 (Value.ref 204)), (zE P (zS "write_array") 645 (Value.ref 211)), (zE P (zS "__static_attributes__") 649 (Value.ref 212)), (zE P (zS "__doc__") 650 Value.none)] 2) #[])
noncomputable def zo214_6 : ZO := fun P => (Obj.mk (Value.type "type") none (Data.cls (ClassData.mk (zS "_PlistWriter") [(Value.ref 157)] [(Value.ref 214), (Value.ref 157), (Value.type "object")] 213 (zS "_PlistWriter") Bool.true [] [] Bool.false none Bool.false)) #[(some (Value.ref 162)), none, (some (zV "_PlistWriter" 571)), (some (zV "_PlistWriter" 579)), (some (Value.builtin "object.__new__")), (some (Value.bool Bool.true))])
noncomputable def zo215_6 : ZO := fun P => (Obj.mk (Value.type "super") none (Data.fields #[(Value.ref 214), (Value.ref 214), (Value.ref 214)]) #[])
noncomputable def zo216_6 : ZO := fun P => (Obj.mk (Value.type "builtin_function_or_method") none (Data.fields #[(Value.builtin "object.__init_subclass__"), (Value.ref 214)]) #[])
noncomputable def zt2 : Params → BT := fun P => (.node (zo0_0 P) (.node (zo1_2 P) (.node (zo3_6 P) (.node (zo7_0 P) (.node (zo7_0 P) (.node (zo31_2 P) (.node (zo6_0 P) (.node (zo8_0 P) .nil .nil) (.node (zo7_0 P) .nil .nil)) (.node (zo95_6 P) (.node (zo159_6 P) .nil .nil) .nil)) (.node (zo47_2 P) (.node (zo79_6 P) (.node (zo143_6 P) .nil .nil) (.node (zo207_6 P) .nil .nil)) (.node (zo7_0 P) (.node (zo175_6 P) .nil .nil) .nil))) (.node (zo23_1 P) (.node (zo39_2 P) (.node (zo71_6 P) (.node (zo135_6 P) .nil .nil) (.node (zo8_0 P) .nil .nil)) (.node (zo103_6 P) (.node (zo167_6 P) .nil .nil) .nil)) (.node (zo7_0 P) (.node (zo87_6 P) (.node (zo7_0 P) .nil .nil) (.node (zo215_6 P) .nil .nil)) (.node (zo7_0 P) (.node (zo183_6 P) .nil .nil) .nil)))) (.node (zo11_3 P) (.node (zo19_1 P) (.node (zo35_2 P) (.node (zo7_0 P) (.node (zo131_6 P) .nil .nil) (.node (zo195_6 P) .nil .nil)) (.node (zo99_6 P) (.node (zo112_6 P) .nil .nil) .nil)) (.node (zo7_0 P) (.node (zo8_0 P) (.node (zo147_6 P) .nil .nil) (.node (zo211_6 P) .nil .nil)) (.node (zo115_6 P) (.node (zo179_6 P) .nil .nil) .nil))) (.node (zo27_2 P) (.node (zo43_2 P) (.node (zo8_0 P) (.node (zo139_6 P) .nil .nil) (.node (zo203_6 P) .nil .nil)) (.node (zo7_0 P) (.node (zo8_0 P) .nil .nil) .nil)) (.node (zo59_6 P) (.node (zo8_0 P) (.node (zo155_6 P) .nil .nil) .nil) (.node (zo123_6 P) (.node (zo7_0 P) .nil .nil) .nil))))) (.node (zo5_0 P) (.node (zo9_0 P) (.node (zo17_1 P) (.node (zo33_2 P) (.node (zo65_6 P) (.node (zo7_0 P) .nil .nil) (.node (zo193_6 P) .nil .nil)) (.node (zo7_0 P) (.node (zo161_6 P) .nil .nil) .nil)) (.node (zo49_2 P) (.node (zo81_6 P) (.node (zo145_6 P) .nil .nil) (.node (zo209_6 P) .nil .nil)) (.node (zo113_6 P) (.node (zo7_0 P) .nil .nil) .nil))) (.node (zo25_1 P) (.node (zo41_2 P) (.node (zo73_6 P) (.node (zo137_6 P) .nil .nil) (.node (zo7_0 P) .nil .nil)) (.node (zo8_0 P) (.node (zo169_6 P) .nil .nil) .nil)) (.node (zo57_6 P) (.node (zo89_6 P) (.node (zo153_6 P) .nil .nil) .nil) (.node (zo121_6 P) (.node (zo8_0 P) .nil .nil) .nil)))) (.node (zo13_1 P) (.node (zo21_1 P) (.node (zo37_2 P) (.node (zo69_6 P) (.node (zo7_0 P) .nil .nil) (.node (zo197_6 P) .nil .nil)) (.node (zo101_6 P) (.node (zo7_0 P) .nil .nil) .nil)) (.node (zo53_4 P) (.node (zo7_0 P) (.node (zo8_0 P) .nil .nil) (.node (zo213_6 P) .nil .nil)) (.node (zo117_6 P) (.node (zo181_6 P) .nil .nil) .nil))) (.node (zo29_3 P) (.node (zo45_2 P) (.node (zo7_0 P) (.node (zo7_0 P) .nil .nil) (.node (zo7_0 P) .nil .nil)) (.node (zo109_6 P) (.node (zo7_0 P) .nil .nil) .nil)) (.node (zo61_6 P) (.node (zo7_0 P) (.node (zo157_6 P) .nil .nil) .nil) (.node (zo125_6 P) (.node (zo189_6 P) .nil .nil) .nil)))))) (.node (zo2_2 P) (.node (zo4_0 P) (.node (zo8_0 P) (.node (zo16_1 P) (.node (zo32_2 P) (.node (zo64_6 P) (.node (zo128_6 P) .nil .nil) (.node (zo8_0 P) .nil .nil)) (.node (zo96_6 P) (.node (zo160_6 P) .nil .nil) .nil)) (.node (zo48_2 P) (.node (zo80_6 P) (.node (zo7_0 P) .nil .nil) (.node (zo7_0 P) .nil .nil)) (.node (zo112_6 P) (.node (zo176_6 P) .nil .nil) .nil))) (.node (zo24_1 P) (.node (zo40_2 P) (.node (zo72_6 P) (.node (zo7_0 P) .nil .nil) (.node (zo200_6 P) .nil .nil)) (.node (zo7_0 P) (.node (zo168_6 P) .nil .nil) .nil)) (.node (zo8_0 P) (.node (zo88_6 P) (.node (zo152_6 P) .nil .nil) (.node (zo216_6 P) .nil .nil)) (.node (zo8_0 P) (.node (zo7_0 P) .nil .nil) .nil)))) (.node (zo12_1 P) (.node (zo20_1 P) (.node (zo36_2 P) (.node (zo8_0 P) (.node (zo132_6 P) .nil .nil) (.node (zo196_6 P) .nil .nil)) (.node (zo7_0 P) (.node (zo164_6 P) .nil .nil) .nil)) (.node (zo52_6 P) (.node (zo84_6 P) (.node (zo7_0 P) .nil .nil) (.node (zo212_6 P) .nil .nil)) (.node (zo116_6 P) (.node (zo7_0 P) .nil .nil) .nil))) (.node (zo28_2 P) (.node (zo44_2 P) (.node (zo76_6 P) (.node (zo64_6 P) .nil .nil) (.node (zo204_6 P) .nil .nil)) (.node (zo108_6 P) (.node (zo172_6 P) .nil .nil) .nil)) (.node (zo60_6 P) (.node (zo92_6 P) (.node (zo156_6 P) .nil .nil) .nil) (.node (zo124_6 P) (.node (zo188_6 P) .nil .nil) .nil))))) (.node (zo6_0 P) (.node (zo10_0 P) (.node (zo18_2 P) (.node (zo7_0 P) (.node (zo66_6 P) (.node (zo130_6 P) .nil .nil) (.node (zo7_0 P) .nil .nil)) (.node (zo8_0 P) (.node (zo162_6 P) .nil .nil) .nil)) (.node (zo50_2 P) (.node (zo7_0 P) (.node (zo146_6 P) .nil .nil) (.node (zo210_6 P) .nil .nil)) (.node (zo7_0 P) (.node (zo8_0 P) .nil .nil) .nil))) (.node (zo26_1 P) (.node (zo42_2 P) (.node (zo7_0 P) (.node (zo138_6 P) .nil .nil) (.node (zo202_6 P) .nil .nil)) (.node (zo106_6 P) (.node (zo7_0 P) .nil .nil) .nil)) (.node (zo7_0 P) (.node (zo7_0 P) (.node (zo154_6 P) .nil .nil) .nil) (.node (zo7_0 P) (.node (zo186_6 P) .nil .nil) .nil)))) (.node (zo14_1 P) (.node (zo22_1 P) (.node (zo38_2 P) (.node (zo7_0 P) (.node (zo8_0 P) .nil .nil) (.node (zo7_0 P) .nil .nil)) (.node (zo102_6 P) (.node (zo166_6 P) .nil .nil) .nil)) (.node (zo54_4 P) (.node (zo86_6 P) (.node (zo150_6 P) .nil .nil) (.node (zo214_6 P) .nil .nil)) (.node (zo118_6 P) (.node (zo182_6 P) .nil .nil) .nil))) (.node (zo30_2 P) (.node (zo19_1 P) (.node (zo78_6 P) (.node (zo8_0 P) .nil .nil) (.node (zo8_0 P) .nil .nil)) (.node (zo110_6 P) (.node (zo174_6 P) .nil .nil) .nil)) (.node (zo62_6 P) (.node (zo94_6 P) (.node (zo158_6 P) .nil .nil) .nil) (.node (zo7_0 P) (.node (zo190_6 P) .nil .nil) .nil)))))))
noncomputable def zs2 (w : World) (os : OsState) : SharedT := ⟨zt2 w.params, 217, (Life.mk [] [] [] 0 [] [] Bool.false #[] [] 0 Bool.false Bool.false Bool.false (0 : Int) [(2000 : Int), (10 : Int), (10 : Int)] Bool.false 0 Bool.true [] [] 0 Bool.false), #[], (Drawn.mk 0 0 0 0), 653, os⟩
noncomputable def zo2_7 : ZO := fun P => (Obj.mk Value.none none (Data.dict #[(zE P (zS "imp\u006frt.loaded._sre") 183 (Value.bool Bool.true)), (zE P (zS "class._frozen_importlib.BuiltinImporter") 185 (Value.ref 14)), (zE P (zS "watched.imp\u006frt") 206 (Value.ref 18)), (zE P (zS "class._frozen_importlib.ModuleSpec") 216 (Value.ref 22)), (zE P (zS "sys.modules.booked-epoch") 245 (Value.int (4 : Int) 0)), (zE P (zS "imp\u006frt.later-laid._sre") 270 (Value.bool Bool.true)), (zE P (zS "watched.library") 272 (Value.ref 27)), (zE P (zS "watched.library-objects") 0 (Value.str (Str.mk #[12, 30]) 0)), (zE P (zS "watched.library-deep._sre") 273 (Value.str (Str.mk #[4, 0, 0, 11, 4, 0, 0, 11, 4, 0, 0, 3, 4, 0, 0, 11, 8, 4, 100, 105, 99, 116, 2]) 0)), (zE P (zS "imp\u006frt.loaded._datetime") 281 (Value.bool Bool.true)), (zE P (zS "class._frozen_importlib_external._LoaderBasics") 286 (Value.ref 33)), (zE P (zS "class._frozen_importlib_external.FileLoader") 302 (Value.ref 38)), (zE P (zS "class._frozen_importlib_external.ExtensionFileLoader") 323 (Value.ref 43)), (zE P (zS "datetime.timedelta.zero") 373 (Value.ref 49)), (zE P (zS "datetime.timezone.utc") 374 (Value.ref 50)), (zE P (zS "imp\u006frt.later-laid._datetime") 377 (Value.bool Bool.true)), (zE P (zS "type.__subclasses__.OSError.0") 689 (Value.int (240 : Int) 0)), (zE P (zS "type.__subclasses__.OSError.n") 690 (Value.int (1 : Int) 0))] 18) #[])
noncomputable def zo3_7 : ZO := fun P => (Obj.mk (Value.type "dict") none (Data.dict #[(zE P (zS "__name__") 165 (zV "io" 653)), (zE P (zS "__doc__") 166 Value.none), (zE P (zS "__package__") 167 Value.none), (zE P (zS "__loader__") 168 (Value.builtin "__main__.__loader__#opaque")), (zE P (zS "__spec__") 169 Value.none), (zE P (zS "__annotations__") 170 (Value.ref 6)), (zE P (zS "__builtins__") 171 (Value.ref 4)), (zE P (zS "__file__") 173 (zV "/claim/cut.py" 172)), (zE P (zS "__cached__") 174 Value.none), (zE P (zS "_sre") 275 (Value.ref 12)), (zE P (zS "datetime") 384 (Value.type "datetime.datetime")), (zE P (zS "timezone") 387 (Value.type "datetime.timezone")), (zE P (zS "_wall") 400 (Value.ref 61)), (zE P (zS "PLISTHEADER") 402 (Value.bytes #[60, 63, 120, 109, 108, 32, 118, 101, 114, 115, 105, 111, 110, 61, 34, 49, 46, 48, 34, 32, 101, 110, 99, 111, 100, 105, 110, 103, 61, 34, 85, 84, 70, 45, 56, 34, 63, 62, 10, 60, 33, 68, 79, 67, 84, 89, 80, 69, 32, 112, 108, 105, 115, 116, 32, 80, 85, 66, 76, 73, 67, 32, 34, 45, 47, 47, 65, 112, 112, 108, 101, 47, 47, 68, 84, 68, 32, 80, 76, 73, 83, 84, 32, 49, 46, 48, 47, 47, 69, 78, 34, 32, 34, 104, 116, 116, 112, 58, 47, 47, 119, 119, 119, 46, 97, 112, 112, 108, 101, 46, 99, 111, 109, 47, 68, 84, 68, 115, 47, 80, 114, 111, 112, 101, 114, 116, 121, 76, 105, 115, 116, 45, 49, 46, 48, 46, 100, 116, 100, 34, 62, 10] 401)), (zE P (zS "_controlCharPat") 436 (Value.ref 66)), (zE P (zS "_buffer") 446 (Value.ref 73)), (zE P (zS "_truth") 454 (Value.ref 80)), (zE P (zS "_B64") 456 (Value.bytes #[65, 66, 67, 68, 69, 70, 71, 72, 73, 74, 75, 76, 77, 78, 79, 80, 81, 82, 83, 84, 85, 86, 87, 88, 89, 90, 97, 98, 99, 100, 101, 102, 103, 104, 105, 106, 107, 108, 109, 110, 111, 112, 113, 114, 115, 116, 117, 118, 119, 120, 121, 122, 48, 49, 50, 51, 52, 53, 54, 55, 56, 57, 43, 47] 455)), (zE P (zS "b2a_base64") 470 (Value.ref 88)), (zE P (zS "_encode_base64") 485 (Value.ref 96)), (zE P (zS "_date_to_string") 493 (Value.ref 103)), (zE P (zS "_escape") 501 (Value.ref 110)), (zE P (zS "_DumbXMLWriter") 570 (Value.ref 157)), (zE P (zS "_PlistWriter") 652 (Value.ref 214)), (zE P (zS "_whence") 662 (Value.ref 223)), (zE P (zS "_index") 670 (Value.ref 230)), (zE P (zS "UnsupportedOperation") 692 (Value.ref 240)), (zE P (zS "IOBase") 724 (Value.ref 260)), (zE P (zS "BufferedIOBase") 742 (Value.ref 275)), (zE P (zS "TextIOBase") 760 (Value.ref 287))] 30) #[])
noncomputable def zo52_7 : ZO := fun P => (Obj.mk Value.none none (Data.fields #[(Value.int (3 : Int) 0), (Value.int (0 : Int) 0), (Value.ref 60), (Value.int (9 : Int) 0), (Value.int (0 : Int) 0), (Value.ref 72), (Value.int (16 : Int) 0), (Value.int (0 : Int) 0), (Value.ref 79), (Value.int (22 : Int) 0), (Value.int (0 : Int) 0), (Value.ref 87), (Value.int (45 : Int) 0), (Value.int (0 : Int) 0), (Value.ref 95), (Value.int (52 : Int) 0), (Value.int (0 : Int) 0), (Value.ref 102), (Value.int (56 : Int) 0), (Value.int (0 : Int) 0), (Value.ref 109), (Value.int (66 : Int) 0), (Value.int (0 : Int) 0), (Value.ref 116), (Value.int (99 : Int) 0), (Value.int (0 : Int) 0), (Value.ref 167), (Value.int (176 : Int) 0), (Value.int (0 : Int) 0), (Value.ref 222), (Value.int (181 : Int) 0), (Value.int (0 : Int) 0), (Value.ref 229), (Value.int (188 : Int) 0), (Value.int (0 : Int) 0), (Value.ref 236), (Value.int (190 : Int) 0), (Value.int (0 : Int) 0), (Value.ref 249), (Value.int (197 : Int) 0), (Value.int (0 : Int) 0), (Value.ref 271), (Value.int (199 : Int) 0), (Value.int (0 : Int) 0), (Value.ref 283)]) #[])
noncomputable def zo219_7 : ZO := fun P => (Obj.mk (Value.type "tuple") none (Data.seq #[(zV "n" 658), (zV "what" 659)] 0) #[])
noncomputable def zo221_7 : ZO := fun P => (Obj.mk Value.none none (Data.func (FuncData.mk (zS "_whence") (zS "_whence") (zpa (zF zT 17)) (FuncBody.stmts (zbo (zF zT 17))) (zsc (zF zT 17)) 0 [] Value.none Value.none Value.none Value.none none Value.none Value.none 0)) #[])
noncomputable def zo222_7 : ZO := fun P => (Obj.mk (Value.type "code") none (Data.fields #[(zV "_whence" 655), (zV "_whence" 656), (zV "/claim/cut.py" 657), (Value.int (176 : Int) 0), (Value.int (2 : Int) 0), (Value.int (0 : Int) 0), (Value.int (0 : Int) 0), (Value.int (3 : Int) 0), (Value.ref 217), (Value.bool Bool.true), (Value.int (388 : Int) 0), (Value.ref 218), Value.none, (Value.ref 219), (Value.ref 220), (Value.ref 221), (Value.int (660 : Int) 0), (Value.int (176 : Int) 0), (zV "/claim/cut.py" 661)]) #[])
noncomputable def zo223_7 : ZO := fun P => (Obj.mk (Value.type "function") none (Data.func (FuncData.mk (zS "_whence") (zS "_whence") (zpa (zF zT 17)) (FuncBody.stmts (zbo (zF zT 17))) (zsc (zF zT 17)) 3 [] Value.none Value.none Value.none (zV "io" 653) none (Value.ref 222) Value.none 0)) #[])
noncomputable def zo226_7 : ZO := fun P => (Obj.mk (Value.type "tuple") none (Data.seq #[(zV "n" 666), (zV "what" 667)] 0) #[])
noncomputable def zo228_7 : ZO := fun P => (Obj.mk Value.none none (Data.func (FuncData.mk (zS "_index") (zS "_index") (zpa (zF zT 18)) (FuncBody.stmts (zbo (zF zT 18))) (zsc (zF zT 18)) 0 [] Value.none Value.none Value.none Value.none none Value.none Value.none 0)) #[])
noncomputable def zo229_7 : ZO := fun P => (Obj.mk (Value.type "code") none (Data.fields #[(zV "_index" 663), (zV "_index" 664), (zV "/claim/cut.py" 665), (Value.int (181 : Int) 0), (Value.int (2 : Int) 0), (Value.int (0 : Int) 0), (Value.int (0 : Int) 0), (Value.int (3 : Int) 0), (Value.ref 224), (Value.bool Bool.true), (Value.int (388 : Int) 0), (Value.ref 225), Value.none, (Value.ref 226), (Value.ref 227), (Value.ref 228), (Value.int (668 : Int) 0), (Value.int (181 : Int) 0), (zV "/claim/cut.py" 669)]) #[])
noncomputable def zo230_7 : ZO := fun P => (Obj.mk (Value.type "function") none (Data.func (FuncData.mk (zS "_index") (zS "_index") (zpa (zF zT 18)) (FuncBody.stmts (zbo (zF zT 18))) (zsc (zF zT 18)) 3 [] Value.none Value.none Value.none (zV "io" 653) none (Value.ref 229) Value.none 0)) #[])
noncomputable def zo231_7 : ZO := fun P => (Obj.mk (Value.type "tuple") none (Data.seq #[(Value.type "OSError"), (Value.type "ValueError")] 0) #[])
noncomputable def zo233_7 : ZO := fun P => (Obj.mk (Value.type "dict") none (Data.dict #[(zE P (zS "__module__") 678 (zV "io" 683)), (zE P (zS "__qualname__") 680 (zV "UnsupportedOperation" 679)), (zE P (zS "__firstlineno__") 682 (Value.int (188 : Int) 681)), (zE P (zS "__static_attributes__") 685 (Value.ref 238))] 4) #[])
noncomputable def zo236_7 : ZO := fun P => (Obj.mk (Value.type "code") none (Data.fields #[(zV "UnsupportedOperation" 673), (zV "UnsupportedOperation" 674), (zV "/claim/cut.py" 675), (Value.int (188 : Int) 0), (Value.int (0 : Int) 0), (Value.int (0 : Int) 0), (Value.int (0 : Int) 0), (Value.int (0 : Int) 0), (Value.ref 234), (Value.bool Bool.false), (Value.int (388 : Int) 0), (Value.ref 235), Value.none, Value.none, Value.none, Value.none, (Value.int (676 : Int) 0), (Value.int (188 : Int) 0), (zV "/claim/cut.py" 677)]) #[])
noncomputable def zo237_7 : ZO := fun P => (Obj.mk (Value.type "frame") none Data.plain #[(some (Value.ref 236)), (some (Value.ref 3)), (some (Value.ref 233)), none, (some (zV "io" 653)), none, (some (Value.ref 0))])
noncomputable def zo239_7 : ZO := fun P => (Obj.mk (Value.type "dict") none (Data.dict #[(zE P (zS "__module__") 678 (zV "io" 683)), (zE P (zS "__firstlineno__") 682 (Value.int (188 : Int) 681)), (zE P (zS "__static_attributes__") 685 (Value.ref 238)), (zE P (zS "__weakref__") 687 (Value.ref 241)), (zE P (zS "__doc__") 688 Value.none)] 3) #[])
noncomputable def zo240_7 : ZO := fun P => (Obj.mk (Value.type "type") none (Data.cls (ClassData.mk (zS "UnsupportedOperation") [(Value.type "OSError"), (Value.type "ValueError")] [(Value.ref 240), (Value.type "OSError"), (Value.type "ValueError"), (Value.type "Exception"), (Value.type "BaseException"), (Value.type "object")] 239 (zS "UnsupportedOperation") Bool.true [] [] Bool.false none Bool.false)) #[(some (Value.ref 231)), none, (some (zV "UnsupportedOperation" 671)), (some (zV "UnsupportedOperation" 679)), (some (Value.builtin "OSError.__new__")), (some (Value.bool Bool.true))])
noncomputable def zo241_7 : ZO := fun P => (Obj.mk (Value.type "getset_descriptor") none (Data.fields #[(zV "__weakref__" 686), (Value.ref 240), (Value.builtin "ExceptionGroup.__weakref__"), Value.none]) #[])
noncomputable def zo242_7 : ZO := fun P => (Obj.mk (Value.type "super") none (Data.fields #[(Value.ref 240), (Value.ref 240), (Value.ref 240)]) #[])
noncomputable def zo243_7 : ZO := fun P => (Obj.mk (Value.type "builtin_function_or_method") none (Data.fields #[(Value.builtin "object.__init_subclass__"), (Value.ref 240)]) #[])
noncomputable def zo246_7 : ZO := fun P => (Obj.mk (Value.type "dict") none (Data.dict #[(zE P (zS "__module__") 700 (zV "io" 705)), (zE P (zS "__qualname__") 702 (zV "IOBase" 701)), (zE P (zS "__firstlineno__") 704 (Value.int (190 : Int) 703)), (zE P (zS "__new__") 715 (Value.ref 257)), (zE P (zS "__static_attributes__") 716 (Value.ref 258))] 5) #[])
noncomputable def zo248_7 : ZO := fun P => (Obj.mk Value.none none (Data.fields #[(Value.int (193 : Int) 0), (Value.int (4 : Int) 0), (Value.ref 256)]) #[])
noncomputable def zo249_7 : ZO := fun P => (Obj.mk (Value.type "code") none (Data.fields #[(zV "IOBase" 695), (zV "IOBase" 696), (zV "/claim/cut.py" 697), (Value.int (190 : Int) 0), (Value.int (0 : Int) 0), (Value.int (0 : Int) 0), (Value.int (0 : Int) 0), (Value.int (0 : Int) 0), (Value.ref 247), (Value.bool Bool.false), (Value.int (388 : Int) 0), (Value.ref 248), Value.none, Value.none, Value.none, Value.none, (Value.int (698 : Int) 0), (Value.int (190 : Int) 0), (zV "/claim/cut.py" 699)]) #[])
noncomputable def zo250_7 : ZO := fun P => (Obj.mk (Value.type "frame") none Data.plain #[(some (Value.ref 249)), (some (Value.ref 3)), (some (Value.ref 246)), none, (some (zV "io" 653)), none, (some (Value.ref 0))])
noncomputable def zo253_7 : ZO := fun P => (Obj.mk (Value.type "tuple") none (Data.seq #[(zV "cls" 710), (zV "args" 711), (zV "kwargs" 712)] 0) #[])
noncomputable def zo255_7 : ZO := fun P => (Obj.mk Value.none none (Data.func (FuncData.mk (zS "__new__") (zS "IOBase.__new__") (zpa (zF (zB zT 20) 1)) (FuncBody.stmts (zbo (zF (zB zT 20) 1))) (zsc (zF (zB zT 20) 1)) 0 [] Value.none Value.none Value.none Value.none none Value.none Value.none 0)) #[])
noncomputable def zo256_7 : ZO := fun P => (Obj.mk (Value.type "code") none (Data.fields #[(zV "__new__" 707), (zV "IOBase.__new__" 708), (zV "/claim/cut.py" 709), (Value.int (193 : Int) 0), (Value.int (1 : Int) 0), (Value.int (1 : Int) 0), (Value.int (0 : Int) 0), (Value.int (15 : Int) 0), (Value.ref 251), (Value.bool Bool.true), (Value.int (388 : Int) 0), (Value.ref 252), Value.none, (Value.ref 253), (Value.ref 254), (Value.ref 255), (Value.int (713 : Int) 0), (Value.int (193 : Int) 0), (zV "/claim/cut.py" 714)]) #[])
noncomputable def zo257_7 : ZO := fun P => (Obj.mk (Value.type "function") none (Data.func (FuncData.mk (zS "__new__") (zS "IOBase.__new__") (zpa (zF (zB zT 20) 1)) (FuncBody.stmts (zbo (zF (zB zT 20) 1))) (zsc (zF (zB zT 20) 1)) 3 [] Value.none Value.none Value.none (zV "io" 653) none (Value.ref 256) Value.none 0)) #[])
noncomputable def zo259_7 : ZO := fun P => (Obj.mk (Value.type "dict") none (Data.dict #[(zE P (zS "__module__") 700 (zV "io" 705)), (zE P (zS "__firstlineno__") 704 (Value.int (190 : Int) 703)), (zE P (zS "__new__") 715 (Value.ref 261)), (zE P (zS "__static_attributes__") 716 (Value.ref 258)), (zE P (zS "__dict__") 719 (Value.ref 262)), (zE P (zS "__weakref__") 721 (Value.ref 263)), (zE P (zS "__doc__") 722 Value.none)] 4) #[])
noncomputable def zo260_7 : ZO := fun P => (Obj.mk (Value.type "type") none (Data.cls (ClassData.mk (zS "IOBase") [(Value.type "object")] [(Value.ref 260), (Value.type "object")] 259 (zS "IOBase") Bool.true [] [(Value.ref 275), (Value.ref 287)] Bool.false none Bool.false)) #[none, none, (some (zV "IOBase" 693)), (some (zV "IOBase" 701)), (some Value.none), (some (Value.bool Bool.true))])
noncomputable def zo261_7 : ZO := fun P => (Obj.mk (Value.type "staticmethod") none (Data.fields #[(Value.ref 257)]) #[])
noncomputable def zo262_7 : ZO := fun P => (Obj.mk (Value.type "getset_descriptor") none (Data.fields #[(zV "__dict__" 718), (Value.ref 260), (Value.builtin "function.__dict__"), (Value.builtin "function.__dict__#set")]) #[])
noncomputable def zo263_7 : ZO := fun P => (Obj.mk (Value.type "getset_descriptor") none (Data.fields #[(zV "__weakref__" 720), (Value.ref 260), (Value.builtin "ExceptionGroup.__weakref__"), Value.none]) #[])
noncomputable def zo264_7 : ZO := fun P => (Obj.mk (Value.type "super") none (Data.fields #[(Value.ref 260), (Value.ref 260), (Value.ref 260)]) #[])
noncomputable def zo265_7 : ZO := fun P => (Obj.mk (Value.type "builtin_function_or_method") none (Data.fields #[(Value.builtin "object.__init_subclass__"), (Value.ref 260)]) #[])
noncomputable def zo266_7 : ZO := fun P => (Obj.mk (Value.type "tuple") none (Data.seq #[(Value.ref 260)] 0) #[])
noncomputable def zo268_7 : ZO := fun P => (Obj.mk (Value.type "dict") none (Data.dict #[(zE P (zS "__module__") 732 (zV "io" 737)), (zE P (zS "__qualname__") 734 (zV "BufferedIOBase" 733)), (zE P (zS "__firstlineno__") 736 (Value.int (197 : Int) 735)), (zE P (zS "__static_attributes__") 739 (Value.ref 273))] 4) #[])
noncomputable def zo271_7 : ZO := fun P => (Obj.mk (Value.type "code") none (Data.fields #[(zV "BufferedIOBase" 727), (zV "BufferedIOBase" 728), (zV "/claim/cut.py" 729), (Value.int (197 : Int) 0), (Value.int (0 : Int) 0), (Value.int (0 : Int) 0), (Value.int (0 : Int) 0), (Value.int (0 : Int) 0), (Value.ref 269), (Value.bool Bool.false), (Value.int (388 : Int) 0), (Value.ref 270), Value.none, Value.none, Value.none, Value.none, (Value.int (730 : Int) 0), (Value.int (197 : Int) 0), (zV "/claim/cut.py" 731)]) #[])
noncomputable def zo272_7 : ZO := fun P => (Obj.mk (Value.type "frame") none Data.plain #[(some (Value.ref 271)), (some (Value.ref 3)), (some (Value.ref 268)), none, (some (zV "io" 653)), none, (some (Value.ref 0))])
noncomputable def zo274_7 : ZO := fun P => (Obj.mk (Value.type "dict") none (Data.dict #[(zE P (zS "__module__") 732 (zV "io" 737)), (zE P (zS "__firstlineno__") 736 (Value.int (197 : Int) 735)), (zE P (zS "__static_attributes__") 739 (Value.ref 273)), (zE P (zS "__doc__") 740 Value.none)] 2) #[])
noncomputable def zo275_7 : ZO := fun P => (Obj.mk (Value.type "type") none (Data.cls (ClassData.mk (zS "BufferedIOBase") [(Value.ref 260)] [(Value.ref 275), (Value.ref 260), (Value.type "object")] 274 (zS "BufferedIOBase") Bool.true [] [] Bool.false none Bool.false)) #[(some (Value.ref 266)), none, (some (zV "BufferedIOBase" 725)), (some (zV "BufferedIOBase" 733)), (some Value.none), (some (Value.bool Bool.true))])
noncomputable def zo276_7 : ZO := fun P => (Obj.mk (Value.type "super") none (Data.fields #[(Value.ref 275), (Value.ref 275), (Value.ref 275)]) #[])
noncomputable def zo277_7 : ZO := fun P => (Obj.mk (Value.type "builtin_function_or_method") none (Data.fields #[(Value.builtin "object.__init_subclass__"), (Value.ref 275)]) #[])
noncomputable def zo280_7 : ZO := fun P => (Obj.mk (Value.type "dict") none (Data.dict #[(zE P (zS "__module__") 750 (zV "io" 755)), (zE P (zS "__qualname__") 752 (zV "TextIOBase" 751)), (zE P (zS "__firstlineno__") 754 (Value.int (199 : Int) 753)), (zE P (zS "__static_attributes__") 757 (Value.ref 285))] 4) #[])
noncomputable def zo283_7 : ZO := fun P => (Obj.mk (Value.type "code") none (Data.fields #[(zV "TextIOBase" 745), (zV "TextIOBase" 746), (zV "/claim/cut.py" 747), (Value.int (199 : Int) 0), (Value.int (0 : Int) 0), (Value.int (0 : Int) 0), (Value.int (0 : Int) 0), (Value.int (0 : Int) 0), (Value.ref 281), (Value.bool Bool.false), (Value.int (388 : Int) 0), (Value.ref 282), Value.none, Value.none, Value.none, Value.none, (Value.int (748 : Int) 0), (Value.int (199 : Int) 0), (zV "/claim/cut.py" 749)]) #[])
noncomputable def zo284_7 : ZO := fun P => (Obj.mk (Value.type "frame") none Data.plain #[(some (Value.ref 283)), (some (Value.ref 3)), (some (Value.ref 280)), none, (some (zV "io" 653)), none, (some (Value.ref 0))])
noncomputable def zo286_7 : ZO := fun P => (Obj.mk (Value.type "dict") none (Data.dict #[(zE P (zS "__module__") 750 (zV "io" 755)), (zE P (zS "__firstlineno__") 754 (Value.int (199 : Int) 753)), (zE P (zS "__static_attributes__") 757 (Value.ref 285)), (zE P (zS "__doc__") 758 Value.none)] 2) #[])
noncomputable def zo287_7 : ZO := fun P => (Obj.mk (Value.type "type") none (Data.cls (ClassData.mk (zS "TextIOBase") [(Value.ref 260)] [(Value.ref 287), (Value.ref 260), (Value.type "object")] 286 (zS "TextIOBase") Bool.true [] [] Bool.false none Bool.false)) #[(some (Value.ref 278)), none, (some (zV "TextIOBase" 743)), (some (zV "TextIOBase" 751)), (some Value.none), (some (Value.bool Bool.true))])
noncomputable def zo288_7 : ZO := fun P => (Obj.mk (Value.type "super") none (Data.fields #[(Value.ref 287), (Value.ref 287), (Value.ref 287)]) #[])
noncomputable def zo289_7 : ZO := fun P => (Obj.mk (Value.type "builtin_function_or_method") none (Data.fields #[(Value.builtin "object.__init_subclass__"), (Value.ref 287)]) #[])
noncomputable def zt3 : Params → BT := fun P => (.node (zo0_0 P) (.node (zo1_2 P) (.node (zo3_7 P) (.node (zo7_0 P) (.node (zo7_0 P) (.node (zo31_2 P) (.node (zo6_0 P) (.node (zo8_0 P) (.node (zo255_7 P) .nil .nil) .nil) (.node (zo7_0 P) .nil .nil)) (.node (zo95_6 P) (.node (zo159_6 P) (.node (zo287_7 P) .nil .nil) .nil) (.node (zo223_7 P) .nil .nil))) (.node (zo47_2 P) (.node (zo79_6 P) (.node (zo143_6 P) (.node (zo271_7 P) .nil .nil) .nil) (.node (zo207_6 P) .nil .nil)) (.node (zo7_0 P) (.node (zo175_6 P) .nil .nil) (.node (zo239_7 P) .nil .nil)))) (.node (zo23_1 P) (.node (zo39_2 P) (.node (zo71_6 P) (.node (zo135_6 P) (.node (zo263_7 P) .nil .nil) .nil) (.node (zo8_0 P) .nil .nil)) (.node (zo103_6 P) (.node (zo167_6 P) .nil .nil) (.node (zo231_7 P) .nil .nil))) (.node (zo7_0 P) (.node (zo87_6 P) (.node (zo7_0 P) (.node (zo112_6 P) .nil .nil) .nil) (.node (zo215_6 P) .nil .nil)) (.node (zo7_0 P) (.node (zo183_6 P) .nil .nil) (.node (zo7_0 P) .nil .nil))))) (.node (zo11_3 P) (.node (zo19_1 P) (.node (zo35_2 P) (.node (zo7_0 P) (.node (zo131_6 P) (.node (zo259_7 P) .nil .nil) .nil) (.node (zo195_6 P) .nil .nil)) (.node (zo99_6 P) (.node (zo112_6 P) .nil .nil) (.node (zo7_0 P) .nil .nil))) (.node (zo7_0 P) (.node (zo8_0 P) (.node (zo147_6 P) (.node (zo275_7 P) .nil .nil) .nil) (.node (zo211_6 P) .nil .nil)) (.node (zo115_6 P) (.node (zo179_6 P) .nil .nil) (.node (zo243_7 P) .nil .nil)))) (.node (zo27_2 P) (.node (zo43_2 P) (.node (zo8_0 P) (.node (zo139_6 P) (.node (zo112_6 P) .nil .nil) .nil) (.node (zo203_6 P) .nil .nil)) (.node (zo7_0 P) (.node (zo8_0 P) .nil .nil) (.node (zo8_0 P) .nil .nil))) (.node (zo59_6 P) (.node (zo8_0 P) (.node (zo155_6 P) (.node (zo283_7 P) .nil .nil) .nil) (.node (zo219_7 P) .nil .nil)) (.node (zo123_6 P) (.node (zo7_0 P) .nil .nil) (.node (zo7_0 P) .nil .nil)))))) (.node (zo5_0 P) (.node (zo9_0 P) (.node (zo17_1 P) (.node (zo33_2 P) (.node (zo65_6 P) (.node (zo7_0 P) (.node (zo257_7 P) .nil .nil) .nil) (.node (zo193_6 P) .nil .nil)) (.node (zo7_0 P) (.node (zo161_6 P) (.node (zo289_7 P) .nil .nil) .nil) (.node (zo8_0 P) .nil .nil))) (.node (zo49_2 P) (.node (zo81_6 P) (.node (zo145_6 P) (.node (zo7_0 P) .nil .nil) .nil) (.node (zo209_6 P) .nil .nil)) (.node (zo113_6 P) (.node (zo7_0 P) .nil .nil) (.node (zo241_7 P) .nil .nil)))) (.node (zo25_1 P) (.node (zo41_2 P) (.node (zo73_6 P) (.node (zo137_6 P) (.node (zo265_7 P) .nil .nil) .nil) (.node (zo7_0 P) .nil .nil)) (.node (zo8_0 P) (.node (zo169_6 P) .nil .nil) (.node (zo233_7 P) .nil .nil))) (.node (zo57_6 P) (.node (zo89_6 P) (.node (zo153_6 P) (.node (zo7_0 P) .nil .nil) .nil) (.node (zo7_0 P) .nil .nil)) (.node (zo121_6 P) (.node (zo8_0 P) .nil .nil) (.node (zo249_7 P) .nil .nil))))) (.node (zo13_1 P) (.node (zo21_1 P) (.node (zo37_2 P) (.node (zo69_6 P) (.node (zo7_0 P) (.node (zo261_7 P) .nil .nil) .nil) (.node (zo197_6 P) .nil .nil)) (.node (zo101_6 P) (.node (zo7_0 P) .nil .nil) (.node (zo229_7 P) .nil .nil))) (.node (zo53_4 P) (.node (zo7_0 P) (.node (zo8_0 P) (.node (zo277_7 P) .nil .nil) .nil) (.node (zo213_6 P) .nil .nil)) (.node (zo117_6 P) (.node (zo181_6 P) .nil .nil) (.node (zo112_6 P) .nil .nil)))) (.node (zo29_3 P) (.node (zo45_2 P) (.node (zo7_0 P) (.node (zo7_0 P) (.node (zo7_0 P) .nil .nil) .nil) (.node (zo7_0 P) .nil .nil)) (.node (zo109_6 P) (.node (zo7_0 P) .nil .nil) (.node (zo237_7 P) .nil .nil))) (.node (zo61_6 P) (.node (zo7_0 P) (.node (zo157_6 P) (.node (zo7_0 P) .nil .nil) .nil) (.node (zo221_7 P) .nil .nil)) (.node (zo125_6 P) (.node (zo189_6 P) .nil .nil) (.node (zo253_7 P) .nil .nil))))))) (.node (zo2_7 P) (.node (zo4_0 P) (.node (zo8_0 P) (.node (zo16_1 P) (.node (zo32_2 P) (.node (zo64_6 P) (.node (zo128_6 P) (.node (zo256_7 P) .nil .nil) .nil) (.node (zo8_0 P) .nil .nil)) (.node (zo96_6 P) (.node (zo160_6 P) (.node (zo288_7 P) .nil .nil) .nil) (.node (zo7_0 P) .nil .nil))) (.node (zo48_2 P) (.node (zo80_6 P) (.node (zo7_0 P) (.node (zo272_7 P) .nil .nil) .nil) (.node (zo7_0 P) .nil .nil)) (.node (zo112_6 P) (.node (zo176_6 P) .nil .nil) (.node (zo240_7 P) .nil .nil)))) (.node (zo24_1 P) (.node (zo40_2 P) (.node (zo72_6 P) (.node (zo7_0 P) (.node (zo264_7 P) .nil .nil) .nil) (.node (zo200_6 P) .nil .nil)) (.node (zo7_0 P) (.node (zo168_6 P) .nil .nil) (.node (zo112_6 P) .nil .nil))) (.node (zo8_0 P) (.node (zo88_6 P) (.node (zo152_6 P) (.node (zo280_7 P) .nil .nil) .nil) (.node (zo216_6 P) .nil .nil)) (.node (zo8_0 P) (.node (zo7_0 P) .nil .nil) (.node (zo248_7 P) .nil .nil))))) (.node (zo12_1 P) (.node (zo20_1 P) (.node (zo36_2 P) (.node (zo8_0 P) (.node (zo132_6 P) (.node (zo260_7 P) .nil .nil) .nil) (.node (zo196_6 P) .nil .nil)) (.node (zo7_0 P) (.node (zo164_6 P) .nil .nil) (.node (zo228_7 P) .nil .nil))) (.node (zo52_7 P) (.node (zo84_6 P) (.node (zo7_0 P) (.node (zo276_7 P) .nil .nil) .nil) (.node (zo212_6 P) .nil .nil)) (.node (zo116_6 P) (.node (zo7_0 P) .nil .nil) (.node (zo7_0 P) .nil .nil)))) (.node (zo28_2 P) (.node (zo44_2 P) (.node (zo76_6 P) (.node (zo64_6 P) (.node (zo268_7 P) .nil .nil) .nil) (.node (zo204_6 P) .nil .nil)) (.node (zo108_6 P) (.node (zo172_6 P) .nil .nil) (.node (zo236_7 P) .nil .nil))) (.node (zo60_6 P) (.node (zo92_6 P) (.node (zo156_6 P) (.node (zo284_7 P) .nil .nil) .nil) (.node (zo7_0 P) .nil .nil)) (.node (zo124_6 P) (.node (zo188_6 P) .nil .nil) (.node (zo8_0 P) .nil .nil)))))) (.node (zo6_0 P) (.node (zo10_0 P) (.node (zo18_2 P) (.node (zo7_0 P) (.node (zo66_6 P) (.node (zo130_6 P) (.node (zo7_0 P) .nil .nil) .nil) (.node (zo7_0 P) .nil .nil)) (.node (zo8_0 P) (.node (zo162_6 P) .nil .nil) (.node (zo226_7 P) .nil .nil))) (.node (zo50_2 P) (.node (zo7_0 P) (.node (zo146_6 P) (.node (zo274_7 P) .nil .nil) .nil) (.node (zo210_6 P) .nil .nil)) (.node (zo7_0 P) (.node (zo8_0 P) .nil .nil) (.node (zo242_7 P) .nil .nil)))) (.node (zo26_1 P) (.node (zo42_2 P) (.node (zo7_0 P) (.node (zo138_6 P) (.node (zo266_7 P) .nil .nil) .nil) (.node (zo202_6 P) .nil .nil)) (.node (zo106_6 P) (.node (zo7_0 P) .nil .nil) (.node (zo7_0 P) .nil .nil))) (.node (zo7_0 P) (.node (zo7_0 P) (.node (zo154_6 P) (.node (zo8_0 P) .nil .nil) .nil) (.node (zo8_0 P) .nil .nil)) (.node (zo7_0 P) (.node (zo186_6 P) .nil .nil) (.node (zo250_7 P) .nil .nil))))) (.node (zo14_1 P) (.node (zo22_1 P) (.node (zo38_2 P) (.node (zo7_0 P) (.node (zo8_0 P) (.node (zo262_7 P) .nil .nil) .nil) (.node (zo7_0 P) .nil .nil)) (.node (zo102_6 P) (.node (zo166_6 P) .nil .nil) (.node (zo230_7 P) .nil .nil))) (.node (zo54_4 P) (.node (zo86_6 P) (.node (zo150_6 P) (.node (zo266_7 P) .nil .nil) .nil) (.node (zo214_6 P) .nil .nil)) (.node (zo118_6 P) (.node (zo182_6 P) .nil .nil) (.node (zo246_7 P) .nil .nil)))) (.node (zo30_2 P) (.node (zo19_1 P) (.node (zo78_6 P) (.node (zo8_0 P) (.node (zo8_0 P) .nil .nil) .nil) (.node (zo8_0 P) .nil .nil)) (.node (zo110_6 P) (.node (zo174_6 P) .nil .nil) (.node (zo7_0 P) .nil .nil))) (.node (zo62_6 P) (.node (zo94_6 P) (.node (zo158_6 P) (.node (zo286_7 P) .nil .nil) .nil) (.node (zo222_7 P) .nil .nil)) (.node (zo7_0 P) (.node (zo190_6 P) .nil .nil) (.node (zo7_0 P) .nil .nil))))))))
noncomputable def zs3 (w : World) (os : OsState) : SharedT := ⟨zt3 w.params, 290, (Life.mk [] [] [] 0 [] [] Bool.false #[] [] 0 Bool.false Bool.false Bool.false (0 : Int) [(2000 : Int), (10 : Int), (10 : Int)] Bool.false 0 Bool.true [] [] 0 Bool.false), #[], (Drawn.mk 0 0 0 0), 761, os⟩
noncomputable def zo3_8 : ZO := fun P => (Obj.mk (Value.type "dict") none (Data.dict #[(zE P (zS "__name__") 165 (zV "io" 653)), (zE P (zS "__doc__") 166 Value.none), (zE P (zS "__package__") 167 Value.none), (zE P (zS "__loader__") 168 (Value.builtin "__main__.__loader__#opaque")), (zE P (zS "__spec__") 169 Value.none), (zE P (zS "__annotations__") 170 (Value.ref 6)), (zE P (zS "__builtins__") 171 (Value.ref 4)), (zE P (zS "__file__") 173 (zV "/claim/cut.py" 172)), (zE P (zS "__cached__") 174 Value.none), (zE P (zS "_sre") 275 (Value.ref 12)), (zE P (zS "datetime") 384 (Value.type "datetime.datetime")), (zE P (zS "timezone") 387 (Value.type "datetime.timezone")), (zE P (zS "_wall") 400 (Value.ref 61)), (zE P (zS "PLISTHEADER") 402 (Value.bytes #[60, 63, 120, 109, 108, 32, 118, 101, 114, 115, 105, 111, 110, 61, 34, 49, 46, 48, 34, 32, 101, 110, 99, 111, 100, 105, 110, 103, 61, 34, 85, 84, 70, 45, 56, 34, 63, 62, 10, 60, 33, 68, 79, 67, 84, 89, 80, 69, 32, 112, 108, 105, 115, 116, 32, 80, 85, 66, 76, 73, 67, 32, 34, 45, 47, 47, 65, 112, 112, 108, 101, 47, 47, 68, 84, 68, 32, 80, 76, 73, 83, 84, 32, 49, 46, 48, 47, 47, 69, 78, 34, 32, 34, 104, 116, 116, 112, 58, 47, 47, 119, 119, 119, 46, 97, 112, 112, 108, 101, 46, 99, 111, 109, 47, 68, 84, 68, 115, 47, 80, 114, 111, 112, 101, 114, 116, 121, 76, 105, 115, 116, 45, 49, 46, 48, 46, 100, 116, 100, 34, 62, 10] 401)), (zE P (zS "_controlCharPat") 436 (Value.ref 66)), (zE P (zS "_buffer") 446 (Value.ref 73)), (zE P (zS "_truth") 454 (Value.ref 80)), (zE P (zS "_B64") 456 (Value.bytes #[65, 66, 67, 68, 69, 70, 71, 72, 73, 74, 75, 76, 77, 78, 79, 80, 81, 82, 83, 84, 85, 86, 87, 88, 89, 90, 97, 98, 99, 100, 101, 102, 103, 104, 105, 106, 107, 108, 109, 110, 111, 112, 113, 114, 115, 116, 117, 118, 119, 120, 121, 122, 48, 49, 50, 51, 52, 53, 54, 55, 56, 57, 43, 47] 455)), (zE P (zS "b2a_base64") 470 (Value.ref 88)), (zE P (zS "_encode_base64") 485 (Value.ref 96)), (zE P (zS "_date_to_string") 493 (Value.ref 103)), (zE P (zS "_escape") 501 (Value.ref 110)), (zE P (zS "_DumbXMLWriter") 570 (Value.ref 157)), (zE P (zS "_PlistWriter") 652 (Value.ref 214)), (zE P (zS "_whence") 662 (Value.ref 223)), (zE P (zS "_index") 670 (Value.ref 230)), (zE P (zS "UnsupportedOperation") 692 (Value.ref 240)), (zE P (zS "IOBase") 724 (Value.ref 260)), (zE P (zS "BufferedIOBase") 742 (Value.ref 275)), (zE P (zS "TextIOBase") 760 (Value.ref 287)), (zE P (zS "BytesIO") 1022 (Value.ref 517))] 31) #[])
noncomputable def zo52_8 : ZO := fun P => (Obj.mk Value.none none (Data.fields #[(Value.int (3 : Int) 0), (Value.int (0 : Int) 0), (Value.ref 60), (Value.int (9 : Int) 0), (Value.int (0 : Int) 0), (Value.ref 72), (Value.int (16 : Int) 0), (Value.int (0 : Int) 0), (Value.ref 79), (Value.int (22 : Int) 0), (Value.int (0 : Int) 0), (Value.ref 87), (Value.int (45 : Int) 0), (Value.int (0 : Int) 0), (Value.ref 95), (Value.int (52 : Int) 0), (Value.int (0 : Int) 0), (Value.ref 102), (Value.int (56 : Int) 0), (Value.int (0 : Int) 0), (Value.ref 109), (Value.int (66 : Int) 0), (Value.int (0 : Int) 0), (Value.ref 116), (Value.int (99 : Int) 0), (Value.int (0 : Int) 0), (Value.ref 167), (Value.int (176 : Int) 0), (Value.int (0 : Int) 0), (Value.ref 222), (Value.int (181 : Int) 0), (Value.int (0 : Int) 0), (Value.ref 229), (Value.int (188 : Int) 0), (Value.int (0 : Int) 0), (Value.ref 236), (Value.int (190 : Int) 0), (Value.int (0 : Int) 0), (Value.ref 249), (Value.int (197 : Int) 0), (Value.int (0 : Int) 0), (Value.ref 271), (Value.int (199 : Int) 0), (Value.int (0 : Int) 0), (Value.ref 283), (Value.int (201 : Int) 0), (Value.int (0 : Int) 0), (Value.ref 295)]) #[])
noncomputable def zo275_8 : ZO := fun P => (Obj.mk (Value.type "type") none (Data.cls (ClassData.mk (zS "BufferedIOBase") [(Value.ref 260)] [(Value.ref 275), (Value.ref 260), (Value.type "object")] 274 (zS "BufferedIOBase") Bool.true [] [(Value.ref 517)] Bool.false none Bool.false)) #[(some (Value.ref 266)), none, (some (zV "BufferedIOBase" 725)), (some (zV "BufferedIOBase" 733)), (some Value.none), (some (Value.bool Bool.true))])
noncomputable def zo290_8 : ZO := fun P => (Obj.mk (Value.type "tuple") none (Data.seq #[(Value.ref 275)] 0) #[])
noncomputable def zo292_8 : ZO := fun P => (Obj.mk (Value.type "dict") none (Data.dict #[(zE P (zS "__module__") 768 (zV "_io" 773)), (zE P (zS "__qualname__") 770 (zV "BytesIO" 769)), (zE P (zS "__firstlineno__") 772 (Value.int (201 : Int) 771)), (zE P (zS "__init__") 782 (Value.ref 304)), (zE P (zS "_BytesIO__check") 789 (Value.ref 311)), (zE P (zS "_BytesIO__line") 800 (Value.ref 318)), (zE P (zS "closed") 808 (Value.ref 326)), (zE P (zS "close") 815 (Value.ref 333)), (zE P (zS "__enter__") 822 (Value.ref 340)), (zE P (zS "__exit__") 830 (Value.ref 347)), (zE P (zS "readable") 837 (Value.ref 354)), (zE P (zS "writable") 844 (Value.ref 361)), (zE P (zS "seekable") 851 (Value.ref 368)), (zE P (zS "isatty") 858 (Value.ref 375)), (zE P (zS "flush") 865 (Value.ref 382)), (zE P (zS "fileno") 872 (Value.ref 389)), (zE P (zS "detach") 879 (Value.ref 396)), (zE P (zS "getvalue") 886 (Value.ref 403)), (zE P (zS "getbuffer") 893 (Value.ref 410)), (zE P (zS "tell") 900 (Value.ref 417)), (zE P (zS "seek") 910 (Value.ref 425)), (zE P (zS "truncate") 918 (Value.ref 433)), (zE P (zS "read") 930 (Value.ref 441)), (zE P (zS "read1") 940 (Value.ref 449)), (zE P (zS "readinto") 950 (Value.ref 456)), (zE P (zS "readinto1") 958 (Value.ref 463)), (zE P (zS "readline") 968 (Value.ref 471)), (zE P (zS "readlines") 976 (Value.ref 479)), (zE P (zS "__iter__") 983 (Value.ref 486)), (zE P (zS "__next__") 991 (Value.ref 493)), (zE P (zS "write") 1001 (Value.ref 500)), (zE P (zS "writelines") 1009 (Value.ref 507)), (zE P (zS "__repr__") 1016 (Value.ref 514)), (zE P (zS "__static_attributes__") 1019 (Value.ref 515))] 34) #[])
noncomputable def zo294_8 : ZO := fun P => (Obj.mk Value.none none (Data.fields #[(Value.int (204 : Int) 0), (Value.int (4 : Int) 0), (Value.ref 303), (Value.int (210 : Int) 0), (Value.int (4 : Int) 0), (Value.ref 310), (Value.int (214 : Int) 0), (Value.int (4 : Int) 0), (Value.ref 317), (Value.int (228 : Int) 0), (Value.int (4 : Int) 0), (Value.ref 324), (Value.int (231 : Int) 0), (Value.int (4 : Int) 0), (Value.ref 332), (Value.int (234 : Int) 0), (Value.int (4 : Int) 0), (Value.ref 339), (Value.int (238 : Int) 0), (Value.int (4 : Int) 0), (Value.ref 346), (Value.int (241 : Int) 0), (Value.int (4 : Int) 0), (Value.ref 353), (Value.int (245 : Int) 0), (Value.int (4 : Int) 0), (Value.ref 360), (Value.int (249 : Int) 0), (Value.int (4 : Int) 0), (Value.ref 367), (Value.int (253 : Int) 0), (Value.int (4 : Int) 0), (Value.ref 374), (Value.int (257 : Int) 0), (Value.int (4 : Int) 0), (Value.ref 381), (Value.int (260 : Int) 0), (Value.int (4 : Int) 0), (Value.ref 388), (Value.int (263 : Int) 0), (Value.int (4 : Int) 0), (Value.ref 395), (Value.int (266 : Int) 0), (Value.int (4 : Int) 0), (Value.ref 402), (Value.int (270 : Int) 0), (Value.int (4 : Int) 0), (Value.ref 409), (Value.int (273 : Int) 0), (Value.int (4 : Int) 0), (Value.ref 416), (Value.int (277 : Int) 0), (Value.int (4 : Int) 0), (Value.ref 424), (Value.int (294 : Int) 0), (Value.int (4 : Int) 0), (Value.ref 432), (Value.int (297 : Int) 0), (Value.int (4 : Int) 0), (Value.ref 440), (Value.int (311 : Int) 0), (Value.int (4 : Int) 0), (Value.ref 448), (Value.int (314 : Int) 0), (Value.int (4 : Int) 0), (Value.ref 455), (Value.int (328 : Int) 0), (Value.int (4 : Int) 0), (Value.ref 462), (Value.int (331 : Int) 0), (Value.int (4 : Int) 0), (Value.ref 470), (Value.int (338 : Int) 0), (Value.int (4 : Int) 0), (Value.ref 478), (Value.int (341 : Int) 0), (Value.int (4 : Int) 0), (Value.ref 485), (Value.int (344 : Int) 0), (Value.int (4 : Int) 0), (Value.ref 492), (Value.int (351 : Int) 0), (Value.int (4 : Int) 0), (Value.ref 499), (Value.int (367 : Int) 0), (Value.int (4 : Int) 0), (Value.ref 506), (Value.int (370 : Int) 0), (Value.int (4 : Int) 0), (Value.ref 513)]) #[])
noncomputable def zo295_8 : ZO := fun P => (Obj.mk (Value.type "code") none (Data.fields #[(zV "BytesIO" 763), (zV "BytesIO" 764), (zV "/claim/cut.py" 765), (Value.int (201 : Int) 0), (Value.int (0 : Int) 0), (Value.int (0 : Int) 0), (Value.int (0 : Int) 0), (Value.int (0 : Int) 0), (Value.ref 293), (Value.bool Bool.false), (Value.int (388 : Int) 0), (Value.ref 294), Value.none, Value.none, Value.none, Value.none, (Value.int (766 : Int) 0), (Value.int (201 : Int) 0), (zV "/claim/cut.py" 767)]) #[])
noncomputable def zo296_8 : ZO := fun P => (Obj.mk (Value.type "frame") none Data.plain #[(some (Value.ref 295)), (some (Value.ref 3)), (some (Value.ref 292)), none, (some (zV "io" 653)), none, (some (Value.ref 0))])
noncomputable def zo300_8 : ZO := fun P => (Obj.mk (Value.type "tuple") none (Data.seq #[(zV "self" 778), (zV "initial_bytes" 779)] 0) #[])
noncomputable def zo302_8 : ZO := fun P => (Obj.mk Value.none none (Data.func (FuncData.mk (zS "__init__") (zS "BytesIO.__init__") (zpa (zF (zB zT 23) 1)) (FuncBody.stmts (zbo (zF (zB zT 23) 1))) (zsc (zF (zB zT 23) 1)) 0 [] Value.none Value.none Value.none Value.none none Value.none Value.none 0)) #[])
noncomputable def zo303_8 : ZO := fun P => (Obj.mk (Value.type "code") none (Data.fields #[(zV "__init__" 775), (zV "BytesIO.__init__" 776), (zV "/claim/cut.py" 777), (Value.int (204 : Int) 0), (Value.int (2 : Int) 0), (Value.int (0 : Int) 0), (Value.int (0 : Int) 0), (Value.int (3 : Int) 0), (Value.ref 298), (Value.bool Bool.true), (Value.int (388 : Int) 0), (Value.ref 299), Value.none, (Value.ref 300), (Value.ref 301), (Value.ref 302), (Value.int (780 : Int) 0), (Value.int (204 : Int) 0), (zV "/claim/cut.py" 781)]) #[])
noncomputable def zo304_8 : ZO := fun P => (Obj.mk (Value.type "function") none (Data.func (FuncData.mk (zS "__init__") (zS "BytesIO.__init__") (zpa (zF (zB zT 23) 1)) (FuncBody.stmts (zbo (zF (zB zT 23) 1))) (zsc (zF (zB zT 23) 1)) 3 [] (Value.ref 297) Value.none Value.none (zV "io" 653) none (Value.ref 303) Value.none 0)) #[])
noncomputable def zo307_8 : ZO := fun P => (Obj.mk (Value.type "tuple") none (Data.seq #[(zV "self" 786)] 0) #[])
noncomputable def zo309_8 : ZO := fun P => (Obj.mk Value.none none (Data.func (FuncData.mk (zS "__check") (zS "BytesIO.__check") (zpa (zF (zB zT 23) 2)) (FuncBody.stmts (zbo (zF (zB zT 23) 2))) (zsc (zF (zB zT 24) 4)) 0 [] Value.none Value.none Value.none Value.none none Value.none Value.none 0)) #[])
noncomputable def zo310_8 : ZO := fun P => (Obj.mk (Value.type "code") none (Data.fields #[(zV "__check" 783), (zV "BytesIO.__check" 784), (zV "/claim/cut.py" 785), (Value.int (210 : Int) 0), (Value.int (1 : Int) 0), (Value.int (0 : Int) 0), (Value.int (0 : Int) 0), (Value.int (3 : Int) 0), (Value.ref 305), (Value.bool Bool.true), (Value.int (388 : Int) 0), (Value.ref 306), Value.none, (Value.ref 307), (Value.ref 308), (Value.ref 309), (Value.int (787 : Int) 0), (Value.int (210 : Int) 0), (zV "/claim/cut.py" 788)]) #[])
noncomputable def zo311_8 : ZO := fun P => (Obj.mk (Value.type "function") none (Data.func (FuncData.mk (zS "__check") (zS "BytesIO.__check") (zpa (zF (zB zT 23) 2)) (FuncBody.stmts (zbo (zF (zB zT 23) 2))) (zsc (zF (zB zT 24) 4)) 3 [] Value.none Value.none Value.none (zV "io" 653) none (Value.ref 310) Value.none 0)) #[])
noncomputable def zo314_8 : ZO := fun P => (Obj.mk (Value.type "tuple") none (Data.seq #[(zV "self" 793), (zV "limit" 794), (zV "start" 795), (zV "stop" 796), (zV "i" 797)] 0) #[])
noncomputable def zo316_8 : ZO := fun P => (Obj.mk Value.none none (Data.func (FuncData.mk (zS "__line") (zS "BytesIO.__line") (zpa (zF (zB zT 23) 3)) (FuncBody.stmts (zbo (zF (zB zT 23) 3))) (zsc (zF (zB zT 23) 3)) 0 [] Value.none Value.none Value.none Value.none none Value.none Value.none 0)) #[])
noncomputable def zo317_8 : ZO := fun P => (Obj.mk (Value.type "code") none (Data.fields #[(zV "__line" 790), (zV "BytesIO.__line" 791), (zV "/claim/cut.py" 792), (Value.int (214 : Int) 0), (Value.int (2 : Int) 0), (Value.int (0 : Int) 0), (Value.int (0 : Int) 0), (Value.int (3 : Int) 0), (Value.ref 312), (Value.bool Bool.true), (Value.int (388 : Int) 0), (Value.ref 313), Value.none, (Value.ref 314), (Value.ref 315), (Value.ref 316), (Value.int (798 : Int) 0), (Value.int (214 : Int) 0), (zV "/claim/cut.py" 799)]) #[])
noncomputable def zo318_8 : ZO := fun P => (Obj.mk (Value.type "function") none (Data.func (FuncData.mk (zS "__line") (zS "BytesIO.__line") (zpa (zF (zB zT 23) 3)) (FuncBody.stmts (zbo (zF (zB zT 23) 3))) (zsc (zF (zB zT 23) 3)) 3 [] Value.none Value.none Value.none (zV "io" 653) none (Value.ref 317) Value.none 0)) #[])
noncomputable def zo321_8 : ZO := fun P => (Obj.mk (Value.type "tuple") none (Data.seq #[(zV "self" 804)] 0) #[])
noncomputable def zo323_8 : ZO := fun P => (Obj.mk Value.none none (Data.func (FuncData.mk (zS "closed") (zS "BytesIO.closed") (zpa (zF (zB zT 23) 4)) (FuncBody.stmts (zbo (zF (zB zT 23) 4))) (zsc (zF (zB zT 24) 28)) 0 [] Value.none Value.none Value.none Value.none none Value.none Value.none 0)) #[])
noncomputable def zo324_8 : ZO := fun P => (Obj.mk (Value.type "code") none (Data.fields #[(zV "closed" 801), (zV "BytesIO.closed" 802), (zV "/claim/cut.py" 803), (Value.int (227 : Int) 0), (Value.int (1 : Int) 0), (Value.int (0 : Int) 0), (Value.int (0 : Int) 0), (Value.int (3 : Int) 0), (Value.ref 319), (Value.bool Bool.true), (Value.int (388 : Int) 0), (Value.ref 320), Value.none, (Value.ref 321), (Value.ref 322), (Value.ref 323), (Value.int (805 : Int) 0), (Value.int (227 : Int) 0), (zV "/claim/cut.py" 806)]) #[])
noncomputable def zo325_8 : ZO := fun P => (Obj.mk (Value.type "function") none (Data.func (FuncData.mk (zS "closed") (zS "BytesIO.closed") (zpa (zF (zB zT 23) 4)) (FuncBody.stmts (zbo (zF (zB zT 23) 4))) (zsc (zF (zB zT 24) 28)) 3 [] Value.none Value.none Value.none (zV "io" 653) none (Value.ref 324) Value.none 0)) #[])
noncomputable def zo326_8 : ZO := fun P => (Obj.mk (Value.type "property") none (Data.fields #[(Value.ref 325), Value.none, Value.none, Value.none, (zV "closed" 808), (Value.bool Bool.false)]) #[])
noncomputable def zo329_8 : ZO := fun P => (Obj.mk (Value.type "tuple") none (Data.seq #[(zV "self" 812)] 0) #[])
noncomputable def zo331_8 : ZO := fun P => (Obj.mk Value.none none (Data.func (FuncData.mk (zS "close") (zS "BytesIO.close") (zpa (zF (zB zT 23) 5)) (FuncBody.stmts (zbo (zF (zB zT 23) 5))) (zsc (zF (zB zT 24) 28)) 0 [] Value.none Value.none Value.none Value.none none Value.none Value.none 0)) #[])
noncomputable def zo332_8 : ZO := fun P => (Obj.mk (Value.type "code") none (Data.fields #[(zV "close" 809), (zV "BytesIO.close" 810), (zV "/claim/cut.py" 811), (Value.int (231 : Int) 0), (Value.int (1 : Int) 0), (Value.int (0 : Int) 0), (Value.int (0 : Int) 0), (Value.int (3 : Int) 0), (Value.ref 327), (Value.bool Bool.true), (Value.int (388 : Int) 0), (Value.ref 328), Value.none, (Value.ref 329), (Value.ref 330), (Value.ref 331), (Value.int (813 : Int) 0), (Value.int (231 : Int) 0), (zV "/claim/cut.py" 814)]) #[])
noncomputable def zo333_8 : ZO := fun P => (Obj.mk (Value.type "function") none (Data.func (FuncData.mk (zS "close") (zS "BytesIO.close") (zpa (zF (zB zT 23) 5)) (FuncBody.stmts (zbo (zF (zB zT 23) 5))) (zsc (zF (zB zT 24) 28)) 3 [] Value.none Value.none Value.none (zV "io" 653) none (Value.ref 332) Value.none 0)) #[])
noncomputable def zo336_8 : ZO := fun P => (Obj.mk (Value.type "tuple") none (Data.seq #[(zV "self" 819)] 0) #[])
noncomputable def zo338_8 : ZO := fun P => (Obj.mk Value.none none (Data.func (FuncData.mk (zS "__enter__") (zS "BytesIO.__enter__") (zpa (zF (zB zT 23) 6)) (FuncBody.stmts (zbo (zF (zB zT 23) 6))) (zsc (zF (zB zT 24) 28)) 0 [] Value.none Value.none Value.none Value.none none Value.none Value.none 0)) #[])
noncomputable def zo339_8 : ZO := fun P => (Obj.mk (Value.type "code") none (Data.fields #[(zV "__enter__" 816), (zV "BytesIO.__enter__" 817), (zV "/claim/cut.py" 818), (Value.int (234 : Int) 0), (Value.int (1 : Int) 0), (Value.int (0 : Int) 0), (Value.int (0 : Int) 0), (Value.int (3 : Int) 0), (Value.ref 334), (Value.bool Bool.true), (Value.int (388 : Int) 0), (Value.ref 335), Value.none, (Value.ref 336), (Value.ref 337), (Value.ref 338), (Value.int (820 : Int) 0), (Value.int (234 : Int) 0), (zV "/claim/cut.py" 821)]) #[])
noncomputable def zo340_8 : ZO := fun P => (Obj.mk (Value.type "function") none (Data.func (FuncData.mk (zS "__enter__") (zS "BytesIO.__enter__") (zpa (zF (zB zT 23) 6)) (FuncBody.stmts (zbo (zF (zB zT 23) 6))) (zsc (zF (zB zT 24) 28)) 3 [] Value.none Value.none Value.none (zV "io" 653) none (Value.ref 339) Value.none 0)) #[])
noncomputable def zo343_8 : ZO := fun P => (Obj.mk (Value.type "tuple") none (Data.seq #[(zV "self" 826), (zV "args" 827)] 0) #[])
noncomputable def zo345_8 : ZO := fun P => (Obj.mk Value.none none (Data.func (FuncData.mk (zS "__exit__") (zS "BytesIO.__exit__") (zpa (zF (zB zT 23) 7)) (FuncBody.stmts (zbo (zF (zB zT 23) 7))) (zsc (zF (zB zT 24) 13)) 0 [] Value.none Value.none Value.none Value.none none Value.none Value.none 0)) #[])
noncomputable def zo346_8 : ZO := fun P => (Obj.mk (Value.type "code") none (Data.fields #[(zV "__exit__" 823), (zV "BytesIO.__exit__" 824), (zV "/claim/cut.py" 825), (Value.int (238 : Int) 0), (Value.int (1 : Int) 0), (Value.int (0 : Int) 0), (Value.int (0 : Int) 0), (Value.int (7 : Int) 0), (Value.ref 341), (Value.bool Bool.true), (Value.int (388 : Int) 0), (Value.ref 342), Value.none, (Value.ref 343), (Value.ref 344), (Value.ref 345), (Value.int (828 : Int) 0), (Value.int (238 : Int) 0), (zV "/claim/cut.py" 829)]) #[])
noncomputable def zo347_8 : ZO := fun P => (Obj.mk (Value.type "function") none (Data.func (FuncData.mk (zS "__exit__") (zS "BytesIO.__exit__") (zpa (zF (zB zT 23) 7)) (FuncBody.stmts (zbo (zF (zB zT 23) 7))) (zsc (zF (zB zT 24) 13)) 3 [] Value.none Value.none Value.none (zV "io" 653) none (Value.ref 346) Value.none 0)) #[])
noncomputable def zo350_8 : ZO := fun P => (Obj.mk (Value.type "tuple") none (Data.seq #[(zV "self" 834)] 0) #[])
noncomputable def zo352_8 : ZO := fun P => (Obj.mk Value.none none (Data.func (FuncData.mk (zS "readable") (zS "BytesIO.readable") (zpa (zF (zB zT 23) 8)) (FuncBody.stmts (zbo (zF (zB zT 23) 8))) (zsc (zF (zB zT 24) 28)) 0 [] Value.none Value.none Value.none Value.none none Value.none Value.none 0)) #[])
noncomputable def zo353_8 : ZO := fun P => (Obj.mk (Value.type "code") none (Data.fields #[(zV "readable" 831), (zV "BytesIO.readable" 832), (zV "/claim/cut.py" 833), (Value.int (241 : Int) 0), (Value.int (1 : Int) 0), (Value.int (0 : Int) 0), (Value.int (0 : Int) 0), (Value.int (3 : Int) 0), (Value.ref 348), (Value.bool Bool.true), (Value.int (388 : Int) 0), (Value.ref 349), Value.none, (Value.ref 350), (Value.ref 351), (Value.ref 352), (Value.int (835 : Int) 0), (Value.int (241 : Int) 0), (zV "/claim/cut.py" 836)]) #[])
noncomputable def zo354_8 : ZO := fun P => (Obj.mk (Value.type "function") none (Data.func (FuncData.mk (zS "readable") (zS "BytesIO.readable") (zpa (zF (zB zT 23) 8)) (FuncBody.stmts (zbo (zF (zB zT 23) 8))) (zsc (zF (zB zT 24) 28)) 3 [] Value.none Value.none Value.none (zV "io" 653) none (Value.ref 353) Value.none 0)) #[])
noncomputable def zo357_8 : ZO := fun P => (Obj.mk (Value.type "tuple") none (Data.seq #[(zV "self" 841)] 0) #[])
noncomputable def zo359_8 : ZO := fun P => (Obj.mk Value.none none (Data.func (FuncData.mk (zS "writable") (zS "BytesIO.writable") (zpa (zF (zB zT 23) 9)) (FuncBody.stmts (zbo (zF (zB zT 23) 9))) (zsc (zF (zB zT 24) 28)) 0 [] Value.none Value.none Value.none Value.none none Value.none Value.none 0)) #[])
noncomputable def zo360_8 : ZO := fun P => (Obj.mk (Value.type "code") none (Data.fields #[(zV "writable" 838), (zV "BytesIO.writable" 839), (zV "/claim/cut.py" 840), (Value.int (245 : Int) 0), (Value.int (1 : Int) 0), (Value.int (0 : Int) 0), (Value.int (0 : Int) 0), (Value.int (3 : Int) 0), (Value.ref 355), (Value.bool Bool.true), (Value.int (388 : Int) 0), (Value.ref 356), Value.none, (Value.ref 357), (Value.ref 358), (Value.ref 359), (Value.int (842 : Int) 0), (Value.int (245 : Int) 0), (zV "/claim/cut.py" 843)]) #[])
noncomputable def zo361_8 : ZO := fun P => (Obj.mk (Value.type "function") none (Data.func (FuncData.mk (zS "writable") (zS "BytesIO.writable") (zpa (zF (zB zT 23) 9)) (FuncBody.stmts (zbo (zF (zB zT 23) 9))) (zsc (zF (zB zT 24) 28)) 3 [] Value.none Value.none Value.none (zV "io" 653) none (Value.ref 360) Value.none 0)) #[])
noncomputable def zo364_8 : ZO := fun P => (Obj.mk (Value.type "tuple") none (Data.seq #[(zV "self" 848)] 0) #[])
noncomputable def zo366_8 : ZO := fun P => (Obj.mk Value.none none (Data.func (FuncData.mk (zS "seekable") (zS "BytesIO.seekable") (zpa (zF (zB zT 23) 10)) (FuncBody.stmts (zbo (zF (zB zT 23) 10))) (zsc (zF (zB zT 24) 28)) 0 [] Value.none Value.none Value.none Value.none none Value.none Value.none 0)) #[])
noncomputable def zo367_8 : ZO := fun P => (Obj.mk (Value.type "code") none (Data.fields #[(zV "seekable" 845), (zV "BytesIO.seekable" 846), (zV "/claim/cut.py" 847), (Value.int (249 : Int) 0), (Value.int (1 : Int) 0), (Value.int (0 : Int) 0), (Value.int (0 : Int) 0), (Value.int (3 : Int) 0), (Value.ref 362), (Value.bool Bool.true), (Value.int (388 : Int) 0), (Value.ref 363), Value.none, (Value.ref 364), (Value.ref 365), (Value.ref 366), (Value.int (849 : Int) 0), (Value.int (249 : Int) 0), (zV "/claim/cut.py" 850)]) #[])
noncomputable def zo368_8 : ZO := fun P => (Obj.mk (Value.type "function") none (Data.func (FuncData.mk (zS "seekable") (zS "BytesIO.seekable") (zpa (zF (zB zT 23) 10)) (FuncBody.stmts (zbo (zF (zB zT 23) 10))) (zsc (zF (zB zT 24) 28)) 3 [] Value.none Value.none Value.none (zV "io" 653) none (Value.ref 367) Value.none 0)) #[])
noncomputable def zo371_8 : ZO := fun P => (Obj.mk (Value.type "tuple") none (Data.seq #[(zV "self" 855)] 0) #[])
noncomputable def zo373_8 : ZO := fun P => (Obj.mk Value.none none (Data.func (FuncData.mk (zS "isatty") (zS "BytesIO.isatty") (zpa (zF (zB zT 23) 11)) (FuncBody.stmts (zbo (zF (zB zT 23) 11))) (zsc (zF (zB zT 24) 28)) 0 [] Value.none Value.none Value.none Value.none none Value.none Value.none 0)) #[])
noncomputable def zo374_8 : ZO := fun P => (Obj.mk (Value.type "code") none (Data.fields #[(zV "isatty" 852), (zV "BytesIO.isatty" 853), (zV "/claim/cut.py" 854), (Value.int (253 : Int) 0), (Value.int (1 : Int) 0), (Value.int (0 : Int) 0), (Value.int (0 : Int) 0), (Value.int (3 : Int) 0), (Value.ref 369), (Value.bool Bool.true), (Value.int (388 : Int) 0), (Value.ref 370), Value.none, (Value.ref 371), (Value.ref 372), (Value.ref 373), (Value.int (856 : Int) 0), (Value.int (253 : Int) 0), (zV "/claim/cut.py" 857)]) #[])
noncomputable def zo375_8 : ZO := fun P => (Obj.mk (Value.type "function") none (Data.func (FuncData.mk (zS "isatty") (zS "BytesIO.isatty") (zpa (zF (zB zT 23) 11)) (FuncBody.stmts (zbo (zF (zB zT 23) 11))) (zsc (zF (zB zT 24) 28)) 3 [] Value.none Value.none Value.none (zV "io" 653) none (Value.ref 374) Value.none 0)) #[])
noncomputable def zo378_8 : ZO := fun P => (Obj.mk (Value.type "tuple") none (Data.seq #[(zV "self" 862)] 0) #[])
noncomputable def zo380_8 : ZO := fun P => (Obj.mk Value.none none (Data.func (FuncData.mk (zS "flush") (zS "BytesIO.flush") (zpa (zF (zB zT 23) 12)) (FuncBody.stmts (zbo (zF (zB zT 23) 12))) (zsc (zF (zB zT 24) 28)) 0 [] Value.none Value.none Value.none Value.none none Value.none Value.none 0)) #[])
noncomputable def zo381_8 : ZO := fun P => (Obj.mk (Value.type "code") none (Data.fields #[(zV "flush" 859), (zV "BytesIO.flush" 860), (zV "/claim/cut.py" 861), (Value.int (257 : Int) 0), (Value.int (1 : Int) 0), (Value.int (0 : Int) 0), (Value.int (0 : Int) 0), (Value.int (3 : Int) 0), (Value.ref 376), (Value.bool Bool.true), (Value.int (388 : Int) 0), (Value.ref 377), Value.none, (Value.ref 378), (Value.ref 379), (Value.ref 380), (Value.int (863 : Int) 0), (Value.int (257 : Int) 0), (zV "/claim/cut.py" 864)]) #[])
noncomputable def zo382_8 : ZO := fun P => (Obj.mk (Value.type "function") none (Data.func (FuncData.mk (zS "flush") (zS "BytesIO.flush") (zpa (zF (zB zT 23) 12)) (FuncBody.stmts (zbo (zF (zB zT 23) 12))) (zsc (zF (zB zT 24) 28)) 3 [] Value.none Value.none Value.none (zV "io" 653) none (Value.ref 381) Value.none 0)) #[])
noncomputable def zo385_8 : ZO := fun P => (Obj.mk (Value.type "tuple") none (Data.seq #[(zV "self" 869)] 0) #[])
noncomputable def zo387_8 : ZO := fun P => (Obj.mk Value.none none (Data.func (FuncData.mk (zS "fileno") (zS "BytesIO.fileno") (zpa (zF (zB zT 23) 13)) (FuncBody.stmts (zbo (zF (zB zT 23) 13))) (zsc (zF (zB zT 24) 19)) 0 [] Value.none Value.none Value.none Value.none none Value.none Value.none 0)) #[])
noncomputable def zo388_8 : ZO := fun P => (Obj.mk (Value.type "code") none (Data.fields #[(zV "fileno" 866), (zV "BytesIO.fileno" 867), (zV "/claim/cut.py" 868), (Value.int (260 : Int) 0), (Value.int (1 : Int) 0), (Value.int (0 : Int) 0), (Value.int (0 : Int) 0), (Value.int (3 : Int) 0), (Value.ref 383), (Value.bool Bool.true), (Value.int (388 : Int) 0), (Value.ref 384), Value.none, (Value.ref 385), (Value.ref 386), (Value.ref 387), (Value.int (870 : Int) 0), (Value.int (260 : Int) 0), (zV "/claim/cut.py" 871)]) #[])
noncomputable def zo389_8 : ZO := fun P => (Obj.mk (Value.type "function") none (Data.func (FuncData.mk (zS "fileno") (zS "BytesIO.fileno") (zpa (zF (zB zT 23) 13)) (FuncBody.stmts (zbo (zF (zB zT 23) 13))) (zsc (zF (zB zT 24) 19)) 3 [] Value.none Value.none Value.none (zV "io" 653) none (Value.ref 388) Value.none 0)) #[])
noncomputable def zo392_8 : ZO := fun P => (Obj.mk (Value.type "tuple") none (Data.seq #[(zV "self" 876)] 0) #[])
noncomputable def zo394_8 : ZO := fun P => (Obj.mk Value.none none (Data.func (FuncData.mk (zS "detach") (zS "BytesIO.detach") (zpa (zF (zB zT 23) 14)) (FuncBody.stmts (zbo (zF (zB zT 23) 14))) (zsc (zF (zB zT 24) 32)) 0 [] Value.none Value.none Value.none Value.none none Value.none Value.none 0)) #[])
noncomputable def zo395_8 : ZO := fun P => (Obj.mk (Value.type "code") none (Data.fields #[(zV "detach" 873), (zV "BytesIO.detach" 874), (zV "/claim/cut.py" 875), (Value.int (263 : Int) 0), (Value.int (1 : Int) 0), (Value.int (0 : Int) 0), (Value.int (0 : Int) 0), (Value.int (3 : Int) 0), (Value.ref 390), (Value.bool Bool.true), (Value.int (388 : Int) 0), (Value.ref 391), Value.none, (Value.ref 392), (Value.ref 393), (Value.ref 394), (Value.int (877 : Int) 0), (Value.int (263 : Int) 0), (zV "/claim/cut.py" 878)]) #[])
noncomputable def zo396_8 : ZO := fun P => (Obj.mk (Value.type "function") none (Data.func (FuncData.mk (zS "detach") (zS "BytesIO.detach") (zpa (zF (zB zT 23) 14)) (FuncBody.stmts (zbo (zF (zB zT 23) 14))) (zsc (zF (zB zT 24) 32)) 3 [] Value.none Value.none Value.none (zV "io" 653) none (Value.ref 395) Value.none 0)) #[])
noncomputable def zo399_8 : ZO := fun P => (Obj.mk (Value.type "tuple") none (Data.seq #[(zV "self" 883)] 0) #[])
noncomputable def zo401_8 : ZO := fun P => (Obj.mk Value.none none (Data.func (FuncData.mk (zS "getvalue") (zS "BytesIO.getvalue") (zpa (zF (zB zT 23) 15)) (FuncBody.stmts (zbo (zF (zB zT 23) 15))) (zsc (zF (zB zT 23) 15)) 0 [] Value.none Value.none Value.none Value.none none Value.none Value.none 0)) #[])
noncomputable def zo402_8 : ZO := fun P => (Obj.mk (Value.type "code") none (Data.fields #[(zV "getvalue" 880), (zV "BytesIO.getvalue" 881), (zV "/claim/cut.py" 882), (Value.int (266 : Int) 0), (Value.int (1 : Int) 0), (Value.int (0 : Int) 0), (Value.int (0 : Int) 0), (Value.int (3 : Int) 0), (Value.ref 397), (Value.bool Bool.true), (Value.int (388 : Int) 0), (Value.ref 398), Value.none, (Value.ref 399), (Value.ref 400), (Value.ref 401), (Value.int (884 : Int) 0), (Value.int (266 : Int) 0), (zV "/claim/cut.py" 885)]) #[])
noncomputable def zo403_8 : ZO := fun P => (Obj.mk (Value.type "function") none (Data.func (FuncData.mk (zS "getvalue") (zS "BytesIO.getvalue") (zpa (zF (zB zT 23) 15)) (FuncBody.stmts (zbo (zF (zB zT 23) 15))) (zsc (zF (zB zT 23) 15)) 3 [] Value.none Value.none Value.none (zV "io" 653) none (Value.ref 402) Value.none 0)) #[])
noncomputable def zo406_8 : ZO := fun P => (Obj.mk (Value.type "tuple") none (Data.seq #[(zV "self" 890)] 0) #[])
noncomputable def zo408_8 : ZO := fun P => (Obj.mk Value.none none (Data.func (FuncData.mk (zS "getbuffer") (zS "BytesIO.getbuffer") (zpa (zF (zB zT 23) 16)) (FuncBody.stmts (zbo (zF (zB zT 23) 16))) (zsc (zF (zB zT 24) 32)) 0 [] Value.none Value.none Value.none Value.none none Value.none Value.none 0)) #[])
noncomputable def zo409_8 : ZO := fun P => (Obj.mk (Value.type "code") none (Data.fields #[(zV "getbuffer" 887), (zV "BytesIO.getbuffer" 888), (zV "/claim/cut.py" 889), (Value.int (270 : Int) 0), (Value.int (1 : Int) 0), (Value.int (0 : Int) 0), (Value.int (0 : Int) 0), (Value.int (3 : Int) 0), (Value.ref 404), (Value.bool Bool.true), (Value.int (388 : Int) 0), (Value.ref 405), Value.none, (Value.ref 406), (Value.ref 407), (Value.ref 408), (Value.int (891 : Int) 0), (Value.int (270 : Int) 0), (zV "/claim/cut.py" 892)]) #[])
noncomputable def zo410_8 : ZO := fun P => (Obj.mk (Value.type "function") none (Data.func (FuncData.mk (zS "getbuffer") (zS "BytesIO.getbuffer") (zpa (zF (zB zT 23) 16)) (FuncBody.stmts (zbo (zF (zB zT 23) 16))) (zsc (zF (zB zT 24) 32)) 3 [] Value.none Value.none Value.none (zV "io" 653) none (Value.ref 409) Value.none 0)) #[])
noncomputable def zo413_8 : ZO := fun P => (Obj.mk (Value.type "tuple") none (Data.seq #[(zV "self" 897)] 0) #[])
noncomputable def zo415_8 : ZO := fun P => (Obj.mk Value.none none (Data.func (FuncData.mk (zS "tell") (zS "BytesIO.tell") (zpa (zF (zB zT 23) 17)) (FuncBody.stmts (zbo (zF (zB zT 23) 17))) (zsc (zF (zB zT 24) 28)) 0 [] Value.none Value.none Value.none Value.none none Value.none Value.none 0)) #[])
noncomputable def zo416_8 : ZO := fun P => (Obj.mk (Value.type "code") none (Data.fields #[(zV "tell" 894), (zV "BytesIO.tell" 895), (zV "/claim/cut.py" 896), (Value.int (273 : Int) 0), (Value.int (1 : Int) 0), (Value.int (0 : Int) 0), (Value.int (0 : Int) 0), (Value.int (3 : Int) 0), (Value.ref 411), (Value.bool Bool.true), (Value.int (388 : Int) 0), (Value.ref 412), Value.none, (Value.ref 413), (Value.ref 414), (Value.ref 415), (Value.int (898 : Int) 0), (Value.int (273 : Int) 0), (zV "/claim/cut.py" 899)]) #[])
noncomputable def zo417_8 : ZO := fun P => (Obj.mk (Value.type "function") none (Data.func (FuncData.mk (zS "tell") (zS "BytesIO.tell") (zpa (zF (zB zT 23) 17)) (FuncBody.stmts (zbo (zF (zB zT 23) 17))) (zsc (zF (zB zT 24) 28)) 3 [] Value.none Value.none Value.none (zV "io" 653) none (Value.ref 416) Value.none 0)) #[])
noncomputable def zo418_8 : ZO := fun P => (Obj.mk (Value.type "tuple") none (Data.seq #[(Value.int (0 : Int) 901)] 0) #[])
noncomputable def zo421_8 : ZO := fun P => (Obj.mk (Value.type "tuple") none (Data.seq #[(zV "self" 905), (zV "pos" 906), (zV "whence" 907)] 0) #[])
noncomputable def zo423_8 : ZO := fun P => (Obj.mk Value.none none (Data.func (FuncData.mk (zS "seek") (zS "BytesIO.seek") (zpa (zF (zB zT 23) 18)) (FuncBody.stmts (zbo (zF (zB zT 23) 18))) (zsc (zF (zB zT 23) 18)) 0 [] Value.none Value.none Value.none Value.none none Value.none Value.none 0)) #[])
noncomputable def zo424_8 : ZO := fun P => (Obj.mk (Value.type "code") none (Data.fields #[(zV "seek" 902), (zV "BytesIO.seek" 903), (zV "/claim/cut.py" 904), (Value.int (277 : Int) 0), (Value.int (3 : Int) 0), (Value.int (3 : Int) 0), (Value.int (0 : Int) 0), (Value.int (3 : Int) 0), (Value.ref 419), (Value.bool Bool.true), (Value.int (388 : Int) 0), (Value.ref 420), Value.none, (Value.ref 421), (Value.ref 422), (Value.ref 423), (Value.int (908 : Int) 0), (Value.int (277 : Int) 0), (zV "/claim/cut.py" 909)]) #[])
noncomputable def zo425_8 : ZO := fun P => (Obj.mk (Value.type "function") none (Data.func (FuncData.mk (zS "seek") (zS "BytesIO.seek") (zpa (zF (zB zT 23) 18)) (FuncBody.stmts (zbo (zF (zB zT 23) 18))) (zsc (zF (zB zT 23) 18)) 3 [] (Value.ref 418) Value.none Value.none (zV "io" 653) none (Value.ref 424) Value.none 0)) #[])
noncomputable def zo429_8 : ZO := fun P => (Obj.mk (Value.type "tuple") none (Data.seq #[(zV "self" 914), (zV "size" 915)] 0) #[])
noncomputable def zo431_8 : ZO := fun P => (Obj.mk Value.none none (Data.func (FuncData.mk (zS "truncate") (zS "BytesIO.truncate") (zpa (zF (zB zT 23) 19)) (FuncBody.stmts (zbo (zF (zB zT 23) 19))) (zsc (zF (zB zT 23) 25)) 0 [] Value.none Value.none Value.none Value.none none Value.none Value.none 0)) #[])
noncomputable def zo432_8 : ZO := fun P => (Obj.mk (Value.type "code") none (Data.fields #[(zV "truncate" 911), (zV "BytesIO.truncate" 912), (zV "/claim/cut.py" 913), (Value.int (294 : Int) 0), (Value.int (2 : Int) 0), (Value.int (2 : Int) 0), (Value.int (0 : Int) 0), (Value.int (3 : Int) 0), (Value.ref 427), (Value.bool Bool.true), (Value.int (388 : Int) 0), (Value.ref 428), Value.none, (Value.ref 429), (Value.ref 430), (Value.ref 431), (Value.int (916 : Int) 0), (Value.int (294 : Int) 0), (zV "/claim/cut.py" 917)]) #[])
noncomputable def zo433_8 : ZO := fun P => (Obj.mk (Value.type "function") none (Data.func (FuncData.mk (zS "truncate") (zS "BytesIO.truncate") (zpa (zF (zB zT 23) 19)) (FuncBody.stmts (zbo (zF (zB zT 23) 19))) (zsc (zF (zB zT 23) 25)) 3 [] (Value.ref 426) Value.none Value.none (zV "io" 653) none (Value.ref 432) Value.none 0)) #[])
noncomputable def zo434_8 : ZO := fun P => (Obj.mk (Value.type "tuple") none (Data.seq #[(Value.int (-(1 : Int)) 920)] 0) #[])
noncomputable def zo437_8 : ZO := fun P => (Obj.mk (Value.type "tuple") none (Data.seq #[(zV "self" 924), (zV "size" 925), (zV "start" 926), (zV "stop" 927)] 0) #[])
noncomputable def zo439_8 : ZO := fun P => (Obj.mk Value.none none (Data.func (FuncData.mk (zS "read") (zS "BytesIO.read") (zpa (zF (zB zT 23) 20)) (FuncBody.stmts (zbo (zF (zB zT 23) 20))) (zsc (zF (zB zT 23) 20)) 0 [] Value.none Value.none Value.none Value.none none Value.none Value.none 0)) #[])
noncomputable def zo440_8 : ZO := fun P => (Obj.mk (Value.type "code") none (Data.fields #[(zV "read" 921), (zV "BytesIO.read" 922), (zV "/claim/cut.py" 923), (Value.int (297 : Int) 0), (Value.int (2 : Int) 0), (Value.int (2 : Int) 0), (Value.int (0 : Int) 0), (Value.int (3 : Int) 0), (Value.ref 435), (Value.bool Bool.true), (Value.int (388 : Int) 0), (Value.ref 436), Value.none, (Value.ref 437), (Value.ref 438), (Value.ref 439), (Value.int (928 : Int) 0), (Value.int (297 : Int) 0), (zV "/claim/cut.py" 929)]) #[])
noncomputable def zo441_8 : ZO := fun P => (Obj.mk (Value.type "function") none (Data.func (FuncData.mk (zS "read") (zS "BytesIO.read") (zpa (zF (zB zT 23) 20)) (FuncBody.stmts (zbo (zF (zB zT 23) 20))) (zsc (zF (zB zT 23) 20)) 3 [] (Value.ref 434) Value.none Value.none (zV "io" 653) none (Value.ref 440) Value.none 0)) #[])
noncomputable def zo442_8 : ZO := fun P => (Obj.mk (Value.type "tuple") none (Data.seq #[(Value.int (-(1 : Int)) 932)] 0) #[])
noncomputable def zo445_8 : ZO := fun P => (Obj.mk (Value.type "tuple") none (Data.seq #[(zV "self" 936), (zV "size" 937)] 0) #[])
noncomputable def zo447_8 : ZO := fun P => (Obj.mk Value.none none (Data.func (FuncData.mk (zS "read1") (zS "BytesIO.read1") (zpa (zF (zB zT 23) 21)) (FuncBody.stmts (zbo (zF (zB zT 23) 21))) (zsc (zF (zB zT 23) 25)) 0 [] Value.none Value.none Value.none Value.none none Value.none Value.none 0)) #[])
noncomputable def zo448_8 : ZO := fun P => (Obj.mk (Value.type "code") none (Data.fields #[(zV "read1" 933), (zV "BytesIO.read1" 934), (zV "/claim/cut.py" 935), (Value.int (311 : Int) 0), (Value.int (2 : Int) 0), (Value.int (2 : Int) 0), (Value.int (0 : Int) 0), (Value.int (3 : Int) 0), (Value.ref 443), (Value.bool Bool.true), (Value.int (388 : Int) 0), (Value.ref 444), Value.none, (Value.ref 445), (Value.ref 446), (Value.ref 447), (Value.int (938 : Int) 0), (Value.int (311 : Int) 0), (zV "/claim/cut.py" 939)]) #[])
noncomputable def zo449_8 : ZO := fun P => (Obj.mk (Value.type "function") none (Data.func (FuncData.mk (zS "read1") (zS "BytesIO.read1") (zpa (zF (zB zT 23) 21)) (FuncBody.stmts (zbo (zF (zB zT 23) 21))) (zsc (zF (zB zT 23) 25)) 3 [] (Value.ref 442) Value.none Value.none (zV "io" 653) none (Value.ref 448) Value.none 0)) #[])
noncomputable def zo452_8 : ZO := fun P => (Obj.mk (Value.type "tuple") none (Data.seq #[(zV "self" 944), (zV "buffer" 945), (zV "start" 946), (zV "n" 947)] 0) #[])
noncomputable def zo454_8 : ZO := fun P => (Obj.mk Value.none none (Data.func (FuncData.mk (zS "readinto") (zS "BytesIO.readinto") (zpa (zF (zB zT 23) 22)) (FuncBody.stmts (zbo (zF (zB zT 23) 22))) (zsc (zF (zB zT 23) 22)) 0 [] Value.none Value.none Value.none Value.none none Value.none Value.none 0)) #[])
noncomputable def zo455_8 : ZO := fun P => (Obj.mk (Value.type "code") none (Data.fields #[(zV "readinto" 941), (zV "BytesIO.readinto" 942), (zV "/claim/cut.py" 943), (Value.int (314 : Int) 0), (Value.int (2 : Int) 0), (Value.int (2 : Int) 0), (Value.int (0 : Int) 0), (Value.int (3 : Int) 0), (Value.ref 450), (Value.bool Bool.true), (Value.int (388 : Int) 0), (Value.ref 451), Value.none, (Value.ref 452), (Value.ref 453), (Value.ref 454), (Value.int (948 : Int) 0), (Value.int (314 : Int) 0), (zV "/claim/cut.py" 949)]) #[])
noncomputable def zo456_8 : ZO := fun P => (Obj.mk (Value.type "function") none (Data.func (FuncData.mk (zS "readinto") (zS "BytesIO.readinto") (zpa (zF (zB zT 23) 22)) (FuncBody.stmts (zbo (zF (zB zT 23) 22))) (zsc (zF (zB zT 23) 22)) 3 [] Value.none Value.none Value.none (zV "io" 653) none (Value.ref 455) Value.none 0)) #[])
noncomputable def zo459_8 : ZO := fun P => (Obj.mk (Value.type "tuple") none (Data.seq #[(zV "self" 954), (zV "buffer" 955)] 0) #[])
noncomputable def zo461_8 : ZO := fun P => (Obj.mk Value.none none (Data.func (FuncData.mk (zS "readinto1") (zS "BytesIO.readinto1") (zpa (zF (zB zT 23) 23)) (FuncBody.stmts (zbo (zF (zB zT 23) 23))) (zsc (zF (zB zT 23) 23)) 0 [] Value.none Value.none Value.none Value.none none Value.none Value.none 0)) #[])
noncomputable def zo462_8 : ZO := fun P => (Obj.mk (Value.type "code") none (Data.fields #[(zV "readinto1" 951), (zV "BytesIO.readinto1" 952), (zV "/claim/cut.py" 953), (Value.int (328 : Int) 0), (Value.int (2 : Int) 0), (Value.int (2 : Int) 0), (Value.int (0 : Int) 0), (Value.int (3 : Int) 0), (Value.ref 457), (Value.bool Bool.true), (Value.int (388 : Int) 0), (Value.ref 458), Value.none, (Value.ref 459), (Value.ref 460), (Value.ref 461), (Value.int (956 : Int) 0), (Value.int (328 : Int) 0), (zV "/claim/cut.py" 957)]) #[])
noncomputable def zo463_8 : ZO := fun P => (Obj.mk (Value.type "function") none (Data.func (FuncData.mk (zS "readinto1") (zS "BytesIO.readinto1") (zpa (zF (zB zT 23) 23)) (FuncBody.stmts (zbo (zF (zB zT 23) 23))) (zsc (zF (zB zT 23) 23)) 3 [] Value.none Value.none Value.none (zV "io" 653) none (Value.ref 462) Value.none 0)) #[])
noncomputable def zo464_8 : ZO := fun P => (Obj.mk (Value.type "tuple") none (Data.seq #[(Value.int (-(1 : Int)) 960)] 0) #[])
noncomputable def zo467_8 : ZO := fun P => (Obj.mk (Value.type "tuple") none (Data.seq #[(zV "self" 964), (zV "size" 965)] 0) #[])
noncomputable def zo469_8 : ZO := fun P => (Obj.mk Value.none none (Data.func (FuncData.mk (zS "readline") (zS "BytesIO.readline") (zpa (zF (zB zT 23) 24)) (FuncBody.stmts (zbo (zF (zB zT 23) 24))) (zsc (zF (zB zT 24) 26)) 0 [] Value.none Value.none Value.none Value.none none Value.none Value.none 0)) #[])
noncomputable def zo470_8 : ZO := fun P => (Obj.mk (Value.type "code") none (Data.fields #[(zV "readline" 961), (zV "BytesIO.readline" 962), (zV "/claim/cut.py" 963), (Value.int (331 : Int) 0), (Value.int (2 : Int) 0), (Value.int (2 : Int) 0), (Value.int (0 : Int) 0), (Value.int (3 : Int) 0), (Value.ref 465), (Value.bool Bool.true), (Value.int (388 : Int) 0), (Value.ref 466), Value.none, (Value.ref 467), (Value.ref 468), (Value.ref 469), (Value.int (966 : Int) 0), (Value.int (331 : Int) 0), (zV "/claim/cut.py" 967)]) #[])
noncomputable def zo471_8 : ZO := fun P => (Obj.mk (Value.type "function") none (Data.func (FuncData.mk (zS "readline") (zS "BytesIO.readline") (zpa (zF (zB zT 23) 24)) (FuncBody.stmts (zbo (zF (zB zT 23) 24))) (zsc (zF (zB zT 24) 26)) 3 [] (Value.ref 464) Value.none Value.none (zV "io" 653) none (Value.ref 470) Value.none 0)) #[])
noncomputable def zo475_8 : ZO := fun P => (Obj.mk (Value.type "tuple") none (Data.seq #[(zV "self" 972), (zV "size" 973)] 0) #[])
noncomputable def zo477_8 : ZO := fun P => (Obj.mk Value.none none (Data.func (FuncData.mk (zS "readlines") (zS "BytesIO.readlines") (zpa (zF (zB zT 23) 25)) (FuncBody.stmts (zbo (zF (zB zT 23) 25))) (zsc (zF (zB zT 23) 25)) 0 [] Value.none Value.none Value.none Value.none none Value.none Value.none 0)) #[])
noncomputable def zo478_8 : ZO := fun P => (Obj.mk (Value.type "code") none (Data.fields #[(zV "readlines" 969), (zV "BytesIO.readlines" 970), (zV "/claim/cut.py" 971), (Value.int (338 : Int) 0), (Value.int (2 : Int) 0), (Value.int (2 : Int) 0), (Value.int (0 : Int) 0), (Value.int (3 : Int) 0), (Value.ref 473), (Value.bool Bool.true), (Value.int (388 : Int) 0), (Value.ref 474), Value.none, (Value.ref 475), (Value.ref 476), (Value.ref 477), (Value.int (974 : Int) 0), (Value.int (338 : Int) 0), (zV "/claim/cut.py" 975)]) #[])
noncomputable def zo479_8 : ZO := fun P => (Obj.mk (Value.type "function") none (Data.func (FuncData.mk (zS "readlines") (zS "BytesIO.readlines") (zpa (zF (zB zT 23) 25)) (FuncBody.stmts (zbo (zF (zB zT 23) 25))) (zsc (zF (zB zT 23) 25)) 3 [] (Value.ref 472) Value.none Value.none (zV "io" 653) none (Value.ref 478) Value.none 0)) #[])
noncomputable def zo482_8 : ZO := fun P => (Obj.mk (Value.type "tuple") none (Data.seq #[(zV "self" 980)] 0) #[])
noncomputable def zo484_8 : ZO := fun P => (Obj.mk Value.none none (Data.func (FuncData.mk (zS "__iter__") (zS "BytesIO.__iter__") (zpa (zF (zB zT 23) 26)) (FuncBody.stmts (zbo (zF (zB zT 23) 26))) (zsc (zF (zB zT 24) 28)) 0 [] Value.none Value.none Value.none Value.none none Value.none Value.none 0)) #[])
noncomputable def zo485_8 : ZO := fun P => (Obj.mk (Value.type "code") none (Data.fields #[(zV "__iter__" 977), (zV "BytesIO.__iter__" 978), (zV "/claim/cut.py" 979), (Value.int (341 : Int) 0), (Value.int (1 : Int) 0), (Value.int (0 : Int) 0), (Value.int (0 : Int) 0), (Value.int (3 : Int) 0), (Value.ref 480), (Value.bool Bool.true), (Value.int (388 : Int) 0), (Value.ref 481), Value.none, (Value.ref 482), (Value.ref 483), (Value.ref 484), (Value.int (981 : Int) 0), (Value.int (341 : Int) 0), (zV "/claim/cut.py" 982)]) #[])
noncomputable def zo486_8 : ZO := fun P => (Obj.mk (Value.type "function") none (Data.func (FuncData.mk (zS "__iter__") (zS "BytesIO.__iter__") (zpa (zF (zB zT 23) 26)) (FuncBody.stmts (zbo (zF (zB zT 23) 26))) (zsc (zF (zB zT 24) 28)) 3 [] Value.none Value.none Value.none (zV "io" 653) none (Value.ref 485) Value.none 0)) #[])
noncomputable def zo489_8 : ZO := fun P => (Obj.mk (Value.type "tuple") none (Data.seq #[(zV "self" 987), (zV "line" 988)] 0) #[])
noncomputable def zo491_8 : ZO := fun P => (Obj.mk Value.none none (Data.func (FuncData.mk (zS "__next__") (zS "BytesIO.__next__") (zpa (zF (zB zT 23) 27)) (FuncBody.stmts (zbo (zF (zB zT 23) 27))) (zsc (zF (zB zT 24) 29)) 0 [] Value.none Value.none Value.none Value.none none Value.none Value.none 0)) #[])
noncomputable def zo492_8 : ZO := fun P => (Obj.mk (Value.type "code") none (Data.fields #[(zV "__next__" 984), (zV "BytesIO.__next__" 985), (zV "/claim/cut.py" 986), (Value.int (344 : Int) 0), (Value.int (1 : Int) 0), (Value.int (0 : Int) 0), (Value.int (0 : Int) 0), (Value.int (3 : Int) 0), (Value.ref 487), (Value.bool Bool.true), (Value.int (388 : Int) 0), (Value.ref 488), Value.none, (Value.ref 489), (Value.ref 490), (Value.ref 491), (Value.int (989 : Int) 0), (Value.int (344 : Int) 0), (zV "/claim/cut.py" 990)]) #[])
noncomputable def zo493_8 : ZO := fun P => (Obj.mk (Value.type "function") none (Data.func (FuncData.mk (zS "__next__") (zS "BytesIO.__next__") (zpa (zF (zB zT 23) 27)) (FuncBody.stmts (zbo (zF (zB zT 23) 27))) (zsc (zF (zB zT 24) 29)) 3 [] Value.none Value.none Value.none (zV "io" 653) none (Value.ref 492) Value.none 0)) #[])
noncomputable def zo496_8 : ZO := fun P => (Obj.mk (Value.type "tuple") none (Data.seq #[(zV "self" 995), (zV "b" 996), (zV "n" 997), (zV "start" 998)] 0) #[])
noncomputable def zo498_8 : ZO := fun P => (Obj.mk Value.none none (Data.func (FuncData.mk (zS "write") (zS "BytesIO.write") (zpa (zF (zB zT 23) 28)) (FuncBody.stmts (zbo (zF (zB zT 23) 28))) (zsc (zF (zB zT 23) 28)) 0 [] Value.none Value.none Value.none Value.none none Value.none Value.none 0)) #[])
noncomputable def zo499_8 : ZO := fun P => (Obj.mk (Value.type "code") none (Data.fields #[(zV "write" 992), (zV "BytesIO.write" 993), (zV "/claim/cut.py" 994), (Value.int (351 : Int) 0), (Value.int (2 : Int) 0), (Value.int (2 : Int) 0), (Value.int (0 : Int) 0), (Value.int (3 : Int) 0), (Value.ref 494), (Value.bool Bool.true), (Value.int (388 : Int) 0), (Value.ref 495), Value.none, (Value.ref 496), (Value.ref 497), (Value.ref 498), (Value.int (999 : Int) 0), (Value.int (351 : Int) 0), (zV "/claim/cut.py" 1000)]) #[])
noncomputable def zo500_8 : ZO := fun P => (Obj.mk (Value.type "function") none (Data.func (FuncData.mk (zS "write") (zS "BytesIO.write") (zpa (zF (zB zT 23) 28)) (FuncBody.stmts (zbo (zF (zB zT 23) 28))) (zsc (zF (zB zT 23) 28)) 3 [] Value.none Value.none Value.none (zV "io" 653) none (Value.ref 499) Value.none 0)) #[])
noncomputable def zo503_8 : ZO := fun P => (Obj.mk (Value.type "tuple") none (Data.seq #[(zV "self" 1005), (zV "lines" 1006)] 0) #[])
noncomputable def zo505_8 : ZO := fun P => (Obj.mk Value.none none (Data.func (FuncData.mk (zS "writelines") (zS "BytesIO.writelines") (zpa (zF (zB zT 23) 29)) (FuncBody.stmts (zbo (zF (zB zT 23) 29))) (zsc (zF (zB zT 24) 31)) 0 [] Value.none Value.none Value.none Value.none none Value.none Value.none 0)) #[])
noncomputable def zo506_8 : ZO := fun P => (Obj.mk (Value.type "code") none (Data.fields #[(zV "writelines" 1002), (zV "BytesIO.writelines" 1003), (zV "/claim/cut.py" 1004), (Value.int (367 : Int) 0), (Value.int (2 : Int) 0), (Value.int (2 : Int) 0), (Value.int (0 : Int) 0), (Value.int (3 : Int) 0), (Value.ref 501), (Value.bool Bool.true), (Value.int (388 : Int) 0), (Value.ref 502), Value.none, (Value.ref 503), (Value.ref 504), (Value.ref 505), (Value.int (1007 : Int) 0), (Value.int (367 : Int) 0), (zV "/claim/cut.py" 1008)]) #[])
noncomputable def zo507_8 : ZO := fun P => (Obj.mk (Value.type "function") none (Data.func (FuncData.mk (zS "writelines") (zS "BytesIO.writelines") (zpa (zF (zB zT 23) 29)) (FuncBody.stmts (zbo (zF (zB zT 23) 29))) (zsc (zF (zB zT 24) 31)) 3 [] Value.none Value.none Value.none (zV "io" 653) none (Value.ref 506) Value.none 0)) #[])
noncomputable def zo510_8 : ZO := fun P => (Obj.mk (Value.type "tuple") none (Data.seq #[(zV "self" 1013)] 0) #[])
noncomputable def zo512_8 : ZO := fun P => (Obj.mk Value.none none (Data.func (FuncData.mk (zS "__repr__") (zS "BytesIO.__repr__") (zpa (zF (zB zT 23) 30)) (FuncBody.stmts (zbo (zF (zB zT 23) 30))) (zsc (zF (zB zT 24) 32)) 0 [] Value.none Value.none Value.none Value.none none Value.none Value.none 0)) #[])
noncomputable def zo513_8 : ZO := fun P => (Obj.mk (Value.type "code") none (Data.fields #[(zV "__repr__" 1010), (zV "BytesIO.__repr__" 1011), (zV "/claim/cut.py" 1012), (Value.int (370 : Int) 0), (Value.int (1 : Int) 0), (Value.int (0 : Int) 0), (Value.int (0 : Int) 0), (Value.int (3 : Int) 0), (Value.ref 508), (Value.bool Bool.true), (Value.int (388 : Int) 0), (Value.ref 509), Value.none, (Value.ref 510), (Value.ref 511), (Value.ref 512), (Value.int (1014 : Int) 0), (Value.int (370 : Int) 0), (zV "/claim/cut.py" 1015)]) #[])
noncomputable def zo514_8 : ZO := fun P => (Obj.mk (Value.type "function") none (Data.func (FuncData.mk (zS "__repr__") (zS "BytesIO.__repr__") (zpa (zF (zB zT 23) 30)) (FuncBody.stmts (zbo (zF (zB zT 23) 30))) (zsc (zF (zB zT 24) 32)) 3 [] Value.none Value.none Value.none (zV "io" 653) none (Value.ref 513) Value.none 0)) #[])
noncomputable def zo515_8 : ZO := fun P => (Obj.mk (Value.type "tuple") none (Data.seq #[(zV "__buf" 1017), (zV "__pos" 1018)] 0) #[])
noncomputable def zo516_8 : ZO := fun P => (Obj.mk (Value.type "dict") none (Data.dict #[(zE P (zS "__module__") 768 (zV "_io" 773)), (zE P (zS "__firstlineno__") 772 (Value.int (201 : Int) 771)), (zE P (zS "__init__") 782 (Value.ref 304)), (zE P (zS "_BytesIO__check") 789 (Value.ref 311)), (zE P (zS "_BytesIO__line") 800 (Value.ref 318)), (zE P (zS "closed") 808 (Value.ref 326)), (zE P (zS "close") 815 (Value.ref 333)), (zE P (zS "__enter__") 822 (Value.ref 340)), (zE P (zS "__exit__") 830 (Value.ref 347)), (zE P (zS "readable") 837 (Value.ref 354)), (zE P (zS "writable") 844 (Value.ref 361)), (zE P (zS "seekable") 851 (Value.ref 368)), (zE P (zS "isatty") 858 (Value.ref 375)), (zE P (zS "flush") 865 (Value.ref 382)), (zE P (zS "fileno") 872 (Value.ref 389)), (zE P (zS "detach") 879 (Value.ref 396)), (zE P (zS "getvalue") 886 (Value.ref 403)), (zE P (zS "getbuffer") 893 (Value.ref 410)), (zE P (zS "tell") 900 (Value.ref 417)), (zE P (zS "seek") 910 (Value.ref 425)), (zE P (zS "truncate") 918 (Value.ref 433)), (zE P (zS "read") 930 (Value.ref 441)), (zE P (zS "read1") 940 (Value.ref 449)), (zE P (zS "readinto") 950 (Value.ref 456)), (zE P (zS "readinto1") 958 (Value.ref 463)), (zE P (zS "readline") 968 (Value.ref 471)), (zE P (zS "readlines") 976 (Value.ref 479)), (zE P (zS "__iter__") 983 (Value.ref 486)), (zE P (zS "__next__") 991 (Value.ref 493)), (zE P (zS "write") 1001 (Value.ref 500)), (zE P (zS "writelines") 1009 (Value.ref 507)), (zE P (zS "__repr__") 1016 (Value.ref 514)), (zE P (zS "__static_attributes__") 1019 (Value.ref 515)), (zE P (zS "__doc__") 1020 Value.none)] 2) #[])
noncomputable def zo517_8 : ZO := fun P => (Obj.mk (Value.type "type") none (Data.cls (ClassData.mk (zS "BytesIO") [(Value.ref 275)] [(Value.ref 517), (Value.ref 275), (Value.ref 260), (Value.type "object")] 516 (zS "BytesIO") Bool.true [] [] Bool.false none Bool.false)) #[(some (Value.ref 290)), none, (some (zV "BytesIO" 761)), (some (zV "BytesIO" 769)), (some Value.none), (some (Value.bool Bool.true))])
noncomputable def zo518_8 : ZO := fun P => (Obj.mk (Value.type "super") none (Data.fields #[(Value.ref 517), (Value.ref 517), (Value.ref 517)]) #[])
noncomputable def zo519_8 : ZO := fun P => (Obj.mk (Value.type "builtin_function_or_method") none (Data.fields #[(Value.builtin "object.__init_subclass__"), (Value.ref 517)]) #[])
noncomputable def zt4 : Params → BT := fun P => (.node (zo0_0 P) (.node (zo1_2 P) (.node (zo3_8 P) (.node (zo7_0 P) (.node (zo7_0 P) (.node (zo31_2 P) (.node (zo6_0 P) (.node (zo8_0 P) (.node (zo255_7 P) (.node (zo7_0 P) .nil .nil) .nil) (.node (zo7_0 P) .nil .nil)) (.node (zo7_0 P) (.node (zo7_0 P) .nil .nil) (.node (zo447_8 P) .nil .nil))) (.node (zo95_6 P) (.node (zo159_6 P) (.node (zo287_7 P) .nil .nil) (.node (zo415_8 P) .nil .nil)) (.node (zo223_7 P) (.node (zo7_0 P) .nil .nil) (.node (zo479_8 P) .nil .nil)))) (.node (zo47_2 P) (.node (zo79_6 P) (.node (zo143_6 P) (.node (zo271_7 P) .nil .nil) (.node (zo399_8 P) .nil .nil)) (.node (zo207_6 P) (.node (zo8_0 P) .nil .nil) (.node (zo463_8 P) .nil .nil))) (.node (zo7_0 P) (.node (zo175_6 P) (.node (zo303_8 P) .nil .nil) (.node (zo431_8 P) .nil .nil)) (.node (zo239_7 P) (.node (zo367_8 P) .nil .nil) (.node (zo8_0 P) .nil .nil))))) (.node (zo23_1 P) (.node (zo39_2 P) (.node (zo71_6 P) (.node (zo135_6 P) (.node (zo263_7 P) (.node (zo519_8 P) .nil .nil) .nil) (.node (zo8_0 P) .nil .nil)) (.node (zo8_0 P) (.node (zo7_0 P) .nil .nil) (.node (zo455_8 P) .nil .nil))) (.node (zo103_6 P) (.node (zo167_6 P) (.node (zo295_8 P) .nil .nil) (.node (zo423_8 P) .nil .nil)) (.node (zo231_7 P) (.node (zo359_8 P) .nil .nil) (.node (zo7_0 P) .nil .nil)))) (.node (zo7_0 P) (.node (zo87_6 P) (.node (zo7_0 P) (.node (zo112_6 P) .nil .nil) (.node (zo7_0 P) .nil .nil)) (.node (zo215_6 P) (.node (zo343_8 P) .nil .nil) (.node (zo471_8 P) .nil .nil))) (.node (zo7_0 P) (.node (zo183_6 P) (.node (zo311_8 P) .nil .nil) (.node (zo439_8 P) .nil .nil)) (.node (zo7_0 P) (.node (zo375_8 P) .nil .nil) (.node (zo503_8 P) .nil .nil)))))) (.node (zo11_3 P) (.node (zo19_1 P) (.node (zo35_2 P) (.node (zo7_0 P) (.node (zo131_6 P) (.node (zo259_7 P) (.node (zo515_8 P) .nil .nil) .nil) (.node (zo387_8 P) .nil .nil)) (.node (zo195_6 P) (.node (zo323_8 P) .nil .nil) (.node (zo8_0 P) .nil .nil))) (.node (zo99_6 P) (.node (zo112_6 P) (.node (zo112_6 P) .nil .nil) (.node (zo7_0 P) .nil .nil)) (.node (zo7_0 P) (.node (zo7_0 P) .nil .nil) (.node (zo7_0 P) .nil .nil)))) (.node (zo7_0 P) (.node (zo8_0 P) (.node (zo147_6 P) (.node (zo275_8 P) .nil .nil) (.node (zo403_8 P) .nil .nil)) (.node (zo211_6 P) (.node (zo339_8 P) .nil .nil) (.node (zo467_8 P) .nil .nil))) (.node (zo115_6 P) (.node (zo179_6 P) (.node (zo307_8 P) .nil .nil) (.node (zo7_0 P) .nil .nil)) (.node (zo243_7 P) (.node (zo371_8 P) .nil .nil) (.node (zo499_8 P) .nil .nil))))) (.node (zo27_2 P) (.node (zo43_2 P) (.node (zo8_0 P) (.node (zo139_6 P) (.node (zo112_6 P) .nil .nil) (.node (zo395_8 P) .nil .nil)) (.node (zo203_6 P) (.node (zo331_8 P) .nil .nil) (.node (zo459_8 P) .nil .nil))) (.node (zo7_0 P) (.node (zo8_0 P) (.node (zo8_0 P) .nil .nil) (.node (zo7_0 P) .nil .nil)) (.node (zo8_0 P) (.node (zo8_0 P) .nil .nil) (.node (zo491_8 P) .nil .nil)))) (.node (zo59_6 P) (.node (zo8_0 P) (.node (zo155_6 P) (.node (zo283_7 P) .nil .nil) (.node (zo7_0 P) .nil .nil)) (.node (zo219_7 P) (.node (zo347_8 P) .nil .nil) (.node (zo475_8 P) .nil .nil))) (.node (zo123_6 P) (.node (zo7_0 P) (.node (zo7_0 P) .nil .nil) (.node (zo7_0 P) .nil .nil)) (.node (zo7_0 P) (.node (zo7_0 P) .nil .nil) (.node (zo507_8 P) .nil .nil))))))) (.node (zo5_0 P) (.node (zo9_0 P) (.node (zo17_1 P) (.node (zo33_2 P) (.node (zo65_6 P) (.node (zo7_0 P) (.node (zo257_7 P) (.node (zo513_8 P) .nil .nil) .nil) (.node (zo385_8 P) .nil .nil)) (.node (zo193_6 P) (.node (zo321_8 P) .nil .nil) (.node (zo449_8 P) .nil .nil))) (.node (zo7_0 P) (.node (zo161_6 P) (.node (zo289_7 P) .nil .nil) (.node (zo417_8 P) .nil .nil)) (.node (zo8_0 P) (.node (zo353_8 P) .nil .nil) (.node (zo8_0 P) .nil .nil)))) (.node (zo49_2 P) (.node (zo81_6 P) (.node (zo145_6 P) (.node (zo7_0 P) .nil .nil) (.node (zo401_8 P) .nil .nil)) (.node (zo209_6 P) (.node (zo7_0 P) .nil .nil) (.node (zo7_0 P) .nil .nil))) (.node (zo113_6 P) (.node (zo7_0 P) (.node (zo7_0 P) .nil .nil) (.node (zo433_8 P) .nil .nil)) (.node (zo241_7 P) (.node (zo7_0 P) .nil .nil) (.node (zo7_0 P) .nil .nil))))) (.node (zo25_1 P) (.node (zo41_2 P) (.node (zo73_6 P) (.node (zo137_6 P) (.node (zo265_7 P) .nil .nil) (.node (zo7_0 P) .nil .nil)) (.node (zo7_0 P) (.node (zo329_8 P) .nil .nil) (.node (zo7_0 P) .nil .nil))) (.node (zo8_0 P) (.node (zo169_6 P) (.node (zo64_6 P) .nil .nil) (.node (zo425_8 P) .nil .nil)) (.node (zo233_7 P) (.node (zo361_8 P) .nil .nil) (.node (zo489_8 P) .nil .nil)))) (.node (zo57_6 P) (.node (zo89_6 P) (.node (zo153_6 P) (.node (zo7_0 P) .nil .nil) (.node (zo409_8 P) .nil .nil)) (.node (zo7_0 P) (.node (zo345_8 P) .nil .nil) (.node (zo7_0 P) .nil .nil))) (.node (zo121_6 P) (.node (zo8_0 P) (.node (zo8_0 P) .nil .nil) (.node (zo441_8 P) .nil .nil)) (.node (zo249_7 P) (.node (zo8_0 P) .nil .nil) (.node (zo505_8 P) .nil .nil)))))) (.node (zo13_1 P) (.node (zo21_1 P) (.node (zo37_2 P) (.node (zo69_6 P) (.node (zo7_0 P) (.node (zo261_7 P) (.node (zo517_8 P) .nil .nil) .nil) (.node (zo389_8 P) .nil .nil)) (.node (zo197_6 P) (.node (zo325_8 P) .nil .nil) (.node (zo7_0 P) .nil .nil))) (.node (zo101_6 P) (.node (zo7_0 P) (.node (zo7_0 P) .nil .nil) (.node (zo421_8 P) .nil .nil)) (.node (zo229_7 P) (.node (zo357_8 P) .nil .nil) (.node (zo485_8 P) .nil .nil)))) (.node (zo53_4 P) (.node (zo7_0 P) (.node (zo8_0 P) (.node (zo277_7 P) .nil .nil) (.node (zo8_0 P) .nil .nil)) (.node (zo213_6 P) (.node (zo7_0 P) .nil .nil) (.node (zo469_8 P) .nil .nil))) (.node (zo117_6 P) (.node (zo181_6 P) (.node (zo309_8 P) .nil .nil) (.node (zo437_8 P) .nil .nil)) (.node (zo112_6 P) (.node (zo373_8 P) .nil .nil) (.node (zo7_0 P) .nil .nil))))) (.node (zo29_3 P) (.node (zo45_2 P) (.node (zo7_0 P) (.node (zo7_0 P) (.node (zo7_0 P) .nil .nil) (.node (zo7_0 P) .nil .nil)) (.node (zo7_0 P) (.node (zo333_8 P) .nil .nil) (.node (zo461_8 P) .nil .nil))) (.node (zo109_6 P) (.node (zo7_0 P) (.node (zo7_0 P) .nil .nil) (.node (zo429_8 P) .nil .nil)) (.node (zo237_7 P) (.node (zo7_0 P) .nil .nil) (.node (zo493_8 P) .nil .nil)))) (.node (zo61_6 P) (.node (zo7_0 P) (.node (zo157_6 P) (.node (zo7_0 P) .nil .nil) (.node (zo413_8 P) .nil .nil)) (.node (zo221_7 P) (.node (zo8_0 P) .nil .nil) (.node (zo477_8 P) .nil .nil))) (.node (zo125_6 P) (.node (zo189_6 P) (.node (zo317_8 P) .nil .nil) (.node (zo445_8 P) .nil .nil)) (.node (zo253_7 P) (.node (zo381_8 P) .nil .nil) (.node (zo8_0 P) .nil .nil)))))))) (.node (zo2_7 P) (.node (zo4_0 P) (.node (zo8_0 P) (.node (zo16_1 P) (.node (zo32_2 P) (.node (zo64_6 P) (.node (zo128_6 P) (.node (zo256_7 P) (.node (zo512_8 P) .nil .nil) .nil) (.node (zo8_0 P) .nil .nil)) (.node (zo8_0 P) (.node (zo8_0 P) .nil .nil) (.node (zo448_8 P) .nil .nil))) (.node (zo96_6 P) (.node (zo160_6 P) (.node (zo288_7 P) .nil .nil) (.node (zo416_8 P) .nil .nil)) (.node (zo7_0 P) (.node (zo352_8 P) .nil .nil) (.node (zo7_0 P) .nil .nil)))) (.node (zo48_2 P) (.node (zo80_6 P) (.node (zo7_0 P) (.node (zo272_7 P) .nil .nil) (.node (zo7_0 P) .nil .nil)) (.node (zo7_0 P) (.node (zo336_8 P) .nil .nil) (.node (zo464_8 P) .nil .nil))) (.node (zo112_6 P) (.node (zo176_6 P) (.node (zo304_8 P) .nil .nil) (.node (zo432_8 P) .nil .nil)) (.node (zo240_7 P) (.node (zo368_8 P) .nil .nil) (.node (zo496_8 P) .nil .nil))))) (.node (zo24_1 P) (.node (zo40_2 P) (.node (zo72_6 P) (.node (zo7_0 P) (.node (zo264_7 P) .nil .nil) (.node (zo392_8 P) .nil .nil)) (.node (zo200_6 P) (.node (zo8_0 P) .nil .nil) (.node (zo456_8 P) .nil .nil))) (.node (zo7_0 P) (.node (zo168_6 P) (.node (zo296_8 P) .nil .nil) (.node (zo424_8 P) .nil .nil)) (.node (zo112_6 P) (.node (zo360_8 P) .nil .nil) (.node (zo8_0 P) .nil .nil)))) (.node (zo8_0 P) (.node (zo88_6 P) (.node (zo152_6 P) (.node (zo280_7 P) .nil .nil) (.node (zo408_8 P) .nil .nil)) (.node (zo216_6 P) (.node (zo7_0 P) .nil .nil) (.node (zo64_6 P) .nil .nil))) (.node (zo8_0 P) (.node (zo7_0 P) (.node (zo7_0 P) .nil .nil) (.node (zo440_8 P) .nil .nil)) (.node (zo248_7 P) (.node (zo7_0 P) .nil .nil) (.node (zo7_0 P) .nil .nil)))))) (.node (zo12_1 P) (.node (zo20_1 P) (.node (zo36_2 P) (.node (zo8_0 P) (.node (zo132_6 P) (.node (zo260_7 P) (.node (zo516_8 P) .nil .nil) .nil) (.node (zo388_8 P) .nil .nil)) (.node (zo196_6 P) (.node (zo324_8 P) .nil .nil) (.node (zo452_8 P) .nil .nil))) (.node (zo7_0 P) (.node (zo164_6 P) (.node (zo292_8 P) .nil .nil) (.node (zo8_0 P) .nil .nil)) (.node (zo228_7 P) (.node (zo8_0 P) .nil .nil) (.node (zo484_8 P) .nil .nil)))) (.node (zo52_8 P) (.node (zo84_6 P) (.node (zo7_0 P) (.node (zo276_7 P) .nil .nil) (.node (zo7_0 P) .nil .nil)) (.node (zo212_6 P) (.node (zo340_8 P) .nil .nil) (.node (zo7_0 P) .nil .nil))) (.node (zo116_6 P) (.node (zo7_0 P) (.node (zo7_0 P) .nil .nil) (.node (zo8_0 P) .nil .nil)) (.node (zo7_0 P) (.node (zo7_0 P) .nil .nil) (.node (zo500_8 P) .nil .nil))))) (.node (zo28_2 P) (.node (zo44_2 P) (.node (zo76_6 P) (.node (zo64_6 P) (.node (zo268_7 P) .nil .nil) (.node (zo396_8 P) .nil .nil)) (.node (zo204_6 P) (.node (zo332_8 P) .nil .nil) (.node (zo7_0 P) .nil .nil))) (.node (zo108_6 P) (.node (zo172_6 P) (.node (zo300_8 P) .nil .nil) (.node (zo8_0 P) .nil .nil)) (.node (zo236_7 P) (.node (zo364_8 P) .nil .nil) (.node (zo492_8 P) .nil .nil)))) (.node (zo60_6 P) (.node (zo92_6 P) (.node (zo156_6 P) (.node (zo284_7 P) .nil .nil) (.node (zo8_0 P) .nil .nil)) (.node (zo7_0 P) (.node (zo7_0 P) .nil .nil) (.node (zo7_0 P) .nil .nil))) (.node (zo124_6 P) (.node (zo188_6 P) (.node (zo316_8 P) .nil .nil) (.node (zo8_0 P) .nil .nil)) (.node (zo8_0 P) (.node (zo380_8 P) .nil .nil) (.node (zo7_0 P) .nil .nil))))))) (.node (zo6_0 P) (.node (zo10_0 P) (.node (zo18_2 P) (.node (zo7_0 P) (.node (zo66_6 P) (.node (zo130_6 P) (.node (zo7_0 P) (.node (zo514_8 P) .nil .nil) .nil) (.node (zo7_0 P) .nil .nil)) (.node (zo7_0 P) (.node (zo7_0 P) .nil .nil) (.node (zo7_0 P) .nil .nil))) (.node (zo8_0 P) (.node (zo162_6 P) (.node (zo290_8 P) .nil .nil) (.node (zo418_8 P) .nil .nil)) (.node (zo226_7 P) (.node (zo354_8 P) .nil .nil) (.node (zo482_8 P) .nil .nil)))) (.node (zo50_2 P) (.node (zo7_0 P) (.node (zo146_6 P) (.node (zo274_7 P) .nil .nil) (.node (zo402_8 P) .nil .nil)) (.node (zo210_6 P) (.node (zo338_8 P) .nil .nil) (.node (zo8_0 P) .nil .nil))) (.node (zo7_0 P) (.node (zo8_0 P) (.node (zo8_0 P) .nil .nil) (.node (zo434_8 P) .nil .nil)) (.node (zo242_7 P) (.node (zo8_0 P) .nil .nil) (.node (zo498_8 P) .nil .nil))))) (.node (zo26_1 P) (.node (zo42_2 P) (.node (zo7_0 P) (.node (zo138_6 P) (.node (zo266_7 P) .nil .nil) (.node (zo394_8 P) .nil .nil)) (.node (zo202_6 P) (.node (zo7_0 P) .nil .nil) (.node (zo8_0 P) .nil .nil))) (.node (zo106_6 P) (.node (zo7_0 P) (.node (zo7_0 P) .nil .nil) (.node (zo64_6 P) .nil .nil)) (.node (zo7_0 P) (.node (zo7_0 P) .nil .nil) (.node (zo7_0 P) .nil .nil)))) (.node (zo7_0 P) (.node (zo7_0 P) (.node (zo154_6 P) (.node (zo8_0 P) .nil .nil) (.node (zo410_8 P) .nil .nil)) (.node (zo8_0 P) (.node (zo346_8 P) .nil .nil) (.node (zo8_0 P) .nil .nil))) (.node (zo7_0 P) (.node (zo186_6 P) (.node (zo314_8 P) .nil .nil) (.node (zo442_8 P) .nil .nil)) (.node (zo250_7 P) (.node (zo378_8 P) .nil .nil) (.node (zo506_8 P) .nil .nil)))))) (.node (zo14_1 P) (.node (zo22_1 P) (.node (zo38_2 P) (.node (zo7_0 P) (.node (zo8_0 P) (.node (zo262_7 P) (.node (zo518_8 P) .nil .nil) .nil) (.node (zo7_0 P) .nil .nil)) (.node (zo7_0 P) (.node (zo326_8 P) .nil .nil) (.node (zo454_8 P) .nil .nil))) (.node (zo102_6 P) (.node (zo166_6 P) (.node (zo294_8 P) .nil .nil) (.node (zo7_0 P) .nil .nil)) (.node (zo230_7 P) (.node (zo7_0 P) .nil .nil) (.node (zo486_8 P) .nil .nil)))) (.node (zo54_4 P) (.node (zo86_6 P) (.node (zo150_6 P) (.node (zo266_7 P) .nil .nil) (.node (zo406_8 P) .nil .nil)) (.node (zo214_6 P) (.node (zo8_0 P) .nil .nil) (.node (zo470_8 P) .nil .nil))) (.node (zo118_6 P) (.node (zo182_6 P) (.node (zo310_8 P) .nil .nil) (.node (zo7_0 P) .nil .nil)) (.node (zo246_7 P) (.node (zo374_8 P) .nil .nil) (.node (zo8_0 P) .nil .nil))))) (.node (zo30_2 P) (.node (zo19_1 P) (.node (zo78_6 P) (.node (zo8_0 P) (.node (zo8_0 P) .nil .nil) (.node (zo8_0 P) .nil .nil)) (.node (zo8_0 P) (.node (zo7_0 P) .nil .nil) (.node (zo462_8 P) .nil .nil))) (.node (zo110_6 P) (.node (zo174_6 P) (.node (zo302_8 P) .nil .nil) (.node (zo7_0 P) .nil .nil)) (.node (zo7_0 P) (.node (zo366_8 P) .nil .nil) (.node (zo7_0 P) .nil .nil)))) (.node (zo62_6 P) (.node (zo94_6 P) (.node (zo158_6 P) (.node (zo286_7 P) .nil .nil) (.node (zo7_0 P) .nil .nil)) (.node (zo222_7 P) (.node (zo350_8 P) .nil .nil) (.node (zo478_8 P) .nil .nil))) (.node (zo7_0 P) (.node (zo190_6 P) (.node (zo318_8 P) .nil .nil) (.node (zo7_0 P) .nil .nil)) (.node (zo7_0 P) (.node (zo382_8 P) .nil .nil) (.node (zo510_8 P) .nil .nil)))))))))
noncomputable def zs4 (w : World) (os : OsState) : SharedT := ⟨zt4 w.params, 520, (Life.mk [] [] [] 0 [] [] Bool.false #[] [] 0 Bool.false Bool.false Bool.false (0 : Int) [(2000 : Int), (10 : Int), (10 : Int)] Bool.false 0 Bool.true [] [] 0 Bool.false), #[], (Drawn.mk 0 0 0 0), 1023, os⟩
noncomputable def zo3_9 : ZO := fun P => (Obj.mk (Value.type "dict") none (Data.dict #[(zE P (zS "__name__") 165 (zV "io" 653)), (zE P (zS "__doc__") 166 Value.none), (zE P (zS "__package__") 167 Value.none), (zE P (zS "__loader__") 168 (Value.builtin "__main__.__loader__#opaque")), (zE P (zS "__spec__") 169 Value.none), (zE P (zS "__annotations__") 170 (Value.ref 6)), (zE P (zS "__builtins__") 171 (Value.ref 4)), (zE P (zS "__file__") 173 (zV "/claim/cut.py" 172)), (zE P (zS "__cached__") 174 Value.none), (zE P (zS "_sre") 275 (Value.ref 12)), (zE P (zS "datetime") 384 (Value.type "datetime.datetime")), (zE P (zS "timezone") 387 (Value.type "datetime.timezone")), (zE P (zS "_wall") 400 (Value.ref 61)), (zE P (zS "PLISTHEADER") 402 (Value.bytes #[60, 63, 120, 109, 108, 32, 118, 101, 114, 115, 105, 111, 110, 61, 34, 49, 46, 48, 34, 32, 101, 110, 99, 111, 100, 105, 110, 103, 61, 34, 85, 84, 70, 45, 56, 34, 63, 62, 10, 60, 33, 68, 79, 67, 84, 89, 80, 69, 32, 112, 108, 105, 115, 116, 32, 80, 85, 66, 76, 73, 67, 32, 34, 45, 47, 47, 65, 112, 112, 108, 101, 47, 47, 68, 84, 68, 32, 80, 76, 73, 83, 84, 32, 49, 46, 48, 47, 47, 69, 78, 34, 32, 34, 104, 116, 116, 112, 58, 47, 47, 119, 119, 119, 46, 97, 112, 112, 108, 101, 46, 99, 111, 109, 47, 68, 84, 68, 115, 47, 80, 114, 111, 112, 101, 114, 116, 121, 76, 105, 115, 116, 45, 49, 46, 48, 46, 100, 116, 100, 34, 62, 10] 401)), (zE P (zS "_controlCharPat") 436 (Value.ref 66)), (zE P (zS "_buffer") 446 (Value.ref 73)), (zE P (zS "_truth") 454 (Value.ref 80)), (zE P (zS "_B64") 456 (Value.bytes #[65, 66, 67, 68, 69, 70, 71, 72, 73, 74, 75, 76, 77, 78, 79, 80, 81, 82, 83, 84, 85, 86, 87, 88, 89, 90, 97, 98, 99, 100, 101, 102, 103, 104, 105, 106, 107, 108, 109, 110, 111, 112, 113, 114, 115, 116, 117, 118, 119, 120, 121, 122, 48, 49, 50, 51, 52, 53, 54, 55, 56, 57, 43, 47] 455)), (zE P (zS "b2a_base64") 470 (Value.ref 88)), (zE P (zS "_encode_base64") 485 (Value.ref 96)), (zE P (zS "_date_to_string") 493 (Value.ref 103)), (zE P (zS "_escape") 501 (Value.ref 110)), (zE P (zS "_DumbXMLWriter") 570 (Value.ref 157)), (zE P (zS "_PlistWriter") 652 (Value.ref 214)), (zE P (zS "_whence") 662 (Value.ref 223)), (zE P (zS "_index") 670 (Value.ref 230)), (zE P (zS "UnsupportedOperation") 692 (Value.ref 240)), (zE P (zS "IOBase") 724 (Value.ref 260)), (zE P (zS "BufferedIOBase") 742 (Value.ref 275)), (zE P (zS "TextIOBase") 760 (Value.ref 287)), (zE P (zS "BytesIO") 1022 (Value.ref 517)), (zE P (zS "StringIO") 1309 (Value.ref 764))] 32) #[])
noncomputable def zo52_9 : ZO := fun P => (Obj.mk Value.none none (Data.fields #[(Value.int (3 : Int) 0), (Value.int (0 : Int) 0), (Value.ref 60), (Value.int (9 : Int) 0), (Value.int (0 : Int) 0), (Value.ref 72), (Value.int (16 : Int) 0), (Value.int (0 : Int) 0), (Value.ref 79), (Value.int (22 : Int) 0), (Value.int (0 : Int) 0), (Value.ref 87), (Value.int (45 : Int) 0), (Value.int (0 : Int) 0), (Value.ref 95), (Value.int (52 : Int) 0), (Value.int (0 : Int) 0), (Value.ref 102), (Value.int (56 : Int) 0), (Value.int (0 : Int) 0), (Value.ref 109), (Value.int (66 : Int) 0), (Value.int (0 : Int) 0), (Value.ref 116), (Value.int (99 : Int) 0), (Value.int (0 : Int) 0), (Value.ref 167), (Value.int (176 : Int) 0), (Value.int (0 : Int) 0), (Value.ref 222), (Value.int (181 : Int) 0), (Value.int (0 : Int) 0), (Value.ref 229), (Value.int (188 : Int) 0), (Value.int (0 : Int) 0), (Value.ref 236), (Value.int (190 : Int) 0), (Value.int (0 : Int) 0), (Value.ref 249), (Value.int (197 : Int) 0), (Value.int (0 : Int) 0), (Value.ref 271), (Value.int (199 : Int) 0), (Value.int (0 : Int) 0), (Value.ref 283), (Value.int (201 : Int) 0), (Value.int (0 : Int) 0), (Value.ref 295), (Value.int (372 : Int) 0), (Value.int (0 : Int) 0), (Value.ref 525)]) #[])
noncomputable def zo287_9 : ZO := fun P => (Obj.mk (Value.type "type") none (Data.cls (ClassData.mk (zS "TextIOBase") [(Value.ref 260)] [(Value.ref 287), (Value.ref 260), (Value.type "object")] 286 (zS "TextIOBase") Bool.true [] [(Value.ref 764)] Bool.false none Bool.false)) #[(some (Value.ref 278)), none, (some (zV "TextIOBase" 743)), (some (zV "TextIOBase" 751)), (some Value.none), (some (Value.bool Bool.true))])
noncomputable def zo520_9 : ZO := fun P => (Obj.mk (Value.type "tuple") none (Data.seq #[(Value.ref 287)] 0) #[])
noncomputable def zo522_9 : ZO := fun P => (Obj.mk (Value.type "dict") none (Data.dict #[(zE P (zS "__module__") 1030 (zV "_io" 1035)), (zE P (zS "__qualname__") 1032 (zV "StringIO" 1031)), (zE P (zS "__firstlineno__") 1034 (Value.int (372 : Int) 1033)), (zE P (zS "__init__") 1047 (Value.ref 534)), (zE P (zS "_StringIO__translated") 1056 (Value.ref 541)), (zE P (zS "_StringIO__check") 1063 (Value.ref 548)), (zE P (zS "_StringIO__check_dot") 1070 (Value.ref 555)), (zE P (zS "_StringIO__line") 1085 (Value.ref 562)), (zE P (zS "closed") 1093 (Value.ref 570)), (zE P (zS "line_buffering") 1101 (Value.ref 578)), (zE P (zS "newlines") 1109 (Value.ref 586)), (zE P (zS "encoding") 1117 (Value.ref 594)), (zE P (zS "errors") 1125 (Value.ref 602)), (zE P (zS "close") 1132 (Value.ref 609)), (zE P (zS "__enter__") 1139 (Value.ref 616)), (zE P (zS "__exit__") 1147 (Value.ref 623)), (zE P (zS "readable") 1154 (Value.ref 630)), (zE P (zS "writable") 1161 (Value.ref 637)), (zE P (zS "seekable") 1168 (Value.ref 644)), (zE P (zS "isatty") 1175 (Value.ref 651)), (zE P (zS "flush") 1182 (Value.ref 658)), (zE P (zS "fileno") 1189 (Value.ref 665)), (zE P (zS "detach") 1196 (Value.ref 672)), (zE P (zS "getvalue") 1203 (Value.ref 679)), (zE P (zS "tell") 1210 (Value.ref 686)), (zE P (zS "seek") 1220 (Value.ref 694)), (zE P (zS "truncate") 1228 (Value.ref 702)), (zE P (zS "read") 1240 (Value.ref 710)), (zE P (zS "readline") 1250 (Value.ref 718)), (zE P (zS "readlines") 1260 (Value.ref 726)), (zE P (zS "__iter__") 1267 (Value.ref 733)), (zE P (zS "__next__") 1275 (Value.ref 740)), (zE P (zS "write") 1287 (Value.ref 747)), (zE P (zS "writelines") 1295 (Value.ref 754)), (zE P (zS "__repr__") 1302 (Value.ref 761)), (zE P (zS "__static_attributes__") 1306 (Value.ref 762))] 36) #[])
noncomputable def zo524_9 : ZO := fun P => (Obj.mk Value.none none (Data.fields #[(Value.int (375 : Int) 0), (Value.int (4 : Int) 0), (Value.ref 533), (Value.int (388 : Int) 0), (Value.int (4 : Int) 0), (Value.ref 540), (Value.int (396 : Int) 0), (Value.int (4 : Int) 0), (Value.ref 547), (Value.int (400 : Int) 0), (Value.int (4 : Int) 0), (Value.ref 554), (Value.int (404 : Int) 0), (Value.int (4 : Int) 0), (Value.ref 561), (Value.int (437 : Int) 0), (Value.int (4 : Int) 0), (Value.ref 568), (Value.int (441 : Int) 0), (Value.int (4 : Int) 0), (Value.ref 576), (Value.int (445 : Int) 0), (Value.int (4 : Int) 0), (Value.ref 584), (Value.int (449 : Int) 0), (Value.int (4 : Int) 0), (Value.ref 592), (Value.int (453 : Int) 0), (Value.int (4 : Int) 0), (Value.ref 600), (Value.int (456 : Int) 0), (Value.int (4 : Int) 0), (Value.ref 608), (Value.int (459 : Int) 0), (Value.int (4 : Int) 0), (Value.ref 615), (Value.int (463 : Int) 0), (Value.int (4 : Int) 0), (Value.ref 622), (Value.int (466 : Int) 0), (Value.int (4 : Int) 0), (Value.ref 629), (Value.int (470 : Int) 0), (Value.int (4 : Int) 0), (Value.ref 636), (Value.int (474 : Int) 0), (Value.int (4 : Int) 0), (Value.ref 643), (Value.int (478 : Int) 0), (Value.int (4 : Int) 0), (Value.ref 650), (Value.int (482 : Int) 0), (Value.int (4 : Int) 0), (Value.ref 657), (Value.int (485 : Int) 0), (Value.int (4 : Int) 0), (Value.ref 664), (Value.int (488 : Int) 0), (Value.int (4 : Int) 0), (Value.ref 671), (Value.int (491 : Int) 0), (Value.int (4 : Int) 0), (Value.ref 678), (Value.int (495 : Int) 0), (Value.int (4 : Int) 0), (Value.ref 685), (Value.int (499 : Int) 0), (Value.int (4 : Int) 0), (Value.ref 693), (Value.int (516 : Int) 0), (Value.int (4 : Int) 0), (Value.ref 701), (Value.int (519 : Int) 0), (Value.int (4 : Int) 0), (Value.ref 709), (Value.int (533 : Int) 0), (Value.int (4 : Int) 0), (Value.ref 717), (Value.int (540 : Int) 0), (Value.int (4 : Int) 0), (Value.ref 725), (Value.int (543 : Int) 0), (Value.int (4 : Int) 0), (Value.ref 732), (Value.int (547 : Int) 0), (Value.int (4 : Int) 0), (Value.ref 739), (Value.int (554 : Int) 0), (Value.int (4 : Int) 0), (Value.ref 746), (Value.int (573 : Int) 0), (Value.int (4 : Int) 0), (Value.ref 753), (Value.int (576 : Int) 0), (Value.int (4 : Int) 0), (Value.ref 760)]) #[])
noncomputable def zo525_9 : ZO := fun P => (Obj.mk (Value.type "code") none (Data.fields #[(zV "StringIO" 1025), (zV "StringIO" 1026), (zV "/claim/cut.py" 1027), (Value.int (372 : Int) 0), (Value.int (0 : Int) 0), (Value.int (0 : Int) 0), (Value.int (0 : Int) 0), (Value.int (0 : Int) 0), (Value.ref 523), (Value.bool Bool.false), (Value.int (388 : Int) 0), (Value.ref 524), Value.none, Value.none, Value.none, Value.none, (Value.int (1028 : Int) 0), (Value.int (372 : Int) 0), (zV "/claim/cut.py" 1029)]) #[])
noncomputable def zo526_9 : ZO := fun P => (Obj.mk (Value.type "frame") none Data.plain #[(some (Value.ref 525)), (some (Value.ref 3)), (some (Value.ref 522)), none, (some (zV "io" 653)), none, (some (Value.ref 0))])
noncomputable def zo527_9 : ZO := fun P => (Obj.mk (Value.type "tuple") none (Data.seq #[(zV "" 1037), (Value.str (Str.mk #[10]) 1038)] 0) #[])
noncomputable def zo530_9 : ZO := fun P => (Obj.mk (Value.type "tuple") none (Data.seq #[(zV "self" 1042), (zV "initial_value" 1043), (zV "newline" 1044)] 0) #[])
noncomputable def zo532_9 : ZO := fun P => (Obj.mk Value.none none (Data.func (FuncData.mk (zS "__init__") (zS "StringIO.__init__") (zpa (zF (zB zT 24) 1)) (FuncBody.stmts (zbo (zF (zB zT 24) 1))) (zsc (zF (zB zT 24) 1)) 0 [] Value.none Value.none Value.none Value.none none Value.none Value.none 0)) #[])
noncomputable def zo533_9 : ZO := fun P => (Obj.mk (Value.type "code") none (Data.fields #[(zV "__init__" 1039), (zV "StringIO.__init__" 1040), (zV "/claim/cut.py" 1041), (Value.int (375 : Int) 0), (Value.int (3 : Int) 0), (Value.int (0 : Int) 0), (Value.int (0 : Int) 0), (Value.int (3 : Int) 0), (Value.ref 528), (Value.bool Bool.true), (Value.int (388 : Int) 0), (Value.ref 529), Value.none, (Value.ref 530), (Value.ref 531), (Value.ref 532), (Value.int (1045 : Int) 0), (Value.int (375 : Int) 0), (zV "/claim/cut.py" 1046)]) #[])
noncomputable def zo534_9 : ZO := fun P => (Obj.mk (Value.type "function") none (Data.func (FuncData.mk (zS "__init__") (zS "StringIO.__init__") (zpa (zF (zB zT 24) 1)) (FuncBody.stmts (zbo (zF (zB zT 24) 1))) (zsc (zF (zB zT 24) 1)) 3 [] (Value.ref 527) Value.none Value.none (zV "io" 653) none (Value.ref 533) Value.none 0)) #[])
noncomputable def zo537_9 : ZO := fun P => (Obj.mk (Value.type "tuple") none (Data.seq #[(zV "self" 1051), (zV "s" 1052), (zV "newline" 1053)] 0) #[])
noncomputable def zo539_9 : ZO := fun P => (Obj.mk Value.none none (Data.func (FuncData.mk (zS "__translated") (zS "StringIO.__translated") (zpa (zF (zB zT 24) 2)) (FuncBody.stmts (zbo (zF (zB zT 24) 2))) (zsc (zF (zB zT 24) 2)) 0 [] Value.none Value.none Value.none Value.none none Value.none Value.none 0)) #[])
noncomputable def zo540_9 : ZO := fun P => (Obj.mk (Value.type "code") none (Data.fields #[(zV "__translated" 1048), (zV "StringIO.__translated" 1049), (zV "/claim/cut.py" 1050), (Value.int (388 : Int) 0), (Value.int (2 : Int) 0), (Value.int (0 : Int) 0), (Value.int (0 : Int) 0), (Value.int (3 : Int) 0), (Value.ref 535), (Value.bool Bool.true), (Value.int (388 : Int) 0), (Value.ref 536), Value.none, (Value.ref 537), (Value.ref 538), (Value.ref 539), (Value.int (1054 : Int) 0), (Value.int (388 : Int) 0), (zV "/claim/cut.py" 1055)]) #[])
noncomputable def zo541_9 : ZO := fun P => (Obj.mk (Value.type "function") none (Data.func (FuncData.mk (zS "__translated") (zS "StringIO.__translated") (zpa (zF (zB zT 24) 2)) (FuncBody.stmts (zbo (zF (zB zT 24) 2))) (zsc (zF (zB zT 24) 2)) 3 [] Value.none Value.none Value.none (zV "io" 653) none (Value.ref 540) Value.none 0)) #[])
noncomputable def zo544_9 : ZO := fun P => (Obj.mk (Value.type "tuple") none (Data.seq #[(zV "self" 1060)] 0) #[])
noncomputable def zo546_9 : ZO := fun P => (Obj.mk Value.none none (Data.func (FuncData.mk (zS "__check") (zS "StringIO.__check") (zpa (zF (zB zT 24) 3)) (FuncBody.stmts (zbo (zF (zB zT 24) 3))) (zsc (zF (zB zT 24) 4)) 0 [] Value.none Value.none Value.none Value.none none Value.none Value.none 0)) #[])
noncomputable def zo547_9 : ZO := fun P => (Obj.mk (Value.type "code") none (Data.fields #[(zV "__check" 1057), (zV "StringIO.__check" 1058), (zV "/claim/cut.py" 1059), (Value.int (396 : Int) 0), (Value.int (1 : Int) 0), (Value.int (0 : Int) 0), (Value.int (0 : Int) 0), (Value.int (3 : Int) 0), (Value.ref 542), (Value.bool Bool.true), (Value.int (388 : Int) 0), (Value.ref 543), Value.none, (Value.ref 544), (Value.ref 545), (Value.ref 546), (Value.int (1061 : Int) 0), (Value.int (396 : Int) 0), (zV "/claim/cut.py" 1062)]) #[])
noncomputable def zo548_9 : ZO := fun P => (Obj.mk (Value.type "function") none (Data.func (FuncData.mk (zS "__check") (zS "StringIO.__check") (zpa (zF (zB zT 24) 3)) (FuncBody.stmts (zbo (zF (zB zT 24) 3))) (zsc (zF (zB zT 24) 4)) 3 [] Value.none Value.none Value.none (zV "io" 653) none (Value.ref 547) Value.none 0)) #[])
noncomputable def zo551_9 : ZO := fun P => (Obj.mk (Value.type "tuple") none (Data.seq #[(zV "self" 1067)] 0) #[])
noncomputable def zo553_9 : ZO := fun P => (Obj.mk Value.none none (Data.func (FuncData.mk (zS "__check_dot") (zS "StringIO.__check_dot") (zpa (zF (zB zT 24) 4)) (FuncBody.stmts (zbo (zF (zB zT 24) 4))) (zsc (zF (zB zT 24) 4)) 0 [] Value.none Value.none Value.none Value.none none Value.none Value.none 0)) #[])
noncomputable def zo554_9 : ZO := fun P => (Obj.mk (Value.type "code") none (Data.fields #[(zV "__check_dot" 1064), (zV "StringIO.__check_dot" 1065), (zV "/claim/cut.py" 1066), (Value.int (400 : Int) 0), (Value.int (1 : Int) 0), (Value.int (0 : Int) 0), (Value.int (0 : Int) 0), (Value.int (3 : Int) 0), (Value.ref 549), (Value.bool Bool.true), (Value.int (388 : Int) 0), (Value.ref 550), Value.none, (Value.ref 551), (Value.ref 552), (Value.ref 553), (Value.int (1068 : Int) 0), (Value.int (400 : Int) 0), (zV "/claim/cut.py" 1069)]) #[])
noncomputable def zo555_9 : ZO := fun P => (Obj.mk (Value.type "function") none (Data.func (FuncData.mk (zS "__check_dot") (zS "StringIO.__check_dot") (zpa (zF (zB zT 24) 4)) (FuncBody.stmts (zbo (zF (zB zT 24) 4))) (zsc (zF (zB zT 24) 4)) 3 [] Value.none Value.none Value.none (zV "io" 653) none (Value.ref 554) Value.none 0)) #[])
noncomputable def zo558_9 : ZO := fun P => (Obj.mk (Value.type "tuple") none (Data.seq #[(zV "self" 1074), (zV "limit" 1075), (zV "start" 1076), (zV "stop" 1077), (zV "cut" 1078), (zV "newline" 1079), (zV "i" 1080), (zV "j" 1081), (zV "end" 1082)] 0) #[])
noncomputable def zo560_9 : ZO := fun P => (Obj.mk Value.none none (Data.func (FuncData.mk (zS "__line") (zS "StringIO.__line") (zpa (zF (zB zT 24) 5)) (FuncBody.stmts (zbo (zF (zB zT 24) 5))) (zsc (zF (zB zT 24) 5)) 0 [] Value.none Value.none Value.none Value.none none Value.none Value.none 0)) #[])
noncomputable def zo561_9 : ZO := fun P => (Obj.mk (Value.type "code") none (Data.fields #[(zV "__line" 1071), (zV "StringIO.__line" 1072), (zV "/claim/cut.py" 1073), (Value.int (404 : Int) 0), (Value.int (2 : Int) 0), (Value.int (0 : Int) 0), (Value.int (0 : Int) 0), (Value.int (3 : Int) 0), (Value.ref 556), (Value.bool Bool.true), (Value.int (388 : Int) 0), (Value.ref 557), Value.none, (Value.ref 558), (Value.ref 559), (Value.ref 560), (Value.int (1083 : Int) 0), (Value.int (404 : Int) 0), (zV "/claim/cut.py" 1084)]) #[])
noncomputable def zo562_9 : ZO := fun P => (Obj.mk (Value.type "function") none (Data.func (FuncData.mk (zS "__line") (zS "StringIO.__line") (zpa (zF (zB zT 24) 5)) (FuncBody.stmts (zbo (zF (zB zT 24) 5))) (zsc (zF (zB zT 24) 5)) 3 [] Value.none Value.none Value.none (zV "io" 653) none (Value.ref 561) Value.none 0)) #[])
noncomputable def zo565_9 : ZO := fun P => (Obj.mk (Value.type "tuple") none (Data.seq #[(zV "self" 1089)] 0) #[])
noncomputable def zo567_9 : ZO := fun P => (Obj.mk Value.none none (Data.func (FuncData.mk (zS "closed") (zS "StringIO.closed") (zpa (zF (zB zT 24) 6)) (FuncBody.stmts (zbo (zF (zB zT 24) 6))) (zsc (zF (zB zT 24) 28)) 0 [] Value.none Value.none Value.none Value.none none Value.none Value.none 0)) #[])
noncomputable def zo568_9 : ZO := fun P => (Obj.mk (Value.type "code") none (Data.fields #[(zV "closed" 1086), (zV "StringIO.closed" 1087), (zV "/claim/cut.py" 1088), (Value.int (436 : Int) 0), (Value.int (1 : Int) 0), (Value.int (0 : Int) 0), (Value.int (0 : Int) 0), (Value.int (3 : Int) 0), (Value.ref 563), (Value.bool Bool.true), (Value.int (388 : Int) 0), (Value.ref 564), Value.none, (Value.ref 565), (Value.ref 566), (Value.ref 567), (Value.int (1090 : Int) 0), (Value.int (436 : Int) 0), (zV "/claim/cut.py" 1091)]) #[])
noncomputable def zo569_9 : ZO := fun P => (Obj.mk (Value.type "function") none (Data.func (FuncData.mk (zS "closed") (zS "StringIO.closed") (zpa (zF (zB zT 24) 6)) (FuncBody.stmts (zbo (zF (zB zT 24) 6))) (zsc (zF (zB zT 24) 28)) 3 [] Value.none Value.none Value.none (zV "io" 653) none (Value.ref 568) Value.none 0)) #[])
noncomputable def zo570_9 : ZO := fun P => (Obj.mk (Value.type "property") none (Data.fields #[(Value.ref 569), Value.none, Value.none, Value.none, (zV "closed" 1093), (Value.bool Bool.false)]) #[])
noncomputable def zo573_9 : ZO := fun P => (Obj.mk (Value.type "tuple") none (Data.seq #[(zV "self" 1097)] 0) #[])
noncomputable def zo575_9 : ZO := fun P => (Obj.mk Value.none none (Data.func (FuncData.mk (zS "line_buffering") (zS "StringIO.line_buffering") (zpa (zF (zB zT 24) 7)) (FuncBody.stmts (zbo (zF (zB zT 24) 7))) (zsc (zF (zB zT 24) 32)) 0 [] Value.none Value.none Value.none Value.none none Value.none Value.none 0)) #[])
noncomputable def zo576_9 : ZO := fun P => (Obj.mk (Value.type "code") none (Data.fields #[(zV "line_buffering" 1094), (zV "StringIO.line_buffering" 1095), (zV "/claim/cut.py" 1096), (Value.int (440 : Int) 0), (Value.int (1 : Int) 0), (Value.int (0 : Int) 0), (Value.int (0 : Int) 0), (Value.int (3 : Int) 0), (Value.ref 571), (Value.bool Bool.true), (Value.int (388 : Int) 0), (Value.ref 572), Value.none, (Value.ref 573), (Value.ref 574), (Value.ref 575), (Value.int (1098 : Int) 0), (Value.int (440 : Int) 0), (zV "/claim/cut.py" 1099)]) #[])
noncomputable def zo577_9 : ZO := fun P => (Obj.mk (Value.type "function") none (Data.func (FuncData.mk (zS "line_buffering") (zS "StringIO.line_buffering") (zpa (zF (zB zT 24) 7)) (FuncBody.stmts (zbo (zF (zB zT 24) 7))) (zsc (zF (zB zT 24) 32)) 3 [] Value.none Value.none Value.none (zV "io" 653) none (Value.ref 576) Value.none 0)) #[])
noncomputable def zo578_9 : ZO := fun P => (Obj.mk (Value.type "property") none (Data.fields #[(Value.ref 577), Value.none, Value.none, Value.none, (zV "line_buffering" 1101), (Value.bool Bool.false)]) #[])
noncomputable def zo581_9 : ZO := fun P => (Obj.mk (Value.type "tuple") none (Data.seq #[(zV "self" 1105)] 0) #[])
noncomputable def zo583_9 : ZO := fun P => (Obj.mk Value.none none (Data.func (FuncData.mk (zS "newlines") (zS "StringIO.newlines") (zpa (zF (zB zT 24) 8)) (FuncBody.stmts (zbo (zF (zB zT 24) 8))) (zsc (zF (zB zT 24) 32)) 0 [] Value.none Value.none Value.none Value.none none Value.none Value.none 0)) #[])
noncomputable def zo584_9 : ZO := fun P => (Obj.mk (Value.type "code") none (Data.fields #[(zV "newlines" 1102), (zV "StringIO.newlines" 1103), (zV "/claim/cut.py" 1104), (Value.int (444 : Int) 0), (Value.int (1 : Int) 0), (Value.int (0 : Int) 0), (Value.int (0 : Int) 0), (Value.int (3 : Int) 0), (Value.ref 579), (Value.bool Bool.true), (Value.int (388 : Int) 0), (Value.ref 580), Value.none, (Value.ref 581), (Value.ref 582), (Value.ref 583), (Value.int (1106 : Int) 0), (Value.int (444 : Int) 0), (zV "/claim/cut.py" 1107)]) #[])
noncomputable def zo585_9 : ZO := fun P => (Obj.mk (Value.type "function") none (Data.func (FuncData.mk (zS "newlines") (zS "StringIO.newlines") (zpa (zF (zB zT 24) 8)) (FuncBody.stmts (zbo (zF (zB zT 24) 8))) (zsc (zF (zB zT 24) 32)) 3 [] Value.none Value.none Value.none (zV "io" 653) none (Value.ref 584) Value.none 0)) #[])
noncomputable def zo586_9 : ZO := fun P => (Obj.mk (Value.type "property") none (Data.fields #[(Value.ref 585), Value.none, Value.none, Value.none, (zV "newlines" 1109), (Value.bool Bool.false)]) #[])
noncomputable def zo589_9 : ZO := fun P => (Obj.mk (Value.type "tuple") none (Data.seq #[(zV "self" 1113)] 0) #[])
noncomputable def zo591_9 : ZO := fun P => (Obj.mk Value.none none (Data.func (FuncData.mk (zS "encoding") (zS "StringIO.encoding") (zpa (zF (zB zT 24) 9)) (FuncBody.stmts (zbo (zF (zB zT 24) 9))) (zsc (zF (zB zT 24) 32)) 0 [] Value.none Value.none Value.none Value.none none Value.none Value.none 0)) #[])
noncomputable def zo592_9 : ZO := fun P => (Obj.mk (Value.type "code") none (Data.fields #[(zV "encoding" 1110), (zV "StringIO.encoding" 1111), (zV "/claim/cut.py" 1112), (Value.int (448 : Int) 0), (Value.int (1 : Int) 0), (Value.int (0 : Int) 0), (Value.int (0 : Int) 0), (Value.int (3 : Int) 0), (Value.ref 587), (Value.bool Bool.true), (Value.int (388 : Int) 0), (Value.ref 588), Value.none, (Value.ref 589), (Value.ref 590), (Value.ref 591), (Value.int (1114 : Int) 0), (Value.int (448 : Int) 0), (zV "/claim/cut.py" 1115)]) #[])
noncomputable def zo593_9 : ZO := fun P => (Obj.mk (Value.type "function") none (Data.func (FuncData.mk (zS "encoding") (zS "StringIO.encoding") (zpa (zF (zB zT 24) 9)) (FuncBody.stmts (zbo (zF (zB zT 24) 9))) (zsc (zF (zB zT 24) 32)) 3 [] Value.none Value.none Value.none (zV "io" 653) none (Value.ref 592) Value.none 0)) #[])
noncomputable def zo594_9 : ZO := fun P => (Obj.mk (Value.type "property") none (Data.fields #[(Value.ref 593), Value.none, Value.none, Value.none, (zV "encoding" 1117), (Value.bool Bool.false)]) #[])
noncomputable def zo597_9 : ZO := fun P => (Obj.mk (Value.type "tuple") none (Data.seq #[(zV "self" 1121)] 0) #[])
noncomputable def zo599_9 : ZO := fun P => (Obj.mk Value.none none (Data.func (FuncData.mk (zS "errors") (zS "StringIO.errors") (zpa (zF (zB zT 24) 10)) (FuncBody.stmts (zbo (zF (zB zT 24) 10))) (zsc (zF (zB zT 24) 32)) 0 [] Value.none Value.none Value.none Value.none none Value.none Value.none 0)) #[])
noncomputable def zo600_9 : ZO := fun P => (Obj.mk (Value.type "code") none (Data.fields #[(zV "errors" 1118), (zV "StringIO.errors" 1119), (zV "/claim/cut.py" 1120), (Value.int (452 : Int) 0), (Value.int (1 : Int) 0), (Value.int (0 : Int) 0), (Value.int (0 : Int) 0), (Value.int (3 : Int) 0), (Value.ref 595), (Value.bool Bool.true), (Value.int (388 : Int) 0), (Value.ref 596), Value.none, (Value.ref 597), (Value.ref 598), (Value.ref 599), (Value.int (1122 : Int) 0), (Value.int (452 : Int) 0), (zV "/claim/cut.py" 1123)]) #[])
noncomputable def zo601_9 : ZO := fun P => (Obj.mk (Value.type "function") none (Data.func (FuncData.mk (zS "errors") (zS "StringIO.errors") (zpa (zF (zB zT 24) 10)) (FuncBody.stmts (zbo (zF (zB zT 24) 10))) (zsc (zF (zB zT 24) 32)) 3 [] Value.none Value.none Value.none (zV "io" 653) none (Value.ref 600) Value.none 0)) #[])
noncomputable def zo602_9 : ZO := fun P => (Obj.mk (Value.type "property") none (Data.fields #[(Value.ref 601), Value.none, Value.none, Value.none, (zV "errors" 1125), (Value.bool Bool.false)]) #[])
noncomputable def zo605_9 : ZO := fun P => (Obj.mk (Value.type "tuple") none (Data.seq #[(zV "self" 1129)] 0) #[])
noncomputable def zo607_9 : ZO := fun P => (Obj.mk Value.none none (Data.func (FuncData.mk (zS "close") (zS "StringIO.close") (zpa (zF (zB zT 24) 11)) (FuncBody.stmts (zbo (zF (zB zT 24) 11))) (zsc (zF (zB zT 24) 28)) 0 [] Value.none Value.none Value.none Value.none none Value.none Value.none 0)) #[])
noncomputable def zo608_9 : ZO := fun P => (Obj.mk (Value.type "code") none (Data.fields #[(zV "close" 1126), (zV "StringIO.close" 1127), (zV "/claim/cut.py" 1128), (Value.int (456 : Int) 0), (Value.int (1 : Int) 0), (Value.int (0 : Int) 0), (Value.int (0 : Int) 0), (Value.int (3 : Int) 0), (Value.ref 603), (Value.bool Bool.true), (Value.int (388 : Int) 0), (Value.ref 604), Value.none, (Value.ref 605), (Value.ref 606), (Value.ref 607), (Value.int (1130 : Int) 0), (Value.int (456 : Int) 0), (zV "/claim/cut.py" 1131)]) #[])
noncomputable def zo609_9 : ZO := fun P => (Obj.mk (Value.type "function") none (Data.func (FuncData.mk (zS "close") (zS "StringIO.close") (zpa (zF (zB zT 24) 11)) (FuncBody.stmts (zbo (zF (zB zT 24) 11))) (zsc (zF (zB zT 24) 28)) 3 [] Value.none Value.none Value.none (zV "io" 653) none (Value.ref 608) Value.none 0)) #[])
noncomputable def zo612_9 : ZO := fun P => (Obj.mk (Value.type "tuple") none (Data.seq #[(zV "self" 1136)] 0) #[])
noncomputable def zo614_9 : ZO := fun P => (Obj.mk Value.none none (Data.func (FuncData.mk (zS "__enter__") (zS "StringIO.__enter__") (zpa (zF (zB zT 24) 12)) (FuncBody.stmts (zbo (zF (zB zT 24) 12))) (zsc (zF (zB zT 24) 28)) 0 [] Value.none Value.none Value.none Value.none none Value.none Value.none 0)) #[])
noncomputable def zo615_9 : ZO := fun P => (Obj.mk (Value.type "code") none (Data.fields #[(zV "__enter__" 1133), (zV "StringIO.__enter__" 1134), (zV "/claim/cut.py" 1135), (Value.int (459 : Int) 0), (Value.int (1 : Int) 0), (Value.int (0 : Int) 0), (Value.int (0 : Int) 0), (Value.int (3 : Int) 0), (Value.ref 610), (Value.bool Bool.true), (Value.int (388 : Int) 0), (Value.ref 611), Value.none, (Value.ref 612), (Value.ref 613), (Value.ref 614), (Value.int (1137 : Int) 0), (Value.int (459 : Int) 0), (zV "/claim/cut.py" 1138)]) #[])
noncomputable def zo616_9 : ZO := fun P => (Obj.mk (Value.type "function") none (Data.func (FuncData.mk (zS "__enter__") (zS "StringIO.__enter__") (zpa (zF (zB zT 24) 12)) (FuncBody.stmts (zbo (zF (zB zT 24) 12))) (zsc (zF (zB zT 24) 28)) 3 [] Value.none Value.none Value.none (zV "io" 653) none (Value.ref 615) Value.none 0)) #[])
noncomputable def zo619_9 : ZO := fun P => (Obj.mk (Value.type "tuple") none (Data.seq #[(zV "self" 1143), (zV "args" 1144)] 0) #[])
noncomputable def zo621_9 : ZO := fun P => (Obj.mk Value.none none (Data.func (FuncData.mk (zS "__exit__") (zS "StringIO.__exit__") (zpa (zF (zB zT 24) 13)) (FuncBody.stmts (zbo (zF (zB zT 24) 13))) (zsc (zF (zB zT 24) 13)) 0 [] Value.none Value.none Value.none Value.none none Value.none Value.none 0)) #[])
noncomputable def zo622_9 : ZO := fun P => (Obj.mk (Value.type "code") none (Data.fields #[(zV "__exit__" 1140), (zV "StringIO.__exit__" 1141), (zV "/claim/cut.py" 1142), (Value.int (463 : Int) 0), (Value.int (1 : Int) 0), (Value.int (0 : Int) 0), (Value.int (0 : Int) 0), (Value.int (7 : Int) 0), (Value.ref 617), (Value.bool Bool.true), (Value.int (388 : Int) 0), (Value.ref 618), Value.none, (Value.ref 619), (Value.ref 620), (Value.ref 621), (Value.int (1145 : Int) 0), (Value.int (463 : Int) 0), (zV "/claim/cut.py" 1146)]) #[])
noncomputable def zo623_9 : ZO := fun P => (Obj.mk (Value.type "function") none (Data.func (FuncData.mk (zS "__exit__") (zS "StringIO.__exit__") (zpa (zF (zB zT 24) 13)) (FuncBody.stmts (zbo (zF (zB zT 24) 13))) (zsc (zF (zB zT 24) 13)) 3 [] Value.none Value.none Value.none (zV "io" 653) none (Value.ref 622) Value.none 0)) #[])
noncomputable def zo626_9 : ZO := fun P => (Obj.mk (Value.type "tuple") none (Data.seq #[(zV "self" 1151)] 0) #[])
noncomputable def zo628_9 : ZO := fun P => (Obj.mk Value.none none (Data.func (FuncData.mk (zS "readable") (zS "StringIO.readable") (zpa (zF (zB zT 24) 14)) (FuncBody.stmts (zbo (zF (zB zT 24) 14))) (zsc (zF (zB zT 24) 28)) 0 [] Value.none Value.none Value.none Value.none none Value.none Value.none 0)) #[])
noncomputable def zo629_9 : ZO := fun P => (Obj.mk (Value.type "code") none (Data.fields #[(zV "readable" 1148), (zV "StringIO.readable" 1149), (zV "/claim/cut.py" 1150), (Value.int (466 : Int) 0), (Value.int (1 : Int) 0), (Value.int (0 : Int) 0), (Value.int (0 : Int) 0), (Value.int (3 : Int) 0), (Value.ref 624), (Value.bool Bool.true), (Value.int (388 : Int) 0), (Value.ref 625), Value.none, (Value.ref 626), (Value.ref 627), (Value.ref 628), (Value.int (1152 : Int) 0), (Value.int (466 : Int) 0), (zV "/claim/cut.py" 1153)]) #[])
noncomputable def zo630_9 : ZO := fun P => (Obj.mk (Value.type "function") none (Data.func (FuncData.mk (zS "readable") (zS "StringIO.readable") (zpa (zF (zB zT 24) 14)) (FuncBody.stmts (zbo (zF (zB zT 24) 14))) (zsc (zF (zB zT 24) 28)) 3 [] Value.none Value.none Value.none (zV "io" 653) none (Value.ref 629) Value.none 0)) #[])
noncomputable def zo633_9 : ZO := fun P => (Obj.mk (Value.type "tuple") none (Data.seq #[(zV "self" 1158)] 0) #[])
noncomputable def zo635_9 : ZO := fun P => (Obj.mk Value.none none (Data.func (FuncData.mk (zS "writable") (zS "StringIO.writable") (zpa (zF (zB zT 24) 15)) (FuncBody.stmts (zbo (zF (zB zT 24) 15))) (zsc (zF (zB zT 24) 28)) 0 [] Value.none Value.none Value.none Value.none none Value.none Value.none 0)) #[])
noncomputable def zo636_9 : ZO := fun P => (Obj.mk (Value.type "code") none (Data.fields #[(zV "writable" 1155), (zV "StringIO.writable" 1156), (zV "/claim/cut.py" 1157), (Value.int (470 : Int) 0), (Value.int (1 : Int) 0), (Value.int (0 : Int) 0), (Value.int (0 : Int) 0), (Value.int (3 : Int) 0), (Value.ref 631), (Value.bool Bool.true), (Value.int (388 : Int) 0), (Value.ref 632), Value.none, (Value.ref 633), (Value.ref 634), (Value.ref 635), (Value.int (1159 : Int) 0), (Value.int (470 : Int) 0), (zV "/claim/cut.py" 1160)]) #[])
noncomputable def zo637_9 : ZO := fun P => (Obj.mk (Value.type "function") none (Data.func (FuncData.mk (zS "writable") (zS "StringIO.writable") (zpa (zF (zB zT 24) 15)) (FuncBody.stmts (zbo (zF (zB zT 24) 15))) (zsc (zF (zB zT 24) 28)) 3 [] Value.none Value.none Value.none (zV "io" 653) none (Value.ref 636) Value.none 0)) #[])
noncomputable def zo640_9 : ZO := fun P => (Obj.mk (Value.type "tuple") none (Data.seq #[(zV "self" 1165)] 0) #[])
noncomputable def zo642_9 : ZO := fun P => (Obj.mk Value.none none (Data.func (FuncData.mk (zS "seekable") (zS "StringIO.seekable") (zpa (zF (zB zT 24) 16)) (FuncBody.stmts (zbo (zF (zB zT 24) 16))) (zsc (zF (zB zT 24) 28)) 0 [] Value.none Value.none Value.none Value.none none Value.none Value.none 0)) #[])
noncomputable def zo643_9 : ZO := fun P => (Obj.mk (Value.type "code") none (Data.fields #[(zV "seekable" 1162), (zV "StringIO.seekable" 1163), (zV "/claim/cut.py" 1164), (Value.int (474 : Int) 0), (Value.int (1 : Int) 0), (Value.int (0 : Int) 0), (Value.int (0 : Int) 0), (Value.int (3 : Int) 0), (Value.ref 638), (Value.bool Bool.true), (Value.int (388 : Int) 0), (Value.ref 639), Value.none, (Value.ref 640), (Value.ref 641), (Value.ref 642), (Value.int (1166 : Int) 0), (Value.int (474 : Int) 0), (zV "/claim/cut.py" 1167)]) #[])
noncomputable def zo644_9 : ZO := fun P => (Obj.mk (Value.type "function") none (Data.func (FuncData.mk (zS "seekable") (zS "StringIO.seekable") (zpa (zF (zB zT 24) 16)) (FuncBody.stmts (zbo (zF (zB zT 24) 16))) (zsc (zF (zB zT 24) 28)) 3 [] Value.none Value.none Value.none (zV "io" 653) none (Value.ref 643) Value.none 0)) #[])
noncomputable def zo647_9 : ZO := fun P => (Obj.mk (Value.type "tuple") none (Data.seq #[(zV "self" 1172)] 0) #[])
noncomputable def zo649_9 : ZO := fun P => (Obj.mk Value.none none (Data.func (FuncData.mk (zS "isatty") (zS "StringIO.isatty") (zpa (zF (zB zT 24) 17)) (FuncBody.stmts (zbo (zF (zB zT 24) 17))) (zsc (zF (zB zT 24) 28)) 0 [] Value.none Value.none Value.none Value.none none Value.none Value.none 0)) #[])
noncomputable def zo650_9 : ZO := fun P => (Obj.mk (Value.type "code") none (Data.fields #[(zV "isatty" 1169), (zV "StringIO.isatty" 1170), (zV "/claim/cut.py" 1171), (Value.int (478 : Int) 0), (Value.int (1 : Int) 0), (Value.int (0 : Int) 0), (Value.int (0 : Int) 0), (Value.int (3 : Int) 0), (Value.ref 645), (Value.bool Bool.true), (Value.int (388 : Int) 0), (Value.ref 646), Value.none, (Value.ref 647), (Value.ref 648), (Value.ref 649), (Value.int (1173 : Int) 0), (Value.int (478 : Int) 0), (zV "/claim/cut.py" 1174)]) #[])
noncomputable def zo651_9 : ZO := fun P => (Obj.mk (Value.type "function") none (Data.func (FuncData.mk (zS "isatty") (zS "StringIO.isatty") (zpa (zF (zB zT 24) 17)) (FuncBody.stmts (zbo (zF (zB zT 24) 17))) (zsc (zF (zB zT 24) 28)) 3 [] Value.none Value.none Value.none (zV "io" 653) none (Value.ref 650) Value.none 0)) #[])
noncomputable def zo654_9 : ZO := fun P => (Obj.mk (Value.type "tuple") none (Data.seq #[(zV "self" 1179)] 0) #[])
noncomputable def zo656_9 : ZO := fun P => (Obj.mk Value.none none (Data.func (FuncData.mk (zS "flush") (zS "StringIO.flush") (zpa (zF (zB zT 24) 18)) (FuncBody.stmts (zbo (zF (zB zT 24) 18))) (zsc (zF (zB zT 24) 28)) 0 [] Value.none Value.none Value.none Value.none none Value.none Value.none 0)) #[])
noncomputable def zo657_9 : ZO := fun P => (Obj.mk (Value.type "code") none (Data.fields #[(zV "flush" 1176), (zV "StringIO.flush" 1177), (zV "/claim/cut.py" 1178), (Value.int (482 : Int) 0), (Value.int (1 : Int) 0), (Value.int (0 : Int) 0), (Value.int (0 : Int) 0), (Value.int (3 : Int) 0), (Value.ref 652), (Value.bool Bool.true), (Value.int (388 : Int) 0), (Value.ref 653), Value.none, (Value.ref 654), (Value.ref 655), (Value.ref 656), (Value.int (1180 : Int) 0), (Value.int (482 : Int) 0), (zV "/claim/cut.py" 1181)]) #[])
noncomputable def zo658_9 : ZO := fun P => (Obj.mk (Value.type "function") none (Data.func (FuncData.mk (zS "flush") (zS "StringIO.flush") (zpa (zF (zB zT 24) 18)) (FuncBody.stmts (zbo (zF (zB zT 24) 18))) (zsc (zF (zB zT 24) 28)) 3 [] Value.none Value.none Value.none (zV "io" 653) none (Value.ref 657) Value.none 0)) #[])
noncomputable def zo661_9 : ZO := fun P => (Obj.mk (Value.type "tuple") none (Data.seq #[(zV "self" 1186)] 0) #[])
noncomputable def zo663_9 : ZO := fun P => (Obj.mk Value.none none (Data.func (FuncData.mk (zS "fileno") (zS "StringIO.fileno") (zpa (zF (zB zT 24) 19)) (FuncBody.stmts (zbo (zF (zB zT 24) 19))) (zsc (zF (zB zT 24) 19)) 0 [] Value.none Value.none Value.none Value.none none Value.none Value.none 0)) #[])
noncomputable def zo664_9 : ZO := fun P => (Obj.mk (Value.type "code") none (Data.fields #[(zV "fileno" 1183), (zV "StringIO.fileno" 1184), (zV "/claim/cut.py" 1185), (Value.int (485 : Int) 0), (Value.int (1 : Int) 0), (Value.int (0 : Int) 0), (Value.int (0 : Int) 0), (Value.int (3 : Int) 0), (Value.ref 659), (Value.bool Bool.true), (Value.int (388 : Int) 0), (Value.ref 660), Value.none, (Value.ref 661), (Value.ref 662), (Value.ref 663), (Value.int (1187 : Int) 0), (Value.int (485 : Int) 0), (zV "/claim/cut.py" 1188)]) #[])
noncomputable def zo665_9 : ZO := fun P => (Obj.mk (Value.type "function") none (Data.func (FuncData.mk (zS "fileno") (zS "StringIO.fileno") (zpa (zF (zB zT 24) 19)) (FuncBody.stmts (zbo (zF (zB zT 24) 19))) (zsc (zF (zB zT 24) 19)) 3 [] Value.none Value.none Value.none (zV "io" 653) none (Value.ref 664) Value.none 0)) #[])
noncomputable def zo668_9 : ZO := fun P => (Obj.mk (Value.type "tuple") none (Data.seq #[(zV "self" 1193)] 0) #[])
noncomputable def zo670_9 : ZO := fun P => (Obj.mk Value.none none (Data.func (FuncData.mk (zS "detach") (zS "StringIO.detach") (zpa (zF (zB zT 24) 20)) (FuncBody.stmts (zbo (zF (zB zT 24) 20))) (zsc (zF (zB zT 24) 32)) 0 [] Value.none Value.none Value.none Value.none none Value.none Value.none 0)) #[])
noncomputable def zo671_9 : ZO := fun P => (Obj.mk (Value.type "code") none (Data.fields #[(zV "detach" 1190), (zV "StringIO.detach" 1191), (zV "/claim/cut.py" 1192), (Value.int (488 : Int) 0), (Value.int (1 : Int) 0), (Value.int (0 : Int) 0), (Value.int (0 : Int) 0), (Value.int (3 : Int) 0), (Value.ref 666), (Value.bool Bool.true), (Value.int (388 : Int) 0), (Value.ref 667), Value.none, (Value.ref 668), (Value.ref 669), (Value.ref 670), (Value.int (1194 : Int) 0), (Value.int (488 : Int) 0), (zV "/claim/cut.py" 1195)]) #[])
noncomputable def zo672_9 : ZO := fun P => (Obj.mk (Value.type "function") none (Data.func (FuncData.mk (zS "detach") (zS "StringIO.detach") (zpa (zF (zB zT 24) 20)) (FuncBody.stmts (zbo (zF (zB zT 24) 20))) (zsc (zF (zB zT 24) 32)) 3 [] Value.none Value.none Value.none (zV "io" 653) none (Value.ref 671) Value.none 0)) #[])
noncomputable def zo675_9 : ZO := fun P => (Obj.mk (Value.type "tuple") none (Data.seq #[(zV "self" 1200)] 0) #[])
noncomputable def zo677_9 : ZO := fun P => (Obj.mk Value.none none (Data.func (FuncData.mk (zS "getvalue") (zS "StringIO.getvalue") (zpa (zF (zB zT 24) 21)) (FuncBody.stmts (zbo (zF (zB zT 24) 21))) (zsc (zF (zB zT 24) 28)) 0 [] Value.none Value.none Value.none Value.none none Value.none Value.none 0)) #[])
noncomputable def zo678_9 : ZO := fun P => (Obj.mk (Value.type "code") none (Data.fields #[(zV "getvalue" 1197), (zV "StringIO.getvalue" 1198), (zV "/claim/cut.py" 1199), (Value.int (491 : Int) 0), (Value.int (1 : Int) 0), (Value.int (0 : Int) 0), (Value.int (0 : Int) 0), (Value.int (3 : Int) 0), (Value.ref 673), (Value.bool Bool.true), (Value.int (388 : Int) 0), (Value.ref 674), Value.none, (Value.ref 675), (Value.ref 676), (Value.ref 677), (Value.int (1201 : Int) 0), (Value.int (491 : Int) 0), (zV "/claim/cut.py" 1202)]) #[])
noncomputable def zo679_9 : ZO := fun P => (Obj.mk (Value.type "function") none (Data.func (FuncData.mk (zS "getvalue") (zS "StringIO.getvalue") (zpa (zF (zB zT 24) 21)) (FuncBody.stmts (zbo (zF (zB zT 24) 21))) (zsc (zF (zB zT 24) 28)) 3 [] Value.none Value.none Value.none (zV "io" 653) none (Value.ref 678) Value.none 0)) #[])
noncomputable def zo682_9 : ZO := fun P => (Obj.mk (Value.type "tuple") none (Data.seq #[(zV "self" 1207)] 0) #[])
noncomputable def zo684_9 : ZO := fun P => (Obj.mk Value.none none (Data.func (FuncData.mk (zS "tell") (zS "StringIO.tell") (zpa (zF (zB zT 24) 22)) (FuncBody.stmts (zbo (zF (zB zT 24) 22))) (zsc (zF (zB zT 24) 28)) 0 [] Value.none Value.none Value.none Value.none none Value.none Value.none 0)) #[])
noncomputable def zo685_9 : ZO := fun P => (Obj.mk (Value.type "code") none (Data.fields #[(zV "tell" 1204), (zV "StringIO.tell" 1205), (zV "/claim/cut.py" 1206), (Value.int (495 : Int) 0), (Value.int (1 : Int) 0), (Value.int (0 : Int) 0), (Value.int (0 : Int) 0), (Value.int (3 : Int) 0), (Value.ref 680), (Value.bool Bool.true), (Value.int (388 : Int) 0), (Value.ref 681), Value.none, (Value.ref 682), (Value.ref 683), (Value.ref 684), (Value.int (1208 : Int) 0), (Value.int (495 : Int) 0), (zV "/claim/cut.py" 1209)]) #[])
noncomputable def zo686_9 : ZO := fun P => (Obj.mk (Value.type "function") none (Data.func (FuncData.mk (zS "tell") (zS "StringIO.tell") (zpa (zF (zB zT 24) 22)) (FuncBody.stmts (zbo (zF (zB zT 24) 22))) (zsc (zF (zB zT 24) 28)) 3 [] Value.none Value.none Value.none (zV "io" 653) none (Value.ref 685) Value.none 0)) #[])
noncomputable def zo687_9 : ZO := fun P => (Obj.mk (Value.type "tuple") none (Data.seq #[(Value.int (0 : Int) 1211)] 0) #[])
noncomputable def zo690_9 : ZO := fun P => (Obj.mk (Value.type "tuple") none (Data.seq #[(zV "self" 1215), (zV "pos" 1216), (zV "whence" 1217)] 0) #[])
noncomputable def zo692_9 : ZO := fun P => (Obj.mk Value.none none (Data.func (FuncData.mk (zS "seek") (zS "StringIO.seek") (zpa (zF (zB zT 24) 23)) (FuncBody.stmts (zbo (zF (zB zT 24) 23))) (zsc (zF (zB zT 24) 23)) 0 [] Value.none Value.none Value.none Value.none none Value.none Value.none 0)) #[])
noncomputable def zo693_9 : ZO := fun P => (Obj.mk (Value.type "code") none (Data.fields #[(zV "seek" 1212), (zV "StringIO.seek" 1213), (zV "/claim/cut.py" 1214), (Value.int (499 : Int) 0), (Value.int (3 : Int) 0), (Value.int (3 : Int) 0), (Value.int (0 : Int) 0), (Value.int (3 : Int) 0), (Value.ref 688), (Value.bool Bool.true), (Value.int (388 : Int) 0), (Value.ref 689), Value.none, (Value.ref 690), (Value.ref 691), (Value.ref 692), (Value.int (1218 : Int) 0), (Value.int (499 : Int) 0), (zV "/claim/cut.py" 1219)]) #[])
noncomputable def zo694_9 : ZO := fun P => (Obj.mk (Value.type "function") none (Data.func (FuncData.mk (zS "seek") (zS "StringIO.seek") (zpa (zF (zB zT 24) 23)) (FuncBody.stmts (zbo (zF (zB zT 24) 23))) (zsc (zF (zB zT 24) 23)) 3 [] (Value.ref 687) Value.none Value.none (zV "io" 653) none (Value.ref 693) Value.none 0)) #[])
noncomputable def zo698_9 : ZO := fun P => (Obj.mk (Value.type "tuple") none (Data.seq #[(zV "self" 1224), (zV "pos" 1225)] 0) #[])
noncomputable def zo700_9 : ZO := fun P => (Obj.mk Value.none none (Data.func (FuncData.mk (zS "truncate") (zS "StringIO.truncate") (zpa (zF (zB zT 24) 24)) (FuncBody.stmts (zbo (zF (zB zT 24) 24))) (zsc (zF (zB zT 24) 24)) 0 [] Value.none Value.none Value.none Value.none none Value.none Value.none 0)) #[])
noncomputable def zo701_9 : ZO := fun P => (Obj.mk (Value.type "code") none (Data.fields #[(zV "truncate" 1221), (zV "StringIO.truncate" 1222), (zV "/claim/cut.py" 1223), (Value.int (516 : Int) 0), (Value.int (2 : Int) 0), (Value.int (2 : Int) 0), (Value.int (0 : Int) 0), (Value.int (3 : Int) 0), (Value.ref 696), (Value.bool Bool.true), (Value.int (388 : Int) 0), (Value.ref 697), Value.none, (Value.ref 698), (Value.ref 699), (Value.ref 700), (Value.int (1226 : Int) 0), (Value.int (516 : Int) 0), (zV "/claim/cut.py" 1227)]) #[])
noncomputable def zo702_9 : ZO := fun P => (Obj.mk (Value.type "function") none (Data.func (FuncData.mk (zS "truncate") (zS "StringIO.truncate") (zpa (zF (zB zT 24) 24)) (FuncBody.stmts (zbo (zF (zB zT 24) 24))) (zsc (zF (zB zT 24) 24)) 3 [] (Value.ref 695) Value.none Value.none (zV "io" 653) none (Value.ref 701) Value.none 0)) #[])
noncomputable def zo703_9 : ZO := fun P => (Obj.mk (Value.type "tuple") none (Data.seq #[(Value.int (-(1 : Int)) 1230)] 0) #[])
noncomputable def zo706_9 : ZO := fun P => (Obj.mk (Value.type "tuple") none (Data.seq #[(zV "self" 1234), (zV "size" 1235), (zV "start" 1236), (zV "stop" 1237)] 0) #[])
noncomputable def zo708_9 : ZO := fun P => (Obj.mk Value.none none (Data.func (FuncData.mk (zS "read") (zS "StringIO.read") (zpa (zF (zB zT 24) 25)) (FuncBody.stmts (zbo (zF (zB zT 24) 25))) (zsc (zF (zB zT 24) 25)) 0 [] Value.none Value.none Value.none Value.none none Value.none Value.none 0)) #[])
noncomputable def zo709_9 : ZO := fun P => (Obj.mk (Value.type "code") none (Data.fields #[(zV "read" 1231), (zV "StringIO.read" 1232), (zV "/claim/cut.py" 1233), (Value.int (519 : Int) 0), (Value.int (2 : Int) 0), (Value.int (2 : Int) 0), (Value.int (0 : Int) 0), (Value.int (3 : Int) 0), (Value.ref 704), (Value.bool Bool.true), (Value.int (388 : Int) 0), (Value.ref 705), Value.none, (Value.ref 706), (Value.ref 707), (Value.ref 708), (Value.int (1238 : Int) 0), (Value.int (519 : Int) 0), (zV "/claim/cut.py" 1239)]) #[])
noncomputable def zo710_9 : ZO := fun P => (Obj.mk (Value.type "function") none (Data.func (FuncData.mk (zS "read") (zS "StringIO.read") (zpa (zF (zB zT 24) 25)) (FuncBody.stmts (zbo (zF (zB zT 24) 25))) (zsc (zF (zB zT 24) 25)) 3 [] (Value.ref 703) Value.none Value.none (zV "io" 653) none (Value.ref 709) Value.none 0)) #[])
noncomputable def zo711_9 : ZO := fun P => (Obj.mk (Value.type "tuple") none (Data.seq #[(Value.int (-(1 : Int)) 1242)] 0) #[])
noncomputable def zo714_9 : ZO := fun P => (Obj.mk (Value.type "tuple") none (Data.seq #[(zV "self" 1246), (zV "size" 1247)] 0) #[])
noncomputable def zo716_9 : ZO := fun P => (Obj.mk Value.none none (Data.func (FuncData.mk (zS "readline") (zS "StringIO.readline") (zpa (zF (zB zT 24) 26)) (FuncBody.stmts (zbo (zF (zB zT 24) 26))) (zsc (zF (zB zT 24) 26)) 0 [] Value.none Value.none Value.none Value.none none Value.none Value.none 0)) #[])
noncomputable def zo717_9 : ZO := fun P => (Obj.mk (Value.type "code") none (Data.fields #[(zV "readline" 1243), (zV "StringIO.readline" 1244), (zV "/claim/cut.py" 1245), (Value.int (533 : Int) 0), (Value.int (2 : Int) 0), (Value.int (2 : Int) 0), (Value.int (0 : Int) 0), (Value.int (3 : Int) 0), (Value.ref 712), (Value.bool Bool.true), (Value.int (388 : Int) 0), (Value.ref 713), Value.none, (Value.ref 714), (Value.ref 715), (Value.ref 716), (Value.int (1248 : Int) 0), (Value.int (533 : Int) 0), (zV "/claim/cut.py" 1249)]) #[])
noncomputable def zo718_9 : ZO := fun P => (Obj.mk (Value.type "function") none (Data.func (FuncData.mk (zS "readline") (zS "StringIO.readline") (zpa (zF (zB zT 24) 26)) (FuncBody.stmts (zbo (zF (zB zT 24) 26))) (zsc (zF (zB zT 24) 26)) 3 [] (Value.ref 711) Value.none Value.none (zV "io" 653) none (Value.ref 717) Value.none 0)) #[])
noncomputable def zo719_9 : ZO := fun P => (Obj.mk (Value.type "tuple") none (Data.seq #[(Value.int (-(1 : Int)) 1252)] 0) #[])
noncomputable def zo722_9 : ZO := fun P => (Obj.mk (Value.type "tuple") none (Data.seq #[(zV "self" 1256), (zV "hint" 1257)] 0) #[])
noncomputable def zo724_9 : ZO := fun P => (Obj.mk Value.none none (Data.func (FuncData.mk (zS "readlines") (zS "StringIO.readlines") (zpa (zF (zB zT 24) 27)) (FuncBody.stmts (zbo (zF (zB zT 24) 27))) (zsc (zF (zB zT 24) 27)) 0 [] Value.none Value.none Value.none Value.none none Value.none Value.none 0)) #[])
noncomputable def zo725_9 : ZO := fun P => (Obj.mk (Value.type "code") none (Data.fields #[(zV "readlines" 1253), (zV "StringIO.readlines" 1254), (zV "/claim/cut.py" 1255), (Value.int (540 : Int) 0), (Value.int (2 : Int) 0), (Value.int (2 : Int) 0), (Value.int (0 : Int) 0), (Value.int (3 : Int) 0), (Value.ref 720), (Value.bool Bool.true), (Value.int (388 : Int) 0), (Value.ref 721), Value.none, (Value.ref 722), (Value.ref 723), (Value.ref 724), (Value.int (1258 : Int) 0), (Value.int (540 : Int) 0), (zV "/claim/cut.py" 1259)]) #[])
noncomputable def zo726_9 : ZO := fun P => (Obj.mk (Value.type "function") none (Data.func (FuncData.mk (zS "readlines") (zS "StringIO.readlines") (zpa (zF (zB zT 24) 27)) (FuncBody.stmts (zbo (zF (zB zT 24) 27))) (zsc (zF (zB zT 24) 27)) 3 [] (Value.ref 719) Value.none Value.none (zV "io" 653) none (Value.ref 725) Value.none 0)) #[])
noncomputable def zo729_9 : ZO := fun P => (Obj.mk (Value.type "tuple") none (Data.seq #[(zV "self" 1264)] 0) #[])
noncomputable def zo731_9 : ZO := fun P => (Obj.mk Value.none none (Data.func (FuncData.mk (zS "__iter__") (zS "StringIO.__iter__") (zpa (zF (zB zT 24) 28)) (FuncBody.stmts (zbo (zF (zB zT 24) 28))) (zsc (zF (zB zT 24) 28)) 0 [] Value.none Value.none Value.none Value.none none Value.none Value.none 0)) #[])
noncomputable def zo732_9 : ZO := fun P => (Obj.mk (Value.type "code") none (Data.fields #[(zV "__iter__" 1261), (zV "StringIO.__iter__" 1262), (zV "/claim/cut.py" 1263), (Value.int (543 : Int) 0), (Value.int (1 : Int) 0), (Value.int (0 : Int) 0), (Value.int (0 : Int) 0), (Value.int (3 : Int) 0), (Value.ref 727), (Value.bool Bool.true), (Value.int (388 : Int) 0), (Value.ref 728), Value.none, (Value.ref 729), (Value.ref 730), (Value.ref 731), (Value.int (1265 : Int) 0), (Value.int (543 : Int) 0), (zV "/claim/cut.py" 1266)]) #[])
noncomputable def zo733_9 : ZO := fun P => (Obj.mk (Value.type "function") none (Data.func (FuncData.mk (zS "__iter__") (zS "StringIO.__iter__") (zpa (zF (zB zT 24) 28)) (FuncBody.stmts (zbo (zF (zB zT 24) 28))) (zsc (zF (zB zT 24) 28)) 3 [] Value.none Value.none Value.none (zV "io" 653) none (Value.ref 732) Value.none 0)) #[])
noncomputable def zo736_9 : ZO := fun P => (Obj.mk (Value.type "tuple") none (Data.seq #[(zV "self" 1271), (zV "line" 1272)] 0) #[])
noncomputable def zo738_9 : ZO := fun P => (Obj.mk Value.none none (Data.func (FuncData.mk (zS "__next__") (zS "StringIO.__next__") (zpa (zF (zB zT 24) 29)) (FuncBody.stmts (zbo (zF (zB zT 24) 29))) (zsc (zF (zB zT 24) 29)) 0 [] Value.none Value.none Value.none Value.none none Value.none Value.none 0)) #[])
noncomputable def zo739_9 : ZO := fun P => (Obj.mk (Value.type "code") none (Data.fields #[(zV "__next__" 1268), (zV "StringIO.__next__" 1269), (zV "/claim/cut.py" 1270), (Value.int (547 : Int) 0), (Value.int (1 : Int) 0), (Value.int (0 : Int) 0), (Value.int (0 : Int) 0), (Value.int (3 : Int) 0), (Value.ref 734), (Value.bool Bool.true), (Value.int (388 : Int) 0), (Value.ref 735), Value.none, (Value.ref 736), (Value.ref 737), (Value.ref 738), (Value.int (1273 : Int) 0), (Value.int (547 : Int) 0), (zV "/claim/cut.py" 1274)]) #[])
noncomputable def zo740_9 : ZO := fun P => (Obj.mk (Value.type "function") none (Data.func (FuncData.mk (zS "__next__") (zS "StringIO.__next__") (zpa (zF (zB zT 24) 29)) (FuncBody.stmts (zbo (zF (zB zT 24) 29))) (zsc (zF (zB zT 24) 29)) 3 [] Value.none Value.none Value.none (zV "io" 653) none (Value.ref 739) Value.none 0)) #[])
noncomputable def zo743_9 : ZO := fun P => (Obj.mk (Value.type "tuple") none (Data.seq #[(zV "self" 1279), (zV "s" 1280), (zV "n" 1281), (zV "m" 1282), (zV "start" 1283), (zV "buf" 1284)] 0) #[])
noncomputable def zo745_9 : ZO := fun P => (Obj.mk Value.none none (Data.func (FuncData.mk (zS "write") (zS "StringIO.write") (zpa (zF (zB zT 24) 30)) (FuncBody.stmts (zbo (zF (zB zT 24) 30))) (zsc (zF (zB zT 24) 30)) 0 [] Value.none Value.none Value.none Value.none none Value.none Value.none 0)) #[])
noncomputable def zo746_9 : ZO := fun P => (Obj.mk (Value.type "code") none (Data.fields #[(zV "write" 1276), (zV "StringIO.write" 1277), (zV "/claim/cut.py" 1278), (Value.int (554 : Int) 0), (Value.int (2 : Int) 0), (Value.int (2 : Int) 0), (Value.int (0 : Int) 0), (Value.int (3 : Int) 0), (Value.ref 741), (Value.bool Bool.true), (Value.int (388 : Int) 0), (Value.ref 742), Value.none, (Value.ref 743), (Value.ref 744), (Value.ref 745), (Value.int (1285 : Int) 0), (Value.int (554 : Int) 0), (zV "/claim/cut.py" 1286)]) #[])
noncomputable def zo747_9 : ZO := fun P => (Obj.mk (Value.type "function") none (Data.func (FuncData.mk (zS "write") (zS "StringIO.write") (zpa (zF (zB zT 24) 30)) (FuncBody.stmts (zbo (zF (zB zT 24) 30))) (zsc (zF (zB zT 24) 30)) 3 [] Value.none Value.none Value.none (zV "io" 653) none (Value.ref 746) Value.none 0)) #[])
noncomputable def zo750_9 : ZO := fun P => (Obj.mk (Value.type "tuple") none (Data.seq #[(zV "self" 1291), (zV "lines" 1292)] 0) #[])
noncomputable def zo752_9 : ZO := fun P => (Obj.mk Value.none none (Data.func (FuncData.mk (zS "writelines") (zS "StringIO.writelines") (zpa (zF (zB zT 24) 31)) (FuncBody.stmts (zbo (zF (zB zT 24) 31))) (zsc (zF (zB zT 24) 31)) 0 [] Value.none Value.none Value.none Value.none none Value.none Value.none 0)) #[])
noncomputable def zo753_9 : ZO := fun P => (Obj.mk (Value.type "code") none (Data.fields #[(zV "writelines" 1288), (zV "StringIO.writelines" 1289), (zV "/claim/cut.py" 1290), (Value.int (573 : Int) 0), (Value.int (2 : Int) 0), (Value.int (2 : Int) 0), (Value.int (0 : Int) 0), (Value.int (3 : Int) 0), (Value.ref 748), (Value.bool Bool.true), (Value.int (388 : Int) 0), (Value.ref 749), Value.none, (Value.ref 750), (Value.ref 751), (Value.ref 752), (Value.int (1293 : Int) 0), (Value.int (573 : Int) 0), (zV "/claim/cut.py" 1294)]) #[])
noncomputable def zo754_9 : ZO := fun P => (Obj.mk (Value.type "function") none (Data.func (FuncData.mk (zS "writelines") (zS "StringIO.writelines") (zpa (zF (zB zT 24) 31)) (FuncBody.stmts (zbo (zF (zB zT 24) 31))) (zsc (zF (zB zT 24) 31)) 3 [] Value.none Value.none Value.none (zV "io" 653) none (Value.ref 753) Value.none 0)) #[])
noncomputable def zo757_9 : ZO := fun P => (Obj.mk (Value.type "tuple") none (Data.seq #[(zV "self" 1299)] 0) #[])
noncomputable def zo759_9 : ZO := fun P => (Obj.mk Value.none none (Data.func (FuncData.mk (zS "__repr__") (zS "StringIO.__repr__") (zpa (zF (zB zT 24) 32)) (FuncBody.stmts (zbo (zF (zB zT 24) 32))) (zsc (zF (zB zT 24) 32)) 0 [] Value.none Value.none Value.none Value.none none Value.none Value.none 0)) #[])
noncomputable def zo760_9 : ZO := fun P => (Obj.mk (Value.type "code") none (Data.fields #[(zV "__repr__" 1296), (zV "StringIO.__repr__" 1297), (zV "/claim/cut.py" 1298), (Value.int (576 : Int) 0), (Value.int (1 : Int) 0), (Value.int (0 : Int) 0), (Value.int (0 : Int) 0), (Value.int (3 : Int) 0), (Value.ref 755), (Value.bool Bool.true), (Value.int (388 : Int) 0), (Value.ref 756), Value.none, (Value.ref 757), (Value.ref 758), (Value.ref 759), (Value.int (1300 : Int) 0), (Value.int (576 : Int) 0), (zV "/claim/cut.py" 1301)]) #[])
noncomputable def zo761_9 : ZO := fun P => (Obj.mk (Value.type "function") none (Data.func (FuncData.mk (zS "__repr__") (zS "StringIO.__repr__") (zpa (zF (zB zT 24) 32)) (FuncBody.stmts (zbo (zF (zB zT 24) 32))) (zsc (zF (zB zT 24) 32)) 3 [] Value.none Value.none Value.none (zV "io" 653) none (Value.ref 760) Value.none 0)) #[])
noncomputable def zo762_9 : ZO := fun P => (Obj.mk (Value.type "tuple") none (Data.seq #[(zV "__buf" 1303), (zV "__newline" 1304), (zV "__pos" 1305)] 0) #[])
noncomputable def zo763_9 : ZO := fun P => (Obj.mk (Value.type "dict") none (Data.dict #[(zE P (zS "__module__") 1030 (zV "_io" 1035)), (zE P (zS "__firstlineno__") 1034 (Value.int (372 : Int) 1033)), (zE P (zS "__init__") 1047 (Value.ref 534)), (zE P (zS "_StringIO__translated") 1056 (Value.ref 541)), (zE P (zS "_StringIO__check") 1063 (Value.ref 548)), (zE P (zS "_StringIO__check_dot") 1070 (Value.ref 555)), (zE P (zS "_StringIO__line") 1085 (Value.ref 562)), (zE P (zS "closed") 1093 (Value.ref 570)), (zE P (zS "line_buffering") 1101 (Value.ref 578)), (zE P (zS "newlines") 1109 (Value.ref 586)), (zE P (zS "encoding") 1117 (Value.ref 594)), (zE P (zS "errors") 1125 (Value.ref 602)), (zE P (zS "close") 1132 (Value.ref 609)), (zE P (zS "__enter__") 1139 (Value.ref 616)), (zE P (zS "__exit__") 1147 (Value.ref 623)), (zE P (zS "readable") 1154 (Value.ref 630)), (zE P (zS "writable") 1161 (Value.ref 637)), (zE P (zS "seekable") 1168 (Value.ref 644)), (zE P (zS "isatty") 1175 (Value.ref 651)), (zE P (zS "flush") 1182 (Value.ref 658)), (zE P (zS "fileno") 1189 (Value.ref 665)), (zE P (zS "detach") 1196 (Value.ref 672)), (zE P (zS "getvalue") 1203 (Value.ref 679)), (zE P (zS "tell") 1210 (Value.ref 686)), (zE P (zS "seek") 1220 (Value.ref 694)), (zE P (zS "truncate") 1228 (Value.ref 702)), (zE P (zS "read") 1240 (Value.ref 710)), (zE P (zS "readline") 1250 (Value.ref 718)), (zE P (zS "readlines") 1260 (Value.ref 726)), (zE P (zS "__iter__") 1267 (Value.ref 733)), (zE P (zS "__next__") 1275 (Value.ref 740)), (zE P (zS "write") 1287 (Value.ref 747)), (zE P (zS "writelines") 1295 (Value.ref 754)), (zE P (zS "__repr__") 1302 (Value.ref 761)), (zE P (zS "__static_attributes__") 1306 (Value.ref 762)), (zE P (zS "__doc__") 1307 Value.none)] 2) #[])
noncomputable def zo764_9 : ZO := fun P => (Obj.mk (Value.type "type") none (Data.cls (ClassData.mk (zS "StringIO") [(Value.ref 287)] [(Value.ref 764), (Value.ref 287), (Value.ref 260), (Value.type "object")] 763 (zS "StringIO") Bool.true [] [] Bool.false none Bool.false)) #[(some (Value.ref 520)), none, (some (zV "StringIO" 1023)), (some (zV "StringIO" 1031)), (some Value.none), (some (Value.bool Bool.true))])
noncomputable def zo765_9 : ZO := fun P => (Obj.mk (Value.type "super") none (Data.fields #[(Value.ref 764), (Value.ref 764), (Value.ref 764)]) #[])
noncomputable def zo766_9 : ZO := fun P => (Obj.mk (Value.type "builtin_function_or_method") none (Data.fields #[(Value.builtin "object.__init_subclass__"), (Value.ref 764)]) #[])
noncomputable def zt5 : Params → BT := fun P => (.node (zo0_0 P) (.node (zo1_2 P) (.node (zo3_9 P) (.node (zo7_0 P) (.node (zo7_0 P) (.node (zo31_2 P) (.node (zo6_0 P) (.node (zo8_0 P) (.node (zo255_7 P) (.node (zo7_0 P) .nil .nil) .nil) (.node (zo7_0 P) (.node (zo8_0 P) .nil .nil) .nil)) (.node (zo7_0 P) (.node (zo7_0 P) (.node (zo575_9 P) .nil .nil) .nil) (.node (zo447_8 P) (.node (zo703_9 P) .nil .nil) .nil))) (.node (zo95_6 P) (.node (zo159_6 P) (.node (zo287_9 P) (.node (zo8_0 P) .nil .nil) .nil) (.node (zo415_8 P) (.node (zo671_9 P) .nil .nil) .nil)) (.node (zo223_7 P) (.node (zo7_0 P) (.node (zo607_9 P) .nil .nil) .nil) (.node (zo479_8 P) (.node (zo8_0 P) .nil .nil) .nil)))) (.node (zo47_2 P) (.node (zo79_6 P) (.node (zo143_6 P) (.node (zo271_7 P) (.node (zo527_9 P) .nil .nil) .nil) (.node (zo399_8 P) (.node (zo7_0 P) .nil .nil) .nil)) (.node (zo207_6 P) (.node (zo8_0 P) (.node (zo591_9 P) .nil .nil) .nil) (.node (zo463_8 P) (.node (zo719_9 P) .nil .nil) .nil))) (.node (zo7_0 P) (.node (zo175_6 P) (.node (zo303_8 P) (.node (zo7_0 P) .nil .nil) .nil) (.node (zo431_8 P) (.node (zo687_9 P) .nil .nil) .nil)) (.node (zo239_7 P) (.node (zo367_8 P) (.node (zo623_9 P) .nil .nil) .nil) (.node (zo8_0 P) (.node (zo7_0 P) .nil .nil) .nil))))) (.node (zo23_1 P) (.node (zo39_2 P) (.node (zo71_6 P) (.node (zo135_6 P) (.node (zo263_7 P) (.node (zo519_8 P) .nil .nil) .nil) (.node (zo8_0 P) (.node (zo647_9 P) .nil .nil) .nil)) (.node (zo8_0 P) (.node (zo7_0 P) (.node (zo583_9 P) .nil .nil) .nil) (.node (zo455_8 P) (.node (zo711_9 P) .nil .nil) .nil))) (.node (zo103_6 P) (.node (zo167_6 P) (.node (zo295_8 P) (.node (zo551_9 P) .nil .nil) .nil) (.node (zo423_8 P) (.node (zo679_9 P) .nil .nil) .nil)) (.node (zo231_7 P) (.node (zo359_8 P) (.node (zo615_9 P) .nil .nil) .nil) (.node (zo7_0 P) (.node (zo743_9 P) .nil .nil) .nil)))) (.node (zo7_0 P) (.node (zo87_6 P) (.node (zo7_0 P) (.node (zo112_6 P) (.node (zo7_0 P) .nil .nil) .nil) (.node (zo7_0 P) (.node (zo663_9 P) .nil .nil) .nil)) (.node (zo215_6 P) (.node (zo343_8 P) (.node (zo599_9 P) .nil .nil) .nil) (.node (zo471_8 P) (.node (zo7_0 P) .nil .nil) .nil))) (.node (zo7_0 P) (.node (zo183_6 P) (.node (zo311_8 P) (.node (zo567_9 P) .nil .nil) .nil) (.node (zo439_8 P) (.node (zo64_6 P) .nil .nil) .nil)) (.node (zo7_0 P) (.node (zo375_8 P) (.node (zo7_0 P) .nil .nil) .nil) (.node (zo503_8 P) (.node (zo759_9 P) .nil .nil) .nil)))))) (.node (zo11_3 P) (.node (zo19_1 P) (.node (zo35_2 P) (.node (zo7_0 P) (.node (zo131_6 P) (.node (zo259_7 P) (.node (zo515_8 P) .nil .nil) .nil) (.node (zo387_8 P) (.node (zo643_9 P) .nil .nil) .nil)) (.node (zo195_6 P) (.node (zo323_8 P) (.node (zo7_0 P) .nil .nil) .nil) (.node (zo8_0 P) (.node (zo7_0 P) .nil .nil) .nil))) (.node (zo99_6 P) (.node (zo112_6 P) (.node (zo112_6 P) (.node (zo547_9 P) .nil .nil) .nil) (.node (zo7_0 P) (.node (zo675_9 P) .nil .nil) .nil)) (.node (zo7_0 P) (.node (zo7_0 P) (.node (zo8_0 P) .nil .nil) .nil) (.node (zo7_0 P) (.node (zo739_9 P) .nil .nil) .nil)))) (.node (zo7_0 P) (.node (zo8_0 P) (.node (zo147_6 P) (.node (zo275_8 P) (.node (zo7_0 P) .nil .nil) .nil) (.node (zo403_8 P) (.node (zo7_0 P) .nil .nil) .nil)) (.node (zo211_6 P) (.node (zo339_8 P) (.node (zo7_0 P) .nil .nil) .nil) (.node (zo467_8 P) (.node (zo7_0 P) .nil .nil) .nil))) (.node (zo115_6 P) (.node (zo179_6 P) (.node (zo307_8 P) (.node (zo7_0 P) .nil .nil) .nil) (.node (zo7_0 P) (.node (zo7_0 P) .nil .nil) .nil)) (.node (zo243_7 P) (.node (zo371_8 P) (.node (zo7_0 P) .nil .nil) .nil) (.node (zo499_8 P) (.node (zo7_0 P) .nil .nil) .nil))))) (.node (zo27_2 P) (.node (zo43_2 P) (.node (zo8_0 P) (.node (zo139_6 P) (.node (zo112_6 P) (.node (zo7_0 P) .nil .nil) .nil) (.node (zo395_8 P) (.node (zo651_9 P) .nil .nil) .nil)) (.node (zo203_6 P) (.node (zo331_8 P) (.node (zo7_0 P) .nil .nil) .nil) (.node (zo459_8 P) (.node (zo7_0 P) .nil .nil) .nil))) (.node (zo7_0 P) (.node (zo8_0 P) (.node (zo8_0 P) (.node (zo555_9 P) .nil .nil) .nil) (.node (zo7_0 P) (.node (zo7_0 P) .nil .nil) .nil)) (.node (zo8_0 P) (.node (zo8_0 P) (.node (zo619_9 P) .nil .nil) .nil) (.node (zo491_8 P) (.node (zo747_9 P) .nil .nil) .nil)))) (.node (zo59_6 P) (.node (zo8_0 P) (.node (zo155_6 P) (.node (zo283_7 P) (.node (zo539_9 P) .nil .nil) .nil) (.node (zo7_0 P) (.node (zo8_0 P) .nil .nil) .nil)) (.node (zo219_7 P) (.node (zo347_8 P) (.node (zo7_0 P) .nil .nil) .nil) (.node (zo475_8 P) (.node (zo731_9 P) .nil .nil) .nil))) (.node (zo123_6 P) (.node (zo7_0 P) (.node (zo7_0 P) (.node (zo7_0 P) .nil .nil) .nil) (.node (zo7_0 P) (.node (zo7_0 P) .nil .nil) .nil)) (.node (zo7_0 P) (.node (zo7_0 P) (.node (zo635_9 P) .nil .nil) .nil) (.node (zo507_8 P) (.node (zo763_9 P) .nil .nil) .nil))))))) (.node (zo5_0 P) (.node (zo9_0 P) (.node (zo17_1 P) (.node (zo33_2 P) (.node (zo65_6 P) (.node (zo7_0 P) (.node (zo257_7 P) (.node (zo513_8 P) .nil .nil) .nil) (.node (zo385_8 P) (.node (zo7_0 P) .nil .nil) .nil)) (.node (zo193_6 P) (.node (zo321_8 P) (.node (zo577_9 P) .nil .nil) .nil) (.node (zo449_8 P) (.node (zo8_0 P) .nil .nil) .nil))) (.node (zo7_0 P) (.node (zo161_6 P) (.node (zo289_7 P) (.node (zo7_0 P) .nil .nil) .nil) (.node (zo417_8 P) (.node (zo7_0 P) .nil .nil) .nil)) (.node (zo8_0 P) (.node (zo353_8 P) (.node (zo609_9 P) .nil .nil) .nil) (.node (zo8_0 P) (.node (zo7_0 P) .nil .nil) .nil)))) (.node (zo49_2 P) (.node (zo81_6 P) (.node (zo145_6 P) (.node (zo7_0 P) (.node (zo8_0 P) .nil .nil) .nil) (.node (zo401_8 P) (.node (zo657_9 P) .nil .nil) .nil)) (.node (zo209_6 P) (.node (zo7_0 P) (.node (zo593_9 P) .nil .nil) .nil) (.node (zo7_0 P) (.node (zo8_0 P) .nil .nil) .nil))) (.node (zo113_6 P) (.node (zo7_0 P) (.node (zo7_0 P) (.node (zo561_9 P) .nil .nil) .nil) (.node (zo433_8 P) (.node (zo8_0 P) .nil .nil) .nil)) (.node (zo241_7 P) (.node (zo7_0 P) (.node (zo8_0 P) .nil .nil) .nil) (.node (zo7_0 P) (.node (zo753_9 P) .nil .nil) .nil))))) (.node (zo25_1 P) (.node (zo41_2 P) (.node (zo73_6 P) (.node (zo137_6 P) (.node (zo265_7 P) (.node (zo112_6 P) .nil .nil) .nil) (.node (zo7_0 P) (.node (zo649_9 P) .nil .nil) .nil)) (.node (zo7_0 P) (.node (zo329_8 P) (.node (zo585_9 P) .nil .nil) .nil) (.node (zo7_0 P) (.node (zo8_0 P) .nil .nil) .nil))) (.node (zo8_0 P) (.node (zo169_6 P) (.node (zo64_6 P) (.node (zo553_9 P) .nil .nil) .nil) (.node (zo425_8 P) (.node (zo8_0 P) .nil .nil) .nil)) (.node (zo233_7 P) (.node (zo361_8 P) (.node (zo7_0 P) .nil .nil) .nil) (.node (zo489_8 P) (.node (zo745_9 P) .nil .nil) .nil)))) (.node (zo57_6 P) (.node (zo89_6 P) (.node (zo153_6 P) (.node (zo7_0 P) (.node (zo537_9 P) .nil .nil) .nil) (.node (zo409_8 P) (.node (zo665_9 P) .nil .nil) .nil)) (.node (zo7_0 P) (.node (zo345_8 P) (.node (zo601_9 P) .nil .nil) .nil) (.node (zo7_0 P) (.node (zo729_9 P) .nil .nil) .nil))) (.node (zo121_6 P) (.node (zo8_0 P) (.node (zo8_0 P) (.node (zo569_9 P) .nil .nil) .nil) (.node (zo441_8 P) (.node (zo8_0 P) .nil .nil) .nil)) (.node (zo249_7 P) (.node (zo8_0 P) (.node (zo633_9 P) .nil .nil) .nil) (.node (zo505_8 P) (.node (zo761_9 P) .nil .nil) .nil)))))) (.node (zo13_1 P) (.node (zo21_1 P) (.node (zo37_2 P) (.node (zo69_6 P) (.node (zo7_0 P) (.node (zo261_7 P) (.node (zo517_8 P) .nil .nil) .nil) (.node (zo389_8 P) (.node (zo7_0 P) .nil .nil) .nil)) (.node (zo197_6 P) (.node (zo325_8 P) (.node (zo581_9 P) .nil .nil) .nil) (.node (zo7_0 P) (.node (zo709_9 P) .nil .nil) .nil))) (.node (zo101_6 P) (.node (zo7_0 P) (.node (zo7_0 P) (.node (zo7_0 P) .nil .nil) .nil) (.node (zo421_8 P) (.node (zo677_9 P) .nil .nil) .nil)) (.node (zo229_7 P) (.node (zo357_8 P) (.node (zo7_0 P) .nil .nil) .nil) (.node (zo485_8 P) (.node (zo7_0 P) .nil .nil) .nil)))) (.node (zo53_4 P) (.node (zo7_0 P) (.node (zo8_0 P) (.node (zo277_7 P) (.node (zo533_9 P) .nil .nil) .nil) (.node (zo8_0 P) (.node (zo661_9 P) .nil .nil) .nil)) (.node (zo213_6 P) (.node (zo7_0 P) (.node (zo597_9 P) .nil .nil) .nil) (.node (zo469_8 P) (.node (zo725_9 P) .nil .nil) .nil))) (.node (zo117_6 P) (.node (zo181_6 P) (.node (zo309_8 P) (.node (zo565_9 P) .nil .nil) .nil) (.node (zo437_8 P) (.node (zo693_9 P) .nil .nil) .nil)) (.node (zo112_6 P) (.node (zo373_8 P) (.node (zo629_9 P) .nil .nil) .nil) (.node (zo7_0 P) (.node (zo757_9 P) .nil .nil) .nil))))) (.node (zo29_3 P) (.node (zo45_2 P) (.node (zo7_0 P) (.node (zo7_0 P) (.node (zo7_0 P) (.node (zo525_9 P) .nil .nil) .nil) (.node (zo7_0 P) (.node (zo8_0 P) .nil .nil) .nil)) (.node (zo7_0 P) (.node (zo333_8 P) (.node (zo589_9 P) .nil .nil) .nil) (.node (zo461_8 P) (.node (zo717_9 P) .nil .nil) .nil))) (.node (zo109_6 P) (.node (zo7_0 P) (.node (zo7_0 P) (.node (zo8_0 P) .nil .nil) .nil) (.node (zo429_8 P) (.node (zo685_9 P) .nil .nil) .nil)) (.node (zo237_7 P) (.node (zo7_0 P) (.node (zo621_9 P) .nil .nil) .nil) (.node (zo493_8 P) (.node (zo8_0 P) .nil .nil) .nil)))) (.node (zo61_6 P) (.node (zo7_0 P) (.node (zo157_6 P) (.node (zo7_0 P) (.node (zo541_9 P) .nil .nil) .nil) (.node (zo413_8 P) (.node (zo7_0 P) .nil .nil) .nil)) (.node (zo221_7 P) (.node (zo8_0 P) (.node (zo605_9 P) .nil .nil) .nil) (.node (zo477_8 P) (.node (zo733_9 P) .nil .nil) .nil))) (.node (zo125_6 P) (.node (zo189_6 P) (.node (zo317_8 P) (.node (zo573_9 P) .nil .nil) .nil) (.node (zo445_8 P) (.node (zo701_9 P) .nil .nil) .nil)) (.node (zo253_7 P) (.node (zo381_8 P) (.node (zo637_9 P) .nil .nil) .nil) (.node (zo8_0 P) (.node (zo765_9 P) .nil .nil) .nil)))))))) (.node (zo2_7 P) (.node (zo4_0 P) (.node (zo8_0 P) (.node (zo16_1 P) (.node (zo32_2 P) (.node (zo64_6 P) (.node (zo128_6 P) (.node (zo256_7 P) (.node (zo512_8 P) .nil .nil) .nil) (.node (zo8_0 P) (.node (zo640_9 P) .nil .nil) .nil)) (.node (zo8_0 P) (.node (zo8_0 P) (.node (zo576_9 P) .nil .nil) .nil) (.node (zo448_8 P) (.node (zo7_0 P) .nil .nil) .nil))) (.node (zo96_6 P) (.node (zo160_6 P) (.node (zo288_7 P) (.node (zo544_9 P) .nil .nil) .nil) (.node (zo416_8 P) (.node (zo672_9 P) .nil .nil) .nil)) (.node (zo7_0 P) (.node (zo352_8 P) (.node (zo608_9 P) .nil .nil) .nil) (.node (zo7_0 P) (.node (zo736_9 P) .nil .nil) .nil)))) (.node (zo48_2 P) (.node (zo80_6 P) (.node (zo7_0 P) (.node (zo272_7 P) (.node (zo7_0 P) .nil .nil) .nil) (.node (zo7_0 P) (.node (zo656_9 P) .nil .nil) .nil)) (.node (zo7_0 P) (.node (zo336_8 P) (.node (zo592_9 P) .nil .nil) .nil) (.node (zo464_8 P) (.node (zo7_0 P) .nil .nil) .nil))) (.node (zo112_6 P) (.node (zo176_6 P) (.node (zo304_8 P) (.node (zo560_9 P) .nil .nil) .nil) (.node (zo432_8 P) (.node (zo7_0 P) .nil .nil) .nil)) (.node (zo240_7 P) (.node (zo368_8 P) (.node (zo7_0 P) .nil .nil) .nil) (.node (zo496_8 P) (.node (zo752_9 P) .nil .nil) .nil))))) (.node (zo24_1 P) (.node (zo40_2 P) (.node (zo72_6 P) (.node (zo7_0 P) (.node (zo264_7 P) (.node (zo520_9 P) .nil .nil) .nil) (.node (zo392_8 P) (.node (zo7_0 P) .nil .nil) .nil)) (.node (zo200_6 P) (.node (zo8_0 P) (.node (zo584_9 P) .nil .nil) .nil) (.node (zo456_8 P) (.node (zo7_0 P) .nil .nil) .nil))) (.node (zo7_0 P) (.node (zo168_6 P) (.node (zo296_8 P) (.node (zo7_0 P) .nil .nil) .nil) (.node (zo424_8 P) (.node (zo7_0 P) .nil .nil) .nil)) (.node (zo112_6 P) (.node (zo360_8 P) (.node (zo616_9 P) .nil .nil) .nil) (.node (zo8_0 P) (.node (zo7_0 P) .nil .nil) .nil)))) (.node (zo8_0 P) (.node (zo88_6 P) (.node (zo152_6 P) (.node (zo280_7 P) (.node (zo8_0 P) .nil .nil) .nil) (.node (zo408_8 P) (.node (zo664_9 P) .nil .nil) .nil)) (.node (zo216_6 P) (.node (zo7_0 P) (.node (zo600_9 P) .nil .nil) .nil) (.node (zo64_6 P) (.node (zo8_0 P) .nil .nil) .nil))) (.node (zo8_0 P) (.node (zo7_0 P) (.node (zo7_0 P) (.node (zo568_9 P) .nil .nil) .nil) (.node (zo440_8 P) (.node (zo7_0 P) .nil .nil) .nil)) (.node (zo248_7 P) (.node (zo7_0 P) (.node (zo8_0 P) .nil .nil) .nil) (.node (zo7_0 P) (.node (zo760_9 P) .nil .nil) .nil)))))) (.node (zo12_1 P) (.node (zo20_1 P) (.node (zo36_2 P) (.node (zo8_0 P) (.node (zo132_6 P) (.node (zo260_7 P) (.node (zo516_8 P) .nil .nil) .nil) (.node (zo388_8 P) (.node (zo644_9 P) .nil .nil) .nil)) (.node (zo196_6 P) (.node (zo324_8 P) (.node (zo8_0 P) .nil .nil) .nil) (.node (zo452_8 P) (.node (zo708_9 P) .nil .nil) .nil))) (.node (zo7_0 P) (.node (zo164_6 P) (.node (zo292_8 P) (.node (zo548_9 P) .nil .nil) .nil) (.node (zo8_0 P) (.node (zo7_0 P) .nil .nil) .nil)) (.node (zo228_7 P) (.node (zo8_0 P) (.node (zo612_9 P) .nil .nil) .nil) (.node (zo484_8 P) (.node (zo740_9 P) .nil .nil) .nil)))) (.node (zo52_9 P) (.node (zo84_6 P) (.node (zo7_0 P) (.node (zo276_7 P) (.node (zo532_9 P) .nil .nil) .nil) (.node (zo7_0 P) (.node (zo8_0 P) .nil .nil) .nil)) (.node (zo212_6 P) (.node (zo340_8 P) (.node (zo8_0 P) .nil .nil) .nil) (.node (zo7_0 P) (.node (zo724_9 P) .nil .nil) .nil))) (.node (zo116_6 P) (.node (zo7_0 P) (.node (zo7_0 P) (.node (zo8_0 P) .nil .nil) .nil) (.node (zo8_0 P) (.node (zo692_9 P) .nil .nil) .nil)) (.node (zo7_0 P) (.node (zo7_0 P) (.node (zo628_9 P) .nil .nil) .nil) (.node (zo500_8 P) (.node (zo8_0 P) .nil .nil) .nil))))) (.node (zo28_2 P) (.node (zo44_2 P) (.node (zo76_6 P) (.node (zo64_6 P) (.node (zo268_7 P) (.node (zo524_9 P) .nil .nil) .nil) (.node (zo396_8 P) (.node (zo7_0 P) .nil .nil) .nil)) (.node (zo204_6 P) (.node (zo332_8 P) (.node (zo8_0 P) .nil .nil) .nil) (.node (zo7_0 P) (.node (zo716_9 P) .nil .nil) .nil))) (.node (zo108_6 P) (.node (zo172_6 P) (.node (zo300_8 P) (.node (zo7_0 P) .nil .nil) .nil) (.node (zo8_0 P) (.node (zo684_9 P) .nil .nil) .nil)) (.node (zo236_7 P) (.node (zo364_8 P) (.node (zo7_0 P) .nil .nil) .nil) (.node (zo492_8 P) (.node (zo7_0 P) .nil .nil) .nil)))) (.node (zo60_6 P) (.node (zo92_6 P) (.node (zo156_6 P) (.node (zo284_7 P) (.node (zo540_9 P) .nil .nil) .nil) (.node (zo8_0 P) (.node (zo668_9 P) .nil .nil) .nil)) (.node (zo7_0 P) (.node (zo7_0 P) (.node (zo8_0 P) .nil .nil) .nil) (.node (zo7_0 P) (.node (zo732_9 P) .nil .nil) .nil))) (.node (zo124_6 P) (.node (zo188_6 P) (.node (zo316_8 P) (.node (zo8_0 P) .nil .nil) .nil) (.node (zo8_0 P) (.node (zo700_9 P) .nil .nil) .nil)) (.node (zo8_0 P) (.node (zo380_8 P) (.node (zo636_9 P) .nil .nil) .nil) (.node (zo7_0 P) (.node (zo764_9 P) .nil .nil) .nil))))))) (.node (zo6_0 P) (.node (zo10_0 P) (.node (zo18_2 P) (.node (zo7_0 P) (.node (zo66_6 P) (.node (zo130_6 P) (.node (zo7_0 P) (.node (zo514_8 P) .nil .nil) .nil) (.node (zo7_0 P) (.node (zo642_9 P) .nil .nil) .nil)) (.node (zo7_0 P) (.node (zo7_0 P) (.node (zo578_9 P) .nil .nil) .nil) (.node (zo7_0 P) (.node (zo706_9 P) .nil .nil) .nil))) (.node (zo8_0 P) (.node (zo162_6 P) (.node (zo290_8 P) (.node (zo546_9 P) .nil .nil) .nil) (.node (zo418_8 P) (.node (zo8_0 P) .nil .nil) .nil)) (.node (zo226_7 P) (.node (zo354_8 P) (.node (zo7_0 P) .nil .nil) .nil) (.node (zo482_8 P) (.node (zo738_9 P) .nil .nil) .nil)))) (.node (zo50_2 P) (.node (zo7_0 P) (.node (zo146_6 P) (.node (zo274_7 P) (.node (zo530_9 P) .nil .nil) .nil) (.node (zo402_8 P) (.node (zo658_9 P) .nil .nil) .nil)) (.node (zo210_6 P) (.node (zo338_8 P) (.node (zo594_9 P) .nil .nil) .nil) (.node (zo8_0 P) (.node (zo722_9 P) .nil .nil) .nil))) (.node (zo7_0 P) (.node (zo8_0 P) (.node (zo8_0 P) (.node (zo562_9 P) .nil .nil) .nil) (.node (zo434_8 P) (.node (zo690_9 P) .nil .nil) .nil)) (.node (zo242_7 P) (.node (zo8_0 P) (.node (zo626_9 P) .nil .nil) .nil) (.node (zo498_8 P) (.node (zo754_9 P) .nil .nil) .nil))))) (.node (zo26_1 P) (.node (zo42_2 P) (.node (zo7_0 P) (.node (zo138_6 P) (.node (zo266_7 P) (.node (zo522_9 P) .nil .nil) .nil) (.node (zo394_8 P) (.node (zo650_9 P) .nil .nil) .nil)) (.node (zo202_6 P) (.node (zo7_0 P) (.node (zo586_9 P) .nil .nil) .nil) (.node (zo8_0 P) (.node (zo714_9 P) .nil .nil) .nil))) (.node (zo106_6 P) (.node (zo7_0 P) (.node (zo7_0 P) (.node (zo554_9 P) .nil .nil) .nil) (.node (zo64_6 P) (.node (zo682_9 P) .nil .nil) .nil)) (.node (zo7_0 P) (.node (zo7_0 P) (.node (zo8_0 P) .nil .nil) .nil) (.node (zo7_0 P) (.node (zo746_9 P) .nil .nil) .nil)))) (.node (zo7_0 P) (.node (zo7_0 P) (.node (zo154_6 P) (.node (zo8_0 P) (.node (zo7_0 P) .nil .nil) .nil) (.node (zo410_8 P) (.node (zo7_0 P) .nil .nil) .nil)) (.node (zo8_0 P) (.node (zo346_8 P) (.node (zo602_9 P) .nil .nil) .nil) (.node (zo8_0 P) (.node (zo7_0 P) .nil .nil) .nil))) (.node (zo7_0 P) (.node (zo186_6 P) (.node (zo314_8 P) (.node (zo570_9 P) .nil .nil) .nil) (.node (zo442_8 P) (.node (zo698_9 P) .nil .nil) .nil)) (.node (zo250_7 P) (.node (zo378_8 P) (.node (zo7_0 P) .nil .nil) .nil) (.node (zo506_8 P) (.node (zo762_9 P) .nil .nil) .nil)))))) (.node (zo14_1 P) (.node (zo22_1 P) (.node (zo38_2 P) (.node (zo7_0 P) (.node (zo8_0 P) (.node (zo262_7 P) (.node (zo518_8 P) .nil .nil) .nil) (.node (zo7_0 P) (.node (zo8_0 P) .nil .nil) .nil)) (.node (zo7_0 P) (.node (zo326_8 P) (.node (zo7_0 P) .nil .nil) .nil) (.node (zo454_8 P) (.node (zo710_9 P) .nil .nil) .nil))) (.node (zo102_6 P) (.node (zo166_6 P) (.node (zo294_8 P) (.node (zo8_0 P) .nil .nil) .nil) (.node (zo7_0 P) (.node (zo678_9 P) .nil .nil) .nil)) (.node (zo230_7 P) (.node (zo7_0 P) (.node (zo614_9 P) .nil .nil) .nil) (.node (zo486_8 P) (.node (zo8_0 P) .nil .nil) .nil)))) (.node (zo54_4 P) (.node (zo86_6 P) (.node (zo150_6 P) (.node (zo266_7 P) (.node (zo534_9 P) .nil .nil) .nil) (.node (zo406_8 P) (.node (zo7_0 P) .nil .nil) .nil)) (.node (zo214_6 P) (.node (zo8_0 P) (.node (zo7_0 P) .nil .nil) .nil) (.node (zo470_8 P) (.node (zo726_9 P) .nil .nil) .nil))) (.node (zo118_6 P) (.node (zo182_6 P) (.node (zo310_8 P) (.node (zo7_0 P) .nil .nil) .nil) (.node (zo7_0 P) (.node (zo694_9 P) .nil .nil) .nil)) (.node (zo246_7 P) (.node (zo374_8 P) (.node (zo630_9 P) .nil .nil) .nil) (.node (zo8_0 P) (.node (zo7_0 P) .nil .nil) .nil))))) (.node (zo30_2 P) (.node (zo19_1 P) (.node (zo78_6 P) (.node (zo8_0 P) (.node (zo8_0 P) (.node (zo526_9 P) .nil .nil) .nil) (.node (zo8_0 P) (.node (zo654_9 P) .nil .nil) .nil)) (.node (zo8_0 P) (.node (zo7_0 P) (.node (zo7_0 P) .nil .nil) .nil) (.node (zo462_8 P) (.node (zo718_9 P) .nil .nil) .nil))) (.node (zo110_6 P) (.node (zo174_6 P) (.node (zo302_8 P) (.node (zo558_9 P) .nil .nil) .nil) (.node (zo7_0 P) (.node (zo686_9 P) .nil .nil) .nil)) (.node (zo7_0 P) (.node (zo366_8 P) (.node (zo622_9 P) .nil .nil) .nil) (.node (zo7_0 P) (.node (zo750_9 P) .nil .nil) .nil)))) (.node (zo62_6 P) (.node (zo94_6 P) (.node (zo158_6 P) (.node (zo286_7 P) (.node (zo7_0 P) .nil .nil) .nil) (.node (zo7_0 P) (.node (zo670_9 P) .nil .nil) .nil)) (.node (zo222_7 P) (.node (zo350_8 P) (.node (zo7_0 P) .nil .nil) .nil) (.node (zo478_8 P) (.node (zo7_0 P) .nil .nil) .nil))) (.node (zo7_0 P) (.node (zo190_6 P) (.node (zo318_8 P) (.node (zo7_0 P) .nil .nil) .nil) (.node (zo7_0 P) (.node (zo702_9 P) .nil .nil) .nil)) (.node (zo7_0 P) (.node (zo382_8 P) (.node (zo7_0 P) .nil .nil) .nil) (.node (zo510_8 P) (.node (zo766_9 P) .nil .nil) .nil)))))))))
noncomputable def zs5 (w : World) (os : OsState) : SharedT := ⟨zt5 w.params, 767, (Life.mk [] [] [] 0 [] [] Bool.false #[] [] 0 Bool.false Bool.false Bool.false (0 : Int) [(2000 : Int), (10 : Int), (10 : Int)] Bool.false 0 Bool.true [] [] 0 Bool.false), #[], (Drawn.mk 0 0 0 0), 1310, os⟩
noncomputable def zo3_10 : ZO := fun P => (Obj.mk (Value.type "dict") none (Data.dict #[(zE P (zS "__name__") 165 (zV "law_ko0126_03" 1310)), (zE P (zS "__doc__") 166 Value.none), (zE P (zS "__package__") 167 Value.none), (zE P (zS "__loader__") 168 (Value.builtin "__main__.__loader__#opaque")), (zE P (zS "__spec__") 169 Value.none), (zE P (zS "__annotations__") 170 (Value.ref 6)), (zE P (zS "__builtins__") 171 (Value.ref 4)), (zE P (zS "__file__") 173 (zV "/claim/cut.py" 172)), (zE P (zS "__cached__") 174 Value.none), (zE P (zS "_sre") 275 (Value.ref 12)), (zE P (zS "datetime") 384 (Value.type "datetime.datetime")), (zE P (zS "timezone") 387 (Value.type "datetime.timezone")), (zE P (zS "_wall") 400 (Value.ref 61)), (zE P (zS "PLISTHEADER") 402 (Value.bytes #[60, 63, 120, 109, 108, 32, 118, 101, 114, 115, 105, 111, 110, 61, 34, 49, 46, 48, 34, 32, 101, 110, 99, 111, 100, 105, 110, 103, 61, 34, 85, 84, 70, 45, 56, 34, 63, 62, 10, 60, 33, 68, 79, 67, 84, 89, 80, 69, 32, 112, 108, 105, 115, 116, 32, 80, 85, 66, 76, 73, 67, 32, 34, 45, 47, 47, 65, 112, 112, 108, 101, 47, 47, 68, 84, 68, 32, 80, 76, 73, 83, 84, 32, 49, 46, 48, 47, 47, 69, 78, 34, 32, 34, 104, 116, 116, 112, 58, 47, 47, 119, 119, 119, 46, 97, 112, 112, 108, 101, 46, 99, 111, 109, 47, 68, 84, 68, 115, 47, 80, 114, 111, 112, 101, 114, 116, 121, 76, 105, 115, 116, 45, 49, 46, 48, 46, 100, 116, 100, 34, 62, 10] 401)), (zE P (zS "_controlCharPat") 436 (Value.ref 66)), (zE P (zS "_buffer") 446 (Value.ref 73)), (zE P (zS "_truth") 454 (Value.ref 80)), (zE P (zS "_B64") 456 (Value.bytes #[65, 66, 67, 68, 69, 70, 71, 72, 73, 74, 75, 76, 77, 78, 79, 80, 81, 82, 83, 84, 85, 86, 87, 88, 89, 90, 97, 98, 99, 100, 101, 102, 103, 104, 105, 106, 107, 108, 109, 110, 111, 112, 113, 114, 115, 116, 117, 118, 119, 120, 121, 122, 48, 49, 50, 51, 52, 53, 54, 55, 56, 57, 43, 47] 455)), (zE P (zS "b2a_base64") 470 (Value.ref 88)), (zE P (zS "_encode_base64") 485 (Value.ref 96)), (zE P (zS "_date_to_string") 493 (Value.ref 103)), (zE P (zS "_escape") 501 (Value.ref 110)), (zE P (zS "_DumbXMLWriter") 570 (Value.ref 157)), (zE P (zS "_PlistWriter") 652 (Value.ref 214)), (zE P (zS "_whence") 662 (Value.ref 223)), (zE P (zS "_index") 670 (Value.ref 230)), (zE P (zS "UnsupportedOperation") 692 (Value.ref 240)), (zE P (zS "IOBase") 724 (Value.ref 260)), (zE P (zS "BufferedIOBase") 742 (Value.ref 275)), (zE P (zS "TextIOBase") 760 (Value.ref 287)), (zE P (zS "BytesIO") 1022 (Value.ref 517)), (zE P (zS "StringIO") 1309 (Value.ref 764)), (zE P (zS "_law_signs") 1317 (Value.ref 771)), (zE P (zS "law") 1323 (Value.ref 776))] 34) #[])
noncomputable def zo52_10 : ZO := fun P => (Obj.mk Value.none none (Data.fields #[(Value.int (3 : Int) 0), (Value.int (0 : Int) 0), (Value.ref 60), (Value.int (9 : Int) 0), (Value.int (0 : Int) 0), (Value.ref 72), (Value.int (16 : Int) 0), (Value.int (0 : Int) 0), (Value.ref 79), (Value.int (22 : Int) 0), (Value.int (0 : Int) 0), (Value.ref 87), (Value.int (45 : Int) 0), (Value.int (0 : Int) 0), (Value.ref 95), (Value.int (52 : Int) 0), (Value.int (0 : Int) 0), (Value.ref 102), (Value.int (56 : Int) 0), (Value.int (0 : Int) 0), (Value.ref 109), (Value.int (66 : Int) 0), (Value.int (0 : Int) 0), (Value.ref 116), (Value.int (99 : Int) 0), (Value.int (0 : Int) 0), (Value.ref 167), (Value.int (176 : Int) 0), (Value.int (0 : Int) 0), (Value.ref 222), (Value.int (181 : Int) 0), (Value.int (0 : Int) 0), (Value.ref 229), (Value.int (188 : Int) 0), (Value.int (0 : Int) 0), (Value.ref 236), (Value.int (190 : Int) 0), (Value.int (0 : Int) 0), (Value.ref 249), (Value.int (197 : Int) 0), (Value.int (0 : Int) 0), (Value.ref 271), (Value.int (199 : Int) 0), (Value.int (0 : Int) 0), (Value.ref 283), (Value.int (201 : Int) 0), (Value.int (0 : Int) 0), (Value.ref 295), (Value.int (372 : Int) 0), (Value.int (0 : Int) 0), (Value.ref 525), (Value.int (579 : Int) 0), (Value.int (0 : Int) 0), (Value.ref 770), (Value.int (586 : Int) 0), (Value.int (0 : Int) 0), (Value.ref 775)]) #[])
noncomputable def zo769_10 : ZO := fun P => (Obj.mk Value.none none (Data.func (FuncData.mk (zS "_law_signs") (zS "_law_signs") (zpa (zF zT 26)) (FuncBody.stmts (zbo (zF zT 26))) (zsc (zF zT 26)) 0 [] Value.none Value.none Value.none Value.none none Value.none Value.none 0)) #[])
noncomputable def zo770_10 : ZO := fun P => (Obj.mk (Value.type "code") none (Data.fields #[(zV "_law_signs" 1312), (zV "_law_signs" 1313), (zV "/claim/cut.py" 1314), (Value.int (579 : Int) 0), (Value.int (1 : Int) 0), (Value.int (0 : Int) 0), (Value.int (0 : Int) 0), (Value.int (3 : Int) 0), (Value.ref 767), (Value.bool Bool.true), (Value.int (388 : Int) 0), (Value.ref 768), Value.none, Value.none, Value.none, (Value.ref 769), (Value.int (1315 : Int) 0), (Value.int (579 : Int) 0), (zV "/claim/cut.py" 1316)]) #[])
noncomputable def zo771_10 : ZO := fun P => (Obj.mk (Value.type "function") none (Data.func (FuncData.mk (zS "_law_signs") (zS "_law_signs") (zpa (zF zT 26)) (FuncBody.stmts (zbo (zF zT 26))) (zsc (zF zT 26)) 3 [] Value.none Value.none Value.none (zV "law_ko0126_03" 1310) none (Value.ref 770) Value.none 0)) #[])
noncomputable def zo774_10 : ZO := fun P => (Obj.mk Value.none none (Data.func (FuncData.mk (zS "law") (zS "law") (zpa (zF zT 27)) (FuncBody.stmts (zbo (zF zT 27))) (zsc (zF zT 27)) 0 [] Value.none Value.none Value.none Value.none none Value.none Value.none 0)) #[])
noncomputable def zo775_10 : ZO := fun P => (Obj.mk (Value.type "code") none (Data.fields #[(zV "law" 1318), (zV "law" 1319), (zV "/claim/cut.py" 1320), (Value.int (586 : Int) 0), (Value.int (1 : Int) 0), (Value.int (0 : Int) 0), (Value.int (0 : Int) 0), (Value.int (3 : Int) 0), (Value.ref 772), (Value.bool Bool.true), (Value.int (388 : Int) 0), (Value.ref 773), Value.none, Value.none, Value.none, (Value.ref 774), (Value.int (1321 : Int) 0), (Value.int (586 : Int) 0), (zV "/claim/cut.py" 1322)]) #[])
noncomputable def zo776_10 : ZO := fun P => (Obj.mk (Value.type "function") none (Data.func (FuncData.mk (zS "law") (zS "law") (zpa (zF zT 27)) (FuncBody.stmts (zbo (zF zT 27))) (zsc (zF zT 27)) 3 [] Value.none Value.none Value.none (zV "law_ko0126_03" 1310) none (Value.ref 775) Value.none 0)) #[])
noncomputable def zt6 : Params → BT := fun P => (.node (zo0_0 P) (.node (zo1_2 P) (.node (zo3_10 P) (.node (zo7_0 P) (.node (zo7_0 P) (.node (zo31_2 P) (.node (zo6_0 P) (.node (zo8_0 P) (.node (zo255_7 P) (.node (zo7_0 P) .nil .nil) (.node (zo7_0 P) .nil .nil)) (.node (zo7_0 P) (.node (zo8_0 P) .nil .nil) .nil)) (.node (zo7_0 P) (.node (zo7_0 P) (.node (zo575_9 P) .nil .nil) .nil) (.node (zo447_8 P) (.node (zo703_9 P) .nil .nil) .nil))) (.node (zo95_6 P) (.node (zo159_6 P) (.node (zo287_9 P) (.node (zo8_0 P) .nil .nil) .nil) (.node (zo415_8 P) (.node (zo671_9 P) .nil .nil) .nil)) (.node (zo223_7 P) (.node (zo7_0 P) (.node (zo607_9 P) .nil .nil) .nil) (.node (zo479_8 P) (.node (zo8_0 P) .nil .nil) .nil)))) (.node (zo47_2 P) (.node (zo79_6 P) (.node (zo143_6 P) (.node (zo271_7 P) (.node (zo527_9 P) .nil .nil) .nil) (.node (zo399_8 P) (.node (zo7_0 P) .nil .nil) .nil)) (.node (zo207_6 P) (.node (zo8_0 P) (.node (zo591_9 P) .nil .nil) .nil) (.node (zo463_8 P) (.node (zo719_9 P) .nil .nil) .nil))) (.node (zo7_0 P) (.node (zo175_6 P) (.node (zo303_8 P) (.node (zo7_0 P) .nil .nil) .nil) (.node (zo431_8 P) (.node (zo687_9 P) .nil .nil) .nil)) (.node (zo239_7 P) (.node (zo367_8 P) (.node (zo623_9 P) .nil .nil) .nil) (.node (zo8_0 P) (.node (zo7_0 P) .nil .nil) .nil))))) (.node (zo23_1 P) (.node (zo39_2 P) (.node (zo71_6 P) (.node (zo135_6 P) (.node (zo263_7 P) (.node (zo519_8 P) .nil .nil) (.node (zo775_10 P) .nil .nil)) (.node (zo8_0 P) (.node (zo647_9 P) .nil .nil) .nil)) (.node (zo8_0 P) (.node (zo7_0 P) (.node (zo583_9 P) .nil .nil) .nil) (.node (zo455_8 P) (.node (zo711_9 P) .nil .nil) .nil))) (.node (zo103_6 P) (.node (zo167_6 P) (.node (zo295_8 P) (.node (zo551_9 P) .nil .nil) .nil) (.node (zo423_8 P) (.node (zo679_9 P) .nil .nil) .nil)) (.node (zo231_7 P) (.node (zo359_8 P) (.node (zo615_9 P) .nil .nil) .nil) (.node (zo7_0 P) (.node (zo743_9 P) .nil .nil) .nil)))) (.node (zo7_0 P) (.node (zo87_6 P) (.node (zo7_0 P) (.node (zo112_6 P) (.node (zo7_0 P) .nil .nil) .nil) (.node (zo7_0 P) (.node (zo663_9 P) .nil .nil) .nil)) (.node (zo215_6 P) (.node (zo343_8 P) (.node (zo599_9 P) .nil .nil) .nil) (.node (zo471_8 P) (.node (zo7_0 P) .nil .nil) .nil))) (.node (zo7_0 P) (.node (zo183_6 P) (.node (zo311_8 P) (.node (zo567_9 P) .nil .nil) .nil) (.node (zo439_8 P) (.node (zo64_6 P) .nil .nil) .nil)) (.node (zo7_0 P) (.node (zo375_8 P) (.node (zo7_0 P) .nil .nil) .nil) (.node (zo503_8 P) (.node (zo759_9 P) .nil .nil) .nil)))))) (.node (zo11_3 P) (.node (zo19_1 P) (.node (zo35_2 P) (.node (zo7_0 P) (.node (zo131_6 P) (.node (zo259_7 P) (.node (zo515_8 P) .nil .nil) (.node (zo771_10 P) .nil .nil)) (.node (zo387_8 P) (.node (zo643_9 P) .nil .nil) .nil)) (.node (zo195_6 P) (.node (zo323_8 P) (.node (zo7_0 P) .nil .nil) .nil) (.node (zo8_0 P) (.node (zo7_0 P) .nil .nil) .nil))) (.node (zo99_6 P) (.node (zo112_6 P) (.node (zo112_6 P) (.node (zo547_9 P) .nil .nil) .nil) (.node (zo7_0 P) (.node (zo675_9 P) .nil .nil) .nil)) (.node (zo7_0 P) (.node (zo7_0 P) (.node (zo8_0 P) .nil .nil) .nil) (.node (zo7_0 P) (.node (zo739_9 P) .nil .nil) .nil)))) (.node (zo7_0 P) (.node (zo8_0 P) (.node (zo147_6 P) (.node (zo275_8 P) (.node (zo7_0 P) .nil .nil) .nil) (.node (zo403_8 P) (.node (zo7_0 P) .nil .nil) .nil)) (.node (zo211_6 P) (.node (zo339_8 P) (.node (zo7_0 P) .nil .nil) .nil) (.node (zo467_8 P) (.node (zo7_0 P) .nil .nil) .nil))) (.node (zo115_6 P) (.node (zo179_6 P) (.node (zo307_8 P) (.node (zo7_0 P) .nil .nil) .nil) (.node (zo7_0 P) (.node (zo7_0 P) .nil .nil) .nil)) (.node (zo243_7 P) (.node (zo371_8 P) (.node (zo7_0 P) .nil .nil) .nil) (.node (zo499_8 P) (.node (zo7_0 P) .nil .nil) .nil))))) (.node (zo27_2 P) (.node (zo43_2 P) (.node (zo8_0 P) (.node (zo139_6 P) (.node (zo112_6 P) (.node (zo7_0 P) .nil .nil) .nil) (.node (zo395_8 P) (.node (zo651_9 P) .nil .nil) .nil)) (.node (zo203_6 P) (.node (zo331_8 P) (.node (zo7_0 P) .nil .nil) .nil) (.node (zo459_8 P) (.node (zo7_0 P) .nil .nil) .nil))) (.node (zo7_0 P) (.node (zo8_0 P) (.node (zo8_0 P) (.node (zo555_9 P) .nil .nil) .nil) (.node (zo7_0 P) (.node (zo7_0 P) .nil .nil) .nil)) (.node (zo8_0 P) (.node (zo8_0 P) (.node (zo619_9 P) .nil .nil) .nil) (.node (zo491_8 P) (.node (zo747_9 P) .nil .nil) .nil)))) (.node (zo59_6 P) (.node (zo8_0 P) (.node (zo155_6 P) (.node (zo283_7 P) (.node (zo539_9 P) .nil .nil) .nil) (.node (zo7_0 P) (.node (zo8_0 P) .nil .nil) .nil)) (.node (zo219_7 P) (.node (zo347_8 P) (.node (zo7_0 P) .nil .nil) .nil) (.node (zo475_8 P) (.node (zo731_9 P) .nil .nil) .nil))) (.node (zo123_6 P) (.node (zo7_0 P) (.node (zo7_0 P) (.node (zo7_0 P) .nil .nil) .nil) (.node (zo7_0 P) (.node (zo7_0 P) .nil .nil) .nil)) (.node (zo7_0 P) (.node (zo7_0 P) (.node (zo635_9 P) .nil .nil) .nil) (.node (zo507_8 P) (.node (zo763_9 P) .nil .nil) .nil))))))) (.node (zo5_0 P) (.node (zo9_0 P) (.node (zo17_1 P) (.node (zo33_2 P) (.node (zo65_6 P) (.node (zo7_0 P) (.node (zo257_7 P) (.node (zo513_8 P) .nil .nil) (.node (zo769_10 P) .nil .nil)) (.node (zo385_8 P) (.node (zo7_0 P) .nil .nil) .nil)) (.node (zo193_6 P) (.node (zo321_8 P) (.node (zo577_9 P) .nil .nil) .nil) (.node (zo449_8 P) (.node (zo8_0 P) .nil .nil) .nil))) (.node (zo7_0 P) (.node (zo161_6 P) (.node (zo289_7 P) (.node (zo7_0 P) .nil .nil) .nil) (.node (zo417_8 P) (.node (zo7_0 P) .nil .nil) .nil)) (.node (zo8_0 P) (.node (zo353_8 P) (.node (zo609_9 P) .nil .nil) .nil) (.node (zo8_0 P) (.node (zo7_0 P) .nil .nil) .nil)))) (.node (zo49_2 P) (.node (zo81_6 P) (.node (zo145_6 P) (.node (zo7_0 P) (.node (zo8_0 P) .nil .nil) .nil) (.node (zo401_8 P) (.node (zo657_9 P) .nil .nil) .nil)) (.node (zo209_6 P) (.node (zo7_0 P) (.node (zo593_9 P) .nil .nil) .nil) (.node (zo7_0 P) (.node (zo8_0 P) .nil .nil) .nil))) (.node (zo113_6 P) (.node (zo7_0 P) (.node (zo7_0 P) (.node (zo561_9 P) .nil .nil) .nil) (.node (zo433_8 P) (.node (zo8_0 P) .nil .nil) .nil)) (.node (zo241_7 P) (.node (zo7_0 P) (.node (zo8_0 P) .nil .nil) .nil) (.node (zo7_0 P) (.node (zo753_9 P) .nil .nil) .nil))))) (.node (zo25_1 P) (.node (zo41_2 P) (.node (zo73_6 P) (.node (zo137_6 P) (.node (zo265_7 P) (.node (zo112_6 P) .nil .nil) .nil) (.node (zo7_0 P) (.node (zo649_9 P) .nil .nil) .nil)) (.node (zo7_0 P) (.node (zo329_8 P) (.node (zo585_9 P) .nil .nil) .nil) (.node (zo7_0 P) (.node (zo8_0 P) .nil .nil) .nil))) (.node (zo8_0 P) (.node (zo169_6 P) (.node (zo64_6 P) (.node (zo553_9 P) .nil .nil) .nil) (.node (zo425_8 P) (.node (zo8_0 P) .nil .nil) .nil)) (.node (zo233_7 P) (.node (zo361_8 P) (.node (zo7_0 P) .nil .nil) .nil) (.node (zo489_8 P) (.node (zo745_9 P) .nil .nil) .nil)))) (.node (zo57_6 P) (.node (zo89_6 P) (.node (zo153_6 P) (.node (zo7_0 P) (.node (zo537_9 P) .nil .nil) .nil) (.node (zo409_8 P) (.node (zo665_9 P) .nil .nil) .nil)) (.node (zo7_0 P) (.node (zo345_8 P) (.node (zo601_9 P) .nil .nil) .nil) (.node (zo7_0 P) (.node (zo729_9 P) .nil .nil) .nil))) (.node (zo121_6 P) (.node (zo8_0 P) (.node (zo8_0 P) (.node (zo569_9 P) .nil .nil) .nil) (.node (zo441_8 P) (.node (zo8_0 P) .nil .nil) .nil)) (.node (zo249_7 P) (.node (zo8_0 P) (.node (zo633_9 P) .nil .nil) .nil) (.node (zo505_8 P) (.node (zo761_9 P) .nil .nil) .nil)))))) (.node (zo13_1 P) (.node (zo21_1 P) (.node (zo37_2 P) (.node (zo69_6 P) (.node (zo7_0 P) (.node (zo261_7 P) (.node (zo517_8 P) .nil .nil) (.node (zo8_0 P) .nil .nil)) (.node (zo389_8 P) (.node (zo7_0 P) .nil .nil) .nil)) (.node (zo197_6 P) (.node (zo325_8 P) (.node (zo581_9 P) .nil .nil) .nil) (.node (zo7_0 P) (.node (zo709_9 P) .nil .nil) .nil))) (.node (zo101_6 P) (.node (zo7_0 P) (.node (zo7_0 P) (.node (zo7_0 P) .nil .nil) .nil) (.node (zo421_8 P) (.node (zo677_9 P) .nil .nil) .nil)) (.node (zo229_7 P) (.node (zo357_8 P) (.node (zo7_0 P) .nil .nil) .nil) (.node (zo485_8 P) (.node (zo7_0 P) .nil .nil) .nil)))) (.node (zo53_4 P) (.node (zo7_0 P) (.node (zo8_0 P) (.node (zo277_7 P) (.node (zo533_9 P) .nil .nil) .nil) (.node (zo8_0 P) (.node (zo661_9 P) .nil .nil) .nil)) (.node (zo213_6 P) (.node (zo7_0 P) (.node (zo597_9 P) .nil .nil) .nil) (.node (zo469_8 P) (.node (zo725_9 P) .nil .nil) .nil))) (.node (zo117_6 P) (.node (zo181_6 P) (.node (zo309_8 P) (.node (zo565_9 P) .nil .nil) .nil) (.node (zo437_8 P) (.node (zo693_9 P) .nil .nil) .nil)) (.node (zo112_6 P) (.node (zo373_8 P) (.node (zo629_9 P) .nil .nil) .nil) (.node (zo7_0 P) (.node (zo757_9 P) .nil .nil) .nil))))) (.node (zo29_3 P) (.node (zo45_2 P) (.node (zo7_0 P) (.node (zo7_0 P) (.node (zo7_0 P) (.node (zo525_9 P) .nil .nil) .nil) (.node (zo7_0 P) (.node (zo8_0 P) .nil .nil) .nil)) (.node (zo7_0 P) (.node (zo333_8 P) (.node (zo589_9 P) .nil .nil) .nil) (.node (zo461_8 P) (.node (zo717_9 P) .nil .nil) .nil))) (.node (zo109_6 P) (.node (zo7_0 P) (.node (zo7_0 P) (.node (zo8_0 P) .nil .nil) .nil) (.node (zo429_8 P) (.node (zo685_9 P) .nil .nil) .nil)) (.node (zo237_7 P) (.node (zo7_0 P) (.node (zo621_9 P) .nil .nil) .nil) (.node (zo493_8 P) (.node (zo8_0 P) .nil .nil) .nil)))) (.node (zo61_6 P) (.node (zo7_0 P) (.node (zo157_6 P) (.node (zo7_0 P) (.node (zo541_9 P) .nil .nil) .nil) (.node (zo413_8 P) (.node (zo7_0 P) .nil .nil) .nil)) (.node (zo221_7 P) (.node (zo8_0 P) (.node (zo605_9 P) .nil .nil) .nil) (.node (zo477_8 P) (.node (zo733_9 P) .nil .nil) .nil))) (.node (zo125_6 P) (.node (zo189_6 P) (.node (zo317_8 P) (.node (zo573_9 P) .nil .nil) .nil) (.node (zo445_8 P) (.node (zo701_9 P) .nil .nil) .nil)) (.node (zo253_7 P) (.node (zo381_8 P) (.node (zo637_9 P) .nil .nil) .nil) (.node (zo8_0 P) (.node (zo765_9 P) .nil .nil) .nil)))))))) (.node (zo2_7 P) (.node (zo4_0 P) (.node (zo8_0 P) (.node (zo16_1 P) (.node (zo32_2 P) (.node (zo64_6 P) (.node (zo128_6 P) (.node (zo256_7 P) (.node (zo512_8 P) .nil .nil) (.node (zo8_0 P) .nil .nil)) (.node (zo8_0 P) (.node (zo640_9 P) .nil .nil) .nil)) (.node (zo8_0 P) (.node (zo8_0 P) (.node (zo576_9 P) .nil .nil) .nil) (.node (zo448_8 P) (.node (zo7_0 P) .nil .nil) .nil))) (.node (zo96_6 P) (.node (zo160_6 P) (.node (zo288_7 P) (.node (zo544_9 P) .nil .nil) .nil) (.node (zo416_8 P) (.node (zo672_9 P) .nil .nil) .nil)) (.node (zo7_0 P) (.node (zo352_8 P) (.node (zo608_9 P) .nil .nil) .nil) (.node (zo7_0 P) (.node (zo736_9 P) .nil .nil) .nil)))) (.node (zo48_2 P) (.node (zo80_6 P) (.node (zo7_0 P) (.node (zo272_7 P) (.node (zo7_0 P) .nil .nil) .nil) (.node (zo7_0 P) (.node (zo656_9 P) .nil .nil) .nil)) (.node (zo7_0 P) (.node (zo336_8 P) (.node (zo592_9 P) .nil .nil) .nil) (.node (zo464_8 P) (.node (zo7_0 P) .nil .nil) .nil))) (.node (zo112_6 P) (.node (zo176_6 P) (.node (zo304_8 P) (.node (zo560_9 P) .nil .nil) .nil) (.node (zo432_8 P) (.node (zo7_0 P) .nil .nil) .nil)) (.node (zo240_7 P) (.node (zo368_8 P) (.node (zo7_0 P) .nil .nil) .nil) (.node (zo496_8 P) (.node (zo752_9 P) .nil .nil) .nil))))) (.node (zo24_1 P) (.node (zo40_2 P) (.node (zo72_6 P) (.node (zo7_0 P) (.node (zo264_7 P) (.node (zo520_9 P) .nil .nil) (.node (zo776_10 P) .nil .nil)) (.node (zo392_8 P) (.node (zo7_0 P) .nil .nil) .nil)) (.node (zo200_6 P) (.node (zo8_0 P) (.node (zo584_9 P) .nil .nil) .nil) (.node (zo456_8 P) (.node (zo7_0 P) .nil .nil) .nil))) (.node (zo7_0 P) (.node (zo168_6 P) (.node (zo296_8 P) (.node (zo7_0 P) .nil .nil) .nil) (.node (zo424_8 P) (.node (zo7_0 P) .nil .nil) .nil)) (.node (zo112_6 P) (.node (zo360_8 P) (.node (zo616_9 P) .nil .nil) .nil) (.node (zo8_0 P) (.node (zo7_0 P) .nil .nil) .nil)))) (.node (zo8_0 P) (.node (zo88_6 P) (.node (zo152_6 P) (.node (zo280_7 P) (.node (zo8_0 P) .nil .nil) .nil) (.node (zo408_8 P) (.node (zo664_9 P) .nil .nil) .nil)) (.node (zo216_6 P) (.node (zo7_0 P) (.node (zo600_9 P) .nil .nil) .nil) (.node (zo64_6 P) (.node (zo8_0 P) .nil .nil) .nil))) (.node (zo8_0 P) (.node (zo7_0 P) (.node (zo7_0 P) (.node (zo568_9 P) .nil .nil) .nil) (.node (zo440_8 P) (.node (zo7_0 P) .nil .nil) .nil)) (.node (zo248_7 P) (.node (zo7_0 P) (.node (zo8_0 P) .nil .nil) .nil) (.node (zo7_0 P) (.node (zo760_9 P) .nil .nil) .nil)))))) (.node (zo12_1 P) (.node (zo20_1 P) (.node (zo36_2 P) (.node (zo8_0 P) (.node (zo132_6 P) (.node (zo260_7 P) (.node (zo516_8 P) .nil .nil) (.node (zo7_0 P) .nil .nil)) (.node (zo388_8 P) (.node (zo644_9 P) .nil .nil) .nil)) (.node (zo196_6 P) (.node (zo324_8 P) (.node (zo8_0 P) .nil .nil) .nil) (.node (zo452_8 P) (.node (zo708_9 P) .nil .nil) .nil))) (.node (zo7_0 P) (.node (zo164_6 P) (.node (zo292_8 P) (.node (zo548_9 P) .nil .nil) .nil) (.node (zo8_0 P) (.node (zo7_0 P) .nil .nil) .nil)) (.node (zo228_7 P) (.node (zo8_0 P) (.node (zo612_9 P) .nil .nil) .nil) (.node (zo484_8 P) (.node (zo740_9 P) .nil .nil) .nil)))) (.node (zo52_10 P) (.node (zo84_6 P) (.node (zo7_0 P) (.node (zo276_7 P) (.node (zo532_9 P) .nil .nil) .nil) (.node (zo7_0 P) (.node (zo8_0 P) .nil .nil) .nil)) (.node (zo212_6 P) (.node (zo340_8 P) (.node (zo8_0 P) .nil .nil) .nil) (.node (zo7_0 P) (.node (zo724_9 P) .nil .nil) .nil))) (.node (zo116_6 P) (.node (zo7_0 P) (.node (zo7_0 P) (.node (zo8_0 P) .nil .nil) .nil) (.node (zo8_0 P) (.node (zo692_9 P) .nil .nil) .nil)) (.node (zo7_0 P) (.node (zo7_0 P) (.node (zo628_9 P) .nil .nil) .nil) (.node (zo500_8 P) (.node (zo8_0 P) .nil .nil) .nil))))) (.node (zo28_2 P) (.node (zo44_2 P) (.node (zo76_6 P) (.node (zo64_6 P) (.node (zo268_7 P) (.node (zo524_9 P) .nil .nil) .nil) (.node (zo396_8 P) (.node (zo7_0 P) .nil .nil) .nil)) (.node (zo204_6 P) (.node (zo332_8 P) (.node (zo8_0 P) .nil .nil) .nil) (.node (zo7_0 P) (.node (zo716_9 P) .nil .nil) .nil))) (.node (zo108_6 P) (.node (zo172_6 P) (.node (zo300_8 P) (.node (zo7_0 P) .nil .nil) .nil) (.node (zo8_0 P) (.node (zo684_9 P) .nil .nil) .nil)) (.node (zo236_7 P) (.node (zo364_8 P) (.node (zo7_0 P) .nil .nil) .nil) (.node (zo492_8 P) (.node (zo7_0 P) .nil .nil) .nil)))) (.node (zo60_6 P) (.node (zo92_6 P) (.node (zo156_6 P) (.node (zo284_7 P) (.node (zo540_9 P) .nil .nil) .nil) (.node (zo8_0 P) (.node (zo668_9 P) .nil .nil) .nil)) (.node (zo7_0 P) (.node (zo7_0 P) (.node (zo8_0 P) .nil .nil) .nil) (.node (zo7_0 P) (.node (zo732_9 P) .nil .nil) .nil))) (.node (zo124_6 P) (.node (zo188_6 P) (.node (zo316_8 P) (.node (zo8_0 P) .nil .nil) .nil) (.node (zo8_0 P) (.node (zo700_9 P) .nil .nil) .nil)) (.node (zo8_0 P) (.node (zo380_8 P) (.node (zo636_9 P) .nil .nil) .nil) (.node (zo7_0 P) (.node (zo764_9 P) .nil .nil) .nil))))))) (.node (zo6_0 P) (.node (zo10_0 P) (.node (zo18_2 P) (.node (zo7_0 P) (.node (zo66_6 P) (.node (zo130_6 P) (.node (zo7_0 P) (.node (zo514_8 P) .nil .nil) (.node (zo770_10 P) .nil .nil)) (.node (zo7_0 P) (.node (zo642_9 P) .nil .nil) .nil)) (.node (zo7_0 P) (.node (zo7_0 P) (.node (zo578_9 P) .nil .nil) .nil) (.node (zo7_0 P) (.node (zo706_9 P) .nil .nil) .nil))) (.node (zo8_0 P) (.node (zo162_6 P) (.node (zo290_8 P) (.node (zo546_9 P) .nil .nil) .nil) (.node (zo418_8 P) (.node (zo8_0 P) .nil .nil) .nil)) (.node (zo226_7 P) (.node (zo354_8 P) (.node (zo7_0 P) .nil .nil) .nil) (.node (zo482_8 P) (.node (zo738_9 P) .nil .nil) .nil)))) (.node (zo50_2 P) (.node (zo7_0 P) (.node (zo146_6 P) (.node (zo274_7 P) (.node (zo530_9 P) .nil .nil) .nil) (.node (zo402_8 P) (.node (zo658_9 P) .nil .nil) .nil)) (.node (zo210_6 P) (.node (zo338_8 P) (.node (zo594_9 P) .nil .nil) .nil) (.node (zo8_0 P) (.node (zo722_9 P) .nil .nil) .nil))) (.node (zo7_0 P) (.node (zo8_0 P) (.node (zo8_0 P) (.node (zo562_9 P) .nil .nil) .nil) (.node (zo434_8 P) (.node (zo690_9 P) .nil .nil) .nil)) (.node (zo242_7 P) (.node (zo8_0 P) (.node (zo626_9 P) .nil .nil) .nil) (.node (zo498_8 P) (.node (zo754_9 P) .nil .nil) .nil))))) (.node (zo26_1 P) (.node (zo42_2 P) (.node (zo7_0 P) (.node (zo138_6 P) (.node (zo266_7 P) (.node (zo522_9 P) .nil .nil) .nil) (.node (zo394_8 P) (.node (zo650_9 P) .nil .nil) .nil)) (.node (zo202_6 P) (.node (zo7_0 P) (.node (zo586_9 P) .nil .nil) .nil) (.node (zo8_0 P) (.node (zo714_9 P) .nil .nil) .nil))) (.node (zo106_6 P) (.node (zo7_0 P) (.node (zo7_0 P) (.node (zo554_9 P) .nil .nil) .nil) (.node (zo64_6 P) (.node (zo682_9 P) .nil .nil) .nil)) (.node (zo7_0 P) (.node (zo7_0 P) (.node (zo8_0 P) .nil .nil) .nil) (.node (zo7_0 P) (.node (zo746_9 P) .nil .nil) .nil)))) (.node (zo7_0 P) (.node (zo7_0 P) (.node (zo154_6 P) (.node (zo8_0 P) (.node (zo7_0 P) .nil .nil) .nil) (.node (zo410_8 P) (.node (zo7_0 P) .nil .nil) .nil)) (.node (zo8_0 P) (.node (zo346_8 P) (.node (zo602_9 P) .nil .nil) .nil) (.node (zo8_0 P) (.node (zo7_0 P) .nil .nil) .nil))) (.node (zo7_0 P) (.node (zo186_6 P) (.node (zo314_8 P) (.node (zo570_9 P) .nil .nil) .nil) (.node (zo442_8 P) (.node (zo698_9 P) .nil .nil) .nil)) (.node (zo250_7 P) (.node (zo378_8 P) (.node (zo7_0 P) .nil .nil) .nil) (.node (zo506_8 P) (.node (zo762_9 P) .nil .nil) .nil)))))) (.node (zo14_1 P) (.node (zo22_1 P) (.node (zo38_2 P) (.node (zo7_0 P) (.node (zo8_0 P) (.node (zo262_7 P) (.node (zo518_8 P) .nil .nil) (.node (zo774_10 P) .nil .nil)) (.node (zo7_0 P) (.node (zo8_0 P) .nil .nil) .nil)) (.node (zo7_0 P) (.node (zo326_8 P) (.node (zo7_0 P) .nil .nil) .nil) (.node (zo454_8 P) (.node (zo710_9 P) .nil .nil) .nil))) (.node (zo102_6 P) (.node (zo166_6 P) (.node (zo294_8 P) (.node (zo8_0 P) .nil .nil) .nil) (.node (zo7_0 P) (.node (zo678_9 P) .nil .nil) .nil)) (.node (zo230_7 P) (.node (zo7_0 P) (.node (zo614_9 P) .nil .nil) .nil) (.node (zo486_8 P) (.node (zo8_0 P) .nil .nil) .nil)))) (.node (zo54_4 P) (.node (zo86_6 P) (.node (zo150_6 P) (.node (zo266_7 P) (.node (zo534_9 P) .nil .nil) .nil) (.node (zo406_8 P) (.node (zo7_0 P) .nil .nil) .nil)) (.node (zo214_6 P) (.node (zo8_0 P) (.node (zo7_0 P) .nil .nil) .nil) (.node (zo470_8 P) (.node (zo726_9 P) .nil .nil) .nil))) (.node (zo118_6 P) (.node (zo182_6 P) (.node (zo310_8 P) (.node (zo7_0 P) .nil .nil) .nil) (.node (zo7_0 P) (.node (zo694_9 P) .nil .nil) .nil)) (.node (zo246_7 P) (.node (zo374_8 P) (.node (zo630_9 P) .nil .nil) .nil) (.node (zo8_0 P) (.node (zo7_0 P) .nil .nil) .nil))))) (.node (zo30_2 P) (.node (zo19_1 P) (.node (zo78_6 P) (.node (zo8_0 P) (.node (zo8_0 P) (.node (zo526_9 P) .nil .nil) .nil) (.node (zo8_0 P) (.node (zo654_9 P) .nil .nil) .nil)) (.node (zo8_0 P) (.node (zo7_0 P) (.node (zo7_0 P) .nil .nil) .nil) (.node (zo462_8 P) (.node (zo718_9 P) .nil .nil) .nil))) (.node (zo110_6 P) (.node (zo174_6 P) (.node (zo302_8 P) (.node (zo558_9 P) .nil .nil) .nil) (.node (zo7_0 P) (.node (zo686_9 P) .nil .nil) .nil)) (.node (zo7_0 P) (.node (zo366_8 P) (.node (zo622_9 P) .nil .nil) .nil) (.node (zo7_0 P) (.node (zo750_9 P) .nil .nil) .nil)))) (.node (zo62_6 P) (.node (zo94_6 P) (.node (zo158_6 P) (.node (zo286_7 P) (.node (zo7_0 P) .nil .nil) .nil) (.node (zo7_0 P) (.node (zo670_9 P) .nil .nil) .nil)) (.node (zo222_7 P) (.node (zo350_8 P) (.node (zo7_0 P) .nil .nil) .nil) (.node (zo478_8 P) (.node (zo7_0 P) .nil .nil) .nil))) (.node (zo7_0 P) (.node (zo190_6 P) (.node (zo318_8 P) (.node (zo7_0 P) .nil .nil) .nil) (.node (zo7_0 P) (.node (zo702_9 P) .nil .nil) .nil)) (.node (zo7_0 P) (.node (zo382_8 P) (.node (zo7_0 P) .nil .nil) .nil) (.node (zo510_8 P) (.node (zo766_9 P) .nil .nil) .nil)))))))))
noncomputable def zs6 (w : World) (os : OsState) : SharedT := ⟨zt6 w.params, 777, (Life.mk [] [] [] 0 [] [] Bool.false #[] [] 0 Bool.false Bool.false Bool.false (0 : Int) [(2000 : Int), (10 : Int), (10 : Int)] Bool.false 0 Bool.true [] [] 0 Bool.false), #[], (Drawn.mk 0 0 0 0), 1324, os⟩
noncomputable def zHf : Params → Heap := fun P => ⟨#[zo0_0 P, zo1_2 P, zo2_7 P, zo3_10 P, zo4_0 P, zo5_0 P, zo6_0 P, zo7_0 P, zo8_0 P, zo9_0 P, zo10_0 P, zo11_3 P, zo12_1 P, zo13_1 P, zo14_1 P, zo7_0 P, zo16_1 P, zo17_1 P, zo18_2 P, zo19_1 P, zo20_1 P, zo21_1 P, zo22_1 P, zo23_1 P, zo24_1 P, zo25_1 P, zo26_1 P, zo27_2 P, zo28_2 P, zo29_3 P, zo30_2 P, zo31_2 P, zo32_2 P, zo33_2 P, zo7_0 P, zo35_2 P, zo36_2 P, zo37_2 P, zo38_2 P, zo39_2 P, zo40_2 P, zo41_2 P, zo42_2 P, zo43_2 P, zo44_2 P, zo45_2 P, zo19_1 P, zo47_2 P, zo48_2 P, zo49_2 P, zo50_2 P, zo7_0 P, zo52_10 P, zo53_4 P, zo54_4 P, zo7_0 P, zo8_0 P, zo57_6 P, zo7_0 P, zo59_6 P, zo60_6 P, zo61_6 P, zo62_6 P, zo6_0 P, zo64_6 P, zo65_6 P, zo66_6 P, zo7_0 P, zo8_0 P, zo69_6 P, zo7_0 P, zo71_6 P, zo72_6 P, zo73_6 P, zo7_0 P, zo8_0 P, zo76_6 P, zo7_0 P, zo78_6 P, zo79_6 P, zo80_6 P, zo81_6 P, zo7_0 P, zo8_0 P, zo84_6 P, zo7_0 P, zo86_6 P, zo87_6 P, zo88_6 P, zo89_6 P, zo7_0 P, zo8_0 P, zo92_6 P, zo7_0 P, zo94_6 P, zo95_6 P, zo96_6 P, zo7_0 P, zo8_0 P, zo99_6 P, zo7_0 P, zo101_6 P, zo102_6 P, zo103_6 P, zo7_0 P, zo8_0 P, zo106_6 P, zo7_0 P, zo108_6 P, zo109_6 P, zo110_6 P, zo7_0 P, zo112_6 P, zo113_6 P, zo7_0 P, zo115_6 P, zo116_6 P, zo117_6 P, zo118_6 P, zo7_0 P, zo8_0 P, zo121_6 P, zo7_0 P, zo123_6 P, zo124_6 P, zo125_6 P, zo7_0 P, zo8_0 P, zo128_6 P, zo7_0 P, zo130_6 P, zo131_6 P, zo132_6 P, zo7_0 P, zo8_0 P, zo135_6 P, zo7_0 P, zo137_6 P, zo138_6 P, zo139_6 P, zo64_6 P, zo7_0 P, zo8_0 P, zo143_6 P, zo7_0 P, zo145_6 P, zo146_6 P, zo147_6 P, zo7_0 P, zo8_0 P, zo150_6 P, zo7_0 P, zo152_6 P, zo153_6 P, zo154_6 P, zo155_6 P, zo156_6 P, zo157_6 P, zo158_6 P, zo159_6 P, zo160_6 P, zo161_6 P, zo162_6 P, zo112_6 P, zo164_6 P, zo7_0 P, zo166_6 P, zo167_6 P, zo168_6 P, zo169_6 P, zo7_0 P, zo8_0 P, zo172_6 P, zo7_0 P, zo174_6 P, zo175_6 P, zo176_6 P, zo7_0 P, zo8_0 P, zo179_6 P, zo7_0 P, zo181_6 P, zo182_6 P, zo183_6 P, zo7_0 P, zo8_0 P, zo186_6 P, zo7_0 P, zo188_6 P, zo189_6 P, zo190_6 P, zo7_0 P, zo8_0 P, zo193_6 P, zo7_0 P, zo195_6 P, zo196_6 P, zo197_6 P, zo7_0 P, zo8_0 P, zo200_6 P, zo7_0 P, zo202_6 P, zo203_6 P, zo204_6 P, zo7_0 P, zo8_0 P, zo207_6 P, zo7_0 P, zo209_6 P, zo210_6 P, zo211_6 P, zo212_6 P, zo213_6 P, zo214_6 P, zo215_6 P, zo216_6 P, zo7_0 P, zo8_0 P, zo219_7 P, zo7_0 P, zo221_7 P, zo222_7 P, zo223_7 P, zo7_0 P, zo8_0 P, zo226_7 P, zo7_0 P, zo228_7 P, zo229_7 P, zo230_7 P, zo231_7 P, zo112_6 P, zo233_7 P, zo7_0 P, zo8_0 P, zo236_7 P, zo237_7 P, zo7_0 P, zo239_7 P, zo240_7 P, zo241_7 P, zo242_7 P, zo243_7 P, zo7_0 P, zo112_6 P, zo246_7 P, zo7_0 P, zo248_7 P, zo249_7 P, zo250_7 P, zo7_0 P, zo8_0 P, zo253_7 P, zo7_0 P, zo255_7 P, zo256_7 P, zo257_7 P, zo7_0 P, zo259_7 P, zo260_7 P, zo261_7 P, zo262_7 P, zo263_7 P, zo264_7 P, zo265_7 P, zo266_7 P, zo112_6 P, zo268_7 P, zo7_0 P, zo8_0 P, zo271_7 P, zo272_7 P, zo7_0 P, zo274_7 P, zo275_8 P, zo276_7 P, zo277_7 P, zo266_7 P, zo112_6 P, zo280_7 P, zo7_0 P, zo8_0 P, zo283_7 P, zo284_7 P, zo7_0 P, zo286_7 P, zo287_9 P, zo288_7 P, zo289_7 P, zo290_8 P, zo112_6 P, zo292_8 P, zo7_0 P, zo294_8 P, zo295_8 P, zo296_8 P, zo64_6 P, zo7_0 P, zo8_0 P, zo300_8 P, zo7_0 P, zo302_8 P, zo303_8 P, zo304_8 P, zo7_0 P, zo8_0 P, zo307_8 P, zo7_0 P, zo309_8 P, zo310_8 P, zo311_8 P, zo7_0 P, zo8_0 P, zo314_8 P, zo7_0 P, zo316_8 P, zo317_8 P, zo318_8 P, zo7_0 P, zo8_0 P, zo321_8 P, zo7_0 P, zo323_8 P, zo324_8 P, zo325_8 P, zo326_8 P, zo7_0 P, zo8_0 P, zo329_8 P, zo7_0 P, zo331_8 P, zo332_8 P, zo333_8 P, zo7_0 P, zo8_0 P, zo336_8 P, zo7_0 P, zo338_8 P, zo339_8 P, zo340_8 P, zo7_0 P, zo8_0 P, zo343_8 P, zo7_0 P, zo345_8 P, zo346_8 P, zo347_8 P, zo7_0 P, zo8_0 P, zo350_8 P, zo7_0 P, zo352_8 P, zo353_8 P, zo354_8 P, zo7_0 P, zo8_0 P, zo357_8 P, zo7_0 P, zo359_8 P, zo360_8 P, zo361_8 P, zo7_0 P, zo8_0 P, zo364_8 P, zo7_0 P, zo366_8 P, zo367_8 P, zo368_8 P, zo7_0 P, zo8_0 P, zo371_8 P, zo7_0 P, zo373_8 P, zo374_8 P, zo375_8 P, zo7_0 P, zo8_0 P, zo378_8 P, zo7_0 P, zo380_8 P, zo381_8 P, zo382_8 P, zo7_0 P, zo8_0 P, zo385_8 P, zo7_0 P, zo387_8 P, zo388_8 P, zo389_8 P, zo7_0 P, zo8_0 P, zo392_8 P, zo7_0 P, zo394_8 P, zo395_8 P, zo396_8 P, zo7_0 P, zo8_0 P, zo399_8 P, zo7_0 P, zo401_8 P, zo402_8 P, zo403_8 P, zo7_0 P, zo8_0 P, zo406_8 P, zo7_0 P, zo408_8 P, zo409_8 P, zo410_8 P, zo7_0 P, zo8_0 P, zo413_8 P, zo7_0 P, zo415_8 P, zo416_8 P, zo417_8 P, zo418_8 P, zo7_0 P, zo8_0 P, zo421_8 P, zo7_0 P, zo423_8 P, zo424_8 P, zo425_8 P, zo64_6 P, zo7_0 P, zo8_0 P, zo429_8 P, zo7_0 P, zo431_8 P, zo432_8 P, zo433_8 P, zo434_8 P, zo7_0 P, zo8_0 P, zo437_8 P, zo7_0 P, zo439_8 P, zo440_8 P, zo441_8 P, zo442_8 P, zo7_0 P, zo8_0 P, zo445_8 P, zo7_0 P, zo447_8 P, zo448_8 P, zo449_8 P, zo7_0 P, zo8_0 P, zo452_8 P, zo7_0 P, zo454_8 P, zo455_8 P, zo456_8 P, zo7_0 P, zo8_0 P, zo459_8 P, zo7_0 P, zo461_8 P, zo462_8 P, zo463_8 P, zo464_8 P, zo7_0 P, zo8_0 P, zo467_8 P, zo7_0 P, zo469_8 P, zo470_8 P, zo471_8 P, zo64_6 P, zo7_0 P, zo8_0 P, zo475_8 P, zo7_0 P, zo477_8 P, zo478_8 P, zo479_8 P, zo7_0 P, zo8_0 P, zo482_8 P, zo7_0 P, zo484_8 P, zo485_8 P, zo486_8 P, zo7_0 P, zo8_0 P, zo489_8 P, zo7_0 P, zo491_8 P, zo492_8 P, zo493_8 P, zo7_0 P, zo8_0 P, zo496_8 P, zo7_0 P, zo498_8 P, zo499_8 P, zo500_8 P, zo7_0 P, zo8_0 P, zo503_8 P, zo7_0 P, zo505_8 P, zo506_8 P, zo507_8 P, zo7_0 P, zo8_0 P, zo510_8 P, zo7_0 P, zo512_8 P, zo513_8 P, zo514_8 P, zo515_8 P, zo516_8 P, zo517_8 P, zo518_8 P, zo519_8 P, zo520_9 P, zo112_6 P, zo522_9 P, zo7_0 P, zo524_9 P, zo525_9 P, zo526_9 P, zo527_9 P, zo7_0 P, zo8_0 P, zo530_9 P, zo7_0 P, zo532_9 P, zo533_9 P, zo534_9 P, zo7_0 P, zo8_0 P, zo537_9 P, zo7_0 P, zo539_9 P, zo540_9 P, zo541_9 P, zo7_0 P, zo8_0 P, zo544_9 P, zo7_0 P, zo546_9 P, zo547_9 P, zo548_9 P, zo7_0 P, zo8_0 P, zo551_9 P, zo7_0 P, zo553_9 P, zo554_9 P, zo555_9 P, zo7_0 P, zo8_0 P, zo558_9 P, zo7_0 P, zo560_9 P, zo561_9 P, zo562_9 P, zo7_0 P, zo8_0 P, zo565_9 P, zo7_0 P, zo567_9 P, zo568_9 P, zo569_9 P, zo570_9 P, zo7_0 P, zo8_0 P, zo573_9 P, zo7_0 P, zo575_9 P, zo576_9 P, zo577_9 P, zo578_9 P, zo7_0 P, zo8_0 P, zo581_9 P, zo7_0 P, zo583_9 P, zo584_9 P, zo585_9 P, zo586_9 P, zo7_0 P, zo8_0 P, zo589_9 P, zo7_0 P, zo591_9 P, zo592_9 P, zo593_9 P, zo594_9 P, zo7_0 P, zo8_0 P, zo597_9 P, zo7_0 P, zo599_9 P, zo600_9 P, zo601_9 P, zo602_9 P, zo7_0 P, zo8_0 P, zo605_9 P, zo7_0 P, zo607_9 P, zo608_9 P, zo609_9 P, zo7_0 P, zo8_0 P, zo612_9 P, zo7_0 P, zo614_9 P, zo615_9 P, zo616_9 P, zo7_0 P, zo8_0 P, zo619_9 P, zo7_0 P, zo621_9 P, zo622_9 P, zo623_9 P, zo7_0 P, zo8_0 P, zo626_9 P, zo7_0 P, zo628_9 P, zo629_9 P, zo630_9 P, zo7_0 P, zo8_0 P, zo633_9 P, zo7_0 P, zo635_9 P, zo636_9 P, zo637_9 P, zo7_0 P, zo8_0 P, zo640_9 P, zo7_0 P, zo642_9 P, zo643_9 P, zo644_9 P, zo7_0 P, zo8_0 P, zo647_9 P, zo7_0 P, zo649_9 P, zo650_9 P, zo651_9 P, zo7_0 P, zo8_0 P, zo654_9 P, zo7_0 P, zo656_9 P, zo657_9 P, zo658_9 P, zo7_0 P, zo8_0 P, zo661_9 P, zo7_0 P, zo663_9 P, zo664_9 P, zo665_9 P, zo7_0 P, zo8_0 P, zo668_9 P, zo7_0 P, zo670_9 P, zo671_9 P, zo672_9 P, zo7_0 P, zo8_0 P, zo675_9 P, zo7_0 P, zo677_9 P, zo678_9 P, zo679_9 P, zo7_0 P, zo8_0 P, zo682_9 P, zo7_0 P, zo684_9 P, zo685_9 P, zo686_9 P, zo687_9 P, zo7_0 P, zo8_0 P, zo690_9 P, zo7_0 P, zo692_9 P, zo693_9 P, zo694_9 P, zo64_6 P, zo7_0 P, zo8_0 P, zo698_9 P, zo7_0 P, zo700_9 P, zo701_9 P, zo702_9 P, zo703_9 P, zo7_0 P, zo8_0 P, zo706_9 P, zo7_0 P, zo708_9 P, zo709_9 P, zo710_9 P, zo711_9 P, zo7_0 P, zo8_0 P, zo714_9 P, zo7_0 P, zo716_9 P, zo717_9 P, zo718_9 P, zo719_9 P, zo7_0 P, zo8_0 P, zo722_9 P, zo7_0 P, zo724_9 P, zo725_9 P, zo726_9 P, zo7_0 P, zo8_0 P, zo729_9 P, zo7_0 P, zo731_9 P, zo732_9 P, zo733_9 P, zo7_0 P, zo8_0 P, zo736_9 P, zo7_0 P, zo738_9 P, zo739_9 P, zo740_9 P, zo7_0 P, zo8_0 P, zo743_9 P, zo7_0 P, zo745_9 P, zo746_9 P, zo747_9 P, zo7_0 P, zo8_0 P, zo750_9 P, zo7_0 P, zo752_9 P, zo753_9 P, zo754_9 P, zo7_0 P, zo8_0 P, zo757_9 P, zo7_0 P, zo759_9 P, zo760_9 P, zo761_9 P, zo762_9 P, zo763_9 P, zo764_9 P, zo765_9 P, zo766_9 P, zo7_0 P, zo8_0 P, zo769_10 P, zo770_10 P, zo771_10 P, zo7_0 P, zo8_0 P, zo774_10 P, zo775_10 P, zo776_10 P], (Life.mk [] [] [] 0 [] [] Bool.false #[] [] 0 Bool.false Bool.false Bool.false (0 : Int) [(2000 : Int), (10 : Int), (10 : Int)] Bool.false 0 Bool.true [] [] 0 Bool.false)⟩

abbrev zann : Option Value := some (.ref 6)
def zEnv : Env := { scope := zP.main.scope, locals := mainNs, globals := mainNs, cells := [], code := .ref 53, frame := some 54 }
abbrev zq : Pos := ⟨0, 0, 0, 0⟩
def zb : List Stmt := behindTheImports zP
abbrev zc : Code := .body zb zEnv
end
end Zh
end
section
open PySem PySem.W PyProof.Rows
set_option Elab.async false
set_option maxRecDepth 100000
set_option maxHeartbeats 8000000
namespace Zh
theorem pre (w : World) (os : OsState) : topGo treeTable zP w 51 zann 12 ⟨zHo w.params, #[], (Drawn.mk 0 0 0 0), 388, os⟩ (topStub zP) = some (zA w os, ⟨denote treeTable zc, zc, ⟨0, 0, 0, 0⟩, [topFrame zq]⟩) := by
  kernel_rfl
theorem block (w : World) (os : OsState) : segRun treeTable zP w 51 zann 1 1 (zA w os) (blockOf zb zEnv zc ⟨0, 0, 0, 0⟩ [topFrame zq]) = some (.next, (zs1 w os).abs, zc, ⟨0, 0, 0, 0⟩) := by
  kernel_rfl
end Zh
end
section
open PySem PySem.W PyProof.Rows
set_option Elab.async false
set_option maxRecDepth 100000
set_option maxHeartbeats 8000000
namespace Zh
def impEndsT (tb : String → Option Builtin) (p : Program) (w : World) : Nat → SharedT → Thread → Option SharedT
  | 0, _, _ => none
  | n + 1, s, t => match t.atExitBegin with
    | some [] => some s
    | some (_ :: _) => none
    | none => match stepT (denote tb) p w s t with
      | some (s', t') => impEndsT tb p w n s' t'
      | none => none
theorem impEndsT_of {tb : String → Option Builtin} {p : Program} {w : World} : ∀ {n : Nat} {s s' : SharedT} {t : Thread}, impEndsT tb p w n s t = some s' → importEnds tb p w n s.abs t = some s'.abs
  | 0, _, _, _, h => by cases h
  | n + 1, s, s', t, h => by
    unfold impEndsT at h
    unfold importEnds
    cases he : t.atExitBegin with
    | some x =>
      rw [he] at h
      cases x with
      | nil => cases h; rfl
      | cons a l => cases h
    | none =>
      rw [he] at h
      cases hs : stepT (denote tb) p w s t with
      | none => rw [hs] at h; cases h
      | some r => obtain ⟨s₂, t₂⟩ := r; rw [hs] at h; dsimp only; rw [stepT_spec hs]; exact impEndsT_of h
def zsz (os : OsState) : SharedT := ⟨.nil, 0, (start (opening zP)).1.heap.life, (start (opening zP)).1.gens, (start (opening zP)).1.drawn, (start (opening zP)).1.toks, os⟩
theorem imps (w : World) (os : OsState) : impEndsT treeTable (opening zP) w 1372 (zsz os) (start (opening zP)).2 = some (zse w os) := by
  kernel_rfl
theorem fence (w : World) : (fun os => (fenceModules? zP (zse w os).abs).map (fun s => (s.heap, s.gens, s.drawn, s.toks))) = fun _ => some (zHo w.params, #[], (Drawn.mk 0 0 0 0), 388) := by
  kernel_rfl
theorem size (w : World) : ((zHo w.params).isNs mainGlobals && (#[] : Array GenState).size == 0, (zHo w.params).objs.size, (zHo w.params).nsMap mainGlobals "__annotations__") = (true, 51, zann) := by
  kernel_rfl
theorem fin (w : World) (os : OsState) : topRun treeTable zP w 51 zann 2 (zs6 w os).abs ⟨doneF .next, zc, ⟨586, 0, 608, 15⟩, [topFrame zq]⟩ = some ⟨zHf w.params, #[], (Drawn.mk 0 0 0 0), 1324, os⟩ := by
  kernel_rfl
theorem opens (w : World) : (fencedOpening treeTable zP w 10122).map (fun s => (s.heap, s.gens, s.drawn, s.toks)) = some (zHo w.params, #[], (Drawn.mk 0 0 0 0), 388) := by
  have m := importEnds_mono (10122 - 1372) _ _ _ _ (impEndsT_of (imps w (start (opening zP)).1.os))
  unfold fencedOpening
  have e : importEnds treeTable (opening zP) w 10122 (start (opening zP)).1 (start (opening zP)).2 = some (zse w (start (opening zP)).1.os).abs := m
  rw [e]
  exact congrFun (fence w) _
end Zh
end
section
open PySem PySem.W PyProof.Rows
set_option Elab.async false
set_option maxRecDepth 100000
set_option maxHeartbeats 8000000
namespace Zh
def zl1 : List Stmt := (zb.drop 0).take 14
theorem piece1 (w : World) (os : OsState) : segRunT treeTable zP w 51 zann 1 1122 (zs1 w os) (piecesOf zl1 zEnv zc ⟨0, 0, 0, 0⟩ [topFrame zq]) = some (.next, zs2 w os, zc, ⟨99, 0, 174, 40⟩) := by
  kernel_rfl
end Zh
end
section
open PySem PySem.W PyProof.Rows
set_option Elab.async false
set_option maxRecDepth 100000
set_option maxHeartbeats 8000000
namespace Zh
def zl2 : List Stmt := (zb.drop 14).take 7
theorem piece2 (w : World) (os : OsState) : segRunT treeTable zP w 51 zann 1 963 (zs2 w os) (piecesOf zl2 zEnv zc ⟨99, 0, 174, 40⟩ [topFrame zq]) = some (.next, zs3 w os, zc, ⟨199, 0, 200, 21⟩) := by
  kernel_rfl
end Zh
end
section
open PySem PySem.W PyProof.Rows
set_option Elab.async false
set_option maxRecDepth 100000
set_option maxHeartbeats 8000000
namespace Zh
def zl3 : List Stmt := (zb.drop 21).take 1
theorem piece3 (w : World) (os : OsState) : segRunT treeTable zP w 51 zann 1 1278 (zs3 w os) (piecesOf zl3 zEnv zc ⟨199, 0, 200, 21⟩ [topFrame zq]) = some (.next, zs4 w os, zc, ⟨201, 0, 371, 17⟩) := by
  kernel_rfl
end Zh
end
section
open PySem PySem.W PyProof.Rows
set_option Elab.async false
set_option maxRecDepth 100000
set_option maxHeartbeats 8000000
namespace Zh
def zl4 : List Stmt := (zb.drop 22).take 1
theorem piece4 (w : World) (os : OsState) : segRunT treeTable zP w 51 zann 1 1578 (zs4 w os) (piecesOf zl4 zEnv zc ⟨201, 0, 371, 17⟩ [topFrame zq]) = some (.next, zs5 w os, zc, ⟨372, 0, 577, 17⟩) := by
  kernel_rfl
end Zh
end
section
open PySem PySem.W PyProof.Rows
set_option Elab.async false
set_option maxRecDepth 100000
set_option maxHeartbeats 8000000
namespace Zh
def zl5 : List Stmt := (zb.drop 23).take 3
theorem piece5 (w : World) (os : OsState) : segRunT treeTable zP w 51 zann 1 62 (zs5 w os) (piecesOf zl5 zEnv zc ⟨372, 0, 577, 17⟩ [topFrame zq]) = some (.next, zs6 w os, zc, ⟨586, 0, 608, 15⟩) := by
  kernel_rfl
end Zh
end
section
open PySem PySem.W PyProof.Rows PySem.Calls PySem.Spec
set_option Elab.async false
set_option linter.all false
namespace Mine
/-- codes that may hold a bytearray's buffer -/
def isDecId (i : String) : Bool := PySem.Builtin.Bytes.decodersThatHold.contains i || ["bytearray.__contains__", "bytearray.__mod__", "bytearray.__rmod__", "_struct.pack_into.held", "bytearray.find.held"].contains i
def isDec : Code → Bool
  | .builtin i _ => isDecId i
  | _ => false
def noDec (l : List (Code × Pos)) : Bool := l.all fun x => !isDec x.1
/-- the stack holds no such code -/
def Clean (Γ : PySem.Ctx) : Prop := isDec Γ.code = false ∧ noDec Γ.below = true
def wpG {α : Type} (M : Model) (A : Around) (t : Sem α) (Q : α → Shared → Prop) (E : Value → Shared → Prop) (s : Shared) : Prop :=
  ∀ Γ p, Γ.In A → Clean Γ → Sem.wp M Γ t (fun a _ s' => Q a s') (fun e _ s' => E e s') p s
def codeG (M : Model) (A : Around) (c : Code) (R : Result → Shared → Prop) (s : Shared) : Prop :=
  ∀ Γ p, Γ.code = c → Γ.Below A → Clean Γ → wpCode M Γ R p s
section
variable {α β : Type} {M : Model} {A : Around} {E : Value → Shared → Prop} {s : Shared}
theorem g_any {t : Sem α} {Q : α → Shared → Prop} (h : wpAny M A t Q E s) : wpG M A t Q E s := fun Γ p hΓ _ => h Γ p hΓ
theorem g_mono {t : Sem α} {Q Q' : α → Shared → Prop} {E' : Value → Shared → Prop} (h : wpG M A t Q E s) (hQ : ∀ a s, Q a s → Q' a s) (hE : ∀ e s, E e s → E' e s) : wpG M A t Q' E' s :=
  fun Γ p hΓ hC => Sem.wp_mono M Γ t (fun a _ s => hQ a s) (fun e _ s => hE e s) p s (h Γ p hΓ hC)
theorem g_bind {m : Sem α} {f : α → Sem β} {Q : β → Shared → Prop} (h : wpG M A m (fun a s' => wpG M A (f a) Q E s') E s) : wpG M A (m >>= f) Q E s := fun Γ p hΓ hC => by
  rw [Sem.wp_bind']
  exact Sem.wp_mono M Γ m (fun a p' s' h' => h' Γ p' hΓ hC) (fun _ _ _ h' => h') p s (h Γ p hΓ hC)
theorem g_pure {a : α} {Q : α → Shared → Prop} (h : Q a s) : wpG M A (pure a) Q E s := fun _ _ _ _ => h
theorem g_onRaise {m : Sem α} {k : Value → Sem Unit} {Q : α → Shared → Prop} (h : wpG M A m Q (fun e s' => wpG M A (k e) (fun _ s'' => E e s'') E s') s) : wpG M A (m.onRaise k) Q E s := fun Γ p hΓ hC => by
  rw [Sem.wp_onRaise]
  exact Sem.wp_mono M Γ m (fun _ _ _ h' => h') (fun e p' s' h' => h' Γ p' hΓ hC) p s (h Γ p hΓ hC)
theorem g_holding {vs : List Value} {m : Sem α} {Q : α → Shared → Prop} (h : wpG M A m Q E s) : wpG M A (holding vs m) Q E s := fun Γ p hΓ hC => by
  rw [Sem.wp_holding]; exact h Γ p hΓ hC
theorem enter_clean {Γ : PySem.Ctx} {c : Code} {h : Option Value} {p : Pos} (hC : Clean Γ) (hc : isDec c = false) : Clean (Γ.enter c h p) :=
  ⟨hc, by show ((!isDec Γ.code) && noDec Γ.below) = true; rw [hC.1, hC.2]; rfl⟩
theorem g_run {c : Code} {h : Option Value} {Q : Flow → Shared → Prop} (hd : isDec c = false) (hc : codeG M (A.mark h) c (fun r s' => match r with | .ok f => Q f s' | .error e => E e s') s) (hnb : h ≠ some byPass := by intro x; cases x) :
    wpG M A (run c h) Q E s := fun Γ p hΓ hC => by rw [Sem.wp_run]; exact hc _ p rfl (hΓ.enter c h p hnb) (enter_clean hC hd)
theorem g_runValue {c : Code} {Q : Value → Shared → Prop} (hd : isDec c = false) (hc : codeG M A c (fun r s' => match r with | .ok (.ret v) => Q v s' | .ok _ => False | .error e => E e s') s) :
    wpG M A (runValue c) Q E s := fun Γ p hΓ hC => by rw [Sem.wp_runValue]; exact hc _ p rfl (hΓ.enter c none p (by intro x; cases x)) (enter_clean hC hd)
theorem g_call {f : Value} {pos : List Value} {kw : List (Str × Value)} {Q : Value → Shared → Prop} (hc : codeG M A (.call f ⟨pos, kw⟩) (fun r s' => match r with | .ok (.ret v) => Q v s' | .ok _ => False | .error e => E e s') s) :
    wpG M A (call f pos kw) Q E s := g_runValue rfl hc
theorem gc_any {c : Code} {R : Result → Shared → Prop} (h : codeAny M A c R s) : codeG M A c R s := fun Γ p hc hΓ _ => h Γ p hc hΓ
theorem gc_mono {c : Code} {R R' : Result → Shared → Prop} (h : codeG M A c R s) (hR : ∀ r s, R r s → R' r s) : codeG M A c R' s := fun Γ p hc hΓ hC => wpCode_mono hR (h Γ p hc hΓ hC)
theorem gc_tree {c : Code} {R : Result → Shared → Prop}
    (h : wpG M (A.under c) (M.den c) (fun fin s' => match fin with | .done f => R (.ok f) s' | .again c' => c'.quiet = true ∧ isDec c' = false ∧ codeG M A c' R s') (fun e s' => R (.error e) s') s) : codeG M A c R s := fun Γ p hc hΓ hC => by
  rw [wpCode_iff_wp, hc]
  refine Sem.wp_mono M Γ _ (fun fin p' s' h' => ?_) (fun _ _ _ h' => h') p s (h Γ p (hc ▸ hΓ.in) hC)
  cases fin with
  | done f => exact h'
  | again c' => exact ⟨h'.1, h'.2.2 (Γ.goto c') p' rfl (hΓ.goto c') ⟨h'.2.1, hC.2⟩⟩
/-- nothing holds the buffer -/
theorem g_exported {v : Value} {Q : Bool → Shared → Prop} (h : Q false s) : wpG M A (PySem.Builtin.Bytes.exported v) Q E s := fun Γ p hΓ hC => by
  have key : ∀ l : List (Code × Pos), noDec l = true → (l.any fun
    | (.builtin "bytearray.__contains__" ⟨v' :: _, _⟩, _) | (.builtin "bytearray.__mod__" ⟨v' :: _, _⟩, _)
    | (.builtin "bytearray.__rmod__" ⟨_ :: v' :: _, _⟩, _) | (.builtin "_struct.pack_into.held" ⟨v' :: _, _⟩, _) => PySem.Builtin.Bytes.sameRef v' v
    | (.builtin "bytearray.find.held" ⟨_ :: _ :: held, _⟩, _) => held.any (PySem.Builtin.Bytes.sameRef v)
    | (.builtin i ⟨v' :: _, _⟩, _) => PySem.Builtin.Bytes.sameRef v' v && PySem.Builtin.Bytes.decodersThatHold.contains i
    | _ => false) = false := by
    intro l hl
    rw [List.any_eq_false]
    intro x hx
    have hd : isDec x.1 = false := by
      have := List.all_eq_true.mp hl x hx
      simpa using this
    split
    case h_6 =>
      have : PySem.Builtin.Bytes.decodersThatHold.contains _ = false := (Bool.or_eq_false_iff.mp hd).1
      rw [this, Bool.and_false]; exact Bool.false_ne_true
    all_goals first | exact Bool.false_ne_true | exact absurd (show isDecId _ = false from hd) (by decide)
  have h2 : noDec ((Γ.code, p) :: Γ.below) = true := by show ((!isDec Γ.code) && noDec Γ.below) = true; rw [hC.1, hC.2]; rfl
  have h3 := key _ h2
  exact (congrArg (fun b => Q b s) h3).mpr h
end
/-- the whole look at the stack, ahead of a call -/
def guardRun {α : Type} (t : Sem α) (d : Sem α) : Sem α := .stack fun st => if noDec st = true then t else d
theorem g_guard {α : Type} {M : Model} {A : Around} {E : Value → Shared → Prop} {s : Shared} {t d : Sem α} {Q : α → Shared → Prop} (hd : wpAny M A d Q E s) (h : wpG M A t Q E s) : wpAny M A (guardRun t d) Q E s := fun Γ p hΓ => by
  unfold guardRun
  rw [Sem.wp_stack]
  by_cases hn : noDec ((Γ.code, p) :: Γ.below) = true
  · rw [if_pos hn]
    have hn' : ((!isDec Γ.code) && noDec Γ.below) = true := hn
    obtain ⟨h1, h2⟩ := Bool.and_eq_true_iff.mp hn'
    exact h Γ p hΓ ⟨by simpa using h1, h2⟩
  · rw [if_neg hn]; exact hd Γ p hΓ
theorem sched_guard {den : Code → Sem Fin} {prog : Program} {w : World} {s : Shared} {t d : Sem Fin} {c : Code} {p : Pos} {n : Nat} (hz : s.asleep) (hn : noDec [(c, p)] = true) :
    schedN den prog w (n + 1) (.single s ⟨guardRun t d, c, p, []⟩) = schedN den prog w n (.single s ⟨t, c, p, []⟩) := by
  have hs : step den prog w s ⟨guardRun t d, c, p, []⟩ = .go s ⟨t, c, p, []⟩ := by
    show Step.go _ _ = _
    show Step.go s ⟨if noDec [(c, p)] = true then t else d, c, p, []⟩ = _
    rw [if_pos hn]
  have h1 := (sstep_single den prog w s ⟨guardRun t d, c, p, []⟩ rfl hz).resolve_right (by rw [hs]; intro e; cases e)
  show (match sstep den prog w (.single s ⟨guardRun t d, c, p, []⟩) with | .go c' => schedN den prog w n c' | .halt o s => SRun.halted o s) = _
  rw [h1, hs]
  rfl
theorem unguard {c : ClaimW} {tree dummy : List Value → Sem Fin} {defs kps : List Str} {writes : Bool}
    (H : c.HoldsOpenBy (fun vs => ⟨guardRun (tree vs) (dummy vs), .builtin "claim.caller" {}, default, []⟩) defs kps writes) : c.HoldsOpenBy (fun vs => ⟨tree vs, .builtin "claim.caller" {}, default, []⟩) defs kps writes := by
  obtain ⟨h1, h2, h3⟩ := H
  refine ⟨h1, h2, fun w => ⟨(h3 w).1, fun s hs => ?_⟩⟩
  obtain ⟨s₀, f, g, s₁, T, d, r1, r2, cf⟩ := (h3 w).2 s hs
  have z0 : s₀.asleep := Shared.asleep_of_life (fence_lifeW f) (AfterImport.life hs)
  have z : s₁.asleep := Shared.asleep_of_life T.2.1 z0
  refine ⟨s₀, f, g, s₁, T, d, r1, r2, fun args hp hl ord ho => ?_⟩
  obtain ⟨vs, s₂, hlaid, n, o, s', hn, rest⟩ := cf args hp hl ord ho
  have z2 : s₂.asleep := Shared.asleep_of_life (layAllW_rest _ _ _ hlaid).2.2.2 z
  cases n with
  | zero => cases hn
  | succ n =>
    refine ⟨vs, s₂, hlaid, n, o, s', ?_, rest⟩
    rw [← hn]
    exact (sched_guard z2 (by decide +kernel)).symm
end Mine
end
section
open PySem PySem.W PyProof.Rows PySem.Calls PySem.Spec
set_option Elab.async false
set_option linter.all false
namespace Mine
abbrev runG : Value → List Value → Sem Value := fun f vs => guardRun (PySem.call f vs) (pure (.bool true))
theorem guard_tree {M : Model} {A : Around} {s : Shared} {x : Value} {mg : Str → Option Value} {name : Str} {f : Value} {vs : List Value} {Q : Fin → Shared → Prop} {E : Value → Shared → Prop} (hg : s.heap.Ns mainGlobals mg) (hf : mg name = some f)
    (h : wpAny M A (guardRun (PySem.call f vs) (pure x)) (fun v s' => Q (.done (.ret v)) s') E s) :
    wpAny M A (guardRun (do match ← nsGet mainNs name with | some f => do ret (← PySem.call f vs) | none => unsupported "claim.caller:no-such-global") (ret x)) Q E s := fun Γ p hΓ => by
  have h1 := h Γ p hΓ
  unfold guardRun at h1 ⊢
  rw [Sem.wp_stack] at h1 ⊢
  by_cases hn : noDec ((Γ.code, p) :: Γ.below) = true
  · rw [if_pos hn] at h1 ⊢
    have h2 : wpAny M { A with } (nsGet mainNs name) (fun v s' => v = some f ∧ s' = s) (fun _ _ => False) s := wpAny_nsGet hg ⟨hf, rfl⟩
    have h3 := h2 Γ p hΓ
    rw [Sem.wp_bind']
    refine Sem.wp_mono M Γ _ (fun v p' s' hv => ?_) (fun _ _ _ x => x.elim) p s h3
    obtain ⟨rfl, rfl⟩ := hv
    dsimp only
    rw [Sem.wp_bind']
    have h4 := h Γ p' hΓ
    unfold guardRun at h4
    rw [Sem.wp_stack, if_pos (show noDec ((Γ.code, p') :: Γ.below) = true from hn)] at h4
    exact h4
  · rw [if_neg hn] at h1 ⊢
    exact h1
theorem holds_openG {r : OpenRow} {q : Program} {loose : List Str} {Xt : Shared → Bool} {XP : (Str → Option Value) → Heap → Prop} {α : Type} {Yf : Shared → α} {Ya : World → α} {YP : World → Heap → Prop} {d : DefRec} {kwd : List (Str × Expr)} {N : Nat}
    (left : LeftO r.prog q loose Xt Yf Ya N) (hY : ∀ w s, Yf s = Ya w → YP w s.heap) (hYk : ∀ w h h', YP w h → (∀ b o, h.get? b = some o → h'.get? b = some o) → YP w h')
    (hX : ∀ s, Xt s = true → XP (s.heap.nsMap mainGlobals) s.heap) (hXk : ∀ mg h h', XP mg h → (∀ b o, h.get? b = some o → h'.get? b = some o) → XP mg h')
    (hdef : defOf q r.name = some (d, kwd)) (hp : r.prog.theDef r.name = some (d.params, d.body, d.scope)) (hk : kwWritten? d.params.kwonlyargs d.params.kw_defaults = some kwd) (hRf : ∀ s, Xt s = true → RecFacts r.records s.heap) (hwr : (!r.writes || r.records.isEmpty) = true)
    (k1 : r.wellSaid = true) (ok : (chainsOk q && opensWell r.prog && (frees r.toRowW && r.within.isEmpty)) = true) (hb : r.prog.bare) (hw : r.toRowW.promised)
    (call : WalkO q loose XP YP r.toRowW d kwd runG) : r.Holds :=
  ⟨k1, hw, unguard (dummy := fun _ => ret (.bool true)) (open_anyG (r := r.toRowW) (run := runG) left hY hYk hX hXk hRf hwr ok hb hw
    (fun _ _ _ _ _ _ _ hg hf h => guard_tree hg hf h)
    (fun w s hg G n hn => by
      obtain rfl : n = r.name := by split at hn <;> simp_all
      exact pinned_of_view hg G hdef hp hk)
    (fun w s₀ s₁ mg mb G Y args vs as hpre hlay L low => by
      obtain ⟨a, o, pm, cd, doc, dV, kV, h1, h2, h3, h4, h5⟩ := G.fn hdef
      exact ⟨.ref a, h1, call w s₀ s₁ mg mb G Y a o pm cd doc dV kV h2 h3 h4 h5 (defOf_name hdef ▸ h1) L.gens args vs as hpre hlay L.reads L.well (L.low low)⟩))⟩
end Mine
end
section
open PySem PySem.W PyProof.Rows
set_option Elab.async false
set_option maxRecDepth 100000
set_option maxHeartbeats 8000000
theorem ws03a : OpenRow.wellSaid (OpenLaw.row PySem.Challenge.rw_ko0126_03) = true := by
  kernel_rfl
theorem ws03 : OpenLaw.wellSaid PySem.Challenge.rw_ko0126_03 = true := by
  unfold OpenLaw.wellSaid
  rw [ws03a]
  kernel_rfl
end
section
open PySem PySem.W PyProof.Rows
set_option Elab.async false
set_option maxRecDepth 100000
set_option maxHeartbeats 8000000
theorem he03.three {A B W C : Prop} (f : A → W → B → C) (hw : W) (h : A ∧ B) : C := f h.1 hw h.2
/-- what the head asks of the top's run -/
abbrev he03.fstOf {A B C : Prop} (_ : A ∧ B → C) : Prop := A
/-- the top's statements that the head keeps -/
def he03.view : Program :=
  { PySem.Challenge.rw_ko0126_03.row.prog with main := { PySem.Challenge.rw_ko0126_03.row.prog.main with body := [0, 1, 27].filterMap fun i => PySem.Challenge.rw_ko0126_03.row.prog.main.body[i]? } }
local macro_rules | `(tactic| o_head $H) => do
  let hw := Lean.mkIdent `hw
  let hc := Lean.mkIdent `hc
  `(tactic| (rename _ = true => hsaid; refine he03.three (fun hA hW hB => Mine.holds_openG (q := he03.view) (loose := [PySem.Str.ofString "_wall", PySem.Str.ofString "PLISTHEADER", PySem.Str.ofString "_controlCharPat", PySem.Str.ofString "_buffer", PySem.Str.ofString "_truth", PySem.Str.ofString "_B64", PySem.Str.ofString "b2a_base64", PySem.Str.ofString "_encode_base64", PySem.Str.ofString "_date_to_string", PySem.Str.ofString "_escape", PySem.Str.ofString "_DumbXMLWriter", PySem.Str.ofString "_PlistWriter", PySem.Str.ofString "_whence", PySem.Str.ofString "_index", PySem.Str.ofString "UnsupportedOperation", PySem.Str.ofString "IOBase", PySem.Str.ofString "BufferedIOBase", PySem.Str.ofString "TextIOBase", PySem.Str.ofString "BytesIO", PySem.Str.ofString "StringIO", PySem.Str.ofString "_law_signs"]) (Xt := fun s => xlAt he03.view [] s && recOk (RowW.records (OpenRow.toRowW PySem.Challenge.rw_ko0126_03.row)) s) (XP := XL he03.view []) (Yf := Hook.obs $H) (Ya := Hook.val $H) (YP := Hook.says $H) (N := 10122) hA (Hook.of $H) (Hook.keeps $H) (fun s e => xl_of s (Bool.and_eq_true_iff.mp e).1) XL.keeps (by rfl) (by rfl) (by rfl) (fun s e => recFacts_of (Bool.and_eq_true_iff.mp e).2) (by rfl) hsaid (by decide +kernel) ⟨rfl, rfl, rfl, rfl, rfl, by decide +kernel⟩ hW hB) ?$hw ?$hc))
local macro_rules | `(tactic| o_law) => `(tactic| refine holds_law ws03 fun said => ?_)
open_top hd03 for PySem.Challenge.rw_ko0126_03
end
section
open PySem PySem.W PyProof.Rows
set_option Elab.async false
set_option maxRecDepth 100000
set_option maxHeartbeats 8000000
namespace Zh
theorem zb_eq : zb = zl1 ++ (zl2 ++ (zl3 ++ (zl4 ++ (zl5 ++ [])))) := by
  kernel_rfl
theorem zrun (w : World) (os : OsState) : topRun treeTable zP w 51 zann (12 + (1 + (1122 + (963 + (1278 + (1578 + (62 + 2))))))) ⟨zHo w.params, #[], (Drawn.mk 0 0 0 0), 388, os⟩ (topStub zP) = some ⟨zHf w.params, #[], (Drawn.mk 0 0 0 0), 1324, os⟩ := by
  refine go_top (pre w os) (piece_block (block w os) ?_)
  rw [zb_eq]
  exact piece_app (segRun_of (piece1 w os)) (piece_app (segRun_of (piece2 w os)) (piece_app (segRun_of (piece3 w os)) (piece_app (segRun_of (piece4 w os)) (piece_app (segRun_of (piece5 w os)) (piece_nil (fin w os))))))
theorem left03 : he03.fstOf hd03 := by
  refine LeftO.of_pieces (H₀ := zHo) (H₁ := zHf) (gs₀ := #[]) (gs₁ := #[]) opens size zrun (by rfl) ?_
  intro w
  kernel_rfl
end Zh
end
section
open PySem PySem.W PyProof.Rows PySem.Calls PySem.Spec
set_option Elab.async false
set_option maxRecDepth 100000
namespace Mine
/-- the end of a def's walk -/
def PEnd (R : Result → Shared → Prop) (v : Value) (s' : Shared) : Prop := R (.ok (.ret v)) s'
abbrev arnd (dp un : Nat) (gd : Option (List Code)) (outer : List Env) : Around := { handled := none, depth := dp, frames := some outer, guards := gd, units := un }
theorem enter {prog : Program} {w : World} {A : Around} {base : Heap} {outer : List Env} {s : Shared} {K : Frag} {R : Result → Shared → Prop} {p : Program} {loose : List Str} {mean : ExcName → Option Value} {mg mb : Str → Option Value}
    {name qual : Str} {params : Arguments} {body : List Stmt} {scope : Scope} {dV kV doc pm cdv ct oc : Value} {an od : Option Addr} {osl : Array (Option Value)} {f : Addr} {args : Args} {binds : List (Str × Value)}
    (_B : Below A base outer s.heap) (X : K.In s.heap) (T : Top p loose mean mg mb s.heap)
    (ho : K.lookup f = some ⟨oc, od, .func (fnOf name qual params body scope dV kV doc pm an cdv ct), osl⟩) (hcd : codeIn K cdv qual = true) (hroom : A.depth < recursionLimit)
    (hbind : BindsTo s (fnOf name qual params body scope dV kV doc pm an cdv ct) args binds) (hloc : ∀ y ∈ binds, scope.names.lookup y.1 = some .local)
    (h : ∀ L h₁, Fr s.heap L h₁ (fun y => binds.reverse.lookup y) → News s.heap L h₁ [] →
      wpAny (model prog w) (A.deeper (envOf qual scope L f cdv)) (execs body (envOf qual scope L f cdv))
        (fun fl s' => PEnd R (match fl with | .ret v => v | _ => .none) s')
        (fun e s' => wpAny (model prog w) (A.deeper (envOf qual scope L f cdv)) (leaving (envOf qual scope L f cdv) e) (fun _ s'' => R (.error e) s'') (fun e' s'' => R (.error e') s'') s')
        { s with heap := h₁, toks := s.toks + binds.length })
    (hco : scope.isCoroutine = false := by rfl) (hgen : scope.isGenerator = false := by rfl) (hk : scope.kind = .function := by rfl)
    (hcell : ∀ x ∈ scope.names, x.2 ≠ .cell := by decide) : codeAny (model prog w) A (.call (.ref f) args) R s :=
  codeAny_call_def (fd := fnOf name qual params body scope dV kV doc pm an cdv ct) (body := body) (binds := binds) hroom (X _ _ ho) rfl T.nolimit (codeRec_of X hcd) rfl hbind hcell hloc
    (fun h₁ hns hk₁ => h s.heap.objs.size h₁ ⟨hns, hk₁, Nat.le_refl _⟩ News.nil) hco hgen hk
end Mine
end
section
open PySem PySem.W PyProof.Rows PySem.Calls PySem.Spec
set_option Elab.async false
set_option linter.all false
set_option maxRecDepth 100000
set_option maxHeartbeats 4000000
namespace Mine
/-- the law's own body and scope, as the row has them -/
def lawDef : List Stmt × Scope := match PySem.Challenge.rw_ko0126_03.prog.main.body.getLast? with
    | some (.FunctionDef _ _ body _ _ _ sc _ _ _) => (body, sc)
    | _ => ([], { kind := .module, names := [], isGenerator := false, isCoroutine := false, more := [] })
def lawSc : Scope := lawDef.2
def lawBody : List Stmt := lawDef.1
theorem fr_pin {h₀ h : Heap} {L : Addr} {m : Str → Option Value} {x : Str} {v : Value} (F : Fr h₀ L h m) (hx : m x = some v) : Fr h₀ L h (fun y => if y = x then some v else m y) := by
  have e : (fun y => if y = x then some v else m y) = m := funext fun y => by
    by_cases h : y = x
    · subst h; rw [if_pos rfl, hx]
    · rw [if_neg h]
  rw [e]; exact F
end Mine
end
section
open PySem PySem.W PyProof.Rows PySem.Calls PySem.Spec
set_option Elab.async false
set_option maxRecDepth 100000
namespace Mine
/-- the table of signs -/
def tabB : List Int := [65, 66, 67, 68, 69, 70, 71, 72, 73, 74, 75, 76, 77, 78, 79, 80, 81, 82, 83, 84, 85, 86, 87, 88, 89, 90, 97, 98, 99, 100, 101, 102, 103, 104, 105, 106, 107, 108, 109, 110, 111, 112, 113, 114, 115, 116, 117, 118, 119, 120, 121, 122, 48, 49, 50, 51, 52, 53, 54, 55, 56, 57, 43, 47]
def sg (i : Int) : Int := tabB.getD i.toNat 0
/-- one octet: the signs so far, the bits left, the low sixteen -/
def bstep (st : List Int × Int × Int) (b : Int) : List Int × Int × Int :=
  let lc := (st.2.2 * 256 + b) % 65536
  if st.2.1 = 0 then (st.1 ++ [sg (lc / 4 % 64)], 2, lc)
  else if st.2.1 = 2 then (st.1 ++ [sg (lc / 16 % 64)], 4, lc)
  else (st.1 ++ [sg (lc / 64 % 64)] ++ [sg (lc / 1 % 64)], 0, lc)
def brun (ks : List Int) : List Int × Int × Int := ks.foldl bstep ([], 0, 0)
def btail (st : List Int × Int × Int) : List Int :=
  if st.2.1 = 2 then st.1 ++ [sg (st.2.2 % 4 * 16)] ++ [61] ++ [61] else if st.2.1 = 4 then st.1 ++ [sg (st.2.2 % 16 * 4)] ++ [61] else st.1
def b64 (ks : List Int) : List Int := btail (brun ks)
theorem brun_snoc (ks : List Int) (b : Int) : brun (ks ++ [b]) = bstep (brun ks) b := by
  unfold brun
  rw [List.foldl_append]
  rfl
theorem sg_in (i : Int) : 0 ≤ sg i ∧ sg i < 256 := by
  unfold sg
  have h : ∀ k ∈ tabB, 0 ≤ k ∧ k < 256 := by decide
  by_cases hi : i.toNat < tabB.length
  · rw [List.getD_eq_getElem?_getD, List.getElem?_eq_getElem hi]
    exact h _ (List.getElem_mem hi)
  · rw [List.getD_eq_getElem?_getD, List.getElem?_eq_none (by omega)]
    exact ⟨by decide, by decide⟩
theorem bstep0 (out : List Int) (lc b : Int) : bstep (out, 0, lc) b = (out ++ [sg ((lc * 256 + b) % 65536 / 4 % 64)], 2, (lc * 256 + b) % 65536) := rfl
theorem bstep2 (out : List Int) (lc b : Int) : bstep (out, 2, lc) b = (out ++ [sg ((lc * 256 + b) % 65536 / 16 % 64)], 4, (lc * 256 + b) % 65536) := rfl
theorem bstep4 (out : List Int) (lc b : Int) : bstep (out, 4, lc) b = (out ++ [sg ((lc * 256 + b) % 65536 / 64 % 64)] ++ [sg ((lc * 256 + b) % 65536 / 1 % 64)], 0, (lc * 256 + b) % 65536) := rfl
theorem in_snoc {l : List Int} {n : Int} (hl : ∀ k ∈ l, 0 ≤ k ∧ k < 256) (hn : 0 ≤ n ∧ n < 256) : ∀ k ∈ l ++ [n], 0 ≤ k ∧ k < 256 := fun k hk => by
  rcases List.mem_append.mp hk with hk | hk
  · exact hl k hk
  · rw [List.mem_singleton.mp hk]; exact hn
theorem ints_push {its : Array Value} {ns : List Int} {n : Int} {t : Tok} (h : IntsAre its.toList ns) : IntsAre (its.push (.int n t)).toList (ns ++ [n]) := by
  rw [Array.toList_push]
  exact h.append (.cons _ _ .nil)
structure BOk (st : List Int × Int × Int) (n : Nat) : Prop where
  lb : st.2.1 = 0 ∨ st.2.1 = 2 ∨ st.2.1 = 4
  lo : 0 ≤ st.2.2
  hi : st.2.2 < 65536
  len : st.1.length ≤ 2 * n
  inn : ∀ k ∈ st.1, 0 ≤ k ∧ k < 256
theorem bok_step {st : List Int × Int × Int} {n : Nat} {b : Int} (h : BOk st n) : BOk (bstep st b) (n + 1) := by
  obtain ⟨hl, h0, h1, hn, hin⟩ := h
  have g0 : 0 ≤ (st.2.2 * 256 + b) % 65536 := Int.emod_nonneg _ (by decide)
  have g1 : (st.2.2 * 256 + b) % 65536 < 65536 := Int.emod_lt_of_pos _ (by decide)
  have hs : ∀ {l : List Int} {i k : Int}, (∀ k ∈ l, 0 ≤ k ∧ k < 256) → k ∈ l ++ [sg i] → 0 ≤ k ∧ k < 256 := fun hl hk => by
    rcases List.mem_append.mp hk with hk | hk
    · exact hl _ hk
    · rw [List.mem_singleton.mp hk]; exact sg_in _
  unfold bstep
  dsimp only
  rcases hl with e | e | e
  · rw [if_pos e]
    exact ⟨.inr (.inl rfl), g0, g1, by simp only [List.length_append, List.length_cons, List.length_nil]; omega, fun k hk => hs hin hk⟩
  · rw [if_neg (by omega), if_pos e]
    exact ⟨.inr (.inr rfl), g0, g1, by simp only [List.length_append, List.length_cons, List.length_nil]; omega, fun k hk => hs hin hk⟩
  · rw [if_neg (by omega), if_neg (by omega)]
    exact ⟨.inl rfl, g0, g1, by simp only [List.length_append, List.length_cons, List.length_nil]; omega, fun k hk => hs (fun k hk => hs hin hk) hk⟩
theorem bok : ∀ (ks : List Int) (st : List Int × Int × Int) (n : Nat), BOk st n → BOk (ks.foldl bstep st) (n + ks.length)
  | [], _, _, h => h
  | b :: r, st, n, h => by
    have := bok r (bstep st b) (n + 1) (bok_step h)
    rw [List.foldl_cons, List.length_cons, show n + (r.length + 1) = n + 1 + r.length by omega]
    exact this
theorem brun_ok (ks : List Int) : BOk (brun ks) ks.length := by
  have := bok ks ([], 0, 0) 0 ⟨.inl rfl, by decide, by decide, by decide, fun _ h => nomatch h⟩
  rw [Nat.zero_add] at this
  exact this
section
variable {prog : Program} {w : World} {A : Around} {E : Value → Shared → Prop} {s : Shared} {a b : Int} {t u : Tok} {Q : Value → Shared → Prop}
theorem k_shl {d : Int} (hn : 0 ≤ b ∧ b ≤ 64) (ha : 0 ≤ a ∧ a < 65536) (e : (2 : Int) ^ b.toNat = d) (h : Q (.int (a * d) s.toks) { s with toks := s.toks + 1 }) : wpAny (model prog w) A (binaryOp .LShift (.int a t) (.int b u)) Q E s := by
  subst e
  exact lshift_int_small hn.1 (by omega) (by omega) h
theorem k_shr {d : Int} (hn : 0 ≤ b) (e : (2 : Int) ^ b.toNat = d) (hd : 0 ≤ d) (h : Q (.int (a / d) s.toks) { s with toks := s.toks + 1 }) : wpAny (model prog w) A (binaryOp .RShift (.int a t) (.int b u)) Q E s := by
  subst e
  refine rshift_int hn ?_
  rw [Int.fdiv_eq_ediv_of_nonneg _ hd]
  exact h
theorem or_256 (hb : 0 ≤ b ∧ b < 256) (ha : 0 ≤ a) : Builtin.bitOr (a * 256) b = a * 256 + b := by
  obtain ⟨n, rfl⟩ := Int.eq_ofNat_of_zero_le ha
  obtain ⟨k, rfl⟩ := Int.eq_ofNat_of_zero_le hb.1
  have hk : k < 2 ^ 8 := by omega
  have e1 := Nat.two_pow_add_eq_or_of_lt hk n
  unfold Builtin.bitOr Builtin.bitAnd Builtin.bitNot
  have h1 : decide (0 ≤ -((n : Int) * 256) - 1) = false := decide_eq_false (by omega)
  have h2 : decide (0 ≤ -(k : Int) - 1) = false := decide_eq_false (by omega)
  rw [h1, h2]
  dsimp only
  have f1 : (-(-((n : Int) * 256) - 1) - 1).toNat = 2 ^ 8 * n := by omega
  have f2 : (-(-(k : Int) - 1) - 1).toNat = k := by omega
  rw [f1, f2, ← e1]
  push_cast
  omega
theorem k_or8 (hb : 0 ≤ b ∧ b < 256) (ha : 0 ≤ a) (h : Q (.int (a * 256 + b) s.toks) { s with toks := s.toks + 1 }) : wpAny (model prog w) A (binaryOp .BitOr (.int (a * 256) t) (.int b u)) Q E s := by
  refine or_int ?_
  rw [or_256 hb ha]
  exact h
theorem k_and65535 (h : Q (.int (a % 65536) s.toks) { s with toks := s.toks + 1 }) : wpAny (model prog w) A (binaryOp .BitAnd (.int a t) (.int 65535 u)) Q E s := by
  refine and_int ?_
  rw [bitAnd_m16]
  exact h
theorem k_and63 (h : Q (.int (a % 64) s.toks) { s with toks := s.toks + 1 }) : wpAny (model prog w) A (binaryOp .BitAnd (.int a t) (.int 63 u)) Q E s := by
  refine and_int ?_
  rw [bitAnd_m6]
  exact h
theorem k_and3 (h : Q (.int (a % 4) s.toks) { s with toks := s.toks + 1 }) : wpAny (model prog w) A (binaryOp .BitAnd (.int a t) (.int 3 u)) Q E s := by
  refine and_int ?_
  rw [bitAnd_m2]
  exact h
theorem k_and15 (h : Q (.int (a % 16) s.toks) { s with toks := s.toks + 1 }) : wpAny (model prog w) A (binaryOp .BitAnd (.int a t) (.int 15 u)) Q E s := by
  refine and_int ?_
  rw [bitAnd_m4]
  exact h
end
section
variable {prog : Program} {w : World} {A : Around} {E : Value → Shared → Prop} {s : Shared}
theorem k_bytesL {l : Addr} {its : Array Value} {ns : List Int} {Q : Value → Shared → Prop} (hl : s.heap.IsList l its) (hi : IntsAre its.toList ns) (hr : ∀ n ∈ ns, 0 ≤ n ∧ n < 256) (hz : its.size ≤ 300000) (hh : A.handled = none)
    (hQ : ∀ h' t k b, (∀ b o, s.heap.get? b = some o → h'.get? b = some o) → KBw.bInts b = ns → Q (.bytes b t) { s with heap := h', toks := k }) : wpAny (model prog w) A (call (.type "bytes") [.ref l]) Q E s := by
  have e : its = its.toList.toArray := rfl
  rw [e] at hl
  exact call_bytes_ints hl hi hr (by rw [Array.length_toList, sizeLine_eq]; omega) hh fun h' t k hk => hQ h' t k _ hk (KBa.ints_make hr)
end
section
variable {prog : Program} {w : World} {A : Around} {E : Value → Shared → Prop} {s : Shared} {h₀ : Heap} {L : Addr} {m : Str → Option Value} {Q : Value → Shared → Prop} {value slice : Expr} {t : Tok}
theorem k_sg {b : Array UInt8} {i : Int} {ui : Tok} (hk : KBw.bInts b = tabB) (h0 : 0 ≤ i) (h1 : i < 64) (h : ∀ t' k, Q (.int (sg i) t') { s with toks := k })
    (hs : subscripted slice false (.bytes b t) (.int i ui) = operate [.bytes b t, .int i ui] (getItem (.bytes b t) (.int i ui)) := by with_unfolding_all rfl)
    (ht : ∀ r, letTemporaryGo value (.bytes b t) r = pure () := by intro _; with_unfolding_all rfl) : wpAny (model prog w) A (subscriptTail value slice (.bytes b t) (.int i ui)) Q E s :=
  KBw.item_K hk (by decide) h0 (by show i < (64 : Int); exact h1) (fun t' k _ _ => h t' k) hs ht
theorem k_appO {o : Addr} {its : Array Value} {n : Nat} {own : List (Addr × Obj)} {x : Value} (F : Fr h₀ L s.heap m) (N : News h₀ L s.heap ([(o, listOf its n)] ++ own)) (hoff : OwnOff own [o]) (hsz : its.size ≤ sizeLine)
    (h : ∀ h', Fr h₀ L h' m → News h₀ L h' ([(o, listOf (its.push x) (n + 1))] ++ own) → Q .none { s with heap := h' }) : wpAny (model prog w) A (call (.builtin "list.append") [.ref o, x]) Q E s := by
  have z := N (o, listOf its n) (.head _)
  exact append_at (hsz := hsz) z.1 fun h' hs ho' => h h' (F.change hs z.2.1 z.2.2) (news_set (pre := []) N (fun _ hp => nomatch hp) (fun p hp => hoff p hp o (.head _)) hs ho')
theorem k_app1 {o : Addr} {its : Array Value} {n : Nat} {x : Value} (F : Fr h₀ L s.heap m) (N : News h₀ L s.heap [(o, listOf its n)]) (hsz : its.size ≤ sizeLine)
    (h : ∀ h', Fr h₀ L h' m → News h₀ L h' [(o, listOf (its.push x) (n + 1))] → Q .none { s with heap := h' }) : wpAny (model prog w) A (call (.builtin "list.append") [.ref o, x]) Q E s := by
  have z := N (o, listOf its n) (.head _)
  exact append_at (hsz := hsz) z.1 fun h' hs ho' => h h' (F.change hs z.2.1 z.2.2) (news_set (pre := []) N (fun _ hp => nomatch hp) (fun _ hp => nomatch hp) hs ho')
end
end Mine
end
section
open PySem PySem.W PyProof.Rows PySem.Calls PySem.Spec PySem.Builtin
set_option Elab.async false
set_option maxRecDepth 100000
namespace Mine
/-- the values are bytes with these ints -/
inductive BysAre : List Value → List (List Int) → Prop
  | nil : BysAre [] []
  | cons {b : Array UInt8} {t : Tok} {ks : List Int} {vs : List Value} {kss : List (List Int)} (h : KBw.bInts b = ks) (r : BysAre vs kss) : BysAre (.bytes b t :: vs) (ks :: kss)
theorem BysAre.snoc {b : Array UInt8} {t : Tok} {ks : List Int} (h : KBw.bInts b = ks) : ∀ {vs : List Value} {kss : List (List Int)}, BysAre vs kss → BysAre (vs ++ [.bytes b t]) (kss ++ [ks])
  | _, _, .nil => .cons h .nil
  | _, _, .cons h' r => .cons h' (BysAre.snoc h r)
theorem BysAre.length : ∀ {vs : List Value} {kss : List (List Int)}, BysAre vs kss → vs.length = kss.length
  | _, _, .nil => rfl
  | _, _, .cons _ r => congrArg (· + 1) r.length
theorem BysAre.at : ∀ {vs : List Value} {kss : List (List Int)}, BysAre vs kss → ∀ (i : Nat) (v : Value), vs[i]? = some v → ∃ b t ks, v = .bytes b t ∧ kss[i]? = some ks ∧ KBw.bInts b = ks
  | _, _, .nil, i, v, h => by simp at h
  | _, _, .cons (b := b) (t := t) (ks := ks) hb r, 0, v, h => ⟨b, t, ks, by simpa using h.symm, rfl, hb⟩
  | _, _, .cons hb r, i + 1, v, h => by
    obtain ⟨b, t, ks, e, e2, e3⟩ := r.at i v (by simpa using h)
    exact ⟨b, t, ks, e, by simpa using e2, e3⟩
theorem slot_bjoin : Slot "bytes" "join" "bytes.join" :=
  .of (owner := "bytes") (n := "join") (by rw [typeLookup_type, builtinLookup_eq_fast]; kernel_rfl) (by decide +kernel) (by decide +kernel) (by decide +kernel)
    (by first | exact .inl (by decide +kernel) | exact .inr (by decide +kernel)) (by rw [isSubtype_type]; kernel_rfl)
theorem entry_bjoin : entryFor table "bytes.join" = some Builtin.«bytes.join» := by first | exact entryFor_of_tree (by kernel_rfl) | exact entryFor_of_fast (by kernel_rfl)
theorem args_bjoin (a b : Value) : argsOk "bytes.join" ⟨[a, b], []⟩ := by unfold argsOk; kernel_rfl
theorem type_bjoin : typeOf (.builtin "bytes.join") = pure (.type "method_descriptor") := by kernel_rfl
theorem letGo_nil {M : Model} {A : Around} {E : Value → Shared → Prop} {s : Shared} {Q : Unit → Shared → Prop} (h : Q () s) : ∀ (l : List (Value × Option Value)) (keep : List Value), (∀ p ∈ l, p.2 = none) → wpAny M A (Bytes.joinLetGo l keep) Q E s
  | [], _, _ => wpAny_pure h
  | (x, w) :: r, keep, hl => by
    have e : w = none := hl _ (.head _)
    subst e
    unfold Bytes.joinLetGo
    exact wpAny_bind (wpAny_letGo (letGo_nil h r keep fun p hp => hl p (.tail _ hp)))
theorem take_eq {b : Array UInt8} {t : Tok} {id : String} : Bytes.takeBuffer? id (.bytes b t) 0 = pure (some (b, none)) := by
  unfold Bytes.takeBuffer?
  rw [KBy.special_eq KBy.look_buffer, KBy.own_buffer]
  have e : ((0 : Int) == Bytes.fullReadOnly) = false := by decide +kernel
  rw [e, KBy.buffer_eq]
  kernel_rfl
theorem take_buf {M : Model} {A : Around} {E : Value → Shared → Prop} {s : Shared} {b : Array UInt8} {t : Tok} {id : String} {Q : Option (Array UInt8 × Option Value) → Shared → Prop} (h : Q (some (b, none)) s) : wpAny M A (Bytes.takeBufferQuiet? id (.bytes b t) 0) Q E s := by
  unfold Bytes.takeBufferQuiet?
  rw [take_eq]
  exact wpAny_bind (wpAny_attempt (wpAny_pure (wpAny_pure h)))
theorem seq_items {M : Model} {A : Around} {E : Value → Shared → Prop} {s : Shared} {D : Addr} {its : Array Value} {Q : Option (Array Value) → Shared → Prop} (hl : s.heap.IsList D its) (h : Q (some its) s) : wpAny M A (seqItems? (.ref D)) Q E s := by
  obtain ⟨o, ho, hc, n, hd⟩ := hl
  unfold seqItems?
  refine wpAny_bind (wpAny_load ho ?_)
  rw [hd]
  exact wpAny_pure h
theorem joined_acc : ∀ (l : List (Array UInt8)) (k : Nat) (acc : Array UInt8), KBw.bInts ((l.zipIdx k).foldl (fun out (p : Array UInt8 × Nat) => (if p.2 > 0 then out ++ (#[] : Array UInt8) else out) ++ p.1) acc) = KBw.bInts acc ++ (l.map KBw.bInts).flatten
  | [], _, acc => by simp
  | a :: r, k, acc => by
    rw [List.zipIdx_cons, List.foldl_cons, joined_acc r (k + 1), List.map_cons, List.flatten_cons]
    have e : (if k > 0 then acc ++ (#[] : Array UInt8) else acc) = acc := by split <;> simp
    show KBw.bInts ((if k > 0 then acc ++ (#[] : Array UInt8) else acc) ++ a) ++ _ = _
    rw [e, KBw.ints_app rfl rfl, List.append_assoc]
theorem joined_ints (l : List (Array UInt8)) : KBw.bInts (Bytes.joined #[] l) = (l.map KBw.bInts).flatten := by
  have h := joined_acc l 0 #[]
  have e : KBw.bInts (#[] : Array UInt8) = [] := rfl
  rw [e, List.nil_append] at h
  exact h
theorem sizes_fold : ∀ (l : List (Array UInt8)) (n : Nat), l.foldl (fun n a => n + a.size) n = n + (l.map KBw.bInts).flatten.length
  | [], n => by simp
  | a :: r, n => by
    rw [List.foldl_cons, sizes_fold r, List.map_cons, List.flatten_cons, List.length_append, KBw.ints_length]
    omega
theorem meets_join {D : Addr} {its : Array Value} {kss : List (List Int)} {t : Tok} (hb : BysAre its.toList kss) (hsz : kss.flatten.length ≤ 16777216) :
    Meets (Builtin.«bytes.join» ⟨[.bytes #[] t, .ref D], []⟩) (fun _ R s => s.heap.IsList D its ∧ ∀ c t k, KBw.bInts c = kss.flatten → R (.ok (.ret (.bytes c t))) { s with toks := k }) := by
  intro prog w A R s h
  obtain ⟨hl, hR⟩ := h
  have hT : s.TypeIs (.ref D) "list" := by obtain ⟨o, ho, hc, _⟩ := hl; exact ⟨o, ho, hc⟩
  unfold Builtin.«bytes.join» Bytes.joinM
  refine wpAny_bind (wpAny_of_eq (a := (Value.bytes #[] t, Value.ref D)) rfl ?_)
  dsimp only
  rw [if_pos (by decide)]
  refine wpAny_bind ?_
  unfold Bytes.joinItems
  refine wpAny_bind (wpAny_typeOf hT ?_)
  rw [if_pos (by decide)]
  refine wpAny_pure ?_
  refine wpAny_bind (seq_items hl ?_)
  dsimp only
  rw [if_pos (by decide)]
  by_cases h1 : ∃ x, its = #[x]
  · obtain ⟨x, rfl⟩ := h1
    have hb' : BysAre [x] kss := hb
    cases hb' with
    | cons hx r =>
      cases r with
      | nil =>
        refine wpAny_bind (wpAny_typeOf (typeIs_bytes s _ _) ?_)
        rw [if_pos (by decide)]
        refine wpAny_bind (wpAny_rule ?_)
        exact wpAny_pure (hR _ _ s.toks (by rw [hx]; simp))
  · rcases its with ⟨l⟩
    rcases l with _ | ⟨x, _ | ⟨y, r⟩⟩
    rotate_left
    · exact absurd ⟨x, rfl⟩ h1
    all_goals
      clear h1
      show wpAny _ _ (bind (forIn _ _ _) _) _ _ _
      rw [Std.Legacy.Range.forIn_eq_forIn_range']
      generalize hits : (⟨_⟩ : Array Value) = its at *
      refine wpAny_bind (wpAny_forIn_list _ (fun rest (st : Array (Array UInt8) × List (Value × Option Value)) s' => s' = s ∧ ∃ i, i ≤ its.size ∧ rest = List.range' i (its.size - i) ∧ (∀ p ∈ st.2, p.2 = none ∧ p.1.onHeap = false) ∧ st.1.toList.map KBw.bInts = kss.take i) _ ?turn ?fin _ _ ⟨rfl, 0, Nat.zero_le _, ?r0, fun _ hp => (nomatch hp), rfl⟩)
      case r0 => simp
      case turn =>
        rintro x rest ⟨parts, taken⟩ s' ⟨rfl, i, hi, hr, ht, hp⟩
        dsimp only at ht hp ⊢
        have hlt : i < its.size := by
          have := congrArg List.length hr
          simp at this
          omega
        have hx : x = i ∧ rest = List.range' (i + 1) (its.size - (i + 1)) := by
          have e : its.size - i = (its.size - (i + 1)) + 1 := by omega
          rw [e, List.range'_succ] at hr
          exact ⟨(List.cons.inj hr).1, (List.cons.inj hr).2⟩
        obtain ⟨rfl, hrest⟩ := hx
        refine wpAny_bind (seq_items hl ?_)
        dsimp only
        obtain ⟨b, tb, ks, hv, hks, hbk⟩ := hb.at x its[x] (by simp [hlt])
        have hg : its.getD x Value.none = .bytes b tb := by
          rw [Array.getD_eq_getD_getElem?, Array.getElem?_eq_getElem hlt, ← hv]
          rfl
        have hno : ((Bytes.Kind.bytes == Bytes.Kind.bytearray) || taken.any fun p => p.1.onHeap) = false := by
          have : taken.any (fun p => p.1.onHeap) = false := List.any_eq_false.mpr fun p hp => by rw [(ht p hp).2]; exact Bool.false_ne_true
          rw [this]
          rfl
        rw [hno, if_neg Bool.false_ne_true, hg]
        refine wpAny_bind (wpAny_holding (take_buf ?_))
        dsimp only
        refine wpAny_bind (seq_items hl ?_)
        dsimp only
        rw [if_neg (by simp)]
        refine wpAny_pure ⟨rfl, x + 1, hlt, hrest, ?_, ?_⟩
        · intro p hp
          rcases List.mem_append.mp hp with hp | hp
          · exact ht p hp
          · rw [List.mem_singleton.mp hp]; exact ⟨rfl, rfl⟩
        · rw [Array.toList_push, List.map_append, hp, List.take_add_one, hks]
          simp [hbk]
      case fin =>
        rintro ⟨parts, taken⟩ s' ⟨rfl, i, hi, hr, ht, hp⟩
        dsimp only at ht hp ⊢
        have hk : kss.length = its.size := by rw [← hb.length, Array.length_toList]
        have hi' : its.size ≤ i := by
          have := congrArg List.length hr
          simp at this
          omega
        rw [List.take_of_length_le (by omega)] at hp
        refine wpAny_bind (wpAny_of_eq (a := (#[] : Array UInt8)) rfl ?_)
        have hz : Array.foldl (fun (x1 : Nat) (x2 : Array UInt8) => x1 + x2.size) ((#[] : Array UInt8).size * (parts.size - 1)) parts = kss.flatten.length := by
          rw [← Array.foldl_toList, sizes_fold, hp]
          simp
        rw [hz, if_neg (by rw [KBy.tooLong_not hsz]; exact Bool.false_ne_true)]
        have hj : KBw.bInts (Bytes.joined #[] parts.toList) = kss.flatten := by rw [joined_ints, hp]
        refine wpAny_bind (wpAny_mkBytes ?_ ?_)
        · refine wpAny_bind (wpAny_holding (wpAny_point ?_))
          refine wpAny_bind (letGo_nil ?_ _ _ fun p hp => (ht p hp).1)
          exact wpAny_pure (hR _ _ _ hj)
        · rw [← KBw.ints_length, hj, sizeLine_eq]; exact hsz
theorem k_bjoin {prog : Program} {w : World} {A : Around} {E : Value → Shared → Prop} {s : Shared} {Q : Value → Shared → Prop} {D : Addr} {its : Array Value} {kss : List (List Int)} {t : Tok} (hl : s.heap.IsList D its) (hb : BysAre its.toList kss) (hsz : kss.flatten.length ≤ 16777216)
    (h : ∀ c t k, KBw.bInts c = kss.flatten → Q (.bytes c t) { s with toks := k }) : wpAny (model prog w) A (call (.builtin "bytes.join") [.bytes #[] t, .ref D]) Q E s :=
  call_meets slot_bjoin (typeIs_bytes _ _ _) entry_bjoin (args_bjoin _ _) (meets_join hb hsz) ⟨hl, h⟩
theorem k_getjoin {M : Model} {A : Around} {E : Value → Shared → Prop} {s : Shared} {pl : Sem Bool} {b : Array UInt8} {t : Tok} {Q : Value × List Value → Shared → Prop} (h : Q (.builtin "bytes.join", [.bytes b t]) s) : wpAny M A (getMethod (.bytes b t) (PySem.Str.ofString "join") pl) Q E s :=
  KBd.method_of (.bytes b t) (typeIs_bytes _ _ _) slot_bjoin type_bjoin KBd.noRef h
end Mine
end
section
open PySem PySem.W PyProof.Rows PySem.Calls PySem.Spec PySem.Builtin
set_option Elab.async false
set_option maxRecDepth 100000
namespace Mine
/-- one octet of a split by line ends: the pieces so far, the open one -/
def slStep (st : List (List Int) × List Int) (k : Int) : List (List Int) × List Int := if k = 10 then (st.1 ++ [st.2], []) else (st.1, st.2 ++ [k])
def slRun (ks : List Int) : List (List Int) × List Int := ks.foldl slStep ([], [])
def splitL (ks : List Int) : List (List Int) := (slRun ks).1 ++ [(slRun ks).2]
theorem slRun_snoc (ks : List Int) (k : Int) : slRun (ks ++ [k]) = slStep (slRun ks) k := by
  unfold slRun
  rw [List.foldl_append]
  rfl
def occStep (b sub : Array UInt8) (acc : List Nat × Nat) (i : Nat) : List Nat × Nat := if i ≥ acc.2 && b.extract i (i + sub.size) == sub then (i :: acc.1, i + sub.size) else acc
def betStep (b : Array UInt8) (w : Nat) (st : Array (Array UInt8) × Nat) (p : Nat) : Array (Array UInt8) × Nat := (st.1.push (b.extract st.2 p), p + w)
theorem ext_one {b : Array UInt8} {i : Nat} (h : i < b.size) : (b.extract i (i + 1) == (#[10] : Array UInt8)) = decide (((b[i].toNat : Nat) : Int) = 10) := by
  have e : b.extract i (i + 1) = #[b[i]] := by
    apply Array.ext
    · simp; omega
    · intro j h1 h2
      simp at h2
      subst h2
      simp
  rw [e]
  by_cases h10 : b[i] = 10
  · rw [h10]; rfl
  · have h1 : (#[b[i]] == (#[10] : Array UInt8)) = false := by
      refine beq_eq_false_iff_ne.mpr fun q => h10 ?_
      have := congrArg (fun a : Array UInt8 => a.toList) q
      simpa using this
    rw [h1]
    refine (decide_eq_false fun q => h10 ?_).symm
    have : b[i].toNat = 10 := by exact_mod_cast q
    exact UInt8.toNat_inj.mp this
theorem ints_take {b : Array UInt8} {i : Nat} (h : i < b.size) : (KBw.bInts b).take (i + 1) = (KBw.bInts b).take i ++ [((b[i].toNat : Nat) : Int)] := by
  rw [List.take_add_one, KBw.ints_get (c := b[i]) (by simp [h])]
  rfl
theorem ints_ext (b : Array UInt8) (i j : Nat) : KBw.bInts (b.extract i j) = ((KBw.bInts b).drop i).take (j - i) := by
  unfold KBw.bInts
  rw [Array.toList_extract, ← List.map_drop, ← List.map_take]
  try rfl
/-- behind m octets -/
theorem occ_inv (b : Array UInt8) : ∀ m, m ≤ b.size → ∃ places last ps, (List.range m).foldl (occStep b #[10]) ([], 0) = (places, last) ∧ last ≤ m ∧ places.reverse.foldl (betStep b 1) (#[], 0) = (ps, last) ∧ slRun ((KBw.bInts b).take m) = (ps.toList.map KBw.bInts, KBw.bInts (b.extract last m)) := by
  intro m
  induction m with
  | zero => exact fun _ => ⟨[], 0, #[], rfl, Nat.le_refl _, rfl, by simp [slRun, KBw.bInts]⟩
  | succ m ih =>
    intro hm
    obtain ⟨places, last, ps, h1, h2, h3, h4⟩ := ih (by omega)
    have hlt : m < b.size := hm
    rw [List.range_succ, List.foldl_append, h1, ints_take hlt, slRun_snoc, h4]
    show ∃ p l q, occStep b #[10] (places, last) m = (p, l) ∧ _
    have hge : decide (m ≥ last) = true := decide_eq_true h2
    have hext := ext_one hlt
    by_cases h10 : ((b[m].toNat : Nat) : Int) = 10
    · refine ⟨m :: places, m + 1, ps.push (b.extract last m), ?_, Nat.le_refl _, ?_, ?_⟩
      · show (if (decide (m ≥ last) && b.extract m (m + 1) == #[10]) = true then (m :: places, m + 1) else (places, last)) = _
        rw [hext, hge, decide_eq_true h10]
        rfl
      · rw [List.reverse_cons, List.foldl_append, h3]
        rfl
      · unfold slStep
        rw [if_pos h10, Array.toList_push, List.map_append]
        congr 1
        rw [ints_ext, Nat.sub_self, List.take_zero]
    · refine ⟨places, last, ps, ?_, by omega, h3, ?_⟩
      · show (if (decide (m ≥ last) && b.extract m (m + 1) == #[10]) = true then (m :: places, m + 1) else (places, last)) = _
        rw [hext, hge, decide_eq_false h10]
        rfl
      · unfold slStep
        rw [if_neg h10]
        congr 1
        rw [ints_ext, ints_ext, show m + 1 - last = (m - last) + 1 by omega, List.take_add_one]
        congr 1
        rw [List.getElem?_drop, show last + (m - last) = m by omega, KBw.ints_get (c := b[m]) (by simp [hlt])]
        rfl
theorem occ_eq (b : Array UInt8) : Bytes.occurrences b #[10] 0 b.size = ((List.range b.size).foldl (occStep b #[10]) ([], 0)).1.reverse := by
  unfold Bytes.occurrences
  have e : ((List.range (b.size + 1 - (0 + (#[10] : Array UInt8).size))).map (· + 0)) = List.range b.size := by
    have e1 : b.size + 1 - (0 + (#[10] : Array UInt8).size) = b.size := by show b.size + 1 - (0 + 1) = _; omega
    rw [e1]
    simp
  rw [e]
  rfl
theorem split_ints (b : Array UInt8) : (Bytes.between b 1 (Bytes.occurrences b #[10] 0 b.size)).map KBw.bInts = splitL (KBw.bInts b) := by
  obtain ⟨places, last, ps, h1, h2, h3, h4⟩ := occ_inv b b.size (Nat.le_refl _)
  rw [List.take_of_length_le (by rw [KBw.ints_length]; exact Nat.le_refl _)] at h4
  rw [occ_eq, h1]
  unfold Bytes.between
  have e : places.reverse.foldl (fun (x : Array (Array UInt8) × Nat) (p : Nat) => match x with | (parts, last) => (parts.push (b.extract last p), p + 1)) (#[], 0) = (ps, last) := h3
  dsimp only
  rw [e]
  dsimp only
  unfold splitL
  rw [h4, Array.toList_push, List.map_append]
  rfl
theorem split_none {b : Array UInt8} (h : (Bytes.occurrences b #[10] 0 b.size).isEmpty = true) : splitL (KBw.bInts b) = [KBw.bInts b] := by
  have e := split_ints b
  rw [List.isEmpty_iff.mp h] at e
  rw [← e]
  show [KBw.bInts (b.extract 0 b.size)] = _
  rw [Array.extract_size]
theorem split_len (b : Array UInt8) : (Bytes.between b 1 (Bytes.occurrences b #[10] 0 b.size)).length ≤ b.size + 1 := by
  have h := congrArg List.length (split_ints b)
  rw [List.length_map] at h
  rw [h]
  have key : ∀ (ks : List Int) (st : List (List Int) × List Int), (ks.foldl slStep st).1.length ≤ st.1.length + ks.length := by
    intro ks
    induction ks with
    | nil => exact fun _ => Nat.le_refl _
    | cons k r ih =>
      intro st
      refine Nat.le_trans (ih _) ?_
      rw [List.length_cons]
      unfold slStep
      split
      · rw [List.length_append]; show st.1.length + 1 + r.length ≤ _; omega
      · show st.1.length + r.length ≤ _; omega
  have this : ∀ (ks : List Int), (slRun ks).1.length ≤ ks.length := fun ks => by
    have := key ks ([], [])
    rw [show (([] : List (List Int)), ([] : List Int)).1.length = 0 from rfl, Nat.zero_add] at this
    exact this
  unfold splitL
  rw [List.length_append, ← KBw.ints_length b]
  exact Nat.add_le_add_right (this _) 1
theorem mem_between {b : Array UInt8} {w : Nat} {pl : List Nat} {a : Array UInt8} (h : a ∈ Bytes.between b w pl) : a.size ≤ b.size := by
  have key : ∀ (pl : List Nat) (st : Array (Array UInt8) × Nat), (∀ x ∈ st.1.toList, x.size ≤ b.size) → ∀ x ∈ (pl.foldl (betStep b w) st).1.toList, x.size ≤ b.size := by
    intro pl
    induction pl with
    | nil => exact fun st h => h
    | cons p r ih =>
      intro st h
      refine ih _ fun x hx => ?_
      rw [show (betStep b w st p).1 = st.1.push (b.extract st.2 p) from rfl, Array.toList_push] at hx
      rcases List.mem_append.mp hx with hx | hx
      · exact h x hx
      · rw [List.mem_singleton.mp hx, Array.size_extract]; omega
  have h' : a ∈ ((pl.foldl (betStep b w) (#[], 0)).1.push (b.extract (pl.foldl (betStep b w) (#[], 0)).2 b.size)).toList := h
  rw [Array.toList_push] at h'
  rcases List.mem_append.mp h' with hx | hx
  · exact key pl (#[], 0) (fun _ hx => by simp at hx) a hx
  · rw [List.mem_singleton.mp hx, Array.size_extract]; omega
theorem mapM_bytes {M : Model} {A : Around} {E : Value → Shared → Prop} : ∀ (l : List (Array UInt8)) (s : Shared) (Q : List Value → Shared → Prop), (∀ a ∈ l, a.size ≤ sizeLine) → (∀ vs k, BysAre vs (l.map KBw.bInts) → Q vs { s with toks := k }) → wpAny M A (l.mapM Bytes.Kind.bytes.new) Q E s
  | [], s, Q, _, h => by rw [List.mapM_nil]; exact wpAny_pure (h [] s.toks .nil)
  | a :: r, s, Q, hl, h => by
    rw [List.mapM_cons]
    refine wpAny_bind (wpAny_mkBytes (wpAny_bind (mapM_bytes r _ _ (fun x hx => hl x (.tail _ hx)) fun vs k hv => wpAny_pure (h _ k (.cons rfl hv)))) (hl a (.head _)))
theorem slot_bsplit : Slot "bytes" "split" "bytes.split" :=
  .of (owner := "bytes") (n := "split") (by rw [typeLookup_type, builtinLookup_eq_fast]; kernel_rfl) (by decide +kernel) (by decide +kernel) (by decide +kernel)
    (by first | exact .inl (by decide +kernel) | exact .inr (by decide +kernel)) (by rw [isSubtype_type]; kernel_rfl)
theorem entry_bsplit : entryFor table "bytes.split" = some Builtin.«bytes.split» := by first | exact entryFor_of_tree (by kernel_rfl) | exact entryFor_of_fast (by kernel_rfl)
theorem args_bsplit (a b : Value) : argsOk "bytes.split" ⟨[a, b], []⟩ := by unfold argsOk; kernel_rfl
theorem type_bsplit : typeOf (.builtin "bytes.split") = pure (.type "method_descriptor") := by kernel_rfl
theorem meets_split {b : Array UInt8} {t u : Tok} (hsz : b.size ≤ 1000000) :
    Meets (Builtin.«bytes.split» ⟨[.bytes b t, .bytes #[10] u], []⟩) (fun _ R s => ∀ vs k, BysAre vs (splitL (KBw.bInts b)) → R (.ok (.ret (.ref s.heap.objs.size))) { s with heap := s.heap.push { cls := .type "list", data := .seq vs.toArray }, toks := k }) := by
  intro prog w A R s hR
  unfold Builtin.«bytes.split» Bytes.splitM
  dsimp only
  refine wpAny_bind (wpAny_of_eq (a := [some (Value.bytes #[10] u), none]) (by kernel_rfl) ?_)
  dsimp only
  refine wpAny_bind (wpAny_pure ?_)
  refine wpAny_bind (wpAny_of_eq (a := b) rfl ?_)
  refine wpAny_bind (wpAny_of_eq (a := (#[10] : Array UInt8)) KBd.like_eq ?_)
  have hlen : (Bytes.occurrences b #[10] 0 b.size).length ≤ b.size := by
    have := split_len b
    have e : ∀ (pl : List Nat) (st : Array (Array UInt8) × Nat), (pl.foldl (betStep b 1) st).1.size = st.1.size + pl.length := by
      intro pl
      induction pl with
      | nil => intro st; rfl
      | cons p r ih => intro st; rw [List.foldl_cons, ih]; simp [betStep]; omega
    have e2 : (Bytes.between b 1 (Bytes.occurrences b #[10] 0 b.size)).length = (Bytes.occurrences b #[10] 0 b.size).length + 1 := by
      show ((((Bytes.occurrences b #[10] 0 b.size).foldl (betStep b 1) (#[], 0)).1.push _).toList).length = _
      rw [Array.toList_push, List.length_append, Array.length_toList, e]
      simp
    omega
  rw [if_neg (by decide)]
  have hpl : (if false = true then Bytes.occurrencesFromRight b #[10] (if (-1 : Int) < 0 then b.size + 1 else (-1 : Int).toNat) else List.take (if (-1 : Int) < 0 then b.size + 1 else (-1 : Int).toNat) (Bytes.occurrences b #[10] 0 b.size)) = Bytes.occurrences b #[10] 0 b.size := by
    rw [if_neg Bool.false_ne_true, if_pos (by decide), List.take_of_length_le (by omega)]
  rw [hpl]
  by_cases he : (Bytes.occurrences b #[10] 0 b.size).isEmpty = true
  · rw [if_pos he]
    refine wpAny_bind (wpAny_rule ?_)
    unfold Bytes.Kind.same
    rw [if_pos (by decide)]
    refine wpAny_bind (wpAny_bind (wpAny_typeOf (typeIs_bytes s b t) ?_))
    rw [if_pos (by decide)]
    refine wpAny_pure ?_
    refine wpAny_bind (wpAny_newList ?_ (by show 1 ≤ _; rw [sizeLine_eq]; omega))
    refine wpAny_pure (hR [.bytes b t] s.toks ?_)
    rw [split_none he]
    exact .cons rfl .nil
  · rw [if_neg he]
    refine wpAny_bind (mapM_bytes _ _ _ (fun a ha => ?_) fun vs k hv => ?_)
    · have := mem_between ha
      rw [sizeLine_eq]; omega
    · refine wpAny_bind (wpAny_newList ?_ ?_)
      · refine wpAny_pure (hR vs k ?_)
        rw [← split_ints b]
        exact hv
      · rw [hv.length, List.length_map]
        have := split_len b
        show (Bytes.between b 1 _).length ≤ _
        rw [sizeLine_eq]; omega
section
variable {prog : Program} {w : World} {A : Around} {E : Value → Shared → Prop} {s : Shared} {h₀ : Heap} {L : Addr} {m : Str → Option Value} {news : List (Addr × Obj)} {Q : Value → Shared → Prop}
theorem k_bsplit {b : Array UInt8} {t u : Tok} (F : Fr h₀ L s.heap m) (N : News h₀ L s.heap news) (hsz : b.size ≤ 1000000)
    (h : ∀ D h' vs k, BysAre vs (splitL (KBw.bInts b)) → Fr h₀ L h' m → News h₀ L h' ((D, listOf vs.toArray 0) :: news) → (∀ p ∈ news, p.1 < D) → Q (.ref D) { s with heap := h', toks := k }) :
    wpAny (model prog w) A (call (.builtin "bytes.split") [.bytes b t, .bytes #[10] u]) Q E s :=
  call_meets slot_bsplit (typeIs_bytes _ _ _) entry_bsplit (args_bsplit _ _) (meets_split hsz) fun vs k hv =>
    h _ _ vs k hv (F.push _) (News.push F N _) fun p hp => Heap.lt_size (N p hp).1
theorem k_getsplit {M : Model} {pl : Sem Bool} {b : Array UInt8} {t : Tok} {Q : Value × List Value → Shared → Prop} (h : Q (.builtin "bytes.split", [.bytes b t]) s) : wpAny M A (getMethod (.bytes b t) (PySem.Str.ofString "split") pl) Q E s :=
  KBd.method_of (.bytes b t) (typeIs_bytes _ _ _) slot_bsplit type_bsplit KBd.noRef h
end
end Mine
end
section
open PySem PySem.W PyProof.Rows PySem.Calls PySem.Spec
set_option Elab.async false
set_option maxRecDepth 100000
namespace Mine
section
variable {prog : Program} {w : World} {A : Around} {E : Value → Shared → Prop} {s : Shared} {h₀ : Heap} {env : Env} {x : Str} {body : List Stmt} {Q : Flow → Shared → Prop}
theorem UnrPost.mono {L I : Addr} {s₁ : Shared} {it : Obj} {r₁ r₂ : (Str → Option Value) → List (Addr × Obj) → Prop} (h : ∀ m n, r₁ m n → r₂ m n) {f : Flow} {s₂ : Shared} (x : UnrPost h₀ L s₁ I it r₁ Q f s₂) : UnrPost h₀ L s₁ I it r₂ Q f s₂ := by
  cases f with
  | ret v => exact x
  | brk => exact x
  | next => obtain ⟨h', tk, m', news', e, F, N, o, r⟩ := x; exact ⟨h', tk, m', news', e, F, N, o, h _ _ r⟩
  | cont => obtain ⟨h', tk, m', news', e, F, N, o, r⟩ := x; exact ⟨h', tk, m', news', e, F, N, o, h _ _ r⟩
theorem krsInv {I : Addr} {a c : Int} {n : Nat} (Inv : Nat → (Str → Option Value) → List (Addr × Obj) → Prop)
    (hnil : ∀ m news, Inv n m news → ∀ h tk, Fr h₀ env.locals h m → News h₀ env.locals h news → Q .next { s with heap := h, toks := tk })
    (hstep : ∀ i m news, i < n → Inv i m news → ∀ t h tk, Fr h₀ env.locals h (fun y => if y = x then some (.int (a + (i : Int) * c) t) else m y) →
      News h₀ env.locals h ((I, krsIt (a + ((i + 1 : Nat) : Int) * c) ((n : Int) - ((i + 1 : Nat) : Int)) c) :: news) →
      wpAny (model prog w) A (execs body env) (UnrPost h₀ env.locals { s with heap := h, toks := tk } I (krsIt (a + ((i + 1 : Nat) : Int) * c) ((n : Int) - ((i + 1 : Nat) : Int)) c) (fun m' n' => Inv (i + 1) m' n') Q) E { s with heap := h, toks := tk }) :
    ∀ (k i : Nat) (m : Str → Option Value) (news : List (Addr × Obj)), i + k = n → Inv i m news → KrsRest prog w A E h₀ env x body Q s I a c n k i m news
  | 0, i, m, news, e, h0 => by
    have e' : i = n := e
    subst e'
    exact KrsRest.zero (hnil m news h0)
  | k + 1, i, m, news, e, h0 => fun t h tk F N => wpAny_mono (hstep i m news (by omega) h0 t h tk F N) (fun _ _ z => UnrPost.mono (fun m' n' b => krsInv Inv hnil hstep k (i + 1) m' n' (by omega) b) z) fun _ _ e => e
theorem krsLess {I : Addr} {a c : Int} {n : Nat} {m : Str → Option Value} {news less : List (Addr × Obj)} (sub : SubL less news) : ∀ (k i : Nat), KrsRest prog w A E h₀ env x body Q s I a c n k i m less → KrsRest prog w A E h₀ env x body Q s I a c n k i m news
  | 0, _, h => fun h' tk F N => h h' tk F (fun p hp => N p (sub.mem p hp))
  | _ + 1, _, h => fun t h' tk F N => h t h' tk F (fun p hp => N p (by
    rcases List.mem_cons.mp hp with rfl | hp
    · exact List.mem_cons_self ..
    · exact List.mem_cons_of_mem _ (sub.mem p hp)))
end
end Mine
end
section
open PySem PySem.W PyProof.Rows PySem.Calls PySem.Spec
set_option Elab.async false
set_option maxRecDepth 100000
namespace Mine
/-- the chunk at j, z octets long -/
def chunkB (ks : List Int) (z j : Nat) : List Int := (ks.drop (j * z)).take z
/-- the first i rows -/
def rowsB (ks : List Int) (z i : Nat) : List (List Int) := (List.range i).map fun j => b64 (chunkB ks z j) ++ [10]
/-- the number of rows -/
def cntB (n z : Nat) : Nat := if 0 < n then (n - 1) / z + 1 else 0
theorem rowsB_succ (ks : List Int) (z i : Nat) : rowsB ks z (i + 1) = rowsB ks z i ++ [b64 (chunkB ks z i) ++ [10]] := by
  unfold rowsB
  rw [List.range_succ, List.map_append]
  rfl
theorem cntB_le (n z : Nat) : cntB n z ≤ n := by
  unfold cntB
  split
  · have := Nat.div_le_self (n - 1) z
    omega
  · omega
theorem cntB_lt {n z i : Nat} (h : i < cntB n z) : i * z < n := by
  unfold cntB at h
  split at h
  · rename_i hn
    have h1 : i ≤ (n - 1) / z := by omega
    have h2 : i * z ≤ n - 1 := Nat.le_trans (Nat.mul_le_mul_right z h1) (Nat.div_mul_le_self _ _)
    omega
  · omega
theorem b64_len (ks : List Int) : (b64 ks).length ≤ 2 * ks.length + 3 := by
  have h := (brun_ok ks).len
  unfold b64 btail
  split
  · simp only [List.length_append, List.length_cons, List.length_nil]; omega
  · split
    · simp only [List.length_append, List.length_cons, List.length_nil]; omega
    · omega
theorem flat_len {B : Nat} : ∀ (l : List (List Int)), (∀ a ∈ l, a.length ≤ B) → l.flatten.length ≤ l.length * B
  | [], _ => by simp
  | a :: r, h => by
    rw [List.flatten_cons, List.length_append, List.length_cons, Nat.add_mul, Nat.one_mul, Nat.add_comm]
    exact Nat.add_le_add (flat_len r fun x hx => h x (.tail _ hx)) (h a (.head _))
theorem rowsB_len {ks : List Int} {z i B : Nat} (hz : 2 * z + 4 ≤ B) : (rowsB ks z i).flatten.length ≤ i * B := by
  refine Nat.le_trans (flat_len (B := B) _ fun a ha => ?_) (by unfold rowsB; rw [List.length_map, List.length_range]; exact Nat.le_refl _)
  unfold rowsB at ha
  obtain ⟨j, -, rfl⟩ := List.mem_map.mp ha
  have h1 := b64_len (chunkB ks z j)
  have h2 : (chunkB ks z j).length ≤ z := by unfold chunkB; rw [List.length_take]; exact Nat.min_le_left _ _
  rw [List.length_append, List.length_singleton]
  omega
section
variable {prog : Program} {w : World} {A : Around} {E : Value → Shared → Prop} {s : Shared} {value slice : PySem.Expr} {b : Array UInt8} {t : Tok} {h₀ : Heap} {L : Addr} {m : PySem.Str → Option Value} {news : List (Addr × Obj)} {Q : Value → Shared → Prop} {ks : List Int}
theorem clip_nn {n : Nat} {i : Int} (h : 0 ≤ i) : clipAt n i = min i.toNat n := by
  obtain ⟨k, rfl⟩ := Int.eq_ofNat_of_zero_le h
  exact clipAt_nat n k
theorem k_bcut {i j : Int} {ui uj : Tok} (hF : Fr h₀ L s.heap m) (hN : News h₀ L s.heap news) (hk : KBw.bInts b = ks) (h0 : 0 ≤ i) (h1 : i ≤ j) (hz : ks.length ≤ 16777216)
    (h : ∀ h' t' k c, Fr h₀ L h' m → News h₀ L h' news → KBw.bInts c = (ks.drop i.toNat).take (j.toNat - i.toNat) → Q (.bytes c t') { s with heap := h', toks := k })
    (hs : subscripted slice false (.bytes b t) (.ref s.heap.objs.size) = operate [.ref s.heap.objs.size, .bytes b t] (getItem (.bytes b t) (.ref s.heap.objs.size)) := by with_unfolding_all rfl)
    (ht : ∀ r, letTemporaryGo value (.bytes b t) r = pure () := by intro _; with_unfolding_all rfl) :
    wpAny (model prog w) A (subscriptTail value slice (.bytes b t) (.ref s.heap.objs.size)) Q E { s with heap := s.heap.push { cls := .type "slice", data := .fields #[.int i ui, .int j uj, .none] } } := by
  refine KBc.slice_K (lo := some i) (hi := some j) hF hN hk (.int _ _) (.int _ _) hz (fun h' t' k F' N' e => h h' t' k _ F' N' (e.trans ?_)) hs ht
  show (ks.drop (clipAt ks.length i)).take (clipAt ks.length j - clipAt ks.length i) = _
  rw [clip_nn h0, clip_nn (by omega : 0 ≤ j)]
  by_cases hi : i.toNat ≤ ks.length
  · rw [Nat.min_eq_left hi]
    by_cases hj : j.toNat ≤ ks.length
    · rw [Nat.min_eq_left hj]
    · rw [Nat.min_eq_right (by omega), List.take_of_length_le (by rw [List.length_drop]; omega), List.take_of_length_le (by rw [List.length_drop]; omega)]
  · have e1 : min i.toNat ks.length = ks.length := Nat.min_eq_right (by omega)
    have e2 : ks.drop i.toNat = [] := List.drop_eq_nil_of_le (by omega)
    have e3 : ks.drop ks.length = [] := List.drop_eq_nil_of_le (Nat.le_refl _)
    rw [e1, e2, e3]
    simp
end
section
variable {prog : Program} {w : World} {A : Around} {E : Value → Shared → Prop} {s : Shared} {h₀ : Heap} {env : Env} {x : Str} {body : List Stmt} {Q : Flow → Shared → Prop}
theorem size_z {n z : Nat} (h1 : 1 ≤ z) : Builtin.Range.rangeSize 0 (n : Int) (z : Int) = (cntB n z : Int) := by
  unfold Builtin.Range.rangeSize cntB
  have hz : (z : Int) > 0 := by omega
  rw [if_pos hz]
  by_cases h : 0 < n
  · rw [if_pos (by omega), if_pos h]
    push_cast
    have : (n : Int) - 0 - 1 = ((n - 1 : Nat) : Int) := by omega
    rw [this]
  · rw [if_neg (by omega), if_neg h]
    rfl
theorem small_z {n z : Nat} (hn : n ≤ 100000) (h1 : 1 ≤ z) (h2 : z ≤ 1000) : Builtin.Range.small 0 (n : Int) (z : Int) = true ∧ Builtin.Range.rangeSize 0 (n : Int) (z : Int) = (cntB n z : Int) := by
  refine ⟨?_, size_z h1⟩
  unfold Builtin.Range.small
  rw [size_z h1]
  have hz : (z : Int) > 0 := by omega
  have hc := cntB_le n z
  simp only [Builtin.Range.rangeFitsLong, Bool.and_eq_true, Bool.or_eq_true, decide_eq_true_eq, beq_iff_eq, if_pos hz]
  omega
end
section
variable {prog : Program} {w : World} {A : Around} {E : Value → Shared → Prop} {s : Shared} {h₀ : Heap} {L : Addr} {m : Str → Option Value} {Q : Value → Shared → Prop}
theorem ri_ne {h : Heap} {I p : Addr} {it : Obj} {its : Array Value} {n : Nat} (hI : h.get? I = some it) (hp : h.get? p = some (listOf its n)) (hc : it.cls = .type "range_iterator") : p ≠ I := fun e => by
  rw [e, hI] at hp
  rw [Option.some.inj hp] at hc
  exact absurd (Value.type.inj hc) (by decide)
theorem k_appP {I p : Addr} {it : Obj} {its : Array Value} {n : Nat} {x : Value} (F : Fr h₀ L s.heap m) (N : News h₀ L s.heap [(I, it), (p, listOf its n)]) (hc : it.cls = .type "range_iterator") (hsz : its.size ≤ sizeLine)
    (h : ∀ h', Fr h₀ L h' m → News h₀ L h' [(I, it), (p, listOf (its.push x) (n + 1))] → Q .none { s with heap := h' }) : wpAny (model prog w) A (call (.builtin "list.append") [.ref p, x]) Q E s := by
  have z := N (p, listOf its n) (.tail _ (.head _))
  have y := N (I, it) (.head _)
  exact append_at (hsz := hsz) z.1 fun h' hs ho' => h h' (F.change hs z.2.1 z.2.2) (news_set (pre := [(I, it)]) N (fun q hq => by rw [List.mem_singleton.mp hq]; exact Ne.symm (ri_ne y.1 z.1 hc)) (fun _ hp => nomatch hp) hs ho')
end
end Mine
end
section
open PySem PySem.W PyProof.Rows PySem.Calls PySem.Spec
set_option Elab.async false
set_option maxRecDepth 100000
namespace Mine
section
variable {prog : Program} {w : World} {A : Around} {E : Value → Shared → Prop} {s : Shared} {h₀ : Heap} {L l : Addr} {m : Str → Option Value} {news : List (Addr × Obj)} {value slice : PySem.Expr} {Q : Value → Shared → Prop}
theorem imul_declines (a : Int) (t : Tok) (b : Array UInt8) (u : Tok) : Gives (Builtin.«int.__mul__» ⟨[.int a t, .bytes b u], []⟩) (.val (Value.notImplemented)) := by
  first | exact .of_eq rfl | exact .rule (.of_eq rfl) | exact .of_eq (by kernel_rfl)
theorem int_mul_bytes {b : List UInt8} {n : Int} {t u : Tok} (hb : b ≠ []) (hlo : -1048576 ≤ n) (hn : n ≤ 1048576) (hs : b.length ≤ 16) (h : ∀ t' k, Q (.bytes ((List.replicate n.toNat b).flatten).toArray t') { s with toks := k }) :
    wpAny (model prog w) A (binaryOp .Mult (.int n u) (.bytes b.toArray t)) Q E s := by
  have e3 : b.toArray.size = b.length := by simp
  have hle : b.length * n.toNat ≤ 16777216 := by
    have e2 : b.length * n.toNat ≤ 16 * n.toNat := Nat.mul_le_mul_right _ hs
    omega
  by_cases h1 : n = 1
  · subst h1
    refine lm_binaryOp_repeat_right (T := "bytes") (U := "int") (by decide) (fun s' => typeIs_int s' 1 u) (typeIs_bytes s _ t) F.fills_int_mul BMul.noFill F.slot_int_mul lm_noRepeat_int BMul.repeats F.slot_int_index.lookup
      (call_gives F.slot_int_mul (typeIs_int s 1 u) F.entry_int_mul (F.args_int_mul_2 _ _) (imul_declines 1 u _ t)
        ⟨rfl, typeIs_bytes _ _ _, call_gives BMul.slot_mul (typeIs_bytes s _ t) BMul.entry_mul (BMul.args_mul _ _) (BMul.gives_mul1 (by rw [e3]; omega)) ?_⟩)
    have h' := h t s.toks
    have e : (List.replicate (1 : Int).toNat b).flatten = b := by simp
    rw [e] at h'
    exact h'
  · have hpos : 0 < b.length := List.length_pos_iff.mpr hb
    have hf : Builtin.Bytes.fitsIndex n = true := by
      simp only [Builtin.Bytes.fitsIndex, Bool.and_eq_true, decide_eq_true_eq]
      omega
    have h63 : ¬ b.toArray.size * n.toNat ≥ 2 ^ 63 := by rw [e3]; omega
    have hne : (b.toArray.size * n.toNat == b.toArray.size) = false := by
      rw [e3]
      refine beq_false_of_ne fun e => ?_
      rcases Nat.lt_or_ge n.toNat 2 with h2 | h2
      · have h0 : n.toNat = 0 := by omega
        rw [h0] at e
        omega
      · have e2 : b.length * 2 ≤ b.length * n.toNat := Nat.mul_le_mul_left _ h2
        omega
    have hl : Builtin.Bytes.tooLong (b.toArray.size * n.toNat) = false := by rw [e3]; exact KBy.tooLong_not hle
    refine lm_binaryOp_repeat_right (T := "bytes") (U := "int") (by decide) (fun s' => typeIs_int s' n u) (typeIs_bytes s _ t) F.fills_int_mul BMul.noFill F.slot_int_mul lm_noRepeat_int BMul.repeats F.slot_int_index.lookup
      (call_gives F.slot_int_mul (typeIs_int s n u) F.entry_int_mul (F.args_int_mul_2 _ _) (imul_declines n u _ t)
        ⟨rfl, typeIs_bytes _ _ _, call_gives BMul.slot_mul (typeIs_bytes s _ t) BMul.entry_mul (BMul.args_mul _ _) (BMul.gives_mul hf h63 hne hl) ?_⟩)
    rw [BMul.repeated_list hb]
    refine ⟨?_, h _ _⟩
    rw [sizeLine_eq]
    have e4 : ((List.replicate n.toNat b).flatten.toArray).size = n.toNat * b.length := by simp
    rw [e4, Nat.mul_comm]
    exact hle
end
end Mine
end
section
open PySem PySem.W PyProof.Rows PySem.Calls PySem.Spec
set_option Elab.async false
set_option linter.all false
set_option maxRecDepth 100000
set_option maxHeartbeats 4000000
namespace Mine
theorem gives_mul0 {n : Int} {t u : Tok} (hf : Builtin.Bytes.fitsIndex n = true) : Gives (Builtin.«bytes.__mul__» ⟨[.bytes #[] t, .int n u], []⟩) (.val (.bytes #[] t)) := by
  refine .of_wp fun M A E s Q hq => ?_
  show wpAny M A (Builtin.Bytes.repeatArgs .bytes "__mul__" ⟨[.bytes #[] t, .int n u], []⟩ >>= fun r => _) _ E s
  refine wpAny_bind (wpAny_of_eq (BMul.args_eq hf) ?_)
  refine wpAny_bind (wpAny_of_eq (a := #[]) rfl ?_)
  have e1 : (#[] : Array UInt8).size * n.toNat = 0 := by simp
  show wpAny M A (if (#[] : Array UInt8).size * n.toNat ≥ 2 ^ 63 then _ else _) _ E s
  rw [if_neg (by rw [e1]; omega)]
  refine bm_if_true (by rw [e1]; rfl) ?_
  refine wpAny_bind (wpAny_typeOf (typeIs_bytes s #[] t) ?_)
  exact wpAny_bind (wpAny_rule (wpAny_pure ⟨_, rfl, hq⟩))
section
variable {prog : Program} {w : World} {A : Around} {E : Value → Shared → Prop} {s : Shared}
def mulB (n : Nat) (a : List UInt8) : Array UInt8 := ((List.replicate n a).flatten).toArray
theorem mulB_nil (n : Nat) : mulB n [] = #[] := by
  unfold mulB
  simp
theorem k_mulI {a : List UInt8} {n : Nat} {t u : Tok} {Q : Value → Shared → Prop} (hs : a.length ≤ 16) (hn : n ≤ 1000) (h : ∀ t' k, Q (.bytes (mulB n a) t') { s with toks := k }) :
    wpAny (model prog w) A (binaryOp .Mult (.int (n : Int) u) (.bytes a.toArray t)) Q E s := by
  by_cases ha : a = []
  · subst ha
    have hf : Builtin.Bytes.fitsIndex (n : Int) = true := by
      simp only [Builtin.Bytes.fitsIndex, Bool.and_eq_true, decide_eq_true_eq]
      omega
    have h' := h t s.toks
    rw [mulB_nil] at h'
    clear h hn
    generalize ((n : Nat) : Int) = z at hf ⊢
    refine lm_binaryOp_repeat_right (T := "bytes") (U := "int") (by decide) (fun s' => typeIs_int s' z u) (typeIs_bytes s _ t) F.fills_int_mul BMul.noFill F.slot_int_mul lm_noRepeat_int BMul.repeats F.slot_int_index.lookup
      (call_gives F.slot_int_mul (typeIs_int s z u) F.entry_int_mul (F.args_int_mul_2 _ _) (imul_declines z u _ t)
        ⟨rfl, typeIs_bytes _ _ _, call_gives BMul.slot_mul (typeIs_bytes s _ t) BMul.entry_mul (BMul.args_mul _ _) (gives_mul0 hf) ?_⟩)
    exact h'
  · refine int_mul_bytes ha (by omega) (by omega) hs fun t' k => ?_
    rw [Int.toNat_natCast]
    exact h t' k
theorem k_mulB {a : List UInt8} {n : Nat} {t u : Tok} {Q : Value → Shared → Prop} (hs : a.length ≤ 16) (hn : n ≤ 1000) (h : ∀ t' k, Q (.bytes (mulB n a) t') { s with toks := k }) :
    wpAny (model prog w) A (binaryOp .Mult (.bytes a.toArray t) (.int (n : Int) u)) Q E s := by
  by_cases ha : a = []
  · subst ha
    have hf : Builtin.Bytes.fitsIndex (n : Int) = true := by
      simp only [Builtin.Bytes.fitsIndex, Bool.and_eq_true, decide_eq_true_eq]
      omega
    have h' := h t s.toks
    rw [mulB_nil] at h'
    clear h hn
    generalize ((n : Nat) : Int) = z at hf ⊢
    refine wpAny_binaryOp_repeat (T := "bytes") (U := "int") (by decide) (fun s' => typeIs_bytes s' _ t) (fun s' => typeIs_int s' z u) BMul.noFill F.fills_int_mul F.slot_int_rmul BMul.repeats F.slot_int_index.lookup
      (call_gives F.slot_int_rmul (typeIs_int s z u) F.entry_int_rmul (F.args_int_rmul_2 _ _) (BMul.int_declines z u _ t)
        ⟨rfl, call_gives BMul.slot_mul (typeIs_bytes s _ t) BMul.entry_mul (BMul.args_mul _ _) (gives_mul0 hf) ?_⟩)
    exact h'
  · refine bytes_mul_any ha (by omega) (by omega) hs fun t' k => ?_
    rw [Int.toNat_natCast]
    exact h t' k
theorem mulB_size (n : Nat) (a : List UInt8) : (mulB n a).size = n * a.length := by
  unfold mulB
  simp
end
end Mine
end
section
open PySem PySem.W PyProof.Rows PySem.Calls PySem.Spec
set_option Elab.async false
set_option linter.all false
set_option maxRecDepth 100000
set_option maxHeartbeats 4000000
namespace Mine
section
variable {prog : Program} {w : World} {A : Around} {E : Value → Shared → Prop} {s : Shared}
/-- octets, one to eight times over -/
theorem k_mulD {b : Array UInt8} {n : Int} {t u : Tok} {Q : Value → Shared → Prop} (hs : b.size ≤ 63) (h1 : 1 ≤ n) (h8 : n ≤ 8) (h : ∀ t' k b', b'.size ≤ 504 → Q (.bytes b' t') { s with toks := k }) :
    wpAny (model prog w) A (binaryOp .Mult (.bytes b t) (.int n u)) Q E s := by
  obtain ⟨b⟩ := b
  by_cases ha : b = []
  · subst ha
    obtain ⟨k, rfl⟩ : ∃ k : Nat, n = (k : Int) := ⟨n.toNat, by omega⟩
    refine k_mulB (a := []) (by simp) (by omega) fun t' k' => h t' k' _ ?_
    rw [mulB_size]
    simp
  · have e3 : b.toArray.size = b.length := by simp
    have hs' : b.length ≤ 63 := by rw [← e3]; exact hs
    by_cases h2 : n = 1
    · subst h2
      refine wpAny_binaryOp_repeat (T := "bytes") (U := "int") (by decide) (fun s' => typeIs_bytes s' _ t) (fun s' => typeIs_int s' 1 u) BMul.noFill F.fills_int_mul F.slot_int_rmul BMul.repeats F.slot_int_index.lookup
        (call_gives F.slot_int_rmul (typeIs_int s 1 u) F.entry_int_rmul (F.args_int_rmul_2 _ _) (BMul.int_declines 1 u _ t)
          ⟨rfl, call_gives BMul.slot_mul (typeIs_bytes s _ t) BMul.entry_mul (BMul.args_mul _ _) (BMul.gives_mul1 (by rw [e3]; omega)) ?_⟩)
      exact h t s.toks _ (by rw [e3]; omega)
    · have hb : b.length * n.toNat ≤ 504 := by
        have := Nat.mul_le_mul hs' (show n.toNat ≤ 8 by omega)
        omega
      refine bytes_mul_K ha (by omega) (by omega) (by omega) rfl fun t' k => h t' k _ ?_
      have e4 : ((List.replicate n.toNat b).flatten.toArray).size = n.toNat * b.length := by simp
      rw [e4, Nat.mul_comm]
      exact hb
end
end Mine
end
section
open PySem PySem.W PyProof.Rows PySem.Calls PySem.Spec
set_option Elab.async false
set_option linter.all false
namespace Mine
section
variable {prog : Program} {w : World} {A : Around} {s : Shared} {R : Result → Shared → Prop}
theorem gc_func {body : List Stmt} {env : Env}
    (h : wpG (model prog w) (A.deeper env) (execs body env) (fun f s' => R (.ok (.ret (match f with | .ret v => v | _ => .none))) s')
      (fun e s' => wpG (model prog w) (A.deeper env) (leaving env e) (fun _ s'' => R (.error e) s'') (fun e' s'' => R (.error e') s'') s') s) :
    codeG (model prog w) A (.func body env) R s := by
  refine gc_tree ?_
  show wpG _ (A.deeper env) (do point; match ← (execs body env).onRaise (leaving env) with | .ret v => ret v | _ => ret .none) _ _ s
  refine g_bind (g_any (wpAny_point (g_bind (g_onRaise (g_mono h (fun f s' h' => ?_) fun _ _ h' => h')))))
  cases f <;> exact g_pure h'
theorem gc_call_function {a : Addr} {args : Args} {o : Obj} {fd : FuncData} {body : List Stmt} (hroom : A.depth < recursionLimit)
    (ho : s.heap.get? a = some o) (hd' : o.data = .func fd) (hco : fd.scope.isCoroutine = false) (hgen : fd.scope.isGenerator = false) (hbody : fd.body = .stmts body) (hcd : s.heap.CodeRec fd.code fd.qualname)
    (h : wpAny (model prog w) A.in1 (bindArgs fd args) (fun binds s₁ =>
      wpAny (model prog w) A.in1 (newFunctionEnv fd.scope fd.globals fd.closure binds (fd.qualname ++ ".<locals>.") (some a) fd.code none fd.builtins)
        (fun env s₂ => s₂.heap.NoLimit ∧ codeG (model prog w) A (.func body env) R s₂) (fun e s' => R (.error e) s') s₁) (fun e s' => R (.error e) s') s) :
    codeG (model prog w) A (.call (.ref a) args) R s := by
  refine gc_tree (g_any ?_)
  show wpAny _ A.in1 (callAny (.ref a) args) _ _ s
  simp only [callAny]
  refine wpAny_bind (wpAny_load ho ?_)
  obtain ⟨c, oc, vs, tq, hc, hoc, hdc, hq⟩ := hcd
  simp only [hd', callFunction, hco, hgen, hbody, hc]
  rw [hc] at h
  refine wpAny_bind (m := field (.ref c) 1) (wpAny_field hoc hdc hq (wpAny_bind (wpAny_pure ?_)))
  refine wpAny_bind (wpAny_mono h (fun binds s₁ h₁ => wpAny_bind (wpAny_mono h₁ (fun env s₂ h₂ => ?_) fun _ _ h' => h')) fun _ _ h' => h')
  exact wpAny_bind (wpAny_enterFrame h₂.1 hroom (wpAny_pure ⟨rfl, rfl, h₂.2⟩))
theorem gc_call_def {a : Addr} {o : Obj} {fd : FuncData} {body : List Stmt} {args : Args} {binds : List (Str × Value)}
    (hroom : A.depth < recursionLimit) (ho : s.heap.get? a = some o) (hdata : o.data = .func fd) (hlim : s.heap.NoLimit) (hcd : s.heap.CodeRec fd.code fd.qualname)
    (hbody : fd.body = .stmts body) (hbind : BindsTo s fd args binds)
    (hcell : ∀ x ∈ fd.scope.names, x.2 ≠ .cell) (hloc : ∀ x ∈ binds, fd.scope.names.lookup x.1 = some .local)
    (h : ∀ h₀, h₀.Ns s.heap.objs.size (fun x => binds.reverse.lookup x) → (∀ b o, s.heap.get? b = some o → h₀.get? b = some o) →
      wpG (model prog w) (A.deeper (callEnv fd s.heap.objs.size a)) (execs body (callEnv fd s.heap.objs.size a)) (fun f s' => R (.ok (.ret (match f with | .ret v => v | _ => .none))) s')
        (fun e s' => wpG (model prog w) (A.deeper (callEnv fd s.heap.objs.size a)) (leaving (callEnv fd s.heap.objs.size a) e) (fun _ s'' => R (.error e) s'') (fun e' s'' => R (.error e') s'') s')
        { s with heap := h₀, toks := s.toks + binds.length })
    (hco : fd.scope.isCoroutine = false := by rfl) (hgen : fd.scope.isGenerator = false := by rfl) (hk : fd.scope.kind = .function := by rfl) :
    codeG (model prog w) A (.call (.ref a) args) R s := by
  refine gc_call_function hroom ho hdata hco hgen hbody hcd (hbind _ _ _ _ ?_)
  refine wpAny_newFunctionEnv hcell hloc (fun h₀ hns₀ hsb₀ => ⟨hlim.fresh _ hsb₀, gc_func (h h₀ hns₀ fun b o e => ?_)⟩) hk
  exact hsb₀.extBut b o (Nat.ne_of_lt (Heap.lt_size e)) (Heap.get?_push_of_some _ e)
/-- the law's own frame -/
theorem gc_full {name : Str} {params : Arguments} {body : List Stmt} {scope : Scope} {dV kV pm cd doc : Value} {a : Addr} {o : Obj} {args : Args} {binds : List (Str × Value)}
    (hroom : A.depth < recursionLimit) (ho : s.heap.get? a = some o) (hdata : o.data = .func { docDef name params body scope pm cd doc with defaults := dV, kwdefaults := kV }) (hlim : s.heap.NoLimit) (hcd : s.heap.CodeRec cd name)
    (hbind : BindsTo s { docDef name params body scope pm cd doc with defaults := dV, kwdefaults := kV } args binds) (hloc : ∀ x ∈ binds, scope.names.lookup x.1 = some .local)
    (h : ∀ h₁, Fr s.heap s.heap.objs.size h₁ (fun x => binds.reverse.lookup x) →
      wpG (model prog w) (A.deeper (envOf name scope s.heap.objs.size a cd)) (execs body (envOf name scope s.heap.objs.size a cd))
        (fun f s' => R (.ok (.ret (match f with | .ret v => v | _ => .none))) s')
        (fun e s' => wpG (model prog w) (A.deeper (envOf name scope s.heap.objs.size a cd)) (leaving (envOf name scope s.heap.objs.size a cd) e) (fun _ s'' => R (.error e) s'') (fun e' s'' => R (.error e') s'') s')
        { s with heap := h₁, toks := s.toks + binds.length })
    (hco : scope.isCoroutine = false := by rfl) (hgen : scope.isGenerator = false := by rfl) (hk : scope.kind = .function := by rfl) (hcell : ∀ x ∈ scope.names, x.2 ≠ .cell := by decide) :
    codeG (model prog w) A (.call (.ref a) args) R s :=
  gc_call_def hroom ho hdata hlim hcd rfl hbind hcell hloc (fun h₁ hns hkeep => h h₁ ⟨hns, hkeep, Nat.le_refl _⟩) hco hgen hk
end
section
variable {M : Model} {A : Around} {s : Shared} {env : Env} {E : Value → Shared → Prop}
theorem g_execs_nil {Q : Flow → Shared → Prop} (h : Q .next s) : wpG M A (execs [] env) Q E s := g_any (wpAny_execs_nil h)
theorem g_cons {st : Stmt} {rest : List Stmt} {Q : Flow → Shared → Prop}
    (h : wpG M A (exec st env) (fun f s' => match f with | .next => wpG M A (execs rest env) Q E s' | f => Q f s') E s) : wpG M A (execs (st :: rest) env) Q E s := by
  have he : execs (st :: rest) env = (do match ← exec st env with | .next => execs rest env | f => pure f) := by
    rw [execs]
    refine congrArg (exec st env >>= ·) (funext fun f => ?_)
    cases f <;> rfl
  rw [he]
  refine g_bind (g_mono h (fun f s' h' => ?_) fun _ _ x => x)
  cases f <;> first | exact h' | exact g_pure h'
end
end Mine
end
section
open PySem PySem.W PyProof.Rows PySem.Calls PySem.Spec
set_option Elab.async false
set_option linter.all false
set_option maxRecDepth 100000
set_option maxHeartbeats 2000000
namespace Mine
section
variable {α β : Type} {M : Model} {A : Around} {E : Value → Shared → Prop} {s : Shared}
theorem g_neg {c : Prop} [Decidable c] {a b : Sem α} {Q : α → Shared → Prop} (hc : ¬ c) (h : wpG M A b Q E s) : wpG M A (if c then a else b) Q E s := by rw [if_neg hc]; exact h
theorem g_pos {c : Prop} [Decidable c] {a b : Sem α} {Q : α → Shared → Prop} (hc : c) (h : wpG M A a Q E s) : wpG M A (if c then a else b) Q E s := by rw [if_pos hc]; exact h
end
section
variable {prog : Program} {w : World} {A : Around} {E : Value → Shared → Prop} {s : Shared}
theorem gc_call_builtin {R : Result → Shared → Prop} {id : String} {args : Args} {b : Builtin} (hq : plainId id = true) (hd : isDecId id = false) (hb : entryFor table id = some b)
    (h : wpG (model prog w) A.in1 (checkBuiltinCall id args) (fun _ s₁ => wpG (model prog w) A.in1 (b args)
      (fun fin s' => match fin with | .done f => R (.ok f) s' | .again c' => c'.quiet = true ∧ isDec c' = false ∧ codeG (model prog w) A c' R s') (fun e s' => R (.error e) s') s₁)
      (fun e s' => R (.error e) s') s) : codeG (model prog w) A (.call (.builtin id) args) R s := by
  refine gc_tree ?_
  show wpG _ A.in1 (do checkBuiltinCall id args; again (.builtin id args)) _ _ s
  refine g_bind (g_mono h (fun _ s₁ h₁ => g_pure ⟨plainId_quiet hq _, hd, gc_tree ?_⟩) fun _ _ h' => h')
  show wpG _ _ (match entryFor table id with | some b => b args | none => unsupported ((withoutEnding? id "#data").getD id)) _ _ s₁
  rw [hb, Around.under_plainId hq]
  exact h₁
theorem gc_builtin {R : Result → Shared → Prop} {id : String} {args : Args} {b : Builtin} (hb : entryFor table id = some b)
    (h : wpG (model prog w) (A.under (.builtin id args)) (b args)
      (fun fin s' => match fin with | .done f => R (.ok f) s' | .again c' => c'.quiet = true ∧ isDec c' = false ∧ codeG (model prog w) A c' R s') (fun e s' => R (.error e) s') s) : codeG (model prog w) A (.builtin id args) R s := by
  refine gc_tree ?_
  show wpG _ _ (match entryFor table id with | some b => b args | none => unsupported ((withoutEnding? id "#data").getD id)) _ _ s
  rw [hb]
  exact h
theorem g_callType {T newId initId : String} {Bi : Builtin} {args : List Value} {Q Q₁ : Value → Shared → Prop} (ft : TypeCalled T newId initId)
    (hct : checkTypeCall T ⟨args, []⟩ = pure ()) (entryI : entryFor table initId = some Bi) (hdI : isDecId initId = false)
    (hnew : codeAny (model prog w) A.in1 (.call (.builtin newId) ⟨.type T :: args, []⟩) (wants Q₁ E) s)
    (hnext : ∀ obj s₁, Q₁ obj s₁ → s₁.TypeIs obj T ∧ argsOk initId ⟨obj :: args, []⟩ ∧
      wpG (model prog w) A.in1.in1 (Bi ⟨obj :: args, []⟩)
        (fun fin s' => match fin with | .done f => wants (fun r s₂ => r = .none ∧ Q obj s₂) E (.ok f) s' | .again c' => c'.quiet = true ∧ isDec c' = false ∧ codeG (model prog w) A.in1 c' (wants (fun r s₂ => r = .none ∧ Q obj s₂) E) s')
        (fun e s' => wants (fun r s₂ => r = .none ∧ Q obj s₂) E (.error e) s') s₁) :
    wpG (model prog w) A (call (.type T) args) Q E s := by
  obtain ⟨c, tl, hmro⟩ := ft.mro
  have hmade := ft.made
  have hsub := ft.sub
  refine g_call (gc_tree ?_)
  show wpG _ _ (callAny (.type T) _) _ _ _
  refine g_pure ⟨Code.quiet_builtin _ (by decide +kernel), by show isDecId "type.__call__" = false; decide, gc_builtin F.entry_type_call ?_⟩
  rw [Around.under_plain (weight_type_call_type T args []) rfl]
  have h1 := ft.notType
  have h2 := ft.canCreate
  refine g_neg (by simp [h1]) ?_
  refine g_neg (by rw [h2]; exact Bool.false_ne_true) ?_
  refine g_bind (g_any (wpAny_of_eq hct ?_))
  refine g_bind (g_any (wpAny_of_eq hmro ?_))
  refine g_neg (by simp) ?_
  refine g_bind (g_any (wpAny_of_eq hmade ?_))
  refine g_bind (g_pure ?_)
  refine g_bind (g_holding (g_any (wpAny_call (codeAny_mono hnew fun r s₁ hr => ?_))))
  cases r with
  | error e => exact hr
  | ok fl =>
    cases fl with
    | ret obj =>
      obtain ⟨hT, hok, hsi⟩ := hnext _ _ hr
      have hli := ft.init.lookup
      have hbi := ft.init.bind obj
      refine g_bind (g_any (wpAny_isInstance (T := T) hT hsub ?_))
      refine g_neg (by simp) ?_
      refine g_bind (g_holding ?_)
      unfold callSpecial?
      refine g_bind (g_any (wpAny_specialOf hT hli ?_))
      refine g_holding ?_
      refine g_bind (g_any (wpAny_of_eq hbi ?_))
      refine g_bind (g_call (gc_mono (gc_call_builtin ft.init.plain hdI entryI (g_any (ft.init.check _ _ _ _ _ _ _ _ hT hok hsi))) fun r₂ s₂ hr₂ => ?_))
      cases r₂ with
      | error e => exact hr₂
      | ok fl₂ =>
        cases fl₂ with
        | ret r =>
          obtain ⟨rfl, hq⟩ := hr₂
          refine g_pure ?_
          refine g_neg (by simp) ?_
          exact g_pure hq
        | _ => exact hr₂.elim
    | _ => exact hr.elim
end
end Mine
end
section
open PySem PySem.W PyProof.Rows PySem.Calls PySem.Spec
set_option Elab.async false
set_option linter.all false
set_option maxRecDepth 100000
set_option maxHeartbeats 4000000
namespace Mine
theorem mro_ba : mroOf (.type "bytearray") = pure [.type "bytearray", .type "object"] := by rw [mroOf_type]; kernel_rfl
theorem lookup_ba_new : typeLookup (.type "bytearray") "__new__" = pure (some (.builtin "bytearray.__new__")) := by rw [typeLookup_type, builtinLookup_eq_fast]; kernel_rfl
theorem sub_ba : isSubtype (.type "bytearray") (.type "bytearray") = pure true := by rw [isSubtype_type]; kernel_rfl
theorem slot_ba_init : Slot "bytearray" "__init__" "bytearray.__init__" :=
  .of (owner := "bytearray") (n := "__init__") (by rw [typeLookup_type, builtinLookup_eq_fast]; kernel_rfl) (by decide +kernel) (by decide +kernel) (by decide +kernel)
    (by first | exact .inl (by decide +kernel) | exact .inr (by decide +kernel)) sub_ba
theorem called_ba : TypeCalled "bytearray" "bytearray.__new__" "bytearray.__init__" :=
  ⟨by decide +kernel, by decide +kernel, ⟨_, _, mro_ba⟩, madeBy_type mro_ba lookup_ba_new (by decide +kernel), by decide +kernel, sub_ba, slot_ba_init⟩
theorem typeCall_ba0 : checkTypeCall "bytearray" ⟨[], []⟩ = pure () := by kernel_rfl
theorem typeCall_ba1 (a : Value) : checkTypeCall "bytearray" ⟨[a], []⟩ = pure () := by kernel_rfl
theorem newCall_ba0 : checkBuiltinCall "bytearray.__new__" ⟨[.type "bytearray"], []⟩ = pure () := by kernel_rfl
theorem newCall_ba1 (a : Value) : checkBuiltinCall "bytearray.__new__" ⟨[.type "bytearray", a], []⟩ = pure () := by kernel_rfl
theorem entry_ba_new : entryFor table "bytearray.__new__" = some Builtin.«list.__new__» := entryFor_alias (id' := "list.__new__") (by rw [fastTable_eq_tree]; kernel_rfl) (by first | rfl | decide +kernel) (by decide +kernel) (by rw [fastTable_eq_tree]; kernel_rfl)
theorem entry_ba_init : entryFor table "bytearray.__init__" = some Builtin.«bytearray.__init__» := entryFor_of_tree (by kernel_rfl)
theorem plain_ba_new : plainId "bytearray.__new__" = true := by decide +kernel
theorem args_ba0 (o : Value) : argsOk "bytearray.__init__" ⟨[o], []⟩ := by unfold argsOk; kernel_rfl
theorem args_ba1 (o a : Value) : argsOk "bytearray.__init__" ⟨[o, a], []⟩ := by unfold argsOk; kernel_rfl
set_option maxRecDepth 1000000 in
theorem owner_ba_new : ("bytearray.__new__".splitOn ".__new__").headD "" = "bytearray" := by simp +decide [String.splitOn, String.splitOnAux]
abbrev baObj (b : Array UInt8) : Obj := { cls := .type "bytearray", data := .bytearray b }
section
variable {prog : Program} {w : World} {A : Around} {E : Value → Shared → Prop} {s : Shared}
theorem code_ba_new {rest : List Value} {Q₁ : Value → Shared → Prop} (hr : checkBuiltinCall "bytearray.__new__" ⟨.type "bytearray" :: rest, []⟩ = pure ())
    (h : Q₁ (.ref s.heap.objs.size) { s with heap := s.heap.push (baObj #[]) }) :
    codeAny (model prog w) A (.call (.builtin "bytearray.__new__") ⟨.type "bytearray" :: rest, []⟩) (wants Q₁ E) s := by
  refine codeAny_of_tree ?_
  show wpAny _ A.in1 (do checkBuiltinCall "bytearray.__new__" ⟨.type "bytearray" :: rest, []⟩; again (.builtin "bytearray.__new__" ⟨.type "bytearray" :: rest, []⟩)) _ _ s
  refine wpAny_bind (wpAny_of_eq hr (wpAny_pure ⟨plainId_quiet plain_ba_new _, codeAny_builtin_stack entry_ba_new rfl fun p st => ?_⟩))
  rw [Around.under_plainId plain_ba_new _]
  have hsub := sub_ba
  have hown := owner_ba_new
  obtain ⟨hp, g, d, tk, os⟩ := s
  simp only [hown]
  wp_walk
  exact h
theorem look_ba_rel : typeLookup (.type "bytearray") "__release_buffer__" = pure (some (.builtin "bytearray.__release_buffer__")) := by rw [typeLookup_type, builtinLookup_eq_fast]; kernel_rfl
theorem rel_ends : (!"bytearray.__release_buffer__".endsWith ("." ++ "__release_buffer__")) = false := by decide +kernel
theorem rel_drop : "bytearray.__release_buffer__".dropRight ("__release_buffer__".length + 1) = "bytearray" := by decide +kernel
theorem k_ownrel {M : Model} {a : Addr} {b : Array UInt8} {n : Nat} {Q : Bool → Shared → Prop} (ho : s.heap.get? a = some { cls := .type "bytearray", data := .bytearray b n }) (h : Q false s) : wpAny M A (Builtin.Bytes.ownRelease (.ref a)) Q E s := by
  have hT : s.TypeIs (.ref a) "bytearray" := ⟨_, ho, rfl⟩
  refine wpAny_bind ?_
  unfold Builtin.Bytes.slotIsOwn
  refine wpAny_bind (wpAny_specialOf hT look_ba_rel ?_)
  dsimp only
  rw [rel_ends, rel_drop, if_neg Bool.false_ne_true]
  exact wpAny_isInstance (T := "bytearray") hT sub_ba (wpAny_pure h)
theorem opt_none (id f w' : String) : Builtin.Bytes.checkCodecArg id f w' none = pure () := rfl
theorem bind_ba0 : Builtin.Bytes.bindOptional "bytearray.__init__" "bytearray" ["source", "encoding", "errors"] [] [] = pure [none, none, none] := by kernel_rfl
theorem bind_ba1 (v : Value) : Builtin.Bytes.bindOptional "bytearray.__init__" "bytearray" ["source", "encoding", "errors"] [v] [] = pure [some v, none, none] := by kernel_rfl
theorem g_held {M : Model} {a : Addr} {b : Array UInt8} {Q : Bool → Shared → Prop} (ho : s.heap.get? a = some (baObj b)) (h : Q false s) :
    wpG M A (Builtin.Bytes.exported (.ref a) <||> (do return (← Builtin.Bytes.exportsOf (.ref a)) > 0)) Q E s := by
  refine g_bind (g_exported (g_any ?_))
  refine wpAny_bind ?_
  unfold Builtin.Bytes.exportsOf
  refine wpAny_bind (wpAny_load ho ?_)
  exact wpAny_pure (wpAny_pure h)
theorem k_bawrite {M : Model} {a : Addr} {b : Array UInt8} {f : Array UInt8 → Array UInt8} {Q : Unit → Shared → Prop} (ho : s.heap.get? a = some (baObj b)) (hz : (f b).size ≤ sizeLine)
    (h : ∀ h', Heap.SameBut a s.heap h' → h'.get? a = some (baObj (f b)) → Q () { s with heap := h' }) : wpAny M A (Builtin.Bytes.write (.ref a) f) Q E s := by
  show wpAny M A (updateBytearray a f) Q E s
  unfold updateBytearray
  refine wpAny_bind (wpAny_load ho ?_)
  have e : (s.heap.update a (Obj.mapBytearray f)).get? a = some (baObj (f b)) := Heap.get?_update_self (Obj.mapBytearray f) ho rfl
  refine wpAny_bind (wpAny_update ho (wpAny_lookBehind e ?_ (h _ (Heap.SameBut.update ..) e)))
  show (if (f b).size > sizeLine then some _ else none) = none
  rw [if_neg (Nat.not_lt.mpr hz)]
theorem ba_init0 {A' : Around} {a : Addr} {R : Result → Shared → Prop} (ho : s.heap.get? a = some (baObj #[]))
    (h : ∀ h', Heap.SameBut a s.heap h' → h'.get? a = some (baObj #[]) → R (.ok (.ret .none)) { s with heap := h' }) :
    wpG (model prog w) A (Builtin.«bytearray.__init__» ⟨[.ref a], []⟩)
        (fun fin s' => match fin with | .done f => R (.ok f) s' | .again c' => c'.quiet = true ∧ isDec c' = false ∧ codeG (model prog w) A' c' R s')
        (fun e s' => R (.error e) s') s := by
  unfold Builtin.«bytearray.__init__»
  refine g_bind (g_any (k_ownrel ho ?_))
  refine g_neg (by simp) ?_
  refine g_bind (g_any (wpAny_of_eq bind_ba0 ?_))
  refine g_bind (g_any (wpAny_of_eq (opt_none _ _ _) ?_))
  refine g_bind (g_any (wpAny_of_eq (opt_none _ _ _) ?_))
  refine g_bind (g_held ho ?_)
  refine g_neg (by simp) ?_
  refine g_bind (g_any (k_bawrite (f := fun _ => #[]) ho (Nat.zero_le _) fun h' hs he => ?_))
  refine g_bind (g_neg (by simp) (g_neg (by simp) (g_pure ?_)))
  exact g_pure (h h' hs he)
theorem look_b_buf : typeLookup (.type "bytes") "__buffer__" = pure (some (.builtin "bytes.__buffer__")) := by rw [typeLookup_type, builtinLookup_eq_fast]; kernel_rfl
theorem look_b_idx : typeLookup (.type "bytes") "__index__" = pure none := by rw [typeLookup_type, builtinLookup_eq_fast]; kernel_rfl
theorem look_b_rel : typeLookup (.type "bytes") "__release_buffer__" = pure none := by rw [typeLookup_type, builtinLookup_eq_fast]; kernel_rfl
theorem buf_ends : (!"bytes.__buffer__".endsWith ("." ++ "__buffer__")) = false := by decide +kernel
theorem buf_drop : "bytes.__buffer__".dropRight ("__buffer__".length + 1) = "bytes" := by decide +kernel
theorem sub_b : isSubtype (.type "bytes") (.type "bytes") = pure true := by rw [isSubtype_type]; kernel_rfl
theorem k_bbuf {M : Model} {id : String} {b : Array UInt8} {t : Tok} {fl : Bool} {Q : Option (Array UInt8) → Shared → Prop} (h : Q (some b) s) : wpAny M A (Builtin.Bytes.buffer? id (.bytes b t) fl) Q E s := by
  have hT : s.TypeIs (.bytes b t) "bytes" := rfl
  unfold Builtin.Bytes.buffer?
  refine wpAny_bind (wpAny_specialOf hT look_b_buf ?_)
  dsimp only
  refine wpAny_bind ?_
  unfold Builtin.Bytes.slotIsOwn
  refine wpAny_bind (wpAny_specialOf hT look_b_buf ?_)
  dsimp only
  rw [buf_ends, buf_drop, if_neg Bool.false_ne_true]
  refine wpAny_isInstance (T := "bytes") hT sub_b ?_
  rw [if_neg (by simp)]
  refine wpAny_bind (wpAny_specialOf hT look_b_buf ?_)
  refine wpAny_bind ?_
  refine wpAny_bind ?_
  unfold Builtin.Bytes.slotIsOwn
  refine wpAny_bind (wpAny_specialOf hT look_b_rel ?_)
  refine wpAny_pure (wpAny_pure ?_)
  rw [if_neg (by simp)]
  refine wpAny_bind ?_
  exact wpAny_bind (wpAny_pure (wpAny_pure (wpAny_pure h)))
theorem look_ba_buf : typeLookup (.type "bytearray") "__buffer__" = pure (some (.builtin "bytearray.__buffer__")) := by rw [typeLookup_type, builtinLookup_eq_fast]; kernel_rfl
theorem bbuf_ends : (!"bytearray.__buffer__".endsWith ("." ++ "__buffer__")) = false := by decide +kernel
theorem bbuf_drop : "bytearray.__buffer__".dropRight ("__buffer__".length + 1) = "bytearray" := by decide +kernel
theorem k_babuf {M : Model} {id : String} {a : Addr} {b : Array UInt8} {fl : Bool} {Q : Option (Array UInt8) → Shared → Prop} (ho : s.heap.get? a = some (baObj b)) (h : Q (some b) s) : wpAny M A (Builtin.Bytes.buffer? id (.ref a) fl) Q E s := by
  have hT : s.TypeIs (.ref a) "bytearray" := ⟨_, ho, rfl⟩
  unfold Builtin.Bytes.buffer?
  refine wpAny_bind (wpAny_specialOf hT look_ba_buf ?_)
  dsimp only
  refine wpAny_bind ?_
  unfold Builtin.Bytes.slotIsOwn
  refine wpAny_bind (wpAny_specialOf hT look_ba_buf ?_)
  dsimp only
  rw [bbuf_ends, bbuf_drop, if_neg Bool.false_ne_true]
  refine wpAny_isInstance (T := "bytearray") hT sub_ba ?_
  rw [if_neg (by simp)]
  refine wpAny_bind (wpAny_specialOf hT look_ba_buf ?_)
  refine wpAny_bind (k_ownrel ho ?_)
  rw [if_neg (by simp)]
  refine wpAny_bind ?_
  refine wpAny_bind ?_
  unfold Builtin.Bytes.payload?
  exact wpAny_bind (wpAny_load ho (wpAny_pure (wpAny_pure (wpAny_pure h))))
theorem ba_init1 {A' : Around} {a : Addr} {b : Array UInt8} {t : Tok} {R : Result → Shared → Prop} (ho : s.heap.get? a = some (baObj #[])) (hb : b.size ≤ sizeLine)
    (h : ∀ h', Heap.SameBut a s.heap h' → h'.get? a = some (baObj b) → R (.ok (.ret .none)) { s with heap := h' }) :
    wpG (model prog w) A (Builtin.«bytearray.__init__» ⟨[.ref a, .bytes b t], []⟩)
        (fun fin s' => match fin with | .done f => R (.ok f) s' | .again c' => c'.quiet = true ∧ isDec c' = false ∧ codeG (model prog w) A' c' R s')
        (fun e s' => R (.error e) s') s := by
  unfold Builtin.«bytearray.__init__»
  refine g_bind (g_any (k_ownrel ho ?_))
  refine g_neg (by simp) ?_
  refine g_bind (g_any (wpAny_of_eq (bind_ba1 _) ?_))
  refine g_bind (g_any (wpAny_of_eq (opt_none _ _ _) ?_))
  refine g_bind (g_any (wpAny_of_eq (opt_none _ _ _) ?_))
  refine g_bind (g_held ho ?_)
  refine g_neg (by simp) ?_
  refine g_bind (g_any (k_bawrite (f := fun _ => #[]) ho (Nat.zero_le _) fun h' hs he => ?_))
  have hT : (⟨h', s.gens, s.drawn, s.toks, s.os⟩ : Shared).TypeIs (.bytes b t) "bytes" := rfl
  refine g_bind (g_any (wpAny_of_eq (a := none) rfl ?_))
  refine g_neg (by simp) ?_
  refine g_bind (g_neg (by simp) (g_neg (by simp) (g_pure ?_)))
  refine g_bind (g_any (wpAny_specialOf hT look_b_idx ?_))
  refine g_neg (by simp) ?_
  refine g_bind (g_any (k_bbuf ?_))
  refine g_bind (g_any (wpAny_rule ?_))
  refine g_bind (g_any (k_bawrite (f := fun _ => b) he hb fun h2 hs2 he2 => ?_))
  exact g_pure (h h2 (hs.trans hs2) he2)
section
variable {h₀ : Heap} {L : Addr} {m : Str → Option Value} {news : List (Addr × Obj)} {Q : Value → Shared → Prop}
theorem g_ba_new {args : List Value} {b : Array UInt8} (F : Fr h₀ L s.heap m) (N : News h₀ L s.heap news) (hct : checkTypeCall "bytearray" ⟨args, []⟩ = pure ()) (hcn : checkBuiltinCall "bytearray.__new__" ⟨.type "bytearray" :: args, []⟩ = pure ()) (hok : ∀ o, argsOk "bytearray.__init__" ⟨o :: args, []⟩)
    (init : ∀ (s₁ : Shared) (a : Addr) (R : Result → Shared → Prop), s₁.heap.get? a = some (baObj #[]) → (∀ h', Heap.SameBut a s₁.heap h' → h'.get? a = some (baObj b) → R (.ok (.ret .none)) { s₁ with heap := h' }) →
      wpG (model prog w) A.in1.in1 (Builtin.«bytearray.__init__» ⟨.ref a :: args, []⟩) (fun fin s' => match fin with | .done f => R (.ok f) s' | .again c' => c'.quiet = true ∧ isDec c' = false ∧ codeG (model prog w) A.in1 c' R s') (fun e s' => R (.error e) s') s₁)
    (h : ∀ a h', Fr h₀ L h' m → News h₀ L h' ((a, baObj b) :: news) → (∀ p ∈ news, p.1 < a) → Q (.ref a) { s with heap := h' }) :
    wpG (model prog w) A (call (.type "bytearray") args) Q E s := by
  refine g_callType (Q₁ := fun obj s₁ => obj = .ref s.heap.objs.size ∧ s₁ = { s with heap := s.heap.push (baObj #[]) }) called_ba hct entry_ba_init (by decide) (code_ba_new hcn ⟨rfl, rfl⟩) fun obj s₁ hq => ?_
  obtain ⟨rfl, rfl⟩ := hq
  have F1 := F.push (baObj #[])
  have N1 := N.push F (baObj #[])
  have ho : (s.heap.push (baObj #[])).get? s.heap.objs.size = some (baObj #[]) := (N1 _ (.head _)).1
  refine ⟨⟨_, ho, rfl⟩, hok _, init _ _ _ ho fun h' hs he => ⟨rfl, ?_⟩⟩
  have hz := N1 _ (.head _)
  refine h _ h' (F1.change hs hz.2.1 hz.2.2) ?_ fun p hp => Heap.lt_size (N p hp).1
  exact news_set (pre := []) N1 (fun _ hp => nomatch hp) (fun p hp => Nat.ne_of_lt (Heap.lt_size (N p hp).1)) hs he
theorem g_ba0 (F : Fr h₀ L s.heap m) (N : News h₀ L s.heap news)
    (h : ∀ a h', Fr h₀ L h' m → News h₀ L h' ((a, baObj #[]) :: news) → (∀ p ∈ news, p.1 < a) → Q (.ref a) { s with heap := h' }) :
    wpG (model prog w) A (call (.type "bytearray") []) Q E s :=
  g_ba_new F N typeCall_ba0 newCall_ba0 args_ba0 (fun _ _ _ ho hk => ba_init0 ho hk) h
theorem g_ba1 {b : Array UInt8} {t : Tok} (F : Fr h₀ L s.heap m) (N : News h₀ L s.heap news) (hb : b.size ≤ sizeLine)
    (h : ∀ a h', Fr h₀ L h' m → News h₀ L h' ((a, baObj b) :: news) → (∀ p ∈ news, p.1 < a) → Q (.ref a) { s with heap := h' }) :
    wpG (model prog w) A (call (.type "bytearray") [.bytes b t]) Q E s :=
  g_ba_new F N (typeCall_ba1 _) (newCall_ba1 _) (fun o => args_ba1 o _) (fun _ _ _ ho hk => ba_init1 ho hb hk) h
end
end
end Mine
end
section
open PySem PySem.W PyProof.Rows PySem.Calls PySem.Spec
set_option Elab.async false
set_option linter.all false
set_option maxRecDepth 100000
set_option maxHeartbeats 4000000
namespace Mine
theorem slot_ba_set : Slot "bytearray" "__setitem__" "bytearray.__setitem__" :=
  .of (owner := "bytearray") (n := "__setitem__") (by rw [typeLookup_type, builtinLookup_eq_fast]; kernel_rfl) (by decide +kernel) (by decide +kernel) (by decide +kernel)
    (by first | exact .inl (by decide +kernel) | exact .inr (by decide +kernel)) sub_ba
theorem entry_ba_set : entryFor table "bytearray.__setitem__" = some Builtin.«bytearray.__setitem__» := entryFor_of_tree (by kernel_rfl)
theorem args_ba_set (a b c : Value) : argsOk "bytearray.__setitem__" ⟨[a, b, c], []⟩ := by unfold argsOk; kernel_rfl
theorem look_b_int : typeLookup (.type "bytes") "__int__" = pure none := by rw [typeLookup_type, builtinLookup_eq_fast]; kernel_rfl
theorem look_b_float : typeLookup (.type "bytes") "__float__" = pure none := by rw [typeLookup_type, builtinLookup_eq_fast]; kernel_rfl
theorem sub_b_ba : isSubtype (.type "bytes") (.type "bytearray") = pure false := by rw [isSubtype_type]; kernel_rfl
theorem sub_b_cx : isSubtype (.type "bytes") (.type "complex") = pure false := by rw [isSubtype_type]; kernel_rfl
abbrev slObj (i : Int) (ti : Tok) (j : Int) (tj : Tok) : Obj := { cls := .type "slice", data := .fields #[.int i ti, .int j tj, .none] }
/-- it ends with None and a heap of which P holds -/
def EndsIn (s : Shared) (P : Heap → Prop) (r : Result) (s' : Shared) : Prop := ∃ h', r = .ok (.ret .none) ∧ s' = { s with heap := h' } ∧ P h'
section
variable {prog : Program} {w : World} {A : Around} {E : Value → Shared → Prop} {s : Shared}
theorem k_parts {sl : Addr} {i j : Int} {ti tj : Tok} {Q : Value × Value × Value → Shared → Prop} (ho : s.heap.get? sl = some (slObj i ti j tj)) (h : Q (rawInt i, rawInt j, .none) s) :
    wpAny (model prog w) A (Builtin.Bytes.sliceParts (.ref sl)) Q E s := by
  unfold Builtin.Bytes.sliceParts
  refine wpAny_bind (wpAny_field (x := .none) ho rfl rfl ?_)
  kby_none
  refine wpAny_ite (KBy.ite_no (show ¬ ((Value.none == rawInt 0) = true) from Bool.false_ne_true) ?_)
  refine wpAny_bind (wpAny_field (x := .int _ _) ho rfl rfl ?_)
  kby_int
  refine wpAny_bind (wpAny_field (x := .int _ _) ho rfl rfl ?_)
  kby_int
  exact wpAny_pure h
section
variable {h₀ : Heap} {L : Addr} {m : Str → Option Value} {news news' : List (Addr × Obj)}
theorem ba_set {A' : Around} {a sl : Addr} {b0 b : Array UInt8} {t : Tok} {i j : Int} {ti tj : Tok} {R : Result → Shared → Prop} (F : Fr h₀ L s.heap m) (N : News h₀ L s.heap ((sl, slObj i ti j tj) :: news)) (U : Upd a (baObj b0) (baObj (b0 ++ b)) news news')
    (hi : i = b0.size) (hj : j = b0.size + b.size) (hb : b.size ≠ 0) (hz : b0.size + b.size ≤ sizeLine)
    (h : ∀ h', Fr h₀ L h' m → News h₀ L h' news' → R (.ok (.ret .none)) { s with heap := h' }) :
    wpG (model prog w) A (Builtin.«bytearray.__setitem__» ⟨[.ref a, .ref sl, .bytes b t], []⟩)
        (fun fin s' => match fin with | .done f => R (.ok f) s' | .again c' => c'.quiet = true ∧ isDec c' = false ∧ codeG (model prog w) A' c' R s')
        (fun e s' => R (.error e) s') s := by
  have hsl := (N _ (.head _)).1
  have hT : s.TypeIs (.ref sl) "slice" := ⟨_, hsl, rfl⟩
  have hV : s.TypeIs (.bytes b t) "bytes" := rfl
  obtain ⟨pre, post, rfl, rfl, u1, u2⟩ := U.split
  have hoa := (N (a, baObj b0) (.tail _ (List.mem_append.mpr (.inr (.head _))))).1
  unfold Builtin.«bytearray.__setitem__»
  refine g_neg (by simp) ?_
  refine g_bind (g_any ?_)
  unfold Builtin.Bytes.subscript?
  refine wpAny_bind (wpAny_specialOf hT slice_no_index (wpAny_pure ?_))
  refine g_bind (g_any (wpAny_typeOf hT ?_))
  refine g_neg (by decide) ?_
  refine g_bind (g_any (k_parts hsl ?_))
  refine g_neg (by simp [Builtin.Bytes.sameRef]) ?_
  refine g_bind (g_any (wpAny_isInstance (T := "bytes") hV sub_b_ba ?_))
  refine g_pos (by rfl) ?_
  refine g_bind (g_any ?_)
  have l1 := look_b_idx
  have l2 := look_b_int
  have l3 := look_b_float
  refine wpAny_bind (wpAny_bind (wpAny_specialOf hV l1 (wpAny_pure ?_)))
  refine wpAny_bind (wpAny_bind (wpAny_specialOf hV l2 (wpAny_pure ?_)))
  refine wpAny_bind (wpAny_bind (wpAny_specialOf hV l3 (wpAny_pure ?_)))
  refine wpAny_isInstance (T := "bytes") hV sub_b_cx ?_
  refine g_bind (g_any (wpAny_of_eq (a := none) rfl ?_))
  refine g_neg (by simp) ?_
  refine g_bind (g_any (wpAny_rule ?_))
  refine g_bind (g_ba1 F N (by omega) fun a2 h2 F2 N2 lt2 => ?_)
  have hsl2 := (N2 _ (.tail _ (.head _))).1
  have ho2 := (N2 _ (.head _)).1
  have hoa2 := (N2 (a, baObj b0) (.tail _ (.tail _ (List.mem_append.mpr (.inr (.head _)))))).1
  refine g_bind (g_holding (g_any (k_parts hsl2 ?_)))
  refine g_bind (g_any (wpAny_bind (wpAny_bind (wpAny_load ho2 (wpAny_pure (wpAny_pure ?_))))))
  refine g_bind (g_any (wpAny_bind (wpAny_bind (wpAny_load hoa2 (wpAny_pure (wpAny_pure ?_))))))
  have bnd : sliceIndices (rawInt i) (rawInt j) Value.none b0.size = pure ((b0.size : Int), (b0.size : Int), 1) := by
    have e := sliceIndices_raw (some i) (some j) none b0.size (fun e => nomatch e)
    rw [sliceBounds_plain] at e
    have e1 : clipAt b0.size i = b0.size := by rw [hi, clipAt_nat, Nat.min_self]
    have e2 : clipAt b0.size j = b0.size := by
      rw [hj, show ((b0.size : Int) + (b.size : Int)) = ((b0.size + b.size : Nat) : Int) by omega, clipAt_nat]
      omega
    rw [show (some i).elim 0 (clipAt b0.size) = b0.size from e1, show (some j).elim b0.size (clipAt b0.size) = b0.size from e2] at e
    exact e
  refine g_bind (g_any (wpAny_of_eq bnd ?_))
  refine g_pos (by rfl) ?_
  refine g_bind (g_any (wpAny_rule ?_))
  have e4 : b0.extract 0 b0.size ++ b ++ b0.extract b0.size = b0 ++ b := by simp
  refine g_pos ?_ ?_
  · have : ((b.size : Int) ≠ max (b0.size : Int) (b0.size : Int) - (b0.size : Int)) := by omega
    simpa using this
  refine g_bind ?_
  unfold Builtin.Bytes.checkResize
  refine g_bind (g_held hoa2 ?_)
  refine g_neg (by simp) (g_pure ?_)
  have hz4 : (b0.extract 0 (b0.size : Int).toNat ++ b ++ b0.extract (max (b0.size : Int) (b0.size : Int)).toNat) = b0 ++ b := by
    rw [show (max (b0.size : Int) (b0.size : Int)).toNat = b0.size by omega, show (b0.size : Int).toNat = b0.size by omega]
    exact e4
  refine g_bind (g_any (k_bawrite (f := fun x => x.extract 0 (b0.size : Int).toNat ++ b ++ x.extract (max (b0.size : Int) (b0.size : Int)).toNat) hoa2 (by rw [hz4, Array.size_append]; exact hz) fun h3 hs3 he3 => ?_))
  rw [hz4] at he3
  have zA := N2 (a, baObj b0) (.tail _ (.tail _ (List.mem_append.mpr (.inr (.head _)))))
  refine g_pure (h h3 (F2.change hs3 zA.2.1 zA.2.2) ?_)
  have N3 : News h₀ L h2 (pre ++ (a, baObj b0) :: post) := fun p hp => N2 p (.tail _ (.tail _ hp))
  exact news_set N3 u1 u2 hs3 he3
theorem g_setitem {a sl : Addr} {b0 b : Array UInt8} {t : Tok} {i j : Int} {ti tj : Tok} {Q : Unit → Shared → Prop} (F : Fr h₀ L s.heap m) (N : News h₀ L s.heap ((sl, slObj i ti j tj) :: news)) (U : Upd a (baObj b0) (baObj (b0 ++ b)) news news')
    (hi : i = b0.size) (hj : j = b0.size + b.size) (hb : b.size ≠ 0) (hz : b0.size + b.size ≤ sizeLine)
    (h : ∀ h', Fr h₀ L h' m → News h₀ L h' news' → Q () { s with heap := h' }) : wpG (model prog w) A (setItem (.ref a) (.ref sl) (.bytes b t)) Q E s := by
  obtain ⟨pre, post, rfl, rfl, u1, u2⟩ := U.split
  have hoa := (N (a, baObj b0) (.tail _ (List.mem_append.mpr (.inr (.head _))))).1
  have hT : s.TypeIs (.ref a) "bytearray" := ⟨_, hoa, rfl⟩
  unfold setItem
  refine g_holding ?_
  refine g_bind (g_any ?_)
  unfold sequenceKey
  refine wpAny_bind (wpAny_typeOf hT ?_)
  refine wpAny_ite (KBc.ite_yes (by decide) (wpAny_pure ?_))
  refine g_bind ?_
  unfold callSpecial?
  have hli := slot_ba_set.lookup
  have hbi := slot_ba_set.bind (.ref a)
  refine g_bind (g_any (wpAny_specialOf hT hli ?_))
  refine g_holding ?_
  refine g_bind (g_any (wpAny_of_eq hbi ?_))
  refine g_bind (g_call (gc_mono (R := EndsIn s fun h' => Fr h₀ L h' m ∧ News h₀ L h' (pre ++ (a, baObj (b0 ++ b)) :: post)) (gc_call_builtin slot_ba_set.plain (by decide) entry_ba_set (g_any (slot_ba_set.check _ _ _ _ _ _ _ _ hT (args_ba_set _ _ _) ?_))) fun r s' ⟨h', e1, e2, F', N'⟩ => ?_))
  · exact ba_set (R := EndsIn s fun h' => Fr h₀ L h' m ∧ News h₀ L h' (pre ++ (a, baObj (b0 ++ b)) :: post)) F N U hi hj hb hz fun h' F' N' => ⟨h', rfl, rfl, F', N'⟩
  · subst e1 e2
    exact g_pure (g_pure (h h' F' N'))
end
end
end Mine
end
section
open PySem PySem.W PyProof.Rows PySem.Calls PySem.Spec
set_option Elab.async false
set_option linter.all false
set_option maxRecDepth 100000
set_option maxHeartbeats 4000000
namespace Mine
section
variable {prog : Program} {w : World} {A : Around} {s : Shared} {env : Env} {E : Value → Shared → Prop}
theorem g_Assign_Sub {o i value : Expr} {pos' pos : Pos} {Q : Flow → Shared → Prop}
    (h : wpAny (model prog w) A (eval value env) (fun v s₁ => wpAny (model prog w) A (eval o env) (fun ov s₂ => wpAny (model prog w) A (eval i env) (fun iv s₃ => wpG (model prog w) A (setItem ov iv v) (fun _ => Q .next) E s₃) E s₂) E s₁) E s)
    (hs : swapsWith value (some (.Subscript o i pos')) pos.line env = pure false := by rfl) : wpG (model prog w) A (exec (.Assign [.Subscript o i pos'] value pos) env) Q E s := fun Γ p hΓ hC => by
  simp only [exec_Assign_Subscript o i pos' value pos hs, assign_Subscript, Sem.wp_bind', Sem.wp_holding, Sem.wp_cmd_standAt, Sem.wp_release, Sem.wp_pure']
  exact Sem.wp_mono _ Γ _ (fun v p₁ s₁ h₁ => Sem.wp_mono _ Γ _ (fun ov p₂ s₂ h₂ => Sem.wp_mono _ Γ _ (fun iv _ s₃ h₃ => h₃ Γ _ hΓ hC)
    (fun _ _ _ h' => h') _ _ (h₂ Γ p₂ hΓ)) (fun _ _ _ h' => h') _ _ (h₁ Γ p₁ hΓ)) (fun _ _ _ h' => h') _ _ (h Γ _ hΓ)
theorem g_Assign_Attr {o value : Expr} {attr : Str} {pos' pos : Pos} {Q : Flow → Shared → Prop}
    (h : wpG (model prog w) A (eval value env) (fun v s₁ => wpAny (model prog w) A (eval o env) (fun ov s₂ => wpAny (model prog w) A (setAttr ov attr v) (fun _ => Q .next) E s₂) E s₁) E s)
    (hs : swapsWith value (some (.Attribute o attr pos')) pos.line env = pure false := by rfl) : wpG (model prog w) A (exec (.Assign [.Attribute o attr pos'] value pos) env) Q E s := fun Γ p hΓ hC => by
  simp only [plainObj_exec_Assign_Attribute o attr pos' value pos hs, assign_Attribute, Sem.wp_bind', Sem.wp_holding, Sem.wp_cmd_standAt, Sem.wp_release, Sem.wp_pure']
  exact Sem.wp_mono _ Γ _ (fun v p₁ s₁ h₁ => Sem.wp_mono _ Γ _ (fun ov _ s₂ h₂ => h₂ Γ _ hΓ) (fun _ _ _ h' => h') _ _ (h₁ Γ p₁ hΓ)) (fun _ _ _ h' => h') _ _ (h Γ _ hΓ hC)
theorem g_Assign_Name {x : Str} {value : Expr} {pos' pos : Pos} {Q : Flow → Shared → Prop}
    (h : wpG (model prog w) A (eval value env) (fun v s₁ => wpAny (model prog w) A (storeName env x v) (fun _ => Q .next) E s₁) E s)
    (hs : swapsWith value (some (.Name x pos')) pos.line env = pure false := by rfl) : wpG (model prog w) A (exec (.Assign [.Name x pos'] value pos) env) Q E s := fun Γ p hΓ hC => by
  simp only [exec_Assign_Name env x pos' value pos hs, Sem.wp_bind', Sem.wp_cmd_standAt, Sem.wp_bindName, Sem.wp_pure']
  exact Sem.wp_mono _ Γ _ (fun v _ s₁ h₁ => h₁ Γ _ hΓ) (fun _ _ _ h' => h') _ _ (h Γ _ hΓ hC)
theorem g_Expr {e : Expr} {pos : Pos} {Q : Flow → Shared → Prop} (h : wpG (model prog w) A (eval e env) (fun _ => Q .next) E s)
    (hi : interactive env = false := by rfl) (hs : swapsWith e none pos.line env = pure false := by rfl) : wpG (model prog w) A (exec (.Expr e pos) env) Q E s := by
  rw [exec_Expr env e pos hi hs]
  exact g_bind (g_any (wpAny_standAt (g_bind (g_mono h (fun v s' h' => g_any (wpAny_dropValue h')) fun _ _ x => x))))
theorem g_If {test : Expr} {body orelse : List Stmt} {pos : Pos} {Q : Flow → Shared → Prop}
    (h : wpAny (model prog w) A (isTrue test env (eval test env)) (fun b s₂ => if b then wpG (model prog w) A (execs body env) Q E s₂ else wpG (model prog w) A (execs orelse env) Q E s₂) E s) :
    wpG (model prog w) A (exec (.If test body orelse pos) env) Q E s := by
  rw [exec_If]
  refine g_bind (g_any (wpAny_standAt (g_bind (g_any (wpAny_mono h (fun b s₂ h₂ => ?_) fun _ _ x => x)))))
  cases b <;> exact h₂
theorem g_IfExp {test body orelse : Expr} {pos : Pos} {Q : Value → Shared → Prop}
    (h : wpAny (model prog w) A (isTrue test env (eval test env)) (fun b s₁ => if b then wpG (model prog w) A (eval body env) Q E s₁ else wpG (model prog w) A (eval orelse env) Q E s₁) E s) :
    wpG (model prog w) A (eval (.IfExp test body orelse pos) env) Q E s := by
  rw [arm_eval_IfExp]
  refine g_bind (g_any (wpAny_mono h (fun b s₁ h₁ => ?_) fun _ _ x => x))
  cases b <;> exact h₁
theorem g_Call {func : Expr} {args : List Expr} {pos : Pos} {Q : Value → Shared → Prop}
    (h : wpAny (model prog w) A (eval func env) (fun f s₁ => wpG (model prog w) A (callWith pos f [] (backTo pos (starEach args env)) []) Q E s₁) E s)
    (he : eval (.Call func args [] pos) env = (do callWith pos (← eval func env) [] (backTo pos (starEach args env)) (backToKw pos (keywordEach [] env))) := by rfl) :
    wpG (model prog w) A (eval (.Call func args [] pos) env) Q E s := by
  rw [he]; exact g_bind (g_any h)
theorem g_MethodCall {o : Expr} {name : Str} {apos pos : Pos} {args : List Expr} {pl : Sem Bool} {Q : Value → Shared → Prop}
    (h : wpAny (model prog w) A (eval o env) (fun ov s₁ => wpAny (model prog w) A (getMethod ov name pl) (fun fx s₂ => wpG (model prog w) A (callWith pos fx.1 fx.2 (backTo pos (starEach args env)) []) Q E s₂) E s₁) E s)
    (he : eval (.Call (.Attribute o name apos) args [] pos) env = (do
      let ov ← eval o env
      standAt apos.atName
      let (f, first) ← holding [ov] (getMethod ov name pl)
      callWith pos f first (backTo pos (starEach args env)) []) := by rfl) :
    wpG (model prog w) A (eval (.Call (.Attribute o name apos) args [] pos) env) Q E s := by
  rw [he]
  refine g_bind (g_any (wpAny_mono h (fun ov s₁ h₁ => g_bind (g_any (wpAny_standAt (g_bind (g_any (wpAny_holding (wpAny_mono h₁ (fun fx s₂ h₂ => ?_) fun _ _ x => x))))))) fun _ _ x => x))
  exact h₂
theorem g_keep {α : Type} {M : Model} {vs : List Value} {m : Sem α} {Q : α → Shared → Prop} (h : wpG M A m Q E s) : wpG M A (m.keep vs) Q E s := fun Γ p hΓ hC => by
  rw [Sem.wp_keep]; exact h Γ p hΓ hC
theorem g_callWith_fn {pos : Pos} {a : Addr} {o : Obj} {fd : FuncData} {first : List Value} {args : List (Bool × Sem Value)} {Q : Value → Shared → Prop} (hst : args.any (·.1) = false)
    (h : wpAny (model prog w) A (evalArgs (.ref a) true args []) (fun x s₁ => (s₁.heap.get? a = some o ∧ o.data = .func fd) ∧ wpG (model prog w) A (call (.ref a) (first ++ x.pos) x.kw) Q E s₁) E s) :
    wpG (model prog w) A (callWith pos (.ref a) first args []) Q E s := by
  unfold callWith
  refine g_bind (g_holding (g_any (wpAny_mono h (fun x s₁ h₁ => ?_) fun _ _ x => x)))
  refine g_bind (g_any (wpAny_standAt ?_))
  have tail : ∀ {t : Sem Value}, wpG (model prog w) A t Q E s₁ → wpG (model prog w) A (t >>= fun r => holding [r] point >>= fun _ => pure r) Q E s₁ :=
    fun ht => g_bind (g_mono ht (fun r s₂ hr => g_bind (g_any (wpAny_holding (wpAny_point (g_pure hr))))) fun _ _ x => x)
  simp only [hst, List.any_nil, Bool.or_false]
  refine g_bind (g_any ?_)
  unfold keeperOf
  refine wpAny_bind (wpAny_load h₁.1.1 ?_)
  rw [h₁.1.2]
  refine wpAny_pure ?_
  by_cases hl : args.length + 2 * ([] : List (Option Str × Sem Value)).length > 30
  · exact g_pos hl (tail h₁.2)
  · exact g_neg hl (tail (g_keep h₁.2))
theorem g_callWith_K {K : Frag} {pos : Pos} {f : Addr} {oc : Value} {od : Option Addr} {fd : FuncData} {osl : Array (Option Value)} {first : List Value} {e : Expr} {rest : List Expr} {Q : Value → Shared → Prop} (hk : K.lookup f = some ⟨oc, od, .func fd, osl⟩)
    (h : wpAny (model prog w) A (spliced (backTo pos (starEach (e :: rest) env))) (fun vs s₁ => K.In s₁.heap ∧ wpG (model prog w) A (call (.ref f) (first ++ vs)) Q E s₁) E s)
    (he : starEach (e :: rest) env = (false, eval e env) :: starEach rest env := by rfl) (hplain : (backTo pos (starEach rest env)).any (·.1) = false := by rfl) :
    wpG (model prog w) A (callWith pos (.ref f) first (backTo pos (starEach (e :: rest) env)) []) Q E s := by
  rw [he] at h ⊢
  refine g_callWith_fn (o := ⟨oc, od, .func fd, osl⟩) (fd := fd) (by show (false || (backTo pos (starEach rest env)).any (·.1)) = false; rw [hplain]; rfl) (evalArgs_plain (wpAny_mono h (fun vs s₁ h₁ => ⟨⟨h₁.1 _ _ hk, rfl⟩, h₁.2⟩) fun _ _ x => x))
theorem g_For {target iter : Expr} {body : List Stmt} {pos : Pos} {Q : Flow → Shared → Prop}
    (h : wpG (model prog w) A (eval iter env) (fun x s₁ => wpAny (model prog w) A (pyIter x) (fun it s₂ =>
      codeG (model prog w) A (.forLoop target it body [] env) (fun r s' => match r with | .ok f => Q f s' | .error e => cameBackBy (model prog w) A env E e s') s₂) E s₁) E s)
    (hs : ∀ x, foldedSetIterable iter env x = pure x := by intro _; rfl) : wpG (model prog w) A (exec (.For target iter body [] pos) env) Q E s := by
  rw [exec_For]
  refine g_bind (g_any (wpAny_standAt (g_bind (g_mono h (fun x s₁ h₁ => g_bind (g_any (wpAny_of_eq (hs x) (g_bind (g_any (wpAny_standAt (g_bind (g_any (wpAny_holding (wpAny_mono h₁ (fun it s₂ h₂ => ?_) fun _ _ h' => h')))))))))) fun _ _ h' => h'))))
  unfold runOwn
  exact g_onRaise (g_mono (g_run rfl h₂) (fun _ _ x => x) fun _ _ x => g_any x)
/-- a for over a list, its body under a clean stack -/
theorem g_forLoop {target : Expr} {it : Value} {body : List Stmt} {R : Result → Shared → Prop} {N : Nat} (J : Nat → Shared → Prop)
    (hn : ∀ s, J N s → wpAny (model prog w) A (pyNext it) (fun o s' => o = none ∧ R (.ok .next) s') (fun _ _ => False) s)
    (ht : ∀ i s, i < N → J i s → wpAny (model prog w) A (pyNext it) (fun o s₁ => ∃ v, o = some v ∧ wpAny (model prog w) A (letOwnedTupleGo target it v) (fun _ s₂ => wpAny (model prog w) A (assign target env v) (fun _ s₃ =>
      wpG (model prog w) A (execs body env) (fun f s₄ => match f with | .next | .cont => J (i + 1) s₄ | .brk => R (.ok .next) s₄ | .ret v => R (.ok (.ret v)) s₄) (fun _ _ => False) s₃) (fun _ _ => False) s₂) (fun _ _ => False) s₁) (fun _ _ => False) s) :
    ∀ (k i : Nat), N - i = k → i ≤ N → ∀ s, J i s → codeG (model prog w) A (.forLoop target it body [] env) R s
  | 0, i, hk, hi, s, hJ => by
    obtain rfl : i = N := by omega
    refine gc_tree ?_
    show wpG _ A ((forTurn target it body [] env).onRaise (fun x => do noteFrame x env; theTreesLotGoes x)) _ _ s
    refine g_onRaise (g_mono (E := fun _ _ => False) ?_ (fun _ _ x => x) fun _ _ x => x.elim)
    unfold forTurn
    refine g_bind (g_any (wpAny_standAt (g_bind (g_onRaise (g_mono (E := fun _ _ => False) (g_any (hn s hJ)) (fun o s' h' => ?_) fun _ _ x => x.elim)))))
    obtain ⟨rfl, h'⟩ := h'
    refine g_pure ⟨rfl, rfl, gc_tree ?_⟩
    show wpG _ A (do return Fin.done (← (execs [] env).onRaise (fun x => do noteFrame x env; theTreesLotGoes x))) _ _ _
    exact g_bind (g_onRaise (g_execs_nil (g_pure h')))
  | k + 1, i, hk, hi, s, hJ => by
    refine gc_tree ?_
    show wpG _ A ((forTurn target it body [] env).onRaise (fun x => do noteFrame x env; theTreesLotGoes x)) _ _ s
    refine g_onRaise (g_mono (E := fun _ _ => False) ?_ (fun _ _ x => x) fun _ _ x => x.elim)
    unfold forTurn
    refine g_bind (g_any (wpAny_standAt (g_bind (g_onRaise (g_mono (E := fun _ _ => False) (g_any (ht i s (by omega) hJ)) (fun o s' h' => ?_) fun _ _ x => x.elim)))))
    obtain ⟨v, rfl, h'⟩ := h'
    refine g_bind (g_mono (g_any h') (fun _ s₂ h₂ => g_bind (g_mono (g_any h₂) (fun _ s₃ h₃ => g_bind (g_mono h₃ (fun f s₄ h₄ => ?_) fun _ _ x => x)) fun _ _ x => x)) fun _ _ x => x)
    cases f with
    | next => exact g_pure ⟨rfl, rfl, g_forLoop J hn ht k (i + 1) (by omega) (by omega) _ h₄⟩
    | cont => exact g_pure ⟨rfl, rfl, g_forLoop J hn ht k (i + 1) (by omega) (by omega) _ h₄⟩
    | brk => exact g_pure h₄
    | ret v => exact g_pure h₄
/-- a def of the written heap, called from a frame; what else the heap holds stays -/
theorem gc_defK {K : Frag} {p : Program} {loose : List Str} {mean : ExcName → Option Value} {mg mb : Str → Option Value} {A₀ : Around} {base h₀ : Heap} {L : Addr} {m : Str → Option Value} {news : List (Addr × Obj)} {outer : List Env} {name qual : Str} {params : Arguments} {body : List Stmt} {scope : Scope} {dV kV doc pm cdv ct oc : Value} {an od : Option Addr} {osl : Array (Option Value)} {f : Addr} {args : Args} {binds : List (Str × Value)} {R : Result → Shared → Prop}
    (B : Below A₀ base outer h₀) (F : Fr h₀ L s.heap m) (X₀ : K.In h₀) (N : News h₀ L s.heap news) (T : Top p loose mean mg mb h₀) (hA : A.frames = some (env :: outer)) (hf : env.frame = some L) (hke : env.scope.kind = .function)
    (ho : K.lookup f = some ⟨oc, od, .func (fnOf name qual params body scope dV kV doc pm an cdv ct), osl⟩) (hcd : codeIn K cdv qual = true) (hroom : A.depth < recursionLimit)
    (hbind : BindsTo s (fnOf name qual params body scope dV kV doc pm an cdv ct) args binds) (hloc : ∀ y ∈ binds, scope.names.lookup y.1 = some .local)
    (h : ∀ g L' h₁, Fr h₀ L g m → Fr g L' h₁ (fun y => binds.reverse.lookup y) → News g L' h₁ news → Below A base (env :: outer) g → K.In g → Top p loose mean mg mb g → (∀ b o, s.heap.get? b = some o → b ∉ news.map (·.1) → g.get? b = some o) →
      wpG (model prog w) (A.deeper (envOf qual scope L' f cdv)) (execs body (envOf qual scope L' f cdv))
        (fun fl s' => LeaveK h₀ L m g R (match fl with | .ret v => v | _ => .none) s')
        (fun e s' => wpG (model prog w) (A.deeper (envOf qual scope L' f cdv)) (leaving (envOf qual scope L' f cdv) e) (fun _ s'' => R (.error e) s'') (fun e' s'' => R (.error e') s'') s')
        { s with heap := h₁, toks := s.toks + binds.length })
    (hco : scope.isCoroutine = false := by rfl) (hgen : scope.isGenerator = false := by rfl) (hk : scope.kind = .function := by rfl)
    (hcell : ∀ x ∈ scope.names, x.2 ≠ .cell := by decide) : codeG (model prog w) A (.call (.ref f) args) R s := by
  obtain ⟨FG, BG, st, lv⟩ := groundX (R := R) B F N hA hf hke
  refine gc_call_def (fd := fnOf name qual params body scope dV kV doc pm an cdv ct) (body := body) (binds := binds) hroom ((X₀.keeps F.keep) _ _ ho) rfl (T.nolimit.keeps F.keep) (codeRec_of (X₀.keeps F.keep) hcd) rfl hbind hcell hloc (fun h₁ hns hk₁ => ?_) hco hgen hk
  exact g_mono (h _ s.heap.objs.size h₁ FG ⟨hns, fun b o e => hk₁ b o (of_hideAll _ e), Nat.le_of_eq (hideAll_size _ _)⟩
    (fun p hp => ⟨hk₁ _ _ (N p hp).1, Nat.ne_of_lt (Heap.lt_size (N p hp).1), hideAll_none _ (List.mem_map_of_mem hp)⟩) BG (X₀.keeps st) (T.keeps st) (fun b o e hb => hideAll_get _ e hb)) (fun fl s' hl => lv _ _ hl) fun _ _ y => y
end
end Mine
end
section
open PySem PySem.W PyProof.Rows PySem.Calls PySem.Spec
set_option Elab.async false
set_option linter.all false
set_option maxRecDepth 100000
set_option maxHeartbeats 4000000
namespace Mine
theorem slot_ba_len : Slot "bytearray" "__len__" "bytearray.__len__" :=
  .of (owner := "bytearray") (n := "__len__") (by rw [typeLookup_type, builtinLookup_eq_fast]; kernel_rfl) (by decide +kernel) (by decide +kernel) (by decide +kernel)
    (by first | exact .inl (by decide +kernel) | exact .inr (by decide +kernel)) sub_ba
theorem entry_ba_len : entryFor table "bytearray.__len__" = some Builtin.«bytearray.__len__» := entryFor_of_tree (by kernel_rfl)
theorem args_ba_len (a : Value) : argsOk "bytearray.__len__" ⟨[a], []⟩ := by unfold argsOk; kernel_rfl
section
variable {prog : Program} {w : World} {A : Around} {E : Value → Shared → Prop} {s : Shared} {h₀ : Heap} {L : Addr} {m : Str → Option Value} {news : List (Addr × Obj)}
theorem k_lenBa {a : Addr} {b : Array UInt8} {Q : Value → Shared → Prop} (ho : s.heap.get? a = some (baObj b)) (hb : b.size ≤ 100000000) (h : ∀ t k, Q (.int b.size t) { s with toks := k }) :
    wpAny (model prog w) A (call (.builtin "len") [.ref a]) Q E s := by
  refine call_len_slot (n := b.size) ⟨_, ho, rfl⟩ slot_ba_len (fun Q' hQ => ?_) (by omega) (by omega) (h _ _)
  refine wpAny_call_entry slot_ba_len ⟨_, ho, rfl⟩ entry_ba_len ?_ (args_ba_len _)
  unfold Builtin.«bytearray.__len__»
  refine wpAny_bind (wpAny_of_eq (a := (Value.ref a, [])) rfl ?_)
  refine wpAny_bind (wpAny_bind (wpAny_bind (wpAny_load ho (wpAny_pure (wpAny_pure ?_)))))
  exact wpAny_bind (wpAny_mkInt (wpAny_pure ⟨_, rfl, hQ⟩))
theorem k_lenBaN {a : Addr} {b : Array UInt8} {Q : Value → Shared → Prop} (N : News h₀ L s.heap news) (hm : (a, baObj b) ∈ news) (hb : b.size ≤ 100000000) (h : ∀ t k, Q (.int b.size t) { s with toks := k }) :
    wpAny (model prog w) A (call (.builtin "len") [.ref a]) Q E s := k_lenBa (N _ hm).1 hb h
end
end Mine
end
section
open PySem PySem.W PyProof.Rows PySem.Calls PySem.Spec
set_option Elab.async false
set_option linter.all false
set_option maxRecDepth 100000
set_option maxHeartbeats 4000000
namespace Mine
theorem look_ba_bytes : typeLookup (.type "bytearray") "__bytes__" = pure none := by rw [typeLookup_type, builtinLookup_eq_fast]; kernel_rfl
theorem look_ba_idx : typeLookup (.type "bytearray") "__index__" = pure none := by rw [typeLookup_type, builtinLookup_eq_fast]; kernel_rfl
section
variable {prog : Program} {w : World} {A : Around} {E : Value → Shared → Prop} {s : Shared}
theorem byba_new {a : Addr} {b : Array UInt8} {Q : Value → Shared → Prop} (ho : s.heap.get? a = some (baObj b)) (hz : b.size ≤ sizeLine)
    (hQ : ∀ t k, Q (.bytes b t) { s with toks := k }) :
    codeAny (model prog w) A (.call (.builtin "bytes.__new__") ⟨[.type "bytes", .ref a], []⟩) (wants Q E) s := by
  refine codeAny_of_tree ?_
  show wpAny _ A.in1 (do checkBuiltinCall "bytes.__new__" ⟨[.type "bytes", .ref a], []⟩; again (.builtin "bytes.__new__" ⟨[.type "bytes", .ref a], []⟩)) _ _ s
  refine wpAny_bind (wpAny_of_eq (F.bm_newCall _) (wpAny_pure ⟨plainId_quiet F.bm_plain _, codeAny_builtin F.bm_entry ?_⟩))
  rw [Around.under_plainId F.bm_plain _]
  have hT : s.TypeIs (.ref a) "bytearray" := ⟨_, ho, rfl⟩
  unfold Builtin.«bytes.__new__»
  refine wpAny_bind (wpAny_of_eq (a := true) rfl ?_)
  refine bm_if_false rfl ?_
  refine wpAny_bind (wpAny_of_eq F.bm_sub ?_)
  refine bm_if_false rfl ?_
  refine wpAny_bind (wpAny_of_eq (F.bm_bind _) ?_)
  refine wpAny_bind (wpAny_of_eq (a := ()) rfl ?_)
  refine wpAny_bind (wpAny_of_eq (a := ()) rfl ?_)
  refine bm_if_false rfl ?_
  refine wpAny_bind (wpAny_specialOf hT look_ba_bytes ?_)
  refine wpAny_bind (wpAny_bind ?_)
  show wpAny _ _ (load a >>= _) _ _ _
  refine wpAny_bind (wpAny_load ho ?_)
  refine wpAny_pure (wpAny_pure ?_)
  refine bm_if_false rfl ?_
  refine wpAny_bind (wpAny_specialOf hT look_ba_idx ?_)
  refine bm_if_true rfl ?_
  first
    | show wpAny _ _ (Builtin.Bytes.buffer? "bytes.__new__" (.ref a) true >>= _) _ _ _
    | (refine wpAny_bind ?_; show wpAny _ _ (Builtin.Bytes.buffer? "bytes.__new__" (.ref a) true >>= _) _ _ _)
  refine wpAny_bind (k_babuf ho ?_)
  refine wpAny_bind (wpAny_rule ?_)
  refine wpAny_bind (wpAny_mkBytes ?_ hz)
  refine wpAny_of_eq (a := PySem.Fin.done (.ret (.bytes b s.toks))) rfl ?_
  first
    | exact hQ _ _
    | exact ⟨_, rfl, hQ _ _⟩
theorem k_bytesBa {a : Addr} {b : Array UInt8} {Q : Value → Shared → Prop} (ho : s.heap.get? a = some (baObj b)) (hz : b.size ≤ sizeLine) (hQ : ∀ t k, Q (.bytes b t) { s with toks := k }) :
    wpAny (model prog w) A (call (.type "bytes") [.ref a]) Q E s := by
  refine callType_codes (Q₁ := fun obj s₁ => s₁.TypeIs obj "bytes" ∧ Q obj s₁) F.bm_called (F.bm_typeCall _) F.entry_object_init
    (byba_new ho hz fun t k => ⟨rfl, hQ t k⟩) fun obj s₁ h₁ => ?_
  exact ⟨h₁.1, F.args_object_init_2 obj _, object_init_meets F.bm_called.init.lookup F.bm_called.made (by decide) prog w A.in1 _ s₁ ⟨h₁.1, rfl, h₁.2⟩⟩
end
end Mine
end
section
open PySem PySem.W PyProof.Rows PySem.Calls PySem.Spec
set_option Elab.async false
set_option maxRecDepth 100000
set_option maxHeartbeats 8000000
namespace Mine
/-- the walk halts at it -/
def Hold (p : Prop) : Prop := p
theorem hold {p : Prop} (h : Hold p) : p := h
/-- the value v stands for the octets b in heap h: bytes, or a bytearray -/
def Buf (h : Heap) (v : Value) (b : Array UInt8) : Prop := (∃ t, v = .bytes b t) ∨ ∃ a, v = .ref a ∧ h.get? a = some (baObj b)
theorem Buf.keep {h h' : Heap} {v : Value} {b : Array UInt8} (hb : Buf h v b) (k : ∀ a o, h.get? a = some o → h'.get? a = some o) : Buf h' v b := by
  rcases hb with ⟨t, e⟩ | ⟨a, e, ha⟩
  · exact .inl ⟨t, e⟩
  · exact .inr ⟨a, e, k _ _ ha⟩
theorem ba_is {s : Shared} {h₀ : Heap} {L a : Addr} {m : Str → Option Value} {b : Array UInt8} (F : Fr h₀ L s.heap m) (h : h₀.get? a = some (baObj b)) : s.TypeIs (.ref a) "bytearray" := ⟨_, F.keep _ _ h, rfl⟩
local macro_rules | `(tactic| walk_at "call type:type") => `(tactic| (k_here; k_dflt (first | refine call_type_of (PySem.W.typeIs_bytes _ _ _) (by decide) ?_ | refine call_type_of (Tx := "bytearray") (ba_is (by assumption) (by assumption)) (by decide) ?_)))
local macro_rules | `(tactic| walk_at "compareOp Is type type") => `(tactic| (k_here; k_dflt (first | refine wpAny_is_self (by rfl) ?_ | refine wpAny_is_other (by rfl) (by decide) ?_)))
local macro_rules | `(tactic| walk_at "call type:bytes") => `(tactic| (k_here; (with_reducible show wpAny _ _ (call (Value.type "bytes") [Value.ref _]) _ _ _); k_dflt (refine k_bytesBa (Fr.keep (by assumption) _ _ (by assumption)) (by rw [sizeLine_eq]; omega) ?_); intro t' k'))
theorem buf {w : World} (v : Value) (b : Array UInt8) (mg mb : Str → Option Value) (mean : ExcName → Option Value) (loose : List Str)
   (dp un : Nat) (gd : Option (List Code)) (outer : List Env) (base g₀ : Heap) (s : Shared) (R : Result → Shared → Prop) (hg₀ : s.heap = g₀)
    (B : Below (arnd dp un gd outer) base outer g₀) (X : (hd03.heap_1 w.params).In g₀) {p : Program} (T : Top p loose mean mg mb g₀)
    (hv : Buf g₀ v b) (hl : b.size ≤ 200000)
    (hret : ∀ h' tk t, (∀ b o, g₀.get? b = some o → h'.get? b = some o) → R (.ok (.ret (.bytes b t))) { s with heap := h', toks := tk })
    (hdp : dp + 20 < recursionLimit) (hu : un + 100 < cLine) :
      codeAny (model PySem.Challenge.rw_ko0126_03.row.prog w) (arnd dp un gd outer) (.call (.ref 73) ⟨[v], []⟩) R s := by
  w_top off
  subst hg₀
  rcases hv with ⟨tb, rfl⟩ | ⟨ad, rfl, hba⟩
  all_goals
    revert X; k_fill; intro X
    refine' enter B X T ?k6 ?k7 ?k8 ?k9 ?kB ?_ ?c2 ?c3 ?c4 ?c5
    case k6 => k_is
    case k7 => k_is
    case k8 => ktr_room
    case k9 => exact BindsTo.of_eq rfl
    case c5 => decide
    case kB => exact locs rfl
    case c2 => exact rfl
    case c3 => exact rfl
    case c4 => exact rfl
    k_whole
    intro L' h' F' N'
    obtain ⟨g₀, gens₀, drawn₀, toks₀, os₀⟩ := s
    dsimp only at *
    (try k_fold)
    k_steps
    rename Fr _ _ _ _ => zF
    exact hret _ _ _ zF.keep
theorem k_buf {w : World} {v : Value} {b : Array UInt8} {mg mb : Str → Option Value} {mean : ExcName → Option Value} {loose : List Str} {dp un : Nat} {gd : Option (List Code)} {outer : List Env} {base g₀ : Heap} {s : Shared} {L a : Addr} {m : Str → Option Value} {news : List (Addr × Obj)}
    {cn : Str} {cs : Scope} {ccd : Value} {Q E : Value → Shared → Prop} (B : Below (arnd dp un gd outer) base outer g₀) (F : Fr g₀ L s.heap m) (N : News g₀ L s.heap news) (X : (hd03.heap_1 w.params).In g₀) {p : Program} (T : Top p loose mean mg mb g₀) (hck : cs.kind = .function)
    (hv : Buf g₀ v b) (hl : b.size ≤ 200000) (hdp : dp + 30 < recursionLimit) (hu : un + 200 < cLine)
    (h : ∀ h' tk t, Fr g₀ L h' m → News g₀ L h' news → Q (.bytes b t) { s with heap := h', toks := tk }) :
    wpAny (model PySem.Challenge.rw_ko0126_03.row.prog w) ((arnd dp un gd outer).deeper (envOf cn cs L a ccd)) (call (.ref 73) [v]) Q E s :=
  wpAny_call (buf v b mg mb mean loose (dp + 1) (un + 3) gd (envOf cn cs L a ccd :: outer) base s.heap s _ rfl (B.push F hck) (X.keeps F.keep) (T.keeps F.keep) (hv.keep F.keep) hl
    (fun h' tk t hkp => h h' tk t (F.keptAll hkp) (N.grown hkp)) (by omega) (by omega))
end Mine
end
section
open PySem PySem.W PyProof.Rows PySem.Calls PySem.Spec
set_option Elab.async false
set_option maxRecDepth 100000
namespace Mine
theorem ints_inj {b c : Array UInt8} (h : KBw.bInts b = KBw.bInts c) : b = c := by
  refine Array.toList_inj.mp ?_
  have hinj : ∀ (l r : List UInt8), (l.map fun c => ((c.toNat : Nat) : Int)) = (r.map fun c => ((c.toNat : Nat) : Int)) → l = r := by
    intro l
    induction l with
    | nil => intro r h; cases r with
      | nil => rfl
      | cons _ _ => cases h
    | cons a l ih => intro r h; cases r with
      | nil => cases h
      | cons d r =>
        rw [List.map_cons, List.map_cons] at h
        obtain ⟨h1, h2⟩ := List.cons.inj h
        rw [ih r h2, UInt8.toNat_inj.mp (Int.ofNat.inj h1)]
  exact hinj _ _ h
section
variable {prog : Program} {w : World} {A : Around} {E : Value → Shared → Prop} {s : Shared} {b c : Array UInt8} {t u : Tok} {ks : List Int} {h₀ : Heap} {L : Addr} {news : List (Addr × Obj)}
theorem k_bne {Q : Value → Shared → Prop} (hb : KBw.bInts b = ks) (hc : KBw.bInts c = ks) (h : Q (.bool false) s) : wpAny (model prog w) A (compareOp .NotEq (.bytes b t) (.bytes c u)) Q E s := by
  have e := ints_inj (hb.trans hc.symm)
  subst e
  refine ne_bytes ?_
  rw [bne_self_eq_false]
  exact h
end
end Mine
end
section
open PySem PySem.W PyProof.Rows PySem.Calls PySem.Spec PySem.Builtin
set_option Elab.async false
set_option maxRecDepth 100000
namespace Mine
/-- a text's octets -/
def utfB (x : Str) : Array UInt8 := x.cps.foldl (fun acc y => acc ++ (Str.utf8Of y).toArray) #[]
theorem utf_one (c : Nat) : (Str.utf8Of c).length ≤ 4 := by
  unfold Str.utf8Of
  split
  · simp
  · split
    · simp
    · split <;> simp
theorem utf_fold : ∀ (l : List Nat) (acc : Array UInt8), l.foldl (fun acc y => acc ++ (Str.utf8Of y).toArray) acc = acc ++ (l.flatMap Str.utf8Of).toArray
  | [], acc => by simp
  | c :: r, acc => by
    rw [List.foldl_cons, utf_fold r, List.flatMap_cons]
    simp
theorem utfB_eq (x : Str) : utfB x = (x.cps.toList.flatMap Str.utf8Of).toArray := by
  unfold utfB
  rw [← Array.foldl_toList, utf_fold]
  simp
theorem utfB_size (x : Str) : (utfB x).size ≤ 4 * x.length := by
  rw [utfB_eq, List.size_toArray]
  show _ ≤ 4 * x.cps.size
  rw [← Array.length_toList]
  generalize x.cps.toList = l
  induction l with
  | nil => simp
  | cons c r ih =>
    rw [List.flatMap_cons, List.length_append, List.length_cons]
    have := utf_one c
    omega
theorem narrow_wp {M : Model} {A : Around} {E : Value → Shared → Prop} {s : Shared} {id : String} {self : Value} {x : Str} {Q : Array UInt8 → Shared → Prop} (hb : ∀ c ∈ x.cps.toList, Str.isSurrogate c = false) (hz : x.length ≤ 1000000)
    (h : Q (x.cps.foldl (fun acc y => acc ++ (Str.utf8Of y).toArray) #[]) s) : wpAny M A (_codecs.encodeNarrow id _codecs.utf8Codec none self x) Q E s := by
  unfold _codecs.encodeNarrow
  dsimp only
  rw [Std.Legacy.Range.forIn_eq_forIn_range']
  have hno : x.cps.findIdx? _codecs.utf8Codec.bad = none := by
    rw [Array.findIdx?_eq_none_iff]
    intro c hc
    exact hb c (Array.mem_toList_iff.mpr hc)
  have hU := utfB_size x
  refine wpAny_bind (wpAny_forIn_list _ (fun rest (st : Nat × Array UInt8 × _codecs.Faults) s' => s' = s ∧ ((st.1 = 0 ∧ st.2.1 = #[] ∧ rest.length = x.length) ∨ (st.1 = x.cps.size ∧ st.2.1 = utfB x))) _ ?turn ?fin _ _ ⟨rfl, .inl ⟨rfl, rfl, by simp [Std.Legacy.Range.size]⟩⟩)
  case fin =>
    rintro ⟨i, out, st⟩ s' ⟨rfl, h1⟩
    dsimp only at h1 ⊢
    have e : out = utfB x := by
      rcases h1 with ⟨-, h2, h3⟩ | ⟨-, h2⟩
      · have : x.cps = #[] := Array.size_eq_zero_iff.mp h3.symm
        rw [h2]
        unfold utfB
        rw [this]
        rfl
      · exact h2
    subst e
    exact wpAny_pure h
  case turn =>
    rintro q rest ⟨i, out, st⟩ s' ⟨rfl, h1⟩
    dsimp only at h1 ⊢
    rcases h1 with ⟨rfl, rfl, h3⟩ | ⟨rfl, rfl⟩
    · have hpos : 0 < x.cps.size := by
        have : (q :: rest).length = x.cps.size := h3
        simp at this
        omega
      rw [if_neg (by simp)]
      rw [Array.getElem?_eq_getElem hpos]
      dsimp only
      have hc := hb x.cps[0] (by simp)
      rw [if_pos (by show (!Str.isSurrogate x.cps[0]) = true; rw [hc]; rfl)]
      refine wpAny_pure ⟨rfl, .inr ?_⟩
      have e1 : x.cps.extract 0 = x.cps := by simp
      dsimp only
      rw [e1, hno]
      refine ⟨by simp, ?_⟩
      simp only [Option.getD_none, Array.extract_size]
      rfl
    · rw [if_neg (by rw [sizeLine_eq]; omega)]
      have e : x.cps[x.cps.size]? = none := by simp
      rw [e]
      dsimp only
      exact wpAny_pure (by dsimp only; exact wpAny_pure h)
theorem meets_encode {x : Str} {t u : Tok} (hb : ∀ c ∈ x.cps.toList, Str.isSurrogate c = false) (hz : x.length ≤ 1000000) :
    Meets (Builtin.«str.encode» ⟨[.str x t, .str (Str.ofString "utf-8") u], []⟩) (fun _ R s => ∀ t', R (.ok (.ret (.bytes (utfB x) t'))) { s with toks := s.toks + 1 }) := by
  intro prog w A R s hR
  unfold Builtin.«str.encode»
  refine wpAny_bind (wpAny_of_eq (a := (Value.str x t, x, [Value.str (Str.ofString "utf-8") u])) rfl ?_)
  dsimp only
  refine wpAny_bind (wpAny_of_eq (a := [some (Value.str (Str.ofString "utf-8") u), none]) (by kernel_rfl) ?_)
  dsimp only
  refine wpAny_bind (wpAny_of_eq (a := some (Str.ofString "utf-8")) (by kernel_rfl) ?_)
  refine wpAny_bind (wpAny_of_eq (a := none) (by kernel_rfl) ?_)
  have e : (some (Str.ofString "utf-8")).getD (Str.ofString "utf-8") = Str.ofString "utf-8" := rfl
  rw [e, PySem.encodeRoad_utf8]
  refine wpAny_bind (wpAny_bind (narrow_wp hb hz (wpAny_mkBytes (wpAny_pure (hR _)) ?_)))
  have := utfB_size x
  show (utfB x).size ≤ _
  rw [sizeLine_eq]
  omega
section
variable {prog : Program} {w : World} {A : Around} {E : Value → Shared → Prop} {s : Shared} {Q : Value → Shared → Prop}
theorem k_encode {x : Str} {t u : Tok} (hb : ∀ c ∈ x.cps.toList, Str.isSurrogate c = false) (hz : x.length ≤ 1000000) (h : ∀ t', Q (.bytes (utfB x) t') { s with toks := s.toks + 1 }) :
    wpAny (model prog w) A (call (.builtin "str.encode") [.str x t, .str (Str.ofString "utf-8") u]) Q E s :=
  call_meets F.slot_str_encode (typeIs_str _ _ _) F.entry_str_encode (by first | exact F.args_str_encode_2 _ _ | (unfold argsOk; kernel_rfl)) (meets_encode hb hz) h
theorem k_getenc {M : Model} {pl : Sem Bool} {x : Str} {t : Tok} {Q : Value × List Value → Shared → Prop} (h : Q (.builtin "str.encode", [.str x t]) s) : wpAny M A (getMethod (.str x t) (PySem.Str.ofString "encode") pl) Q E s :=
  getMethod_builtin (typeIs_str _ _ _) F.plainAttrs_str F.slot_str_encode F.type_str_encode (fun _ e => nomatch e) h
end
end Mine
end
section
open PySem PySem.W PyProof.Rows PySem.Calls PySem.Spec
set_option Elab.async false
set_option maxRecDepth 100000
namespace Mine
/-- base64 by groups of three -/
def G : List Int → List Int
  | [] => []
  | [x] => [sg (x / 4), sg (x % 4 * 16), 61, 61]
  | [x, y] => [sg (x / 4), sg (x % 4 * 16 + y / 16), sg (y % 16 * 4), 61]
  | x :: y :: z :: r => sg (x / 4) :: sg (x % 4 * 16 + y / 16) :: sg (y % 16 * 4 + z / 64) :: sg (z % 64) :: G r
theorem btail_G : ∀ (ks : List Int) (out : List Int) (lc : Int), (∀ k ∈ ks, 0 ≤ k ∧ k < 256) → 0 ≤ lc → btail (ks.foldl bstep (out, 0, lc)) = out ++ G ks
  | [], out, lc, _, _ => by simp [btail, G]
  | [x], out, lc, h, h0 => by
    have hx := h x (.head _)
    rw [List.foldl_cons, List.foldl_nil, bstep0]
    have e1 : (lc * 256 + x) % 65536 / 4 % 64 = x / 4 := by omega
    have e2 : (lc * 256 + x) % 65536 % 4 = x % 4 := by omega
    unfold btail
    rw [if_pos rfl]
    dsimp only
    rw [e1, e2]
    simp [G]
  | [x, y], out, lc, h, h0 => by
    have hx := h x (.head _)
    have hy := h y (.tail _ (.head _))
    rw [List.foldl_cons, List.foldl_cons, List.foldl_nil, bstep0, bstep2]
    have e1 : (lc * 256 + x) % 65536 / 4 % 64 = x / 4 := by omega
    have e2 : ((lc * 256 + x) % 65536 * 256 + y) % 65536 / 16 % 64 = x % 4 * 16 + y / 16 := by omega
    have e3 : ((lc * 256 + x) % 65536 * 256 + y) % 65536 % 16 = y % 16 := by omega
    unfold btail
    rw [if_neg (by show ¬ (4 : Int) = 2; decide), if_pos rfl]
    dsimp only
    rw [e1, e2, e3]
    simp [G]
  | x :: y :: z :: r, out, lc, h, h0 => by
    have hx := h x (.head _)
    have hy := h y (.tail _ (.head _))
    have hz := h z (.tail _ (.tail _ (.head _)))
    rw [List.foldl_cons, List.foldl_cons, List.foldl_cons, bstep0, bstep2, bstep4]
    have e1 : (lc * 256 + x) % 65536 / 4 % 64 = x / 4 := by omega
    have e2 : ((lc * 256 + x) % 65536 * 256 + y) % 65536 / 16 % 64 = x % 4 * 16 + y / 16 := by omega
    have e3 : (((lc * 256 + x) % 65536 * 256 + y) % 65536 * 256 + z) % 65536 / 64 % 64 = y % 16 * 4 + z / 64 := by omega
    have e4 : (((lc * 256 + x) % 65536 * 256 + y) % 65536 * 256 + z) % 65536 / 1 % 64 = z % 64 := by omega
    rw [e1, e2, e3, e4, btail_G r _ _ (fun k hk => h k (.tail _ (.tail _ (.tail _ hk)))) (by omega)]
    simp [G]
theorem b64_G {ks : List Int} (h : ∀ k ∈ ks, 0 ≤ k ∧ k < 256) : b64 ks = G ks := by
  unfold b64 brun
  rw [btail_G ks [] 0 h (by decide)]
  rfl
theorem G_app : ∀ (a b : List Int), 3 ∣ a.length → G (a ++ b) = G a ++ G b
  | [], b, _ => rfl
  | [_], _, h => by simp at h
  | [_, _], _, h => by simp at h
  | x :: y :: z :: r, b, h => by
    have hr : 3 ∣ r.length := by simp only [List.length_cons] at h; omega
    simp only [List.cons_append, G, G_app r b hr]
theorem G_len : ∀ (ks : List Int), (G ks).length = (ks.length + 2) / 3 * 4
  | [] => rfl
  | [_] => by simp [G]
  | [_, _] => by simp [G]
  | x :: y :: z :: r => by
    simp only [G, List.length_cons, G_len r]
    omega
end Mine
end
section
open PySem PySem.W PyProof.Rows PySem.Calls PySem.Spec PySem.Builtin
set_option Elab.async false
set_option maxRecDepth 100000
namespace Mine
theorem slot_bexp : Slot "bytes" "expandtabs" "bytes.expandtabs" :=
  .of (owner := "bytes") (n := "expandtabs") (by rw [typeLookup_type, builtinLookup_eq_fast]; kernel_rfl) (by decide +kernel) (by decide +kernel) (by decide +kernel)
    (by first | exact .inl (by decide +kernel) | exact .inr (by decide +kernel)) (by rw [isSubtype_type]; kernel_rfl)
theorem entry_bexp : entryFor table "bytes.expandtabs" = some Builtin.«bytes.expandtabs» := by first | exact entryFor_of_tree (by kernel_rfl) | exact entryFor_of_fast (by kernel_rfl)
theorem args_bexp (a : Value) : argsOk "bytes.expandtabs" ⟨[a], []⟩ := by unfold argsOk; kernel_rfl
theorem type_bexp : typeOf (.builtin "bytes.expandtabs") = pure (.type "method_descriptor") := by kernel_rfl
/-- the octets with tabs made blanks -/
@[irreducible] def tabsB (b : List UInt8) : Array UInt8 := Bytes.expanded 8 b
/-- how wide they are -/
def widthB (b : List UInt8) : Nat := (tabsB b).size
theorem meets_exp {b : Array UInt8} {t : Tok} (hz : b.size ≤ 100000) (hz2 : (tabsB b.toList).size ≤ 1000000) :
    Meets (Builtin.«bytes.expandtabs» ⟨[.bytes b t], []⟩) (fun _ R s => ∀ t', R (.ok (.ret (.bytes (tabsB b.toList) t'))) { s with toks := s.toks + 1 }) := by
  intro prog w A R s hR
  unfold Builtin.«bytes.expandtabs» Bytes.expandtabsM
  dsimp only
  refine wpAny_bind (wpAny_of_eq (a := [none]) (by kernel_rfl) ?_)
  dsimp only
  refine wpAny_bind (wpAny_pure ?_)
  refine wpAny_bind (wpAny_of_eq (a := b) rfl ?_)
  have hc : (b.toList.filter (· == 9)).length ≤ b.size := by
    rw [← Array.length_toList]
    exact List.length_filter_le _ _
  rw [if_neg (by
    rw [KBy.tooLong_not (by show b.size + (b.toList.filter (· == 9)).length * 8 ≤ _; omega)]
    exact Bool.false_ne_true)]
  have e8 : Bytes.expanded (Int.toNat 8) b.toList = tabsB b.toList := by unfold tabsB; rfl
  rw [e8]
  refine wpAny_bind (wpAny_mkBytes (wpAny_pure (hR _)) ?_)
  show (tabsB b.toList).size ≤ _
  rw [sizeLine_eq]
  omega
section
variable {prog : Program} {w : World} {A : Around} {E : Value → Shared → Prop} {s : Shared}
theorem k_exp {b : Array UInt8} {t : Tok} {Q : Value → Shared → Prop} (hz : b.size ≤ 100000) (hz2 : (tabsB b.toList).size ≤ 1000000) (h : ∀ t', Q (.bytes (tabsB b.toList) t') { s with toks := s.toks + 1 }) :
    wpAny (model prog w) A (call (.builtin "bytes.expandtabs") [.bytes b t]) Q E s :=
  call_meets (rest := []) slot_bexp (typeIs_bytes s b t) entry_bexp (args_bexp (.bytes b t)) (meets_exp (t := t) hz hz2) (fun t' => h t')
theorem k_getexp {M : Model} {pl : Sem Bool} {b : Array UInt8} {t : Tok} {Q : Value × List Value → Shared → Prop} (h : Q (.builtin "bytes.expandtabs", [.bytes b t]) s) : wpAny M A (getMethod (.bytes b t) (PySem.Str.ofString "expandtabs") pl) Q E s :=
  KBd.method_of (name := PySem.Str.ofString "expandtabs") (id := "bytes.expandtabs") (.bytes b t) (typeIs_bytes _ _ _) slot_bexp type_bexp KBd.noRef h
end
end Mine
end
section
open PySem PySem.W PyProof.Rows PySem.Calls PySem.Spec PySem.Builtin
set_option Elab.async false
set_option maxRecDepth 100000
namespace Mine
/-- the column behind the octets -/
def colF (l : List UInt8) : Nat := l.foldl (fun c o => if o = 9 then c + (8 - c % 8) else c + 1) 0
section
variable {prog : Program} {w : World} {A : Around} {E : Value → Shared → Prop} {s : Shared} {Q : Value → Shared → Prop} {n lv : Nat} {t : Tok}
end
end Mine
end
section
open PySem PySem.W PyProof.Rows PySem.Calls PySem.Spec
set_option Elab.async false
set_option maxRecDepth 100000
namespace Mine
/-- the rows without their ends -/
def rowsS (ks : List Int) (z i : Nat) : List (List Int) := (List.range i).map fun j => b64 (chunkB ks z j)
theorem rowsB_S (ks : List Int) (z i : Nat) : rowsB ks z i = (rowsS ks z i).map (fun r => r ++ [10]) := by
  unfold rowsB rowsS
  rw [List.map_map]
  rfl
theorem slRun_plain (r : List Int) (h : (10 : Int) ∉ r) (st : List (List Int) × List Int) : r.foldl slStep st = (st.1, st.2 ++ r) := by
  induction r generalizing st with
  | nil => simp
  | cons a r ih =>
    have ha : a ≠ 10 := fun e => h (e ▸ List.mem_cons_self)
    rw [List.foldl_cons, ih (fun hm => h (List.mem_cons_of_mem _ hm))]
    unfold slStep
    rw [if_neg ha]
    simp
theorem slRun_rows : ∀ (rs : List (List Int)), (∀ r ∈ rs, (10 : Int) ∉ r) → ∀ acc, ((rs.map (fun r => r ++ [10])).flatten).foldl slStep (acc, []) = (acc ++ rs, [])
  | [], _, acc => by simp
  | r :: rs, h, acc => by
    rw [List.map_cons, List.flatten_cons, List.foldl_append, List.foldl_append, slRun_plain r (h r (.head _)), List.foldl_cons, List.foldl_nil]
    have e : slStep (acc, [] ++ r) 10 = (acc ++ [r], []) := by
      unfold slStep
      rw [if_pos rfl]
      simp
    rw [e, slRun_rows rs (fun x hx => h x (.tail _ hx))]
    simp
theorem splitL_rows (rs : List (List Int)) (h : ∀ r ∈ rs, (10 : Int) ∉ r) : splitL ((rs.map (fun r => r ++ [10])).flatten) = rs ++ [[]] := by
  unfold splitL slRun
  rw [slRun_rows rs h]
  simp
/-- a sign of base64 -/
def Sgn (c : Int) : Prop := (∃ a, 0 ≤ a ∧ a < 64 ∧ c = sg a) ∨ c = 61
theorem sg_all : ∀ a : Fin 64, tabB.getD a.val 0 ≠ 10 ∧ tabB.getD a.val 0 ≠ 61 ∧ 0 ≤ tabB.getD a.val 0 ∧ tabB.getD a.val 0 < 128 := by decide +kernel
theorem sg_at {a : Int} (h0 : 0 ≤ a) (h1 : a < 64) : sg a ≠ 10 ∧ sg a ≠ 61 ∧ 0 ≤ sg a ∧ sg a < 128 := sg_all ⟨a.toNat, by omega⟩
theorem Sgn.ok {c : Int} (h : Sgn c) : c ≠ 10 ∧ 0 ≤ c ∧ c < 128 := by
  rcases h with ⟨a, h0, h1, rfl⟩ | rfl
  · have := sg_at h0 h1
    exact ⟨this.1, this.2.2.1, this.2.2.2⟩
  · exact ⟨by decide, by decide, by decide⟩
theorem Sgn.of {a : Int} (h0 : 0 ≤ a) (h1 : a < 64) : Sgn (sg a) := .inl ⟨a, h0, h1, rfl⟩
theorem G_sgn : ∀ (ks : List Int), (∀ k ∈ ks, 0 ≤ k ∧ k < 256) → ∀ c ∈ G ks, Sgn c
  | [], _, c, hc => by simp [G] at hc
  | [x], h, c, hc => by
    have hx := h x (.head _)
    simp only [G, List.mem_cons, List.not_mem_nil, or_false] at hc
    rcases hc with rfl | rfl | rfl | rfl
    · exact .of (by omega) (by omega)
    · exact .of (by omega) (by omega)
    · exact .inr rfl
    · exact .inr rfl
  | [x, y], h, c, hc => by
    have hx := h x (.head _)
    have hy := h y (.tail _ (.head _))
    simp only [G, List.mem_cons, List.not_mem_nil, or_false] at hc
    rcases hc with rfl | rfl | rfl | rfl
    · exact .of (by omega) (by omega)
    · exact .of (by omega) (by omega)
    · exact .of (by omega) (by omega)
    · exact .inr rfl
  | x :: y :: z :: r, h, c, hc => by
    have hx := h x (.head _)
    have hy := h y (.tail _ (.head _))
    have hz := h z (.tail _ (.tail _ (.head _)))
    simp only [G, List.mem_cons] at hc
    rcases hc with rfl | rfl | rfl | rfl | hc
    · exact .of (by omega) (by omega)
    · exact .of (by omega) (by omega)
    · exact .of (by omega) (by omega)
    · exact .of (by omega) (by omega)
    · exact G_sgn r (fun k hk => h k (.tail _ (.tail _ (.tail _ hk)))) c hc
theorem chunk_in {ks : List Int} (h : ∀ k ∈ ks, 0 ≤ k ∧ k < 256) (z j : Nat) : ∀ k ∈ chunkB ks z j, 0 ≤ k ∧ k < 256 := fun k hk => h k (List.mem_of_mem_drop (List.mem_of_mem_take hk))
theorem rowsS_mem {ks : List Int} (h : ∀ k ∈ ks, 0 ≤ k ∧ k < 256) {z i : Nat} : ∀ r ∈ rowsS ks z i, ∀ c ∈ r, Sgn c := fun r hr c hc => by
  unfold rowsS at hr
  obtain ⟨j, -, rfl⟩ := List.mem_map.mp hr
  rw [b64_G (chunk_in h z j)] at hc
  exact G_sgn _ (chunk_in h z j) c hc
theorem rowsS_no10 {ks : List Int} (h : ∀ k ∈ ks, 0 ≤ k ∧ k < 256) {z i : Nat} : ∀ r ∈ rowsS ks z i, (10 : Int) ∉ r := fun r hr hc => (rowsS_mem h r hr 10 hc).ok.1 rfl
theorem enc_split {ks : List Int} (h : ∀ k ∈ ks, 0 ≤ k ∧ k < 256) {z i : Nat} : splitL (rowsB ks z i).flatten = rowsS ks z i ++ [[]] := by
  rw [rowsB_S]
  exact splitL_rows _ (rowsS_no10 h)
theorem chunk_len (ks : List Int) (z j : Nat) : (chunkB ks z j).length = min z (ks.length - j * z) := by
  unfold chunkB
  rw [List.length_take, List.length_drop]
theorem rowsS_len {ks : List Int} (h : ∀ k ∈ ks, 0 ≤ k ∧ k < 256) (z i j : Nat) (hj : j < i) : ∃ r, (rowsS ks z i)[j]? = some r ∧ r.length = (min z (ks.length - j * z) + 2) / 3 * 4 := by
  refine ⟨b64 (chunkB ks z j), ?_, ?_⟩
  · unfold rowsS
    rw [List.getElem?_map, List.getElem?_range hj]
    rfl
  · rw [b64_G (chunk_in h z j), G_len, chunk_len]
end Mine
end
section
open PySem PySem.W PyProof.Rows PySem.Calls PySem.Spec
set_option Elab.async false
set_option maxRecDepth 100000
namespace Mine
/-- one octet's step of the column -/
def colS (c : Nat) (k : Int) : Nat := if k = 9 then c + (8 - c % 8) else c + 1
theorem colI_eq (l : List UInt8) : (KBw.bInts l.toArray).foldl colS 0 = colF l := by
  have key : ∀ (l : List UInt8) (c : Nat), (l.map fun x => ((x.toNat : Nat) : Int)).foldl colS c = l.foldl (fun c o => if o = 9 then c + (8 - c % 8) else c + 1) c := by
    intro l
    induction l with
    | nil => intro c; rfl
    | cons a l ih =>
      intro c
      rw [List.map_cons, List.foldl_cons, List.foldl_cons, ih]
      congr 1
      unfold colS
      by_cases h : a = 9
      · subst h; rfl
      · rw [if_neg h]
        exact if_neg (fun e => h (UInt8.toNat_inj.mp (Int.ofNat.inj e)))
  exact key l 0
section
variable {prog : Program} {w : World} {A : Around} {E : Value → Shared → Prop} {s : Shared} {h₀ : Heap} {env : Env} {x : Str} {body : List Stmt}
theorem colGo {Q : Flow → Shared → Prop} {b : Array UInt8} {tb : Tok} {ks : List Int} {m₀ : Str → Option Value} {news : List (Addr × Obj)} (PM : (Str → Option Value) → Prop) (hk : KBw.bInts b = ks) (hh : A.handled = none) (F : Fr h₀ env.locals s.heap m₀) (N : News h₀ env.locals s.heap news)
    (hP : PM m₀) (h0 : ∃ t, m₀ "column" = some (.int 0 t))
    (turn : ∀ k t m h tk own (c : Nat), 0 ≤ k → k < 256 → OwnOff own (news.map (·.1)) → PM m → (∃ t, m "column" = some (.int (c : Int) t)) → Fr h₀ env.locals h (fun y => if y = x then some (.int k t) else m y) → News h₀ env.locals h (news ++ own) →
      wpAny (model prog w) A (execs body env) (InvPostN h₀ env.locals (fun m' nx => (PM m' ∧ ∃ t, m' "column" = some (.int (colS c k : Int) t)) ∧ nx = news) own (news.map (·.1)) { s with heap := h, toks := tk } Q) E { s with heap := h, toks := tk })
    (done : ∀ m h tk t, PM m → m "column" = some (.int (ks.foldl colS 0 : Nat) t) → Fr h₀ env.locals h m → News h₀ env.locals h news → Q .next { s with heap := h, toks := tk }) :
    wpAny (model prog w) A (pyIter (.bytes b tb)) (fun it s₂ => LoopAtV prog w A h₀ env x body Q E it s₂) E s := by
  refine KBmo.iter_bytesN (fun i m nx => (PM m ∧ ∃ t, m "column" = some (.int ((ks.take i).foldl colS 0 : Nat) t)) ∧ nx = news) hk hh F N ⟨⟨hP, h0⟩, rfl⟩ (fun i k t m₁ news₁ h tk own hi h0 h1 hoff hJ F₁ N₁ => ?_) (fun m₁ news₁ h tk hJ F₁ N₁ => ?_)
  · obtain ⟨⟨hp, hc⟩, rfl⟩ := hJ
    have e : (ks.take (i + 1)).foldl colS 0 = colS ((ks.take i).foldl colS 0) k := by
      rw [List.take_add_one, hi, List.foldl_append]
      rfl
    rw [e]
    exact turn k t m₁ h tk own _ h0 h1 hoff hp hc F₁ N₁
  · obtain ⟨⟨hp, t, hc⟩, rfl⟩ := hJ
    rw [List.take_length] at hc
    exact done m₁ h tk t hp hc F₁ N₁
end
section
variable {prog : Program} {w : World} {A : Around} {E : Value → Shared → Prop} {s : Shared} {h₀ : Heap} {L : Addr} {m : Str → Option Value} {news : List (Addr × Obj)} {value slice : PySem.Expr} {Q : Value → Shared → Prop} {l : Addr} {va vb vc : Value} {vm : List Value} {n : Nat} {t1 t2 : Tok}
end
end Mine
end
section
open PySem PySem.W PyProof.Rows
set_option Elab.async false
set_option linter.all false
set_option maxRecDepth 100000
namespace Mine
/-- the five indents of law 03 -/
def ind3 (n : Nat) : List UInt8 := match n with | 0 => [9] | 1 => [32] | 2 => [32, 9] | 3 => [] | _ => [9, 32, 32, 32]
theorem ind3_len (n : Nat) : (ind3 n).length ≤ 4 := by
  unfold ind3
  split <;> decide
theorem wd3 : ∀ n : Fin 5, ∀ lv : Fin 13, widthB (List.replicate lv.val (ind3 n.val)).flatten = colF (List.replicate lv.val (ind3 n.val)).flatten ∧ colF (List.replicate lv.val (ind3 n.val)).flatten ≤ 120 := by decide +kernel
/-- the margin's width: expandtabs and the law's own count agree -/
theorem wid3 {n lv : Nat} (hn : n < 5) (hl : lv < 13) : (tabsB (mulB lv (ind3 n)).toList).size = colF (mulB lv (ind3 n)).toList ∧ colF (mulB lv (ind3 n)).toList ≤ 120 := by
  have h := wd3 ⟨n, hn⟩ ⟨lv, hl⟩
  unfold mulB
  rw [List.toList_toArray]
  exact h
/-- .. as the loop counts it over the margin's octets -/
theorem col3 (lv : Nat) (ind : List UInt8) : (KBw.bInts (mulB lv ind)).foldl colS 0 = colF (mulB lv ind).toList := by
  have h := colI_eq (mulB lv ind).toList
  rw [Array.toArray_toList] at h
  exact h
end Mine
end
section
open PySem PySem.W PyProof.Rows PySem.Calls PySem.Spec
set_option Elab.async false
set_option linter.all false
set_option maxRecDepth 100000
set_option maxHeartbeats 8000000
namespace Mine
theorem typeIs_b (s : Shared) (b : Array UInt8) (t : Tok) : s.TypeIs (.bytes b t) "bytes" := rfl
local macro_rules | `(tactic| walk_at "call type:type") => `(tactic| (k_here; k_dflt (refine call_type_of (typeIs_b _ _ _) (by decide) ?_)))
local macro_rules | `(tactic| walk_at "compareOp IsNot type type") => `(tactic| (k_here; k_dflt (first | refine wpAny_isNot_self (by rfl) ?_ | refine wpAny_isNot_other (by rfl) (by decide) ?_)))
local macro_rules | `(tactic| walk_at "call builtin:len") => `(tactic| (k_here; (with_reducible show wpAny _ _ (call (Value.builtin "len") [Value.ref _]) _ _ _); (rename News _ _ _ _ => zN); k_dflt (refine k_lenBaN zN (by k_mem) (by omega) ?_); intro t' k'))
local macro_rules | `(tactic| walk_at "call ref") => `(tactic| (k_here; refine wpAny_call ?_; k_dflt (refine' code_def ?k1 ?k2 ?k3 ?k4 ?k5 ?kA ?kF ?kK ?k6 ?k7 ?k8 ?k9 ?kB ?_ ?c2 ?c3 ?c4 ?c5; (case kA => exact rfl); (case kF => exact rfl); (case kK => exact rfl); (case k2 => assumption); (case k4 => assumption); (case k1 => assumption); (case k3 => assumption); (case k5 => assumption); (case k6 => k_is); (case k7 => k_is); (case k8 => ktr_room); (case k9 => exact BindsTo.of_eq rfl); (case c5 => decide); (case kB => exact locs rfl); (case c2 => exact rfl); (case c3 => exact rfl); (case c4 => exact rfl); k_whole; intro g' L' h' FG' F' N' B' X' T'; (try dsimp only); (try k_lift B'); (try k_fold))))
abbrev ioD (w : World) (B : Addr) (n : Int) (y1 y2 u : Tok) : Obj := dictOf [{ hash := PyData.keyHash w.params (Str.ofString "_BytesIO__buf"), key := .str (Str.ofString "_BytesIO__buf") y1, val := .ref B }, { hash := PyData.keyHash w.params (Str.ofString "_BytesIO__pos"), key := .str (Str.ofString "_BytesIO__pos") y2, val := .int n u }] 2
theorem io_write {w : World} {env : Env} {dp un : Nat} {gd : Option (List Code)} {outer : List Env} {base g₀ : Heap} {s : Shared} {L : Addr} {m mg mb : Str → Option Value} {mean : ExcName → Option Value} {loose : List Str} {p : Program} {R : Result → Shared → Prop}
    {I dX U : Addr} {y1 y2 u tb : Tok} {b0 b : Array UInt8} {n : Int}
    (B : Below (arnd dp un gd outer) base outer g₀) (hf : env.frame = some L) (hke : env.scope.kind = .function) (F : Fr g₀ L s.heap m) (X : (hd03.heap_1 w.params).In g₀) (T : Top p loose mean mg mb g₀)
    (N : News g₀ L s.heap [(I, instObj 517 dX), (dX, ioD w U n y1 y2 u), (U, baObj b0)]) (hn : n = (b0.size : Int)) (l1 : @LT.lt Nat _ dX I) (l2 : @LT.lt Nat _ I U)
    (hz : b0.size + b.size ≤ 10000000) (hdp : dp + 30 < recursionLimit) (hu : un + 200 < cLine)
    (hfin : ∀ h' tk u' v tv n', n' = ((b0 ++ b).size : Int) → Fr g₀ L h' m → News g₀ L h' [(I, instObj 517 dX), (dX, ioD w U n' y1 y2 u'), (U, baObj (b0 ++ b))] → (∀ a o, s.heap.get? a = some o → a ∉ [I, dX, U] → h'.get? a = some o) → R (.ok (.ret (.int v tv))) { s with heap := h', toks := tk }) :
    codeG (model PySem.Challenge.rw_ko0126_03.row.prog w) ((arnd dp un gd outer).deeper env) (.call (.ref 500) ⟨[.ref I, .bytes b tb], []⟩) R s := by
  subst hn
  w_top off
  obtain ⟨g, gens₀, drawn₀, toks₀, os₀⟩ := s
  dsimp only at *
  revert X; k_fill; intro X
  refine' gc_defK B F X N T rfl hf hke ?k6 ?k7 ?k8 ?k9 ?kB ?_ ?c2 ?c3 ?c4 ?c5
  case k6 => k_is
  case k7 => k_is
  case k8 => ktr_room
  case k9 => exact BindsTo.of_eq rfl
  case c5 => decide
  case kB => exact locs rfl
  case c2 => exact rfl
  case c3 => exact rfl
  case c4 => exact rfl
  k_whole
  intro g' L' h' FG' F' N' B' X' T' hkeep
  (try dsimp only)
  (try k_lift B')
  (try k_fold)
  refine g_cons (g_any ?_)
  k_steps
  refine g_cons (g_any ?_)
  k_steps
  refine g_cons (g_any ?_)
  k_steps
  refine g_cons (g_any ?_)
  k_steps
  · have hb0 : b = #[] := Array.size_eq_zero_iff.mp (by omega)
    subst hb0
    refine hfin _ _ _ _ _ _ (by rw [Array.append_empty]) (by assumption) (by rw [Array.append_empty]; assumption) ?_
    exact fun a o e ha => Fr.keep (by assumption) a o (hkeep a o e ha)
  dsimp only
  refine g_cons (g_any ?_)
  k_steps
  dsimp only
  refine g_cons (g_any ?_)
  k_steps
  dsimp only
  refine g_cons (g_any ?_)
  k_steps
  dsimp only
  refine g_cons (g_Assign_Sub ?_)
  k_steps
  rename Fr _ _ _ _ => zF
  rename News _ _ _ _ => zN
  dsimp only
  refine' g_setitem (zF.push _) (zN.push zF _) ?gU rfl rfl ?gb ?gz ?_
  case gU => k_upd
  case gb => omega
  case gz => (rw [sizeLine_eq]; omega)
  intro h2 F2 N2
  clear zF zN
  dsimp only
  refine g_cons (g_any ?_)
  k_steps
  dsimp only
  refine g_cons (g_any ?_)
  k_steps
  refine hfin _ _ _ _ _ _ (by rw [Array.size_append, Int.natCast_add]) (by assumption) (by assumption) ?_
  exact fun a o e ha => Fr.keep (by assumption) a o (hkeep a o e ha)
end Mine
end
section
open PySem PySem.W PyProof.Rows PySem.Calls PySem.Spec
set_option Elab.async false
set_option linter.all false
set_option maxRecDepth 100000
set_option maxHeartbeats 8000000
namespace Mine
theorem upd_cases {d : Addr} {o o' : Obj} {l l' : List (Addr × Obj)} (U : Upd d o o' l l') {p : Addr × Obj} (hp : p ∈ l') : p = (d, o') ∨ (p ∈ l ∧ p.1 ≠ d) := by
  obtain ⟨pre, post, rfl, rfl, u1, u2⟩ := U.split
  rcases List.mem_append.mp hp with hp | hp
  · exact .inr ⟨List.mem_append.mpr (.inl hp), u1 p hp⟩
  · rcases List.mem_cons.mp hp with rfl | hp
    · exact .inl rfl
    · exact .inr ⟨List.mem_append.mpr (.inr (.tail _ hp)), u2 p hp⟩
theorem upd_mem0 {d : Addr} {o o' : Obj} {l l' : List (Addr × Obj)} (U : Upd d o o' l l') : (d, o) ∈ l := by
  obtain ⟨pre, post, rfl, -, -, -⟩ := U.split
  exact List.mem_append.mpr (.inr (.head _))
theorem g_iow {w : World} {env : Env} {dp un : Nat} {gd : Option (List Code)} {outer : List Env} {base g₀ : Heap} {s : Shared} {L : Addr} {m mg mb : Str → Option Value} {mean : ExcName → Option Value} {loose : List Str} {p : Program} {Q E : Value → Shared → Prop}
    {I dX U : Addr} {y1 y2 u tb : Tok} {b0 b : Array UInt8} {n : Int} {news news1 : List (Addr × Obj)} {news' : Int → Tok → List (Addr × Obj)}
    (B : Below (arnd dp un gd outer) base outer g₀) (hf : env.frame = some L) (hke : env.scope.kind = .function) (F : Fr g₀ L s.heap m) (X : (hd03.heap_1 w.params).In g₀) (T : Top p loose mean mg mb g₀)
    (N : News g₀ L s.heap news) (hI : (I, instObj 517 dX) ∈ news) (U1 : Upd U (baObj b0) (baObj (b0 ++ b)) news news1) (U2 : ∀ n' u', Upd dX (ioD w U n y1 y2 u) (ioD w U n' y1 y2 u') news1 (news' n' u'))
    (hn : n = (b0.size : Int)) (l1 : @LT.lt Nat _ dX I) (l2 : @LT.lt Nat _ I U)
    (hz : b0.size + b.size ≤ 10000000) (hdp : dp + 30 < recursionLimit) (hu : un + 200 < cLine)
    (h : ∀ h' tk u' v tv n', n' = ((b0 ++ b).size : Int) → Fr g₀ L h' m → News g₀ L h' (news' n' u') → Q (.int v tv) { s with heap := h', toks := tk }) :
    wpG (model PySem.Challenge.rw_ko0126_03.row.prog w) ((arnd dp un gd outer).deeper env) (call (.ref 500) [.ref I, .bytes b tb]) Q E s := by
  have hU := upd_mem0 U1
  have hd : (dX, ioD w U n y1 y2 u) ∈ news := by
    rcases upd_cases U1 (upd_mem0 (U2 0 0)) with e | e
    · have := congrArg Prod.fst e
      exact absurd this (Nat.ne_of_lt (Nat.lt_trans l1 l2))
    · exact e.1
  have N3 : News g₀ L s.heap [(I, instObj 517 dX), (dX, ioD w U n y1 y2 u), (U, baObj b0)] := fun p hp => by
    rcases List.mem_cons.mp hp with rfl | hp
    · exact N _ hI
    rcases List.mem_cons.mp hp with rfl | hp
    · exact N _ hd
    · rw [List.mem_singleton.mp hp]; exact N _ hU
  refine g_call (io_write B hf hke F X T N3 hn l1 l2 hz hdp hu fun h' tk u' v tv n' hn' F' N' hk => ?_)
  refine h h' tk u' v tv n' hn' F' fun p hp => ?_
  rcases upd_cases (U2 n' u') hp with rfl | ⟨hp1, hne⟩
  · exact N' _ (.tail _ (.head _))
  rcases upd_cases U1 hp1 with rfl | ⟨hp2, hne2⟩
  · exact N' _ (.tail _ (.tail _ (.head _)))
  have z := N p hp2
  refine ⟨?_, z.2⟩
  by_cases hpI : p.1 = I
  · have e1 : p.2 = instObj 517 dX := by
      have a1 := z.1
      rw [hpI, (N _ hI).1] at a1
      exact (Option.some.inj a1).symm
    rw [hpI, e1]
    exact (N' _ (.head _)).1
  · refine hk _ _ z.1 ?_
    simp only [List.mem_cons, List.not_mem_nil, or_false, not_or]
    exact ⟨hpI, hne, hne2⟩
end Mine
end
section
open PySem PySem.W PyProof.Rows PySem.Calls PySem.Spec PySem.Builtin
set_option Elab.async false
set_option maxRecDepth 100000
namespace Mine
theorem txtData : Str.ofString "<" ++ Str.ofString "data" ++ Str.ofString ">" = ⟨#[60, 100, 97, 116, 97, 62]⟩ := by decide +kernel
theorem txtDataE : Str.ofString "</" ++ Str.ofString "data" ++ Str.ofString ">" = ⟨#[60, 47, 100, 97, 116, 97, 62]⟩ := by decide +kernel
theorem octData : utfB ⟨#[60, 100, 97, 116, 97, 62]⟩ = #[60, 100, 97, 116, 97, 62] := by decide +kernel
theorem octDataE : utfB ⟨#[60, 47, 100, 97, 116, 97, 62]⟩ = #[60, 47, 100, 97, 116, 97, 62] := by decide +kernel
section
variable {prog : Program} {w : World} {A : Around} {E : Value → Shared → Prop} {s : Shared} {Q : Value → Shared → Prop} {x : Str} {t u : Tok}
theorem k_encA (hx : x = Str.ofString "<" ++ Str.ofString "data" ++ Str.ofString ">") (h : ∀ t', Q (.bytes #[60, 100, 97, 116, 97, 62] t') { s with toks := s.toks + 1 }) : wpAny (model prog w) A (call (.builtin "str.encode") [.str x t, .str (Str.ofString "utf-8") u]) Q E s := by
  subst hx
  rw [txtData]
  refine k_encode (by decide +kernel) (by decide +kernel) fun t' => ?_
  rw [octData]
  exact h t'
theorem k_encB (hx : x = Str.ofString "</" ++ Str.ofString "data" ++ Str.ofString ">") (h : ∀ t', Q (.bytes #[60, 47, 100, 97, 116, 97, 62] t') { s with toks := s.toks + 1 }) : wpAny (model prog w) A (call (.builtin "str.encode") [.str x t, .str (Str.ofString "utf-8") u]) Q E s := by
  subst hx
  rw [txtDataE]
  refine k_encode (by decide +kernel) (by decide +kernel) fun t' => ?_
  rw [octDataE]
  exact h t'
end
end Mine
end
section
open PySem PySem.W PyProof.Rows PySem.Calls PySem.Spec
set_option Elab.async false
set_option linter.all false
set_option maxRecDepth 100000
set_option maxHeartbeats 8000000
namespace Mine
abbrev wrD (w : World) (I S : Addr) (lv : Int) (ind : List UInt8) (z1 z2 z3 z4 z5 z6 z7 u3 u4 : Tok) : Obj := dictOf [{ hash := PyData.keyHash w.params (Str.ofString "file"), key := .str (Str.ofString "file") z1, val := .ref I }, { hash := PyData.keyHash w.params (Str.ofString "stack"), key := .str (Str.ofString "stack") z2, val := .ref S },
      { hash := PyData.keyHash w.params (Str.ofString "_indent_level"), key := .str (Str.ofString "_indent_level") z3, val := .int lv u3 }, { hash := PyData.keyHash w.params (Str.ofString "indent"), key := .str (Str.ofString "indent") z4, val := .bytes ind.toArray u4 },
      { hash := PyData.keyHash w.params (Str.ofString "_sort_keys"), key := .str (Str.ofString "_sort_keys") z5, val := .bool true }, { hash := PyData.keyHash w.params (Str.ofString "_skipkeys"), key := .str (Str.ofString "_skipkeys") z6, val := .bool false },
      { hash := PyData.keyHash w.params (Str.ofString "_aware_datetime"), key := .str (Str.ofString "_aware_datetime") z7, val := .bool false }] 7
section
variable {prog : Program} {w : World} {A : Around} {E : Value → Shared → Prop} {s : Shared} {b : Array UInt8} {t : Tok} {Q : Bool → Shared → Prop}
theorem k_truB (hb : b.size ≠ 0) (hs : b.size ≤ 1000) (h : ∀ k, Q true { s with toks := k }) : wpAny (model prog w) A (truthy (.bytes b t)) Q E s := by
  refine KBw.truthy_K (ks := KBw.bInts b) rfl (by rw [KBw.ints_length]; omega) ?_
  have e : decide (0 < (KBw.bInts b).length) = true := by rw [KBw.ints_length]; exact decide_eq_true (by omega)
  rw [e]
  exact h _
end
local macro_rules | `(tactic| walk_at "call ref") => `(tactic| (k_here; refine wpAny_call ?_; k_dflt (refine' code_def ?k1 ?k2 ?k3 ?k4 ?k5 ?kA ?kF ?kK ?k6 ?k7 ?k8 ?k9 ?kB ?_ ?c2 ?c3 ?c4 ?c5; (case kA => exact rfl); (case kF => exact rfl); (case kK => exact rfl); (case k2 => assumption); (case k4 => assumption); (case k1 => assumption); (case k3 => assumption); (case k5 => assumption); (case k6 => k_is); (case k7 => k_is); (case k8 => ktr_room); (case k9 => exact BindsTo.of_eq rfl); (case c5 => decide); (case kB => exact locs rfl); (case c2 => exact rfl); (case c3 => exact rfl); (case c4 => exact rfl); k_whole; intro g' L' h' FG' F' N' B' X' T'; (try dsimp only); (try k_lift B'); (try k_fold))))
local macro_rules | `(tactic| walk_at "truthy bytes") => `(tactic| (k_here; k_dflt (refine k_truB (by assumption) (by omega) ?_); intro k'))
local macro_rules | `(tactic| walk_at "binaryOp Mult int bytes") => `(tactic| (k_here; k_dflt (refine k_mulI (by omega) (by omega) ?_); intro t' k'))
theorem wln_b {w : World} {env : Env} {dp un : Nat} {gd : Option (List Code)} {outer : List Env} {base g₀ : Heap} {s : Shared} {L : Addr} {m mg mb : Str → Option Value} {mean : ExcName → Option Value} {loose : List Str} {p : Program} {R : Result → Shared → Prop}
    {W d I dX U S : Addr} {y1 y2 u tc z1 z2 z3 z4 z5 z6 z7 u3 u4 : Tok} {b0 c : Array UInt8} {n zl : Int} {lv : Nat} {ind : List UInt8}
    (B : Below (arnd dp un gd outer) base outer g₀) (hf : env.frame = some L) (hke : env.scope.kind = .function) (F : Fr g₀ L s.heap m) (X : (hd03.heap_1 w.params).In g₀) (T : Top p loose mean mg mb g₀)
    (N : News g₀ L s.heap [(W, instObj 214 d), (d, wrD w I S zl ind z1 z2 z3 z4 z5 z6 z7 u3 u4), (I, instObj 517 dX), (dX, ioD w U n y1 y2 u), (U, baObj b0)]) (hn : n = (b0.size : Int)) (l1 : @LT.lt Nat _ dX I) (l2 : @LT.lt Nat _ I U) (l3 : @LT.lt Nat _ U d) (l4 : @LT.lt Nat _ d W)
    (hzl : zl = (lv : Int)) (hlv : lv ≤ 13) (hind : ind.length ≤ 4) (hc : c.size ≠ 0) (hc2 : c.size ≤ 1000) (hz : b0.size ≤ 9000000) (hdp : dp + 40 < recursionLimit) (hu : un + 230 < cLine)
    (hfin : ∀ h' tk u' n', n' = ((b0 ++ (mulB lv ind ++ c ++ #[10])).size : Int) → Fr g₀ L h' m → News g₀ L h' [(W, instObj 214 d), (d, wrD w I S zl ind z1 z2 z3 z4 z5 z6 z7 u3 u4), (I, instObj 517 dX), (dX, ioD w U n' y1 y2 u'), (U, baObj (b0 ++ (mulB lv ind ++ c ++ #[10])))] →
      (∀ a o, s.heap.get? a = some o → a ∉ [W, d, I, dX, U] → h'.get? a = some o) → R (.ok (.ret .none)) { s with heap := h', toks := tk }) :
    codeG (model PySem.Challenge.rw_ko0126_03.row.prog w) ((arnd dp un gd outer).deeper env) (.call (.ref 154) ⟨[.ref W, .bytes c tc], []⟩) R s := by
  subst hzl
  w_top off
  obtain ⟨g, gens₀, drawn₀, toks₀, os₀⟩ := s
  dsimp only at *
  revert X; k_fill; intro X
  refine' gc_defK B F X N T rfl hf hke ?k6 ?k7 ?k8 ?k9 ?kB ?_ ?c2 ?c3 ?c4 ?c5
  case k6 => k_is
  case k7 => k_is
  case k8 => ktr_room
  case k9 => exact BindsTo.of_eq rfl
  case c5 => decide
  case kB => exact locs rfl
  case c2 => exact rfl
  case c3 => exact rfl
  case c4 => exact rfl
  k_whole
  intro g' L' h' FG' F' N' B' X' T' hkeep
  (try dsimp only)
  (try k_lift B')
  (try k_fold)
  refine g_cons (g_If ?_)
  k_steps
  refine g_cons (g_any ?_)
  k_steps
  have hm := mulB_size lv ind
  have hm2 := Nat.mul_le_mul hlv hind
  dsimp only
  refine g_cons (g_Expr (g_MethodCall ?_))
  k_steps
  dsimp only
  refine' g_callWith_K (K := hd03.heap_1 w.params) ?hk1 ?_
  case hk1 => k_is
  k_steps
  refine' g_iow (dp := dp + 1) (un := un + 3) ?eB1 rfl rfl ?eF1 ?eX1 ?eT1 ?eN1 ?eI1 ?eU1 ?eV1 hn l1 l2 ?ez1 ?ed1 ?eu1 ?_
  case eB1 => assumption
  case eF1 => assumption
  case eX1 => assumption
  case eT1 => assumption
  case eN1 => assumption
  case eI1 => k_mem
  case eU1 => k_upd
  case eV1 => (intro n1 u1; k_upd)
  case ez1 => (omega)
  case ed1 => omega
  case eu1 => omega
  intro h1 tk1 u1' v1 tv1 n1 hn1 F1 N1
  clear F' N'
  dsimp only
  refine g_cons (g_Expr (g_MethodCall ?_))
  k_steps
  dsimp only
  refine' g_callWith_K (K := hd03.heap_1 w.params) ?hk2 ?_
  case hk2 => k_is
  k_steps
  refine' g_iow (dp := dp + 1) (un := un + 3) ?eB2 rfl rfl ?eF2 ?eX2 ?eT2 ?eN2 ?eI2 ?eU2 ?eV2 hn1 l1 l2 ?ez2 ?ed2 ?eu2 ?_
  case eB2 => assumption
  case eF2 => assumption
  case eX2 => assumption
  case eT2 => assumption
  case eN2 => assumption
  case eI2 => k_mem
  case eU2 => k_upd
  case eV2 => (intro n1 u1; k_upd)
  case ez2 => ((try rw [Array.size_append]); omega)
  case ed2 => omega
  case eu2 => omega
  intro h2 tk2 u2' v2 tv2 n2 hn2 F2 N2
  clear F1 N1
  dsimp only
  refine g_execs_nil ?_
  dsimp only
  refine g_cons (g_Expr (g_MethodCall ?_))
  k_steps
  dsimp only
  refine' g_callWith_K (K := hd03.heap_1 w.params) ?hk3 ?_
  case hk3 => k_is
  k_steps
  refine' g_iow (dp := dp + 1) (un := un + 3) ?eB3 rfl rfl ?eF3 ?eX3 ?eT3 ?eN3 ?eI3 ?eU3 ?eV3 hn2 l1 l2 ?ez3 ?ed3 ?eu3 ?_
  case eB3 => assumption
  case eF3 => assumption
  case eX3 => assumption
  case eT3 => assumption
  case eN3 => assumption
  case eI3 => k_mem
  case eU3 => k_upd
  case eV3 => (intro n1 u1; k_upd)
  case ez3 => ((try simp only [Array.size_append]); simp; omega)
  case ed3 => omega
  case eu3 => omega
  intro h3 tk3 u3' v3 tv3 n3 hn3 F3 N3
  dsimp only
  refine g_execs_nil ?_
  refine leaveK_ F3 N3 fun kF kN => ?_
  have e : b0 ++ mulB lv ind ++ c ++ #[10] = b0 ++ (mulB lv ind ++ c ++ #[10]) := by simp [Array.append_assoc]
  rw [e] at kN hn3
  exact hfin _ _ _ _ hn3 kF kN fun a o ea ha => F3.keep a o (hkeep a o ea ha)
end Mine
end
section
open PySem PySem.W PyProof.Rows PySem.Calls PySem.Spec
set_option Elab.async false
set_option linter.all false
set_option maxRecDepth 100000
set_option maxHeartbeats 8000000
namespace Mine
local macro_rules | `(tactic| walk_at "call ref") => `(tactic| (k_here; refine wpAny_call ?_; k_dflt (refine' code_def ?k1 ?k2 ?k3 ?k4 ?k5 ?kA ?kF ?kK ?k6 ?k7 ?k8 ?k9 ?kB ?_ ?c2 ?c3 ?c4 ?c5; (case kA => exact rfl); (case kF => exact rfl); (case kK => exact rfl); (case k2 => assumption); (case k4 => assumption); (case k1 => assumption); (case k3 => assumption); (case k5 => assumption); (case k6 => k_is); (case k7 => k_is); (case k8 => ktr_room); (case k9 => exact BindsTo.of_eq rfl); (case c5 => decide); (case kB => exact locs rfl); (case c2 => exact rfl); (case c3 => exact rfl); (case c4 => exact rfl); k_whole; intro g' L' h' FG' F' N' B' X' T'; (try dsimp only); (try k_lift B'); (try k_fold))))
local macro_rules | `(tactic| walk_at "binaryOp Mult int bytes") => `(tactic| (k_here; k_dflt (refine k_mulI (by omega) (by omega) ?_); intro t' k'))
local macro_rules | `(tactic| walk_at "getMethod str") => `(tactic| (k_here; (with_reducible show wpAny _ _ (getMethod (Value.str _ _) (PySem.Str.ofString "encode") _) _ _ _); k_dflt (refine k_getenc ?_)))
local macro_rules | `(tactic| walk_at "call builtin:str.encode") => `(tactic| (k_here; k_dflt (first | refine k_encA (by with_reducible rfl) ?_ | refine k_encB (by with_reducible rfl) ?_); intro t'))
theorem wln_a {w : World} {env : Env} {dp un : Nat} {gd : Option (List Code)} {outer : List Env} {base g₀ : Heap} {s : Shared} {L : Addr} {m mg mb : Str → Option Value} {mean : ExcName → Option Value} {loose : List Str} {p : Program} {R : Result → Shared → Prop}
    {W d I dX U S : Addr} {y1 y2 u tc z1 z2 z3 z4 z5 z6 z7 u3 u4 : Tok} {b0 : Array UInt8} {n zl : Int} {lv : Nat} {ind : List UInt8}
    (B : Below (arnd dp un gd outer) base outer g₀) (hf : env.frame = some L) (hke : env.scope.kind = .function) (F : Fr g₀ L s.heap m) (X : (hd03.heap_1 w.params).In g₀) (T : Top p loose mean mg mb g₀)
    (N : News g₀ L s.heap [(W, instObj 214 d), (d, wrD w I S zl ind z1 z2 z3 z4 z5 z6 z7 u3 u4), (I, instObj 517 dX), (dX, ioD w U n y1 y2 u), (U, baObj b0)]) (hn : n = (b0.size : Int)) (l1 : @LT.lt Nat _ dX I) (l2 : @LT.lt Nat _ I U) (l3 : @LT.lt Nat _ U d) (l4 : @LT.lt Nat _ d W)
    (hzl : zl = (lv : Int)) (hlv : lv ≤ 13) (hind : ind.length ≤ 4) (hz : b0.size ≤ 9000000) (hdp : dp + 40 < recursionLimit) (hu : un + 230 < cLine)
    (hfin : ∀ h' tk u' n', n' = ((b0 ++ (mulB lv ind ++ (#[60, 100, 97, 116, 97, 62] : Array UInt8) ++ #[10])).size : Int) → Fr g₀ L h' m → News g₀ L h' [(W, instObj 214 d), (d, wrD w I S zl ind z1 z2 z3 z4 z5 z6 z7 u3 u4), (I, instObj 517 dX), (dX, ioD w U n' y1 y2 u'), (U, baObj (b0 ++ (mulB lv ind ++ (#[60, 100, 97, 116, 97, 62] : Array UInt8) ++ #[10])))] →
      (∀ a o, s.heap.get? a = some o → a ∉ [W, d, I, dX, U] → h'.get? a = some o) → R (.ok (.ret .none)) { s with heap := h', toks := tk }) :
    codeG (model PySem.Challenge.rw_ko0126_03.row.prog w) ((arnd dp un gd outer).deeper env) (.call (.ref 154) ⟨[.ref W, .str (Str.ofString "<" ++ Str.ofString "data" ++ Str.ofString ">") tc], []⟩) R s := by
  subst hzl
  w_top off
  obtain ⟨g, gens₀, drawn₀, toks₀, os₀⟩ := s
  dsimp only at *
  revert X; k_fill; intro X
  refine' gc_defK B F X N T rfl hf hke ?k6 ?k7 ?k8 ?k9 ?kB ?_ ?c2 ?c3 ?c4 ?c5
  case k6 => k_is
  case k7 => k_is
  case k8 => ktr_room
  case k9 => exact BindsTo.of_eq rfl
  case c5 => decide
  case kB => exact locs rfl
  case c2 => exact rfl
  case c3 => exact rfl
  case c4 => exact rfl
  k_whole
  intro g' L' h' FG' F' N' B' X' T' hkeep
  (try dsimp only)
  (try k_lift B')
  (try k_fold)
  refine g_cons (g_If ?_)
  k_steps
  refine g_cons (g_any ?_)
  k_steps
  have hm := mulB_size lv ind
  have hm2 := Nat.mul_le_mul hlv hind
  dsimp only
  refine g_cons (g_Expr (g_MethodCall ?_))
  k_steps
  dsimp only
  refine' g_callWith_K (K := hd03.heap_1 w.params) ?hk1 ?_
  case hk1 => k_is
  k_steps
  refine' g_iow (dp := dp + 1) (un := un + 3) ?eB1 rfl rfl ?eF1 ?eX1 ?eT1 ?eN1 ?eI1 ?eU1 ?eV1 hn l1 l2 ?ez1 ?ed1 ?eu1 ?_
  case eB1 => assumption
  case eF1 => assumption
  case eX1 => assumption
  case eT1 => assumption
  case eN1 => assumption
  case eI1 => k_mem
  case eU1 => k_upd
  case eV1 => (intro n1 u1; k_upd)
  case ez1 => (omega)
  case ed1 => omega
  case eu1 => omega
  intro h1 tk1 u1' v1 tv1 n1 hn1 F1 N1
  (try clear F'); (try clear N')
  dsimp only
  refine g_cons (g_Expr (g_MethodCall ?_))
  k_steps
  dsimp only
  refine' g_callWith_K (K := hd03.heap_1 w.params) ?hk2 ?_
  case hk2 => k_is
  k_steps
  refine' g_iow (dp := dp + 1) (un := un + 3) ?eB2 rfl rfl ?eF2 ?eX2 ?eT2 ?eN2 ?eI2 ?eU2 ?eV2 hn1 l1 l2 ?ez2 ?ed2 ?eu2 ?_
  case eB2 => assumption
  case eF2 => assumption
  case eX2 => assumption
  case eT2 => assumption
  case eN2 => assumption
  case eI2 => k_mem
  case eU2 => k_upd
  case eV2 => (intro n1 u1; k_upd)
  case ez2 => ((try simp only [Array.size_append]); simp; omega)
  case ed2 => omega
  case eu2 => omega
  intro h2 tk2 u2' v2 tv2 n2 hn2 F2 N2
  clear F1 N1
  dsimp only
  refine g_execs_nil ?_
  dsimp only
  refine g_cons (g_Expr (g_MethodCall ?_))
  k_steps
  dsimp only
  refine' g_callWith_K (K := hd03.heap_1 w.params) ?hk3 ?_
  case hk3 => k_is
  k_steps
  refine' g_iow (dp := dp + 1) (un := un + 3) ?eB3 rfl rfl ?eF3 ?eX3 ?eT3 ?eN3 ?eI3 ?eU3 ?eV3 hn2 l1 l2 ?ez3 ?ed3 ?eu3 ?_
  case eB3 => assumption
  case eF3 => assumption
  case eX3 => assumption
  case eT3 => assumption
  case eN3 => assumption
  case eI3 => k_mem
  case eU3 => k_upd
  case eV3 => (intro n1 u1; k_upd)
  case ez3 => ((try simp only [Array.size_append]); simp; omega)
  case ed3 => omega
  case eu3 => omega
  intro h3 tk3 u3' v3 tv3 n3 hn3 F3 N3
  dsimp only
  refine g_execs_nil ?_
  refine leaveK_ F3 N3 fun kF kN => ?_
  have e : b0 ++ mulB lv ind ++ (#[60, 100, 97, 116, 97, 62] : Array UInt8) ++ #[10] = b0 ++ (mulB lv ind ++ (#[60, 100, 97, 116, 97, 62] : Array UInt8) ++ #[10]) := by simp [Array.append_assoc]
  rw [e] at kN hn3
  exact hfin _ _ _ _ hn3 kF kN fun a o ea ha => F3.keep a o (hkeep a o ea ha)
theorem wln_e {w : World} {env : Env} {dp un : Nat} {gd : Option (List Code)} {outer : List Env} {base g₀ : Heap} {s : Shared} {L : Addr} {m mg mb : Str → Option Value} {mean : ExcName → Option Value} {loose : List Str} {p : Program} {R : Result → Shared → Prop}
    {W d I dX U S : Addr} {y1 y2 u tc z1 z2 z3 z4 z5 z6 z7 u3 u4 : Tok} {b0 : Array UInt8} {n zl : Int} {lv : Nat} {ind : List UInt8}
    (B : Below (arnd dp un gd outer) base outer g₀) (hf : env.frame = some L) (hke : env.scope.kind = .function) (F : Fr g₀ L s.heap m) (X : (hd03.heap_1 w.params).In g₀) (T : Top p loose mean mg mb g₀)
    (N : News g₀ L s.heap [(W, instObj 214 d), (d, wrD w I S zl ind z1 z2 z3 z4 z5 z6 z7 u3 u4), (I, instObj 517 dX), (dX, ioD w U n y1 y2 u), (U, baObj b0)]) (hn : n = (b0.size : Int)) (l1 : @LT.lt Nat _ dX I) (l2 : @LT.lt Nat _ I U) (l3 : @LT.lt Nat _ U d) (l4 : @LT.lt Nat _ d W)
    (hzl : zl = (lv : Int)) (hlv : lv ≤ 13) (hind : ind.length ≤ 4) (hz : b0.size ≤ 9000000) (hdp : dp + 40 < recursionLimit) (hu : un + 230 < cLine)
    (hfin : ∀ h' tk u' n', n' = ((b0 ++ (mulB lv ind ++ (#[60, 47, 100, 97, 116, 97, 62] : Array UInt8) ++ #[10])).size : Int) → Fr g₀ L h' m → News g₀ L h' [(W, instObj 214 d), (d, wrD w I S zl ind z1 z2 z3 z4 z5 z6 z7 u3 u4), (I, instObj 517 dX), (dX, ioD w U n' y1 y2 u'), (U, baObj (b0 ++ (mulB lv ind ++ (#[60, 47, 100, 97, 116, 97, 62] : Array UInt8) ++ #[10])))] →
      (∀ a o, s.heap.get? a = some o → a ∉ [W, d, I, dX, U] → h'.get? a = some o) → R (.ok (.ret .none)) { s with heap := h', toks := tk }) :
    codeG (model PySem.Challenge.rw_ko0126_03.row.prog w) ((arnd dp un gd outer).deeper env) (.call (.ref 154) ⟨[.ref W, .str (Str.ofString "</" ++ Str.ofString "data" ++ Str.ofString ">") tc], []⟩) R s := by
  subst hzl
  w_top off
  obtain ⟨g, gens₀, drawn₀, toks₀, os₀⟩ := s
  dsimp only at *
  revert X; k_fill; intro X
  refine' gc_defK B F X N T rfl hf hke ?k6 ?k7 ?k8 ?k9 ?kB ?_ ?c2 ?c3 ?c4 ?c5
  case k6 => k_is
  case k7 => k_is
  case k8 => ktr_room
  case k9 => exact BindsTo.of_eq rfl
  case c5 => decide
  case kB => exact locs rfl
  case c2 => exact rfl
  case c3 => exact rfl
  case c4 => exact rfl
  k_whole
  intro g' L' h' FG' F' N' B' X' T' hkeep
  (try dsimp only)
  (try k_lift B')
  (try k_fold)
  refine g_cons (g_If ?_)
  k_steps
  refine g_cons (g_any ?_)
  k_steps
  have hm := mulB_size lv ind
  have hm2 := Nat.mul_le_mul hlv hind
  dsimp only
  refine g_cons (g_Expr (g_MethodCall ?_))
  k_steps
  dsimp only
  refine' g_callWith_K (K := hd03.heap_1 w.params) ?hk1 ?_
  case hk1 => k_is
  k_steps
  refine' g_iow (dp := dp + 1) (un := un + 3) ?eB1 rfl rfl ?eF1 ?eX1 ?eT1 ?eN1 ?eI1 ?eU1 ?eV1 hn l1 l2 ?ez1 ?ed1 ?eu1 ?_
  case eB1 => assumption
  case eF1 => assumption
  case eX1 => assumption
  case eT1 => assumption
  case eN1 => assumption
  case eI1 => k_mem
  case eU1 => k_upd
  case eV1 => (intro n1 u1; k_upd)
  case ez1 => (omega)
  case ed1 => omega
  case eu1 => omega
  intro h1 tk1 u1' v1 tv1 n1 hn1 F1 N1
  (try clear F'); (try clear N')
  dsimp only
  refine g_cons (g_Expr (g_MethodCall ?_))
  k_steps
  dsimp only
  refine' g_callWith_K (K := hd03.heap_1 w.params) ?hk2 ?_
  case hk2 => k_is
  k_steps
  refine' g_iow (dp := dp + 1) (un := un + 3) ?eB2 rfl rfl ?eF2 ?eX2 ?eT2 ?eN2 ?eI2 ?eU2 ?eV2 hn1 l1 l2 ?ez2 ?ed2 ?eu2 ?_
  case eB2 => assumption
  case eF2 => assumption
  case eX2 => assumption
  case eT2 => assumption
  case eN2 => assumption
  case eI2 => k_mem
  case eU2 => k_upd
  case eV2 => (intro n1 u1; k_upd)
  case ez2 => ((try simp only [Array.size_append]); simp; omega)
  case ed2 => omega
  case eu2 => omega
  intro h2 tk2 u2' v2 tv2 n2 hn2 F2 N2
  clear F1 N1
  dsimp only
  refine g_execs_nil ?_
  dsimp only
  refine g_cons (g_Expr (g_MethodCall ?_))
  k_steps
  dsimp only
  refine' g_callWith_K (K := hd03.heap_1 w.params) ?hk3 ?_
  case hk3 => k_is
  k_steps
  refine' g_iow (dp := dp + 1) (un := un + 3) ?eB3 rfl rfl ?eF3 ?eX3 ?eT3 ?eN3 ?eI3 ?eU3 ?eV3 hn2 l1 l2 ?ez3 ?ed3 ?eu3 ?_
  case eB3 => assumption
  case eF3 => assumption
  case eX3 => assumption
  case eT3 => assumption
  case eN3 => assumption
  case eI3 => k_mem
  case eU3 => k_upd
  case eV3 => (intro n1 u1; k_upd)
  case ez3 => ((try simp only [Array.size_append]); simp; omega)
  case ed3 => omega
  case eu3 => omega
  intro h3 tk3 u3' v3 tv3 n3 hn3 F3 N3
  dsimp only
  refine g_execs_nil ?_
  refine leaveK_ F3 N3 fun kF kN => ?_
  have e : b0 ++ mulB lv ind ++ (#[60, 47, 100, 97, 116, 97, 62] : Array UInt8) ++ #[10] = b0 ++ (mulB lv ind ++ (#[60, 47, 100, 97, 116, 97, 62] : Array UInt8) ++ #[10]) := by simp [Array.append_assoc]
  rw [e] at kN hn3
  exact hfin _ _ _ _ hn3 kF kN fun a o ea ha => F3.keep a o (hkeep a o ea ha)
end Mine
end
section
open PySem PySem.W PyProof.Rows PySem.Calls PySem.Spec
set_option Elab.async false
set_option linter.all false
set_option maxRecDepth 100000
set_option maxHeartbeats 8000000
namespace Mine
theorem carry2 {g h h' : Heap} {L U dX : Addr} {oU oU' oD oD' : Obj} {news news1 news2 same : List (Addr × Obj)} (N : News g L h news) (U1 : Upd U oU oU' news news1) (U2 : Upd dX oD oD' news1 news2)
    (N' : News g L h' (same ++ [(dX, oD'), (U, oU')])) (hs : ∀ p ∈ same, p ∈ news) (hk : ∀ a o, h.get? a = some o → a ∉ same.map (·.1) ++ [dX, U] → h'.get? a = some o) : News g L h' news2 := fun p hp => by
  rcases upd_cases U2 hp with rfl | ⟨hp1, hne⟩
  · exact N' _ (List.mem_append.mpr (.inr (.head _)))
  rcases upd_cases U1 hp1 with rfl | ⟨hp2, hne2⟩
  · exact N' _ (List.mem_append.mpr (.inr (.tail _ (.head _))))
  have z := N p hp2
  refine ⟨?_, z.2⟩
  by_cases hpI : p.1 ∈ same.map (·.1)
  · obtain ⟨q, hq, e⟩ := List.mem_map.mp hpI
    have e1 : p.2 = q.2 := by
      have a1 := z.1
      rw [← e, (N _ (hs q hq)).1] at a1
      exact (Option.some.inj a1).symm
    rw [← e, e1]
    exact (N' _ (List.mem_append.mpr (.inl hq))).1
  · refine hk _ _ z.1 ?_
    intro hm
    rcases List.mem_append.mp hm with hm | hm
    · exact hpI hm
    · rcases List.mem_cons.mp hm with e | hm
      · exact hne e
      · exact hne2 (List.mem_singleton.mp hm)
theorem g_wln_b {w : World} {env : Env} {dp un : Nat} {gd : Option (List Code)} {outer : List Env} {base g₀ : Heap} {s : Shared} {L : Addr} {m mg mb : Str → Option Value} {mean : ExcName → Option Value} {loose : List Str} {p : Program} {Q E : Value → Shared → Prop}
    {W d I dX U S : Addr} {y1 y2 u tc z1 z2 z3 z4 z5 z6 z7 u3 u4 : Tok} {b0 c : Array UInt8} {n zl : Int} {lv : Nat} {ind : List UInt8} {news news1 : List (Addr × Obj)} {news' : Int → Tok → List (Addr × Obj)}
    (B : Below (arnd dp un gd outer) base outer g₀) (hf : env.frame = some L) (hke : env.scope.kind = .function) (F : Fr g₀ L s.heap m) (X : (hd03.heap_1 w.params).In g₀) (T : Top p loose mean mg mb g₀)
    (N : News g₀ L s.heap news) (hW : (W, instObj 214 d) ∈ news) (hd : (d, wrD w I S zl ind z1 z2 z3 z4 z5 z6 z7 u3 u4) ∈ news) (hI : (I, instObj 517 dX) ∈ news)
    (U1 : Upd U (baObj b0) (baObj (b0 ++ (mulB lv ind ++ c ++ #[10]))) news news1) (U2 : ∀ n' u', Upd dX (ioD w U n y1 y2 u) (ioD w U n' y1 y2 u') news1 (news' n' u'))
    (hn : n = (b0.size : Int)) (l1 : @LT.lt Nat _ dX I) (l2 : @LT.lt Nat _ I U) (l3 : @LT.lt Nat _ U d) (l4 : @LT.lt Nat _ d W)
    (hzl : zl = (lv : Int)) (hlv : lv ≤ 13) (hind : ind.length ≤ 4) (hc : c.size ≠ 0) (hc2 : c.size ≤ 1000) (hz : b0.size ≤ 9000000) (hdp : dp + 40 < recursionLimit) (hu : un + 230 < cLine)
    (h : ∀ h' tk u' n', n' = ((b0 ++ (mulB lv ind ++ c ++ #[10])).size : Int) → Fr g₀ L h' m → News g₀ L h' (news' n' u') → Q .none { s with heap := h', toks := tk }) :
    wpG (model PySem.Challenge.rw_ko0126_03.row.prog w) ((arnd dp un gd outer).deeper env) (call (.ref 154) [.ref W, .bytes c tc]) Q E s := by
  have hU := upd_mem0 U1
  have hdX : (dX, ioD w U n y1 y2 u) ∈ news := by
    rcases upd_cases U1 (upd_mem0 (U2 0 0)) with e | e
    · exact absurd (congrArg Prod.fst e) (Nat.ne_of_lt (Nat.lt_trans l1 l2))
    · exact e.1
  have N3 : News g₀ L s.heap [(W, instObj 214 d), (d, wrD w I S zl ind z1 z2 z3 z4 z5 z6 z7 u3 u4), (I, instObj 517 dX), (dX, ioD w U n y1 y2 u), (U, baObj b0)] := fun p hp => by
    rcases List.mem_cons.mp hp with rfl | hp
    · exact N _ hW
    rcases List.mem_cons.mp hp with rfl | hp
    · exact N _ hd
    rcases List.mem_cons.mp hp with rfl | hp
    · exact N _ hI
    rcases List.mem_cons.mp hp with rfl | hp
    · exact N _ hdX
    · rw [List.mem_singleton.mp hp]; exact N _ hU
  refine g_call (wln_b B hf hke F X T N3 hn l1 l2 l3 l4 hzl hlv hind hc hc2 hz hdp hu fun h' tk u' n' hn' F' N' hk => ?_)
  refine h h' tk u' n' hn' F' ?_
  refine carry2 (same := [(W, instObj 214 d), (d, wrD w I S zl ind z1 z2 z3 z4 z5 z6 z7 u3 u4), (I, instObj 517 dX)]) N U1 (U2 n' u') N' (fun p hp => ?_) hk
  rcases List.mem_cons.mp hp with rfl | hp
  · exact hW
  rcases List.mem_cons.mp hp with rfl | hp
  · exact hd
  · rw [List.mem_singleton.mp hp]; exact hI
theorem g_wln_a {w : World} {env : Env} {dp un : Nat} {gd : Option (List Code)} {outer : List Env} {base g₀ : Heap} {s : Shared} {L : Addr} {m mg mb : Str → Option Value} {mean : ExcName → Option Value} {loose : List Str} {p : Program} {Q E : Value → Shared → Prop}
    {W d I dX U S : Addr} {y1 y2 u tc z1 z2 z3 z4 z5 z6 z7 u3 u4 : Tok} {b0 : Array UInt8} {n zl : Int} {lv : Nat} {ind : List UInt8} {news news1 : List (Addr × Obj)} {news' : Int → Tok → List (Addr × Obj)}
    (B : Below (arnd dp un gd outer) base outer g₀) (hf : env.frame = some L) (hke : env.scope.kind = .function) (F : Fr g₀ L s.heap m) (X : (hd03.heap_1 w.params).In g₀) (T : Top p loose mean mg mb g₀)
    (N : News g₀ L s.heap news) (hW : (W, instObj 214 d) ∈ news) (hd : (d, wrD w I S zl ind z1 z2 z3 z4 z5 z6 z7 u3 u4) ∈ news) (hI : (I, instObj 517 dX) ∈ news)
    (U1 : Upd U (baObj b0) (baObj (b0 ++ (mulB lv ind ++ (#[60, 100, 97, 116, 97, 62] : Array UInt8) ++ #[10]))) news news1) (U2 : ∀ n' u', Upd dX (ioD w U n y1 y2 u) (ioD w U n' y1 y2 u') news1 (news' n' u'))
    (hn : n = (b0.size : Int)) (l1 : @LT.lt Nat _ dX I) (l2 : @LT.lt Nat _ I U) (l3 : @LT.lt Nat _ U d) (l4 : @LT.lt Nat _ d W)
    (hzl : zl = (lv : Int)) (hlv : lv ≤ 13) (hind : ind.length ≤ 4) (hz : b0.size ≤ 9000000) (hdp : dp + 40 < recursionLimit) (hu : un + 230 < cLine)
    (h : ∀ h' tk u' n', n' = ((b0 ++ (mulB lv ind ++ (#[60, 100, 97, 116, 97, 62] : Array UInt8) ++ #[10])).size : Int) → Fr g₀ L h' m → News g₀ L h' (news' n' u') → Q .none { s with heap := h', toks := tk }) :
    wpG (model PySem.Challenge.rw_ko0126_03.row.prog w) ((arnd dp un gd outer).deeper env) (call (.ref 154) [.ref W, .str (Str.ofString "<" ++ Str.ofString "data" ++ Str.ofString ">") tc]) Q E s := by
  have hU := upd_mem0 U1
  have hdX : (dX, ioD w U n y1 y2 u) ∈ news := by
    rcases upd_cases U1 (upd_mem0 (U2 0 0)) with e | e
    · exact absurd (congrArg Prod.fst e) (Nat.ne_of_lt (Nat.lt_trans l1 l2))
    · exact e.1
  have N3 : News g₀ L s.heap [(W, instObj 214 d), (d, wrD w I S zl ind z1 z2 z3 z4 z5 z6 z7 u3 u4), (I, instObj 517 dX), (dX, ioD w U n y1 y2 u), (U, baObj b0)] := fun p hp => by
    rcases List.mem_cons.mp hp with rfl | hp
    · exact N _ hW
    rcases List.mem_cons.mp hp with rfl | hp
    · exact N _ hd
    rcases List.mem_cons.mp hp with rfl | hp
    · exact N _ hI
    rcases List.mem_cons.mp hp with rfl | hp
    · exact N _ hdX
    · rw [List.mem_singleton.mp hp]; exact N _ hU
  refine g_call (wln_a B hf hke F X T N3 hn l1 l2 l3 l4 hzl hlv hind hz hdp hu fun h' tk u' n' hn' F' N' hk => ?_)
  refine h h' tk u' n' hn' F' ?_
  refine carry2 (same := [(W, instObj 214 d), (d, wrD w I S zl ind z1 z2 z3 z4 z5 z6 z7 u3 u4), (I, instObj 517 dX)]) N U1 (U2 n' u') N' (fun p hp => ?_) hk
  rcases List.mem_cons.mp hp with rfl | hp
  · exact hW
  rcases List.mem_cons.mp hp with rfl | hp
  · exact hd
  · rw [List.mem_singleton.mp hp]; exact hI
theorem g_wln_e {w : World} {env : Env} {dp un : Nat} {gd : Option (List Code)} {outer : List Env} {base g₀ : Heap} {s : Shared} {L : Addr} {m mg mb : Str → Option Value} {mean : ExcName → Option Value} {loose : List Str} {p : Program} {Q E : Value → Shared → Prop}
    {W d I dX U S : Addr} {y1 y2 u tc z1 z2 z3 z4 z5 z6 z7 u3 u4 : Tok} {b0 : Array UInt8} {n zl : Int} {lv : Nat} {ind : List UInt8} {news news1 : List (Addr × Obj)} {news' : Int → Tok → List (Addr × Obj)}
    (B : Below (arnd dp un gd outer) base outer g₀) (hf : env.frame = some L) (hke : env.scope.kind = .function) (F : Fr g₀ L s.heap m) (X : (hd03.heap_1 w.params).In g₀) (T : Top p loose mean mg mb g₀)
    (N : News g₀ L s.heap news) (hW : (W, instObj 214 d) ∈ news) (hd : (d, wrD w I S zl ind z1 z2 z3 z4 z5 z6 z7 u3 u4) ∈ news) (hI : (I, instObj 517 dX) ∈ news)
    (U1 : Upd U (baObj b0) (baObj (b0 ++ (mulB lv ind ++ (#[60, 47, 100, 97, 116, 97, 62] : Array UInt8) ++ #[10]))) news news1) (U2 : ∀ n' u', Upd dX (ioD w U n y1 y2 u) (ioD w U n' y1 y2 u') news1 (news' n' u'))
    (hn : n = (b0.size : Int)) (l1 : @LT.lt Nat _ dX I) (l2 : @LT.lt Nat _ I U) (l3 : @LT.lt Nat _ U d) (l4 : @LT.lt Nat _ d W)
    (hzl : zl = (lv : Int)) (hlv : lv ≤ 13) (hind : ind.length ≤ 4) (hz : b0.size ≤ 9000000) (hdp : dp + 40 < recursionLimit) (hu : un + 230 < cLine)
    (h : ∀ h' tk u' n', n' = ((b0 ++ (mulB lv ind ++ (#[60, 47, 100, 97, 116, 97, 62] : Array UInt8) ++ #[10])).size : Int) → Fr g₀ L h' m → News g₀ L h' (news' n' u') → Q .none { s with heap := h', toks := tk }) :
    wpG (model PySem.Challenge.rw_ko0126_03.row.prog w) ((arnd dp un gd outer).deeper env) (call (.ref 154) [.ref W, .str (Str.ofString "</" ++ Str.ofString "data" ++ Str.ofString ">") tc]) Q E s := by
  have hU := upd_mem0 U1
  have hdX : (dX, ioD w U n y1 y2 u) ∈ news := by
    rcases upd_cases U1 (upd_mem0 (U2 0 0)) with e | e
    · exact absurd (congrArg Prod.fst e) (Nat.ne_of_lt (Nat.lt_trans l1 l2))
    · exact e.1
  have N3 : News g₀ L s.heap [(W, instObj 214 d), (d, wrD w I S zl ind z1 z2 z3 z4 z5 z6 z7 u3 u4), (I, instObj 517 dX), (dX, ioD w U n y1 y2 u), (U, baObj b0)] := fun p hp => by
    rcases List.mem_cons.mp hp with rfl | hp
    · exact N _ hW
    rcases List.mem_cons.mp hp with rfl | hp
    · exact N _ hd
    rcases List.mem_cons.mp hp with rfl | hp
    · exact N _ hI
    rcases List.mem_cons.mp hp with rfl | hp
    · exact N _ hdX
    · rw [List.mem_singleton.mp hp]; exact N _ hU
  refine g_call (wln_e B hf hke F X T N3 hn l1 l2 l3 l4 hzl hlv hind hz hdp hu fun h' tk u' n' hn' F' N' hk => ?_)
  refine h h' tk u' n' hn' F' ?_
  refine carry2 (same := [(W, instObj 214 d), (d, wrD w I S zl ind z1 z2 z3 z4 z5 z6 z7 u3 u4), (I, instObj 517 dX)]) N U1 (U2 n' u') N' (fun p hp => ?_) hk
  rcases List.mem_cons.mp hp with rfl | hp
  · exact hW
  rcases List.mem_cons.mp hp with rfl | hp
  · exact hd
  · rw [List.mem_singleton.mp hp]; exact hI
end Mine
end
section
open PySem PySem.W PyProof.Rows PySem.Calls PySem.Spec
set_option Elab.async false
set_option linter.all false
set_option maxRecDepth 100000
set_option maxHeartbeats 8000000
namespace Mine
local macro_rules | `(tactic| walk_at "call ref") => `(tactic| (k_here; refine wpAny_call ?_; k_dflt (refine' code_def ?k1 ?k2 ?k3 ?k4 ?k5 ?kA ?kF ?kK ?k6 ?k7 ?k8 ?k9 ?kB ?_ ?c2 ?c3 ?c4 ?c5; (case kA => exact rfl); (case kF => exact rfl); (case kK => exact rfl); (case k2 => assumption); (case k4 => assumption); (case k1 => assumption); (case k3 => assumption); (case k5 => assumption); (case k6 => k_is); (case k7 => k_is); (case k8 => ktr_room); (case k9 => exact BindsTo.of_eq rfl); (case c5 => decide); (case kB => exact locs rfl); (case c2 => exact rfl); (case c3 => exact rfl); (case c4 => exact rfl); k_whole; intro g' L' h' FG' F' N' B' X' T'; (try dsimp only); (try k_lift B'); (try k_fold))))
theorem fin {w : World} {env : Env} {dp un : Nat} {gd : Option (List Code)} {outer : List Env} {base g₀ : Heap} {s : Shared} {L : Addr} {m mg mb : Str → Option Value} {mean : ExcName → Option Value} {loose : List Str} {p : Program} {R : Result → Shared → Prop}
    {W d I dX U S : Addr} {y1 y2 u te tf z1 z2 z3 z4 z5 z6 z7 u3 u4 : Tok} {b0 : Array UInt8} {its : Array Value} {nS : Nat} {n zl : Int} {lv : Nat} {ind : List UInt8}
    (B : Below (arnd dp un gd outer) base outer g₀) (hf : env.frame = some L) (hke : env.scope.kind = .function) (F : Fr g₀ L s.heap m) (X : (hd03.heap_1 w.params).In g₀) (T : Top p loose mean mg mb g₀)
    (N : News g₀ L s.heap [(S, listOf #[.str (Str.ofString "data") tf] nS), (W, instObj 214 d), (d, wrD w I S zl ind z1 z2 z3 z4 z5 z6 z7 u3 u4), (I, instObj 517 dX), (dX, ioD w U n y1 y2 u), (U, baObj b0)]) (hn : n = (b0.size : Int)) (l1 : @LT.lt Nat _ dX I) (l2 : @LT.lt Nat _ I U) (l3 : @LT.lt Nat _ U d) (l4 : @LT.lt Nat _ d W) (l5 : @LT.lt Nat _ W S)
    (hzl : zl = ((lv + 1 : Nat) : Int)) (hlv : lv ≤ 13) (hind : ind.length ≤ 4) (hz : b0.size ≤ 9000000) (hdp : dp + 60 < recursionLimit) (hu : un + 260 < cLine)
    (hfin : ∀ h' tk u' u3' nS' n' zl', n' = ((b0 ++ (mulB lv ind ++ (#[60, 47, 100, 97, 116, 97, 62] : Array UInt8) ++ #[10])).size : Int) → zl' = ((lv : Nat) : Int) → Fr g₀ L h' m → News g₀ L h' [(S, listOf #[] nS'), (W, instObj 214 d), (d, wrD w I S zl' ind z1 z2 z3 z4 z5 z6 z7 u3' u4), (I, instObj 517 dX), (dX, ioD w U n' y1 y2 u'), (U, baObj (b0 ++ (mulB lv ind ++ (#[60, 47, 100, 97, 116, 97, 62] : Array UInt8) ++ #[10])))] →
      (∀ a o, s.heap.get? a = some o → a ∉ [S, W, d, I, dX, U] → h'.get? a = some o) → R (.ok (.ret .none)) { s with heap := h', toks := tk }) :
    codeG (model PySem.Challenge.rw_ko0126_03.row.prog w) ((arnd dp un gd outer).deeper env) (.call (.ref 139) ⟨[.ref W, .str (Str.ofString "data") te], []⟩) R s := by
  subst hzl
  w_top off
  obtain ⟨g, gens₀, drawn₀, toks₀, os₀⟩ := s
  dsimp only at *
  revert X; k_fill; intro X
  refine' gc_defK B F X N T rfl hf hke ?k6 ?k7 ?k8 ?k9 ?kB ?_ ?c2 ?c3 ?c4 ?c5
  case k6 => k_is
  case k7 => k_is
  case k8 => ktr_room
  case k9 => exact BindsTo.of_eq rfl
  case c5 => decide
  case kB => exact locs rfl
  case c2 => exact rfl
  case c3 => exact rfl
  case c4 => exact rfl
  k_whole
  intro g' L' h' FG' F' N' B' X' T' hkeep
  (try dsimp only)
  (try k_lift B')
  (try k_fold)
  refine g_cons (g_any ?_)
  k_steps
  dsimp only
  refine g_cons (g_any ?_)
  k_steps
  dsimp only
  refine g_cons (g_any ?_)
  k_steps
  dsimp only
  refine g_cons (g_Expr (g_MethodCall ?_))
  k_steps
  dsimp only
  refine' g_callWith_K (K := hd03.heap_1 w.params) ?hk1 ?_
  case hk1 => k_is
  k_steps
  refine' g_wln_e (dp := dp + 1) (un := un + 3) (lv := lv) ?eB1 rfl rfl ?eF1 ?eX1 ?eT1 ?eN1 ?eW1 ?ed1 ?eI1 ?eU1 ?eV1 hn l1 l2 l3 l4 ?eZ1 hlv hind hz ?ep1 ?eu1 ?_
  case eB1 => assumption
  case eF1 => assumption
  case eX1 => assumption
  case eT1 => assumption
  case eN1 => assumption
  case eW1 => k_mem
  case ed1 => k_mem
  case eI1 => k_mem
  case eU1 => k_upd
  case eV1 => (intro n1 u1; k_upd)
  case eZ1 => (first | rfl | omega)
  case ep1 => omega
  case eu1 => omega
  intro h1 tk1 u1' n1 hn1 F1 N1
  (try clear F')
  (try clear N')
  dsimp only
  refine g_execs_nil ?_
  rename Fr _ _ _ _ => zF
  rename News _ _ _ _ => zN
  refine leaveK_ zF zN fun kF kN => ?_
  exact hfin _ _ _ _ _ _ _ hn1 (by omega) kF kN fun a o ea ha => zF.keep a o (hkeep a o ea ha)
end Mine
end
section
open PySem PySem.W PyProof.Rows PySem.Calls PySem.Spec
set_option Elab.async false
set_option linter.all false
set_option maxRecDepth 100000
set_option maxHeartbeats 8000000
namespace Mine
local macro_rules | `(tactic| walk_at "call ref") => `(tactic| (k_here; refine wpAny_call ?_; k_dflt (refine' code_def ?k1 ?k2 ?k3 ?k4 ?k5 ?kA ?kF ?kK ?k6 ?k7 ?k8 ?k9 ?kB ?_ ?c2 ?c3 ?c4 ?c5; (case kA => exact rfl); (case kF => exact rfl); (case kK => exact rfl); (case k2 => assumption); (case k4 => assumption); (case k1 => assumption); (case k3 => assumption); (case k5 => assumption); (case k6 => k_is); (case k7 => k_is); (case k8 => ktr_room); (case k9 => exact BindsTo.of_eq rfl); (case c5 => decide); (case kB => exact locs rfl); (case c2 => exact rfl); (case c3 => exact rfl); (case c4 => exact rfl); k_whole; intro g' L' h' FG' F' N' B' X' T'; (try dsimp only); (try k_lift B'); (try k_fold))))
theorem beg {w : World} {env : Env} {dp un : Nat} {gd : Option (List Code)} {outer : List Env} {base g₀ : Heap} {s : Shared} {L : Addr} {m mg mb : Str → Option Value} {mean : ExcName → Option Value} {loose : List Str} {p : Program} {R : Result → Shared → Prop}
    {W d I dX U S : Addr} {y1 y2 u te tf z1 z2 z3 z4 z5 z6 z7 u3 u4 : Tok} {b0 : Array UInt8} {its : Array Value} {nS : Nat} {n zl : Int} {lv : Nat} {ind : List UInt8}
    (B : Below (arnd dp un gd outer) base outer g₀) (hf : env.frame = some L) (hke : env.scope.kind = .function) (F : Fr g₀ L s.heap m) (X : (hd03.heap_1 w.params).In g₀) (T : Top p loose mean mg mb g₀)
    (N : News g₀ L s.heap [(S, listOf its nS), (W, instObj 214 d), (d, wrD w I S zl ind z1 z2 z3 z4 z5 z6 z7 u3 u4), (I, instObj 517 dX), (dX, ioD w U n y1 y2 u), (U, baObj b0)]) (hn : n = (b0.size : Int)) (l1 : @LT.lt Nat _ dX I) (l2 : @LT.lt Nat _ I U) (l3 : @LT.lt Nat _ U d) (l4 : @LT.lt Nat _ d W) (l5 : @LT.lt Nat _ W S)
    (hzl : zl = ((lv : Nat) : Int)) (hlv : lv ≤ 13) (hind : ind.length ≤ 4) (hits : its.size ≤ 1000) (hz : b0.size ≤ 9000000) (hdp : dp + 60 < recursionLimit) (hu : un + 260 < cLine)
    (hfin : ∀ h' tk u' u3' nS' n' zl', n' = ((b0 ++ (mulB lv ind ++ (#[60, 100, 97, 116, 97, 62] : Array UInt8) ++ #[10])).size : Int) → zl' = ((lv + 1 : Nat) : Int) → Fr g₀ L h' m → News g₀ L h' [(S, listOf (its.push (.str (Str.ofString "data") te)) nS'), (W, instObj 214 d), (d, wrD w I S zl' ind z1 z2 z3 z4 z5 z6 z7 u3' u4), (I, instObj 517 dX), (dX, ioD w U n' y1 y2 u'), (U, baObj (b0 ++ (mulB lv ind ++ (#[60, 100, 97, 116, 97, 62] : Array UInt8) ++ #[10])))] →
      (∀ a o, s.heap.get? a = some o → a ∉ [S, W, d, I, dX, U] → h'.get? a = some o) → R (.ok (.ret .none)) { s with heap := h', toks := tk }) :
    codeG (model PySem.Challenge.rw_ko0126_03.row.prog w) ((arnd dp un gd outer).deeper env) (.call (.ref 132) ⟨[.ref W, .str (Str.ofString "data") te], []⟩) R s := by
  subst hzl
  w_top off
  obtain ⟨g, gens₀, drawn₀, toks₀, os₀⟩ := s
  dsimp only at *
  revert X; k_fill; intro X
  refine' gc_defK B F X N T rfl hf hke ?k6 ?k7 ?k8 ?k9 ?kB ?_ ?c2 ?c3 ?c4 ?c5
  case k6 => k_is
  case k7 => k_is
  case k8 => ktr_room
  case k9 => exact BindsTo.of_eq rfl
  case c5 => decide
  case kB => exact locs rfl
  case c2 => exact rfl
  case c3 => exact rfl
  case c4 => exact rfl
  k_whole
  intro g' L' h' FG' F' N' B' X' T' hkeep
  (try dsimp only)
  (try k_lift B')
  (try k_fold)
  refine g_cons (g_any ?_)
  k_steps
  dsimp only
  refine g_cons (g_Expr (g_MethodCall ?_))
  k_steps
  dsimp only
  refine' g_callWith_K (K := hd03.heap_1 w.params) ?hk1 ?_
  case hk1 => k_is
  k_steps
  refine' g_wln_a (dp := dp + 1) (un := un + 3) (lv := lv) ?eB1 rfl rfl ?eF1 ?eX1 ?eT1 ?eN1 ?eW1 ?ed1 ?eI1 ?eU1 ?eV1 hn l1 l2 l3 l4 ?eZ1 hlv hind hz ?ep1 ?eu1 ?_
  case eB1 => assumption
  case eF1 => assumption
  case eX1 => assumption
  case eT1 => assumption
  case eN1 => assumption
  case eW1 => k_mem
  case ed1 => k_mem
  case eI1 => k_mem
  case eU1 => k_upd
  case eV1 => (intro n1 u1; k_upd)
  case eZ1 => (first | rfl | omega)
  case ep1 => omega
  case eu1 => omega
  intro h1 tk1 u1' n1 hn1 F1 N1
  (try clear F')
  (try clear N')
  dsimp only
  refine g_cons (g_any ?_)
  k_steps
  refine g_execs_nil ?_
  rename Fr _ _ _ _ => zF
  rename News _ _ _ _ => zN
  refine leaveK_ zF zN fun kF kN => ?_
  exact hfin _ _ _ _ _ _ _ hn1 (by omega) kF kN fun a o ea ha => zF.keep a o (hkeep a o ea ha)
end Mine
end
section
open PySem PySem.W PyProof.Rows PySem.Calls PySem.Spec
set_option Elab.async false
set_option maxRecDepth 100000
set_option maxHeartbeats 8000000
namespace Mine
structure BF (m : Str → Option Value) (o : Addr) (lb lc : Int) : Prop where
  out : m "out" = some (.ref o)
  nl : m "newline" = some (.bool true)
  lbs : ∃ t, m "leftbits" = some (.int lb t)
  lcs : ∃ t, m "leftchar" = some (.int lc t)
structure BE (o : Addr) (st : List Int × Int × Int) (m : Str → Option Value) (news : List (Addr × Obj)) : Prop where
  f : BF m o st.2.1 st.2.2
  led : ∃ its n, IntsAre its.toList st.1 ∧ news = [(o, listOf its n)]
section
variable {prog : Program} {w : World} {A : Around} {E : Value → Shared → Prop} {s : Shared} {env : Env} {h₀ : Heap} {x : PySem.Str} {body : List Stmt} {Q : Flow → Shared → Prop} {b : Array UInt8} {tb : Tok} {ks : List Int} {m₀ : PySem.Str → Option Value} {o : Addr} {n0 : Nat}
theorem b2Go (hk : KBw.bInts b = ks) (hl : ks.length ≤ 100000) (hh : A.handled = none) (F : Fr h₀ env.locals s.heap m₀) (N : News h₀ env.locals s.heap [(o, listOf #[] n0)]) (hf : BF m₀ o 0 0)
    (turn : ∀ (st : List Int × Int × Int) n k t m its nn h tk own, BOk st n → 0 ≤ k → k < 256 → BF m o st.2.1 st.2.2 → IntsAre its.toList st.1 → its.size ≤ 200000 → OwnOff own [o] → Fr h₀ env.locals h (fun y => if y = x then some (.int k t) else m y) → News h₀ env.locals h ([(o, listOf its nn)] ++ own) →
      wpAny (model prog w) A (execs body env) (InvPostN h₀ env.locals (BE o (bstep st k)) own [o] { s with heap := h, toks := tk } Q) E { s with heap := h, toks := tk })
    (done : ∀ m its nn h tk, BF m o (brun ks).2.1 (brun ks).2.2 → IntsAre its.toList (brun ks).1 → its.size ≤ 200000 → Fr h₀ env.locals h m → News h₀ env.locals h [(o, listOf its nn)] → Q .next { s with heap := h, toks := tk }) :
    wpAny (model prog w) A (pyIter (.bytes b tb)) (fun it s₂ => LoopAtV prog w A h₀ env x body Q E it s₂) E s := by
  have hsz : ∀ {its : Array Value} {i : Nat}, i ≤ ks.length → IntsAre its.toList (brun (ks.take i)).1 → its.size ≤ 200000 := fun {its i} hi h => by
    have e := IntsAre.length h
    have g := (brun_ok (ks.take i)).len
    rw [Array.length_toList] at e
    rw [List.length_take] at g
    omega
  refine KBmo.iter_bytesN (fun i => BE o (brun (ks.take i))) hk hh F N ⟨hf, #[], n0, .nil, rfl⟩ (fun i k t m₁ news₁ h tk own hi h0 h1 hoff hJ F₁ N₁ => ?_) (fun m₁ news₁ h tk hJ F₁ N₁ => ?_)
  · obtain ⟨f, its, nn, hin, rfl⟩ := hJ
    have hlt := (List.getElem?_eq_some_iff.mp hi).1
    have z := turn (brun (ks.take i)) _ k t m₁ its nn h tk own (brun_ok _) h0 h1 f hin (hsz (by omega) hin) hoff F₁ N₁
    have e : ks.take (i + 1) = ks.take i ++ [k] := by rw [List.take_add_one, hi]; rfl
    have e2 : brun (ks.take (i + 1)) = bstep (brun (ks.take i)) k := by rw [e, brun_snoc]
    show wpAny _ _ _ (InvPostN h₀ env.locals (BE o (brun (ks.take (i + 1)))) own [o] _ Q) _ _
    rw [e2]
    exact z
  · obtain ⟨f, its, nn, hin, rfl⟩ := hJ
    have hs := hsz (Nat.le_refl _) hin
    rw [List.take_length] at f hin
    exact done m₁ its nn h tk f hin hs F₁ N₁
end
local macro_rules | `(tactic| walk_at "eval Name") => `(tactic| (k_here; (with_reducible show wpAny _ _ (eval (Expr.Name _ _) _) _ _ _); (rename Fr _ _ _ _ => zF); (rename BF _ _ _ _ => zM); k_dflt (first | refine ld zF (by with_unfolding_all exact zM.out) ?_ | refine ld zF (by with_unfolding_all exact zM.nl) ?_ | refine ld zF (by with_unfolding_all exact Exists.choose_spec zM.lbs) ?_ | refine ld zF (by with_unfolding_all exact Exists.choose_spec zM.lcs) ?_)))
local macro_rules | `(tactic| walk_at "binaryOp LShift int int") => `(tactic| (k_here; (rename BF _ _ _ _ => zM); k_dflt (first | refine k_shl (d := 256) (by decide) (by omega) (by rfl) ?_ | refine k_shl (d := 16) (by decide) (by omega) (by rfl) ?_ | refine k_shl (d := 4) (by decide) (by omega) (by rfl) ?_)))
local macro_rules | `(tactic| walk_at "binaryOp RShift int int") => `(tactic| (k_here; (rename BF _ _ _ _ => zM); k_dflt (first | refine k_shr (d := 4) (by decide) (by rfl) (by decide) ?_ | refine k_shr (d := 16) (by decide) (by rfl) (by decide) ?_ | refine k_shr (d := 64) (by decide) (by rfl) (by decide) ?_ | refine k_shr (d := 1) (by decide) (by rfl) (by decide) ?_)))
local macro_rules | `(tactic| walk_at "binaryOp BitOr int int") => `(tactic| (k_here; (rename BF _ _ _ _ => zM); k_dflt (refine k_or8 (by omega) (by omega) ?_)))
local macro_rules | `(tactic| walk_at "binaryOp BitAnd int int") => `(tactic| (k_here; (with_reducible show wpAny _ _ (binaryOp Operator.BitAnd (Value.int _ _) (Value.int 65535 _)) _ _ _); k_dflt (refine k_and65535 ?_)))
local macro_rules | `(tactic| walk_at "binaryOp BitAnd int int") => `(tactic| (k_here; (with_reducible show wpAny _ _ (binaryOp Operator.BitAnd (Value.int _ _) (Value.int 63 _)) _ _ _); k_dflt (refine k_and63 ?_)))
local macro_rules | `(tactic| walk_at "binaryOp BitAnd int int") => `(tactic| (k_here; (with_reducible show wpAny _ _ (binaryOp Operator.BitAnd (Value.int _ _) (Value.int 3 _)) _ _ _); k_dflt (refine k_and3 ?_)))
local macro_rules | `(tactic| walk_at "binaryOp BitAnd int int") => `(tactic| (k_here; (with_reducible show wpAny _ _ (binaryOp Operator.BitAnd (Value.int _ _) (Value.int 15 _)) _ _ _); k_dflt (refine k_and15 ?_)))
local macro_rules | `(tactic| walk_at "subscriptTail") => `(tactic| (k_here; (with_reducible show wpAny _ _ (subscriptTail _ _ (Value.bytes _ _) (Value.int _ _)) _ _ _); (rename BF _ _ _ _ => zM); k_dflt (refine k_sg (by decide +kernel) (by omega) (by omega) ?_); intro t' k'))
local macro_rules | `(tactic| walk_at "call builtin:list.append") => `(tactic| (k_here; (rename BF _ _ _ _ => zM); k_dflt (first | refine k_appO (by assumption) (by assumption) (by assumption) (by (try simp only [Array.size_push]); rw [sizeLine_eq]; omega) ?_ | refine k_app1 (by assumption) (by assumption) (by (try simp only [Array.size_push]); rw [sizeLine_eq]; omega) ?_); intro h' F' N'))
local macro_rules | `(tactic| walk_at "call type:type") => `(tactic| (k_here; k_dflt (first | refine call_type_of (PySem.W.typeIs_bytes _ _ _) (by decide) ?_ | refine call_type_of (typeIs_bool _ _) (by decide) ?_)))
local macro_rules | `(tactic| walk_at "compareOp Is type type") => `(tactic| (k_here; k_dflt (first | refine wpAny_is_self (by rfl) ?_ | refine wpAny_is_other (by rfl) (by decide) ?_)))
local macro_rules | `(tactic| walk_at "pyIter bytes") => `(tactic| refine hold ?_)
local macro_rules | `(tactic| walk_at "call ref") => `(tactic| (k_here; refine wpAny_call ?_; k_dflt (refine' code_def ?k1 ?k2 ?k3 ?k4 ?k5 ?kA ?kF ?kK ?k6 ?k7 ?k8 ?k9 ?kB ?_ ?c2 ?c3 ?c4 ?c5; (case kA => exact rfl); (case kF => exact rfl); (case kK => exact rfl); (case k2 => assumption); (case k4 => assumption); (case k1 => assumption); (case k3 => assumption); (case k5 => assumption); (case k6 => k_is); (case k7 => k_is); (case k8 => ktr_room); (case k9 => exact BindsTo.of_eq rfl); (case c5 => decide); (case kB => exact locs rfl); (case c2 => exact rfl); (case c3 => exact rfl); (case c4 => exact rfl); k_whole; intro g' L' h' FG' F' N' B' X' T'; (try dsimp only); (try k_lift B'); (try k_fold))))
local macro_rules | `(tactic| walk_at "call ref") => `(tactic| (k_here; (with_reducible show wpAny _ _ (call (Value.ref 73) _) _ _ _); refine hold ?_))
theorem b2a {w : World} (v : Value) (b : Array UInt8) (ks : List Int) (mg mb : Str → Option Value) (mean : ExcName → Option Value) (loose : List Str)
   (dp un : Nat) (gd : Option (List Code)) (outer : List Env) (base g₀ : Heap) (s : Shared) (R : Result → Shared → Prop) (hg₀ : s.heap = g₀)
    (B : Below (arnd dp un gd outer) base outer g₀) (X : (hd03.heap_1 w.params).In g₀) {p : Program} (T : Top p loose mean mg mb g₀)
    (hv : Buf g₀ v b) (hk : KBw.bInts b = ks) (hl : ks.length ≤ 100000)
    (hret : ∀ h' tk t c, (∀ b o, g₀.get? b = some o → h'.get? b = some o) → KBw.bInts c = b64 ks ++ [10] → R (.ok (.ret (.bytes c t))) { s with heap := h', toks := tk })
    (hdp : dp + 40 < recursionLimit) (hu : un + 300 < cLine) :
      codeAny (model PySem.Challenge.rw_ko0126_03.row.prog w) (arnd dp un gd outer) (.call (.ref 88) ⟨[v], []⟩) R s := by
  w_top off
  subst hg₀
  revert X; k_fill; intro X
  refine' enter B X T ?k6 ?k7 ?k8 ?k9 ?kB ?_ ?c2 ?c3 ?c4 ?c5
  case k6 => k_is
  case k7 => k_is
  case k8 => ktr_room
  case k9 => (refine' kp_binds ?kx ?ke; (case kx => exact X); (case ke => exact fun _ => rfl))
  case c5 => decide
  case kB => exact locs rfl
  case c2 => exact rfl
  case c3 => exact rfl
  case c4 => exact rfl
  k_whole
  intro L' h' F' N'
  obtain ⟨g₀, gens₀, drawn₀, toks₀, os₀⟩ := s
  dsimp only at *
  (try k_fold)
  k_steps
  rename Fr _ _ _ _ => zF
  rename News _ _ _ _ => zN
  delta Hold
  refine k_buf B zF zN X T rfl hv (by rw [← KBw.ints_length, hk]; omega) (by omega) (by omega) ?_
  intro h7 tk7 tb F7 N7
  clear zF zN
  dsimp only
  k_steps
  rename Fr _ _ _ _ => zF
  rename News _ _ _ _ => zN
  delta Hold
  refine' b2Go hk hl rfl zF zN ⟨rfl, rfl, ⟨_, rfl⟩, ⟨_, rfl⟩⟩ ?turn ?done
  case turn =>
    intro st n k t m its nn h tk own ok h0 h1 hf hin hsz hoff F N
    obtain ⟨out, lb, lc⟩ := st
    dsimp only at *
    obtain ⟨hl, hlo, hhi, -, -⟩ := ok
    dsimp only at hl hlo hhi
    clear zF zN
    rcases hl with rfl | rfl | rfl
    · k_steps
      rename Fr _ _ _ _ => zF
      rename News _ _ _ _ => zN
      rename BF _ _ _ _ => zM
      rw [bstep0]
      exact ⟨_, _, _, _, [(_, listOf _ _)], rfl, zF, zN, fun p hp => by rw [List.mem_singleton.mp hp]; exact .head _, fun p hp => .tail _ hp, rfl, ⟨by with_unfolding_all exact zM.out, by with_unfolding_all exact zM.nl, ⟨_, rfl⟩, ⟨_, rfl⟩⟩, _, _, ints_push hin, rfl⟩
    · k_steps
      rename Fr _ _ _ _ => zF
      rename News _ _ _ _ => zN
      rename BF _ _ _ _ => zM
      rw [bstep2]
      exact ⟨_, _, _, _, [(_, listOf _ _)], rfl, zF, zN, fun p hp => by rw [List.mem_singleton.mp hp]; exact .head _, fun p hp => .tail _ hp, rfl, ⟨by with_unfolding_all exact zM.out, by with_unfolding_all exact zM.nl, ⟨_, rfl⟩, ⟨_, rfl⟩⟩, _, _, ints_push hin, rfl⟩
    · k_steps
      rename Fr _ _ _ _ => zF
      rename News _ _ _ _ => zN
      rename BF _ _ _ _ => zM
      rw [bstep4]
      exact ⟨_, _, _, _, [(_, listOf _ _)], rfl, zF, zN, fun p hp => by rw [List.mem_singleton.mp hp]; exact .head _, fun p hp => .tail _ hp, rfl, ⟨by with_unfolding_all exact zM.out, by with_unfolding_all exact zM.nl, ⟨_, rfl⟩, ⟨_, rfl⟩⟩, _, _, ints_push (ints_push hin), rfl⟩
  case done =>
    intro m its nn h tk hf hin hsz F N
    obtain ⟨hl, hlo, hhi, -, hinn⟩ := brun_ok ks
    clear zF zN
    dsimp only
    have hb : b64 ks = btail (brun ks) := rfl
    revert hret hf hin hlo hhi hinn hl
    rw [hb]
    generalize brun ks = st
    obtain ⟨out, lb, lc⟩ := st
    intro hret hf hin hl hlo hhi hinn
    dsimp only at *
    rcases hl with rfl | rfl | rfl
    · k_steps
      rename Fr _ _ _ _ => zF
      rename News _ _ _ _ => zN
      refine k_bytesL (zN.isList (List.mem_singleton.mpr rfl)) (ints_push hin) (in_snoc hinn (by decide)) (by simp only [Array.size_push]; omega) rfl ?_
      intro h9 t9 k9 b9 hk9 hb9
      dsimp only
      k_steps
      exact hret _ _ _ _ (fun b o e => hk9 b o (zF.keep b o e)) hb9
    · k_steps
      rename Fr _ _ _ _ => zF
      rename News _ _ _ _ => zN
      refine k_bytesL (zN.isList (List.mem_singleton.mpr rfl)) (ints_push (ints_push (ints_push (ints_push hin)))) (in_snoc (in_snoc (in_snoc (in_snoc hinn (sg_in _)) (by decide)) (by decide)) (by decide)) (by simp only [Array.size_push]; omega) rfl ?_
      intro h9 t9 k9 b9 hk9 hb9
      dsimp only
      k_steps
      exact hret _ _ _ _ (fun b o e => hk9 b o (zF.keep b o e)) hb9
    · k_steps
      rename Fr _ _ _ _ => zF
      rename News _ _ _ _ => zN
      refine k_bytesL (zN.isList (List.mem_singleton.mpr rfl)) (ints_push (ints_push (ints_push hin))) (in_snoc (in_snoc (in_snoc hinn (sg_in _)) (by decide)) (by decide)) (by simp only [Array.size_push]; omega) rfl ?_
      intro h9 t9 k9 b9 hk9 hb9
      dsimp only
      k_steps
      exact hret _ _ _ _ (fun b o e => hk9 b o (zF.keep b o e)) hb9
end Mine
end
section
open PySem PySem.W PyProof.Rows PySem.Calls PySem.Spec
set_option Elab.async false
set_option linter.all false
set_option maxRecDepth 100000
set_option maxHeartbeats 4000000
namespace Mine
section
variable {prog : Program} {w : World} {A : Around} {E : Value → Shared → Prop} {s : Shared} {h₀ : Heap} {env : Env} {x : Str} {body : List Stmt} {Q : Flow → Shared → Prop}
/-- the frame's names in _encode_base64's loop -/
structure EV (m : Str → Option Value) (p : Addr) (v : Value) (z : Nat) : Prop where
  s : m "s" = some v
  size : ∃ t, m "maxbinsize" = some (.int (z : Int) t)
  pieces : m "pieces" = some (.ref p)
structure EVN (ks : List Int) (v : Value) (z : Nat) (p : Addr) (i : Nat) (m : Str → Option Value) (news : List (Addr × Obj)) : Prop where
  f : EV m p v z
  led : ∃ its n, BysAre its.toList (rowsB ks z i) ∧ news = [(p, listOf its n)]
theorem encGoV {r p : Addr} {n0 : Nat} {t₀ u₀ v₀ : Tok} {v : Value} {ks : List Int} {z : Nat} {m₀ : Str → Option Value} {news : List (Addr × Obj)} (hh : A.handled = none) (hr : IsRange s.heap r 0 (ks.length : Int) (z : Int) t₀ u₀ v₀)
    (hl : ks.length ≤ 100000) (h1 : 1 ≤ z) (h2 : z ≤ 1000) (F : Fr h₀ env.locals s.heap m₀) (N : News h₀ env.locals s.heap news) (hp : (p, listOf #[] n0) ∈ news) (hm : EV m₀ p v z)
    (hnil : ∀ m its nn h tk, EV m p v z → BysAre its.toList (rowsB ks z (cntB ks.length z)) → Fr h₀ env.locals h m → News h₀ env.locals h [(p, listOf its nn)] → Q .next { s with heap := h, toks := tk })
    (hstep : ∀ (Q' : Flow → Shared → Prop) i its nn m t h tk I it, i * z < ks.length → EV m p v z → BysAre its.toList (rowsB ks z i) → its.size ≤ 100000 → it.cls = .type "range_iterator" → Fr h₀ env.locals h (fun y => if y = x then some (.int ((i * z : Nat) : Int) t) else m y) →
      News h₀ env.locals h [(I, it), (p, listOf its nn)] →
      wpAny (model prog w) A (execs body env) (UnrPost h₀ env.locals { s with heap := h, toks := tk } I it (fun m' n' => EVN ks v z p (i + 1) m' n') Q') E { s with heap := h, toks := tk }) :
    wpAny (model prog w) A (pyIter (.ref r)) (fun it s₂ => LoopAtV prog w A h₀ env x body Q E it s₂) E s := by
  obtain ⟨hs, hc⟩ := small_z hl h1 h2
  have hsz : ∀ {its : Array Value} {i : Nat}, i ≤ ks.length → BysAre its.toList (rowsB ks z i) → its.size ≤ 100000 := fun {its i} hi h => by
    have e := h.length
    rw [Array.length_toList] at e
    unfold rowsB at e
    rw [List.length_map, List.length_range] at e
    omega
  refine krs_iter (n := cntB ks.length z) hh hr hs hc F N fun I _ => ?_
  refine krsLess (less := [(p, listOf #[] n0)]) ⟨hp, trivial⟩ _ 0 (krsInv (fun i m news => EVN ks v z p i m news) (fun m news hI h tk F N => ?_) (fun i m news hi hI t h tk F N => ?_) _ 0 m₀ _ (Nat.zero_add _) ⟨hm, #[], n0, .nil, rfl⟩)
  · obtain ⟨f, its, nn, hin, rfl⟩ := hI
    exact hnil m its nn h tk f hin F N
  · obtain ⟨f, its, nn, hin, rfl⟩ := hI
    have hlt := cntB_lt hi
    have hle := cntB_le ks.length z
    have e : (0 : Int) + (i : Int) * (z : Int) = ((i * z : Nat) : Int) := by push_cast; omega
    rw [e] at F
    exact hstep Q i its nn m t h tk I _ hlt f hin (hsz (by omega) hin) rfl F N
end
end Mine
end
section
open PySem PySem.W PyProof.Rows PySem.Calls PySem.Spec
set_option Elab.async false
set_option linter.all false
set_option maxRecDepth 100000
set_option maxHeartbeats 4000000
namespace Mine
theorem slot_ba_get : Slot "bytearray" "__getitem__" "bytearray.__getitem__" :=
  .of (owner := "bytearray") (n := "__getitem__") (by rw [typeLookup_type, builtinLookup_eq_fast]; kernel_rfl) (by decide +kernel) (by decide +kernel) (by decide +kernel)
    (by first | exact .inl (by decide +kernel) | exact .inr (by decide +kernel)) sub_ba
theorem entry_ba_get : entryFor table "bytearray.__getitem__" = some Builtin.«bytearray.__getitem__» := entryFor_of_tree (by kernel_rfl)
theorem args_ba_get (a b : Value) : argsOk "bytearray.__getitem__" ⟨[a, b], []⟩ := by unfold argsOk; kernel_rfl
theorem meets_bacut (a sl : Addr) (b : Array UInt8) (i j : Int) (ti tj : Tok) :
    Meets (Builtin.«bytearray.__getitem__» ⟨[.ref a, .ref sl], []⟩) (fun _ R s => s.heap.get? sl = some (slObj i ti j tj) ∧ s.heap.get? a = some (baObj b) ∧ (KBy.picked b (some i) (some j)).size ≤ sizeLine ∧
      R (.ok (.ret (.ref s.heap.objs.size))) { s with heap := s.heap.push (baObj (KBy.picked b (some i) (some j))) }) := by
  refine .of_wp fun prog w A R s hS => ?_
  obtain ⟨ho, hoa, hz, h⟩ := hS
  have hT : s.TypeIs (.ref sl) "slice" := ⟨_, ho, rfl⟩
  unfold Builtin.«bytearray.__getitem__»
  refine wpAny_bind (wpAny_of_eq (a := (Value.ref a, [Value.ref sl])) rfl ?_)
  refine wpAny_bind ?_
  unfold Builtin.Bytes.subscript?
  refine wpAny_bind (wpAny_specialOf hT slice_no_index (wpAny_pure ?_))
  refine wpAny_bind (wpAny_typeOf hT ?_)
  refine wpAny_ite (KBy.ite_no (by decide) ?_)
  refine wpAny_bind (k_parts ho ?_)
  refine wpAny_bind (wpAny_bind (wpAny_bind (wpAny_load hoa (wpAny_pure (wpAny_pure ?_)))))
  refine wpAny_bind (wpAny_of_eq (sliceIndices_raw (some i) (some j) none b.size (fun e => nomatch e)) ?_)
  refine wpAny_bind ?_
  unfold Builtin.Bytes.newBytearray
  exact wpAny_newObj_type (wpAny_pure ⟨_, rfl, h⟩) hz
section
variable {prog : Program} {w : World} {A : Around} {E : Value → Shared → Prop} {s : Shared} {h₀ : Heap} {L : Addr} {m : Str → Option Value} {news : List (Addr × Obj)} {value slice : PySem.Expr} {Q : Value → Shared → Prop}
theorem k_bacut {a : Addr} {b : Array UInt8} {i j : Int} {ui uj : Tok} {ks : List Int} (hF : Fr h₀ L s.heap m) (hN : News h₀ L s.heap news) (ho : s.heap.get? a = some (baObj b)) (hk : KBw.bInts b = ks) (h0 : 0 ≤ i) (h1 : i ≤ j) (hz : ks.length ≤ 16777216)
    (h : ∀ h' a' c, Fr h₀ L h' m → News h₀ L h' ((a', baObj c) :: news) → KBw.bInts c = (ks.drop i.toNat).take (j.toNat - i.toNat) → Q (.ref a') { s with heap := h' })
    (hs : subscripted slice false (.ref a) (.ref s.heap.objs.size) = operate [.ref s.heap.objs.size, .ref a] (getItem (.ref a) (.ref s.heap.objs.size)) := by with_unfolding_all rfl)
    (ht : ∀ r, letTemporaryGo value (.ref a) r = pure () := by intro _; with_unfolding_all rfl) :
    wpAny (model prog w) A (subscriptTail value slice (.ref a) (.ref s.heap.objs.size)) Q E { s with heap := s.heap.push { cls := .type "slice", data := .fields #[.int i ui, .int j uj, .none] } } := by
  have hsz : (KBy.picked b (some i) (some j)).size ≤ sizeLine := Nat.le_trans (KBc.size_picked_le b _ _) (by rw [← KBw.ints_length b, hk, sizeLine_eq]; exact hz)
  have ho1 : (s.heap.push (slObj i ui j uj)).get? a = some (baObj b) := Heap.get?_push_of_some _ ho
  have hT : (⟨s.heap.push (slObj i ui j uj), s.gens, s.drawn, s.toks, s.os⟩ : Shared).TypeIs (.ref a) "bytearray" := ⟨_, ho1, rfl⟩
  refine subscriptTail_ops hT slot_ba_get.lookup (getItem_meets hT (by decide) slot_ba_get entry_ba_get (args_ba_get _ _) (meets_bacut a _ b i j ui uj) ⟨Heap.get?_push_size _ rfl, ho1, hsz, ?_⟩) hs ht
  refine h _ _ _ ((hF.push _).push _) (News.push (hF.push _) (News.pushKeep hN _) _) ?_
  refine (KBc.ints_picked hk (some i) (some j)).trans ?_
  show (ks.drop (clipAt ks.length i)).take (clipAt ks.length j - clipAt ks.length i) = _
  rw [clip_nn h0, clip_nn (by omega : 0 ≤ j)]
  by_cases hi : i.toNat ≤ ks.length
  · rw [Nat.min_eq_left hi]
    by_cases hj : j.toNat ≤ ks.length
    · rw [Nat.min_eq_left hj]
    · rw [Nat.min_eq_right (by omega), List.take_of_length_le (by rw [List.length_drop]; omega), List.take_of_length_le (by rw [List.length_drop]; omega)]
  · have e1 : min i.toNat ks.length = ks.length := Nat.min_eq_right (by omega)
    have e2 : ks.drop i.toNat = [] := List.drop_eq_nil_of_le (by omega)
    have e3 : ks.drop ks.length = [] := List.drop_eq_nil_of_le (Nat.le_refl _)
    rw [e1, e2, e3]
    simp
end
end Mine
end
section
open PySem PySem.W PyProof.Rows PySem.Calls PySem.Spec
set_option Elab.async false
set_option maxRecDepth 100000
set_option maxHeartbeats 8000000
namespace Mine
theorem k_b2a {w : World} {v : Value} {b : Array UInt8} {ks : List Int} {mg mb : Str → Option Value} {mean : ExcName → Option Value} {loose : List Str} {dp un : Nat} {gd : Option (List Code)} {outer : List Env} {base g₀ : Heap} {s : Shared} {L a : Addr} {m : Str → Option Value} {news : List (Addr × Obj)}
    {cn : Str} {cs : Scope} {ccd : Value} {Q E : Value → Shared → Prop} (B : Below (arnd dp un gd outer) base outer g₀) (F : Fr g₀ L s.heap m) (N : News g₀ L s.heap news) (X : (hd03.heap_1 w.params).In g₀) {p : Program} (T : Top p loose mean mg mb g₀) (hck : cs.kind = .function)
    (hv : Buf s.heap v b) (hk : KBw.bInts b = ks) (hl : ks.length ≤ 100000) (hdp : dp + 50 < recursionLimit) (hu : un + 400 < cLine)
    (h : ∀ h' tk t c, Fr g₀ L h' m → News g₀ L h' news → KBw.bInts c = b64 ks ++ [10] → Q (.bytes c t) { s with heap := h', toks := tk }) :
    wpAny (model PySem.Challenge.rw_ko0126_03.row.prog w) ((arnd dp un gd outer).deeper (envOf cn cs L a ccd)) (call (.ref 88) [v]) Q E s :=
  wpAny_call (b2a v b ks mg mb mean loose (dp + 1) (un + 3) gd (envOf cn cs L a ccd :: outer) base s.heap s _ rfl (B.push F hck) (X.keeps F.keep) (T.keeps F.keep) hv hk hl
    (fun h' tk t c hkp hc => h h' tk t c (F.keptAll hkp) (N.grown hkp) hc) (by omega) (by omega))
local macro_rules | `(tactic| walk_at "subscriptTail") => `(tactic| (k_here; (with_reducible show wpAny _ _ (subscriptTail _ (Expr.Slice (some _) (some _) none _) (Value.bytes _ _) (Value.ref _)) _ _ _); (rename EV _ _ _ _ => zM); (rename News _ _ _ _ => zN); (rename Fr _ _ _ _ => zF); k_dflt (refine k_bcut zF zN (by assumption) (by omega) (by omega) (by omega) ?_); intro h' t' k' c' F' N' e'))
local macro_rules | `(tactic| walk_at "subscriptTail Name Slice ref ref") => `(tactic| (k_here; (with_reducible show wpAny _ _ (subscriptTail _ (Expr.Slice (some _) (some _) none _) (Value.ref _) (Value.ref _)) _ _ _); (rename EV _ _ _ _ => zM); (rename News _ _ _ _ => zN); (rename Fr _ _ _ _ => zF); k_dflt (refine k_bacut zF zN (zF.keep _ _ (by assumption)) (by assumption) (by omega) (by omega) (by omega) ?_); intro h' a' c' F' N' e'))
local macro_rules | `(tactic| walk_at "call builtin:len") => `(tactic| (k_here; (with_reducible show wpAny _ _ (call (Value.builtin "len") [Value.ref _]) _ _ _); k_dflt (refine k_lenBa (Fr.keep (by assumption) _ _ (by assumption)) (by omega) ?_); intro t' k'))
local macro_rules | `(tactic| walk_at "call builtin:list.append") => `(tactic| (k_here; (rename EV _ _ _ _ => zM); (rename News _ _ _ _ => zN); (rename Fr _ _ _ _ => zF); k_dflt (first | refine k_appP zF zN (by assumption) (by rw [sizeLine_eq]; omega) ?_ | refine k_appP zF (fun q hq => zN q (.tail _ hq)) (by assumption) (by rw [sizeLine_eq]; omega) ?_); intro h' F' N'))
local macro_rules | `(tactic| walk_at "pyIter ref") => `(tactic| ((with_reducible show wpAny _ _ (pyIter (Value.ref _)) (fun it s₂ => LoopAtV _ _ _ _ _ _ _ _ _ it s₂) _ _); (refine hold ?_)))
local macro_rules | `(tactic| walk_at "call ref") => `(tactic| (k_here; (with_reducible show wpAny _ _ (call (Value.ref 88) _) _ _ _); refine hold ?_))
local macro_rules | `(tactic| walk_at "getMethod bytes") => `(tactic| (k_here; (with_reducible show wpAny _ _ (getMethod (Value.bytes _ _) (PySem.Str.ofString "join") _) _ _ _); k_dflt (refine k_getjoin ?_)))
local macro_rules | `(tactic| walk_at "eval Name") => `(tactic| (k_here; (with_reducible show wpAny _ _ (eval (Expr.Name _ _) _) _ _ _); (rename Fr _ _ _ _ => zF); (rename EV _ _ _ _ => zM); k_dflt (first | refine ld zF (by with_unfolding_all exact zM.s) ?_ | refine ld zF (by with_unfolding_all exact Exists.choose_spec zM.size) ?_ | refine ld zF (by with_unfolding_all exact zM.pieces) ?_)))
theorem enc {w : World} (v : Value) (b : Array UInt8) (tm : Tok) (ks : List Int) (M : Int) (z : Nat) (mg mb : Str → Option Value) (mean : ExcName → Option Value) (loose : List Str)
   (dp un : Nat) (gd : Option (List Code)) (outer : List Env) (base g₀ : Heap) (s : Shared) (R : Result → Shared → Prop) (hg₀ : s.heap = g₀)
    (B : Below (arnd dp un gd outer) base outer g₀) (X : (hd03.heap_1 w.params).In g₀) {p : Program} (T : Top p loose mean mg mb g₀)
    (hv : Buf g₀ v b) (hk : KBw.bInts b = ks) (hl : ks.length ≤ 100000) (hM : 16 ≤ M ∧ M ≤ 76) (hz : M.fdiv 4 * 3 = (z : Int))
    (hret : ∀ h' tk t c, (∀ b o, g₀.get? b = some o → h'.get? b = some o) → KBw.bInts c = (rowsB ks z (cntB ks.length z)).flatten → R (.ok (.ret (.bytes c t))) { s with heap := h', toks := tk })
    (hdp : dp + 60 < recursionLimit) (hu : un + 500 < cLine) :
      codeAny (model PySem.Challenge.rw_ko0126_03.row.prog w) (arnd dp un gd outer) (.call (.ref 96) ⟨[v, .int M tm], []⟩) R s := by
  w_top off
  have hz1 : 1 ≤ z ∧ z ≤ 57 := by
    have e : M.fdiv 4 = M / 4 := Int.fdiv_eq_ediv_of_nonneg _ (by decide)
    rw [e] at hz
    omega
  subst hg₀
  have hbn : b.size = ks.length := by rw [← KBw.ints_length, hk]
  have hbz : b.size ≤ 100000 := by omega
  rcases hv with ⟨tb, rfl⟩ | ⟨ad, rfl, hba⟩
  all_goals
    revert X; k_fill; intro X
    refine' enter B X T ?k6 ?k7 ?k8 ?k9 ?kB ?_ ?c2 ?c3 ?c4 ?c5
    case k6 => k_is
    case k7 => k_is
    case k8 => ktr_room
    case k9 => exact BindsTo.of_defaults rfl (X 89 _ rfl) rfl rfl rfl
    case c5 => decide
    case kB => exact locs rfl
    case c2 => exact rfl
    case c3 => exact rfl
    case c4 => exact rfl
    k_whole
    intro L' h' F' N'
    obtain ⟨g₀, gens₀, drawn₀, toks₀, os₀⟩ := s
    dsimp only at *
    (try k_fold)
    k_steps
    rename IsRange _ _ _ _ _ _ _ _ => hR
    rename Fr _ _ _ _ => zF
    rename News _ _ _ _ => zN
    rw [hz] at hR
    try rw [hbn] at hR
    delta Hold
    refine' encGoV rfl hR hl hz1.1 (by omega) zF zN (by k_mem) ⟨rfl, ⟨_, by rw [← hz]; rfl⟩, rfl⟩ ?nil ?step
    case nil =>
      intro m its nn h tk hf hin F N
      clear zF zN
      dsimp only
      k_steps
      rename Fr _ _ _ _ => zF
      rename News _ _ _ _ => zN
      have hle := cntB_le ks.length z
      have hfl := rowsB_len (ks := ks) (z := z) (i := cntB ks.length z) (B := 118) (by omega)
      refine k_bjoin (zN.isList (List.mem_singleton.mpr rfl)) hin (by omega) ?_
      intro c9 t9 k9 hc9
      dsimp only
      k_steps
      exact hret _ _ _ _ zF.keep hc9
    case step =>
      intro Q' i its nn m t h tk I it hlt hf hin hsz hit F N
      clear zF zN
      dsimp only
      have hchunk : ∀ d : Nat, d = i * z → (ks.drop (d : Int).toNat).take (((d : Int) + (z : Int)).toNat - (d : Int).toNat) = chunkB ks z i := by
        intro d hd
        unfold chunkB
        rw [← hd]
        congr 1
        omega
      generalize hd : i * z = d at F hlt
      k_steps
      rename Fr _ _ _ _ => F6
      rename News _ _ _ _ => N6
      rename KBw.bInts _ = List.take _ _ => hc
      rw [hchunk d hd.symm] at hc
      have hcl : (chunkB ks z i).length ≤ z := by unfold chunkB; rw [List.length_take]; exact Nat.min_le_left _ _
      delta Hold
      refine k_b2a B F6 N6 X T rfl (by first | exact .inl ⟨_, rfl⟩ | exact .inr ⟨_, rfl, (N6 _ (.head _)).1⟩) hc (by omega) (by omega) (by omega) ?_
      intro h7 tk7 t7 c7 F7 N7 hc7
      clear F6 N6
      dsimp only
      k_steps
      rename EV _ _ _ _ => zM
      rename Fr _ _ _ _ => zF
      rename News _ _ _ _ => zN
      have y1 := zN (_, _) (.head _)
      have y2 := zN (_, _) (.tail _ (.head _))
      refine ⟨_, _, _, [(_, listOf _ _)], rfl, zF, zN, fun q hq => by rw [List.mem_singleton.mp hq]; exact ri_ne y1.1 y2.1 (by assumption), ⟨⟨by with_unfolding_all exact zM.s, by with_unfolding_all exact zM.size, by with_unfolding_all exact zM.pieces⟩, _, _, ?_, rfl⟩⟩
      rw [rowsB_succ, Array.toList_push]
      exact BysAre.snoc hc7 hin
end Mine
end
section
open PySem PySem.W PyProof.Rows PySem.Calls PySem.Spec
set_option Elab.async false
set_option linter.all false
set_option maxRecDepth 100000
set_option maxHeartbeats 4000000
namespace Mine
section
variable {prog : Program} {w : World} {A : Around} {s : Shared} {env : Env} {h₀ : Heap} {L : Addr}
/-- where the loop stands -/
def LJ (h₀ : Heap) (L : Addr) (s : Shared) (I D : Addr) (items : Array Value) (nD : Nat) (Inv : Nat → (Str → Option Value) → List (Addr × Obj) → Prop) (i : Nat) (s' : Shared) : Prop :=
  ∃ m news h tk oI, s' = { s with heap := h, toks := tk } ∧ oI.cls = .type "list_iterator" ∧ oI.data = .fields #[.ref D, .int i 0] ∧ Inv i m news ∧ Fr h₀ L h m ∧ News h₀ L h ((I, oI) :: (D, listOf items nD) :: news)
theorem g_loopList {x : Str} {px : Pos} {body : List Stmt} {I D : Addr} {items : Array Value} {nD : Nat} {R : Result → Shared → Prop} (hh : A.handled = none) (hDI : @LT.lt Nat _ D I)
    (Inv : Nat → (Str → Option Value) → List (Addr × Obj) → Prop) (hap : ∀ i m news, Inv i m news → ∀ p ∈ news, @LT.lt Nat _ p.1 D)
    (hnil : ∀ m news h tk, Inv items.size m news → Fr h₀ L h m → News h₀ L h news → R (.ok .next) { s with heap := h, toks := tk })
    (hstep : ∀ i v m news h tk oI, i < items.size → items[i]? = some v → Inv i m news → Fr h₀ L h m → News h₀ L h ((I, oI) :: (D, listOf items nD) :: news) →
      wpAny (model prog w) A (assign (.Name x px) env v) (fun _ s₃ => wpG (model prog w) A (execs body env)
        (fun f s₄ => match f with | .next | .cont => (∃ m' news' h' tk', s₄ = { s with heap := h', toks := tk' } ∧ Inv (i + 1) m' news' ∧ Fr h₀ L h' m' ∧ News h₀ L h' ((I, oI) :: (D, listOf items nD) :: news')) | .brk => R (.ok .next) s₄ | .ret v => R (.ok (.ret v)) s₄) (fun _ _ => False) s₃) (fun _ _ => False) { s with heap := h, toks := tk })
    (hJ : LJ h₀ L s I D items nD Inv 0 s) : codeG (model prog w) A (.forLoop (.Name x px) (.ref I) body [] env) R s := by
  refine g_forLoop (N := items.size) (LJ h₀ L s I D items nD Inv) (fun s' h' => ?_) (fun i s' hi h' => ?_) items.size 0 (Nat.sub_zero _) (Nat.zero_le _) s hJ
  · obtain ⟨m, news, h, tk, oI, rfl, c1, c2, hI, F, N⟩ := h'
    have zI := N (I, oI) (.head _)
    have zD := N (D, listOf items nD) (.tail _ (.head _))
    refine wpAny_pyNext_list_end (l := D) (i := items.size) (items := items) hh ⟨oI, zI.1, c1, c2⟩ ⟨_, zD.1, rfl, nD, rfl⟩ (by simp) fun h' he => ⟨rfl, ?_⟩
    refine hnil m news h' tk hI ⟨F.ns.extBut he (Ne.symm zI.2.1), fun b o e => he b o (fun e2 => by rw [e2, zI.2.2] at e; cases e) (F.keep b o e), F.above⟩ fun p hp => ?_
    have z := N p (.tail _ (.tail _ hp))
    exact ⟨he _ _ (Nat.ne_of_lt (Nat.lt_trans (hap _ _ _ hI p hp) hDI)) z.1, z.2⟩
  · obtain ⟨m, news, h, tk, oI, rfl, c1, c2, hI, F, N⟩ := h'
    have zI := N (I, oI) (.head _)
    have zD := N (D, listOf items nD) (.tail _ (.head _))
    refine wpAny_pyNext_list_item (l := D) (i := i) (items := items) (x := items[i]) ⟨oI, zI.1, c1, c2⟩ ⟨_, zD.1, rfl, nD, rfl⟩ (by simp [hi]) fun h' hit hs => ⟨_, rfl, ?_⟩
    obtain ⟨o', e', d1, d2⟩ := hit
    refine wpAny_of_eq (a := ()) rfl ?_
    have F' := F.change hs zI.2.1 zI.2.2
    have N' : News h₀ L h' ((I, o') :: (D, listOf items nD) :: news) := news_set (pre := []) N (fun _ hp => nomatch hp) (fun p hp => by
      rcases List.mem_cons.mp hp with rfl | hp
      · exact Nat.ne_of_lt hDI
      · exact Nat.ne_of_lt (Nat.lt_trans (hap _ _ _ hI p hp) hDI)) hs e'
    refine wpAny_mono (hstep i items[i] m news h' tk o' hi (by simp [hi]) hI F' N') (fun _ s₃ h₃ => g_mono h₃ (fun f s₄ h₄ => ?_) fun _ _ x => x) fun _ _ x => x
    have go : (∃ m' news' h'' tk', s₄ = { s with heap := h'', toks := tk' } ∧ Inv (i + 1) m' news' ∧ Fr h₀ L h'' m' ∧ News h₀ L h'' ((I, o') :: (D, listOf items nD) :: news')) → LJ h₀ L s I D items nD Inv (i + 1) s₄ := by
      rintro ⟨m', news', h'', tk', rfl, hI', F'', N''⟩
      exact ⟨m', news', h'', tk', o', rfl, d1, d2, hI', F'', N''⟩
    cases f with
    | next => exact go h₄
    | cont => exact go h₄
    | brk => exact h₄
    | ret v => exact h₄
/-- for over a fresh list of the ledger -/
theorem g_ForList {x : Str} {px pos : Pos} {iter : Expr} {body : List Stmt} {Q : Flow → Shared → Prop} {E : Value → Shared → Prop} (hh : A.handled = none)
    (hiter : wpG (model prog w) A (eval iter env) (fun y s₁ => ∃ (D : Addr) (items : Array Value) (nD : Nat) (m : Str → Option Value) (news : List (Addr × Obj)) (Inv : Nat → (Str → Option Value) → List (Addr × Obj) → Prop), y = .ref D ∧ Fr h₀ L s₁.heap m ∧ News h₀ L s₁.heap ((D, listOf items nD) :: news) ∧ Inv 0 m news ∧ (∀ i m news, Inv i m news → ∀ p ∈ news, @LT.lt Nat _ p.1 D) ∧
      (∀ m news h tk, Inv items.size m news → Fr h₀ L h m → News h₀ L h news → Q .next { s₁ with heap := h, toks := tk }) ∧
      (∀ I i v m news h tk oI, @LT.lt Nat _ D I → i < items.size → items[i]? = some v → Inv i m news → Fr h₀ L h m → News h₀ L h ((I, oI) :: (D, listOf items nD) :: news) →
        wpAny (model prog w) A (assign (.Name x px) env v) (fun _ s₃ => wpG (model prog w) A (execs body env)
          (fun f s₄ => match f with | .next | .cont => (∃ m' news' h' tk', s₄ = { s₁ with heap := h', toks := tk' } ∧ Inv (i + 1) m' news' ∧ Fr h₀ L h' m' ∧ News h₀ L h' ((I, oI) :: (D, listOf items nD) :: news')) | .brk => Q .next s₄ | .ret v => Q (.ret v) s₄) (fun _ _ => False) s₃) (fun _ _ => False) { s₁ with heap := h, toks := tk })) E s)
    (hs : ∀ x, foldedSetIterable iter env x = pure x := by intro _; rfl) : wpG (model prog w) A (exec (.For (.Name x px) iter body [] pos) env) Q E s := by
  refine g_For (g_mono hiter (fun y s₁ hy => ?_) fun _ _ x => x) hs
  obtain ⟨D, items, nD, m, news, Inv, rfl, F, N, h0, hap, hnil, hstep⟩ := hy
  have zD := N (D, listOf items nD) (.head _)
  refine wpAny_pyIter_list ⟨_, zD.1, rfl, nD, rfl⟩ ?_
  have N1 := N.push F { cls := .type "list_iterator", data := .fields #[.ref D, .int 0 0] }
  have hDI : @LT.lt Nat _ D s₁.heap.objs.size := Heap.lt_size zD.1
  refine g_loopList (D := D) (items := items) (nD := nD) (h₀ := h₀) (L := L) hh hDI Inv hap (fun m news h tk hI F N => hnil m news h tk hI F N) (fun i v m news h tk oI hi hv hI F N => ?_) ⟨m, news, _, s₁.toks, _, rfl, rfl, rfl, h0, F.push _, N1⟩
  exact hstep _ i v m news h tk oI hDI hi hv hI F N
end
end Mine
end
section
open PySem PySem.W PyProof.Rows PySem.Calls PySem.Spec
set_option Elab.async false
set_option linter.all false
set_option maxRecDepth 100000
set_option maxHeartbeats 8000000
namespace Mine
theorem k_encV {w : World} {v : Value} {b : Array UInt8} {ks : List Int} {M : Int} {z : Nat} {tm : Tok} {mg mb : Str → Option Value} {mean : ExcName → Option Value} {loose : List Str} {dp un : Nat} {gd : Option (List Code)} {outer : List Env} {base g₀ : Heap} {s : Shared} {L a : Addr} {m : Str → Option Value} {news : List (Addr × Obj)}
    {cn : Str} {cs : Scope} {ccd : Value} {Q E : Value → Shared → Prop} (B : Below (arnd dp un gd outer) base outer g₀) (F : Fr g₀ L s.heap m) (N : News g₀ L s.heap news) (X : (hd03.heap_1 w.params).In g₀) {p : Program} (T : Top p loose mean mg mb g₀) (hck : cs.kind = .function)
    (hv : Buf s.heap v b) (hk : KBw.bInts b = ks) (hl : ks.length ≤ 100000) (hM : 16 ≤ M ∧ M ≤ 76) (hz : M.fdiv 4 * 3 = (z : Int)) (hdp : dp + 70 < recursionLimit) (hu : un + 600 < cLine)
    (h : ∀ h' tk t c, Fr g₀ L h' m → News g₀ L h' news → KBw.bInts c = (rowsB ks z (cntB ks.length z)).flatten → Q (.bytes c t) { s with heap := h', toks := tk }) :
    wpAny (model PySem.Challenge.rw_ko0126_03.row.prog w) ((arnd dp un gd outer).deeper (envOf cn cs L a ccd)) (call (.ref 96) [v, .int M tm]) Q E s :=
  wpAny_call (enc v b tm ks M z mg mb mean loose (dp + 1) (un + 3) gd (envOf cn cs L a ccd :: outer) base s.heap s _ rfl (B.push F hck) (X.keeps F.keep) (T.keeps F.keep) hv hk hl hM hz
    (fun h' tk t c hkp hc => h h' tk t c (F.keptAll hkp) (N.grown hkp) hc) (by omega) (by omega))
/-- the line's limit -/
def widM (cw : Nat) : Int := if 76 - (cw : Int) > 16 then 76 - (cw : Int) else 16
theorem widM_ok (cw : Nat) : 16 ≤ widM cw ∧ widM cw ≤ 76 := by unfold widM; split <;> omega
def mI (lv : Nat) (ind : List UInt8) : List Int := KBw.bInts (mulB lv ind)
def lineI (lv : Nat) (ind : List UInt8) (r : List Int) : List Int := if r = [] then [] else mI lv ind ++ r ++ [10]
theorem lines_flat (lv : Nat) (ind : List UInt8) (rs : List (List Int)) (h : ∀ r ∈ rs, r ≠ []) : ((rs ++ [[]]).map (lineI lv ind)).flatten = (rs.map (fun r => mI lv ind ++ r ++ [10])).flatten := by
  rw [List.map_append, List.flatten_append]
  have e : ([[]].map (lineI lv ind)).flatten = [] := by simp [lineI]
  rw [e, List.append_nil]
  congr 1
  refine List.map_congr_left fun r hr => ?_
  unfold lineI
  rw [if_neg (h r hr)]
theorem take_line {lv : Nat} {ind : List UInt8} {ls : List (List Int)} {i : Nat} {r : List Int} (h : ls[i]? = some r) : ((ls.take (i + 1)).map (lineI lv ind)).flatten = ((ls.take i).map (lineI lv ind)).flatten ++ lineI lv ind r := by
  rw [List.take_add_one, h]
  simp
theorem row_ok {ks : List Int} (h : ∀ k ∈ ks, 0 ≤ k ∧ k < 256) {z i : Nat} (hz : 1 ≤ z) (hz2 : z ≤ 57) (hi : i ≤ cntB ks.length z) : ∀ r ∈ rowsS ks z i, r ≠ [] ∧ r.length ≤ 80 := fun r hr => by
  obtain ⟨j, hj, e⟩ := List.mem_iff_getElem.mp hr
  have hj2 : j < i := by
    have := hj
    unfold rowsS at this
    rw [List.length_map, List.length_range] at this
    exact this
  obtain ⟨r', e', hl⟩ := rowsS_len h z i j hj2
  have e2 : r' = r := by
    rw [List.getElem?_eq_getElem hj] at e'
    rw [← e]
    exact (Option.some.inj e').symm
  subst e2
  have hlt := cntB_lt (n := ks.length) (z := z) (i := j) (by omega)
  have hpos : 1 ≤ min z (ks.length - j * z) := by omega
  have hle : min z (ks.length - j * z) ≤ 57 := by omega
  refine ⟨fun e3 => ?_, by omega⟩
  rw [e3] at hl
  simp at hl
  omega
theorem k_truZ {prog : Program} {w : World} {A : Around} {E : Value → Shared → Prop} {s : Shared} {b : Array UInt8} {t : Tok} {Q : Bool → Shared → Prop} (hb : b.size = 0) (h : ∀ k, Q false { s with toks := k }) : wpAny (model prog w) A (truthy (.bytes b t)) Q E s := by
  refine KBw.truthy_K (ks := KBw.bInts b) rfl (by rw [KBw.ints_length]; omega) ?_
  have e : decide (0 < (KBw.bInts b).length) = false := by rw [KBw.ints_length]; exact decide_eq_false (by omega)
  rw [e]
  exact h _
structure WM (m : Str → Option Value) (W : Addr) : Prop where
  self : m "self" = some (.ref W)
local macro_rules | `(tactic| walk_at "call ref") => `(tactic| (k_here; refine wpAny_call ?_; k_dflt (refine' code_def ?k1 ?k2 ?k3 ?k4 ?k5 ?kA ?kF ?kK ?k6 ?k7 ?k8 ?k9 ?kB ?_ ?c2 ?c3 ?c4 ?c5; (case kA => exact rfl); (case kF => exact rfl); (case kK => exact rfl); (case k2 => assumption); (case k4 => assumption); (case k1 => assumption); (case k3 => assumption); (case k5 => assumption); (case k6 => k_is); (case k7 => k_is); (case k8 => ktr_room); (case k9 => exact BindsTo.of_eq rfl); (case c5 => decide); (case kB => exact locs rfl); (case c2 => exact rfl); (case c3 => exact rfl); (case c4 => exact rfl); k_whole; intro g' L' h' FG' F' N' B' X' T'; (try dsimp only); (try k_lift B'); (try k_fold))))
local macro_rules | `(tactic| walk_at "getMethod bytes") => `(tactic| (k_here; (with_reducible show wpAny _ _ (getMethod (Value.bytes _ _) (PySem.Str.ofString "expandtabs") _) _ _ _); k_dflt (refine k_getexp ?_)))
local macro_rules | `(tactic| walk_at "getMethod bytes") => `(tactic| (k_here; (with_reducible show wpAny _ _ (getMethod (Value.bytes _ _) (PySem.Str.ofString "split") _) _ _ _); k_dflt (refine k_getsplit ?_)))
local macro_rules | `(tactic| walk_at "call builtin:bytes.expandtabs") => `(tactic| (k_here; k_dflt (refine k_exp (by omega) (by omega) ?_); intro t'))
local macro_rules | `(tactic| walk_at "call builtin:bytes.split") => `(tactic| (k_here; refine hold ?_))
local macro_rules | `(tactic| walk_at "call ref") => `(tactic| (k_here; (with_reducible show wpAny _ _ (call (Value.ref 96) _) _ _ _); refine hold ?_))
local macro_rules | `(tactic| walk_at "binaryOp Mult bytes int") => `(tactic| (k_here; k_dflt (refine k_mulB (by omega) (by omega) ?_); intro t' k'))
local macro_rules | `(tactic| walk_at "eval Name") => `(tactic| (k_here; (with_reducible show wpAny _ _ (eval (Expr.Name _ _) _) _ _ _); (rename WM _ _ => zM); (rename Fr _ _ _ _ => zF); k_dflt (refine ld zF (by with_unfolding_all exact zM.self) ?_)))
local macro_rules | `(tactic| walk_at "truthy bytes") => `(tactic| (k_here; k_dflt (first | refine k_truB (by assumption) (by omega) ?_ | refine k_truZ (by assumption) ?_); intro k'))
theorem wby {w : World} {env : Env} {dp un : Nat} {gd : Option (List Code)} {outer : List Env} {base g₀ : Heap} {s : Shared} {L : Addr} {m mg mb : Str → Option Value} {mean : ExcName → Option Value} {loose : List Str} {p : Program} {R : Result → Shared → Prop}
    {W d I dX U S : Addr} {y1 y2 u z1 z2 z3 z4 z5 z6 z7 u3 u4 : Tok} {v : Value} {b b0 : Array UInt8} {ks : List Int} {nS : Nat} {n zl : Int} {lv cw z : Nat} {ind : List UInt8}
    (B : Below (arnd dp un gd outer) base outer g₀) (hf : env.frame = some L) (hke : env.scope.kind = .function) (F : Fr g₀ L s.heap m) (X : (hd03.heap_1 w.params).In g₀) (T : Top p loose mean mg mb g₀)
    (N : News g₀ L s.heap [(S, listOf #[] nS), (W, instObj 214 d), (d, wrD w I S zl ind z1 z2 z3 z4 z5 z6 z7 u3 u4), (I, instObj 517 dX), (dX, ioD w U n y1 y2 u), (U, baObj b0)]) (hn : n = (b0.size : Int)) (l1 : @LT.lt Nat _ dX I) (l2 : @LT.lt Nat _ I U) (l3 : @LT.lt Nat _ U d) (l4 : @LT.lt Nat _ d W) (l5 : @LT.lt Nat _ W S)
    (hv : Buf s.heap v b) (hva : ∀ a, v = .ref a → a ∉ [S, W, d, I, dX, U]) (hk : KBw.bInts b = ks) (hl : ks.length ≤ 5000)
    (hcw : (tabsB (mulB lv ind).toList).size = cw) (hcw2 : cw ≤ 120) (hzz : (widM cw).fdiv 4 * 3 = (z : Int))
    (hzl : zl = ((lv : Nat) : Int)) (hlv : lv ≤ 12) (hind : ind.length ≤ 4) (hz : b0.size ≤ 1000000) (hdp : dp + 80 < recursionLimit) (hu : un + 700 < cLine)
    (hfin : ∀ h' tk u' u3' nS' n' zl' b', n' = (b'.size : Int) → zl' = ((lv : Nat) : Int) →
      KBw.bInts b' = KBw.bInts b0 ++ (mI lv ind ++ [60, 100, 97, 116, 97, 62, 10]) ++ ((rowsS ks z (cntB ks.length z)).map (fun r => mI lv ind ++ r ++ [10])).flatten ++ (mI lv ind ++ [60, 47, 100, 97, 116, 97, 62, 10]) →
      Fr g₀ L h' m → News g₀ L h' [(S, listOf #[] nS'), (W, instObj 214 d), (d, wrD w I S zl' ind z1 z2 z3 z4 z5 z6 z7 u3' u4), (I, instObj 517 dX), (dX, ioD w U n' y1 y2 u'), (U, baObj b')] →
      (∀ a o, s.heap.get? a = some o → a ∉ [S, W, d, I, dX, U] → h'.get? a = some o) → R (.ok (.ret .none)) { s with heap := h', toks := tk }) :
    codeG (model PySem.Challenge.rw_ko0126_03.row.prog w) ((arnd dp un gd outer).deeper env) (.call (.ref 197) ⟨[.ref W, v], []⟩) R s := by
  subst hzl hcw
  w_top off
  obtain ⟨g, gens₀, drawn₀, toks₀, os₀⟩ := s
  dsimp only at *
  have hm := mulB_size lv ind
  have hm2 := Nat.mul_le_mul hlv hind
  revert X; k_fill; intro X
  refine' gc_defK B F X N T rfl hf hke ?k6 ?k7 ?k8 ?k9 ?kB ?_ ?c2 ?c3 ?c4 ?c5
  case k6 => k_is
  case k7 => k_is
  case k8 => ktr_room
  case k9 => exact BindsTo.of_eq rfl
  case c5 => decide
  case kB => exact locs rfl
  case c2 => exact rfl
  case c3 => exact rfl
  case c4 => exact rfl
  k_whole
  intro g' L' h' FG' F' N' B' X' T' hkeep
  have hvg : Buf g' v b := by
    rcases hv with ⟨t, e⟩ | ⟨a, e, ha⟩
    · exact .inl ⟨t, e⟩
    · exact .inr ⟨a, e, hkeep _ _ ha (hva a e)⟩
  (try dsimp only)
  (try k_lift B')
  (try k_fold)
  refine g_cons (g_Expr (g_MethodCall ?_))
  k_steps
  dsimp only
  refine' g_callWith_K (K := hd03.heap_1 w.params) ?hk1 ?_
  case hk1 => k_is
  k_steps
  refine g_call (beg (tf := 0) (dp := dp + 1) (un := un + 3) (lv := lv) (by assumption) rfl rfl F' X' T' N' hn l1 l2 l3 l4 l5 rfl (by omega) hind (by simp) (by omega) (by omega) (by omega) ?_)
  intro h1 tk1 u1 u31 nS1 n1 zl1 hn1 hzl1 F1 N1 hk1
  clear F' N'
  dsimp only
  refine g_cons (g_any ?_)
  k_steps
  dsimp only
  have ezl : zl1 - 1 = (lv : Int) := by omega
  rename News _ _ _ _ => zN
  rw [ezl] at zN
  refine g_cons (g_any ?_)
  k_steps
  dsimp only
  refine g_cons (g_ForList (h₀ := g') (L := L') rfl (g_any ?_))
  k_steps
  rename Fr _ _ _ _ => F3
  rename News _ _ _ _ => N3
  delta Hold
  refine k_encV (dp := dp + 1) (un := un + 3) (by assumption) F3 N3 X' T' rfl (hvg.keep F3.keep) hk (by omega) (widM_ok _) hzz (by omega) (by omega) ?_
  intro h4 tk4 t4 c4 F4 N4 hc4
  clear F3 N3
  dsimp only
  k_steps
  rename Fr _ _ _ _ => F5
  rename News _ _ _ _ => N5
  have N6 : ∃ tS u32, News g' L' h4 [(S, listOf #[.str (Str.ofString "data") tS] nS1), (W, instObj 214 d), (d, wrD w I S (lv : Int) ind z1 z2 z3 z4 z5 z6 z7 u32 u4), (I, instObj 517 dX), (dX, ioD w U n1 y1 y2 u1), (U, baObj (b0 ++ (mulB lv ind ++ (#[60, 100, 97, 116, 97, 62] : Array UInt8) ++ #[10])))] := ⟨_, _, N5⟩
  have F6 : ∃ m6, Fr g' L' h4 m6 ∧ WM m6 W := ⟨_, F5, ⟨by with_unfolding_all rfl⟩⟩
  clear F5 N5 hk1
  obtain ⟨tS, u32, N6⟩ := N6
  obtain ⟨m6, F6, hW⟩ := F6
  have hin : ∀ k ∈ ks, 0 ≤ k ∧ k < 256 := by rw [← hk]; exact fun k hk => KBw.ints_in hk
  have hzb : 1 ≤ z ∧ z ≤ 57 := by
    have := widM_ok (tabsB (mulB lv ind).toList).size
    have e : (widM (tabsB (mulB lv ind).toList).size).fdiv 4 = (widM (tabsB (mulB lv ind).toList).size) / 4 := Int.fdiv_eq_ediv_of_nonneg _ (by decide)
    rw [e] at hzz
    omega
  have hcn := cntB_le ks.length z
  have hro := row_ok hin (i := cntB ks.length z) hzb.1 hzb.2 (Nat.le_refl _)
  have hc4l : c4.size ≤ 1000000 := by
    have e := congrArg List.length hc4
    rw [KBw.ints_length] at e
    have := rowsB_len (ks := ks) (z := z) (i := cntB ks.length z) (B := 118) (by omega)
    omega
  generalize hb1 : (b0 ++ (mulB lv ind ++ (#[60, 100, 97, 116, 97, 62] : Array UInt8) ++ #[10])) = b1 at N6 hn1
  have hb1s : b1.size ≤ 1000200 := by rw [← hb1]; simp only [Array.size_append]; simp; omega
  have hb1i : KBw.bInts b1 = KBw.bInts b0 ++ (mI lv ind ++ [60, 100, 97, 116, 97, 62, 10]) := by
    rw [← hb1]
    refine KBw.ints_app rfl ?_
    rw [KBw.ints_app (KBw.ints_app (b := mulB lv ind) (c := (#[60, 100, 97, 116, 97, 62] : Array UInt8)) rfl rfl) rfl]
    show (mI lv ind ++ [60, 100, 97, 116, 97, 62]) ++ [10] = _
    simp
  delta Hold
  refine k_bsplit F6 N6 hc4l ?_
  intro D h7 vs k7 hvs F7 N7 hlt
  clear F6 N6
  rw [hc4, enc_split hin] at hvs
  have l6 : @LT.lt Nat _ S D := hlt _ (.head _)
  refine ⟨D, vs.toArray, 0, m6, _, fun i m news => WM m W ∧ ∃ acc nI uI, KBw.bInts acc = KBw.bInts b1 ++ (((rowsS ks z (cntB ks.length z) ++ [[]]).take i).map (lineI lv ind)).flatten ∧ acc.size ≤ 1000200 + i * 300 ∧ nI = (acc.size : Int) ∧
    news = [(S, listOf #[.str (Str.ofString "data") tS] nS1), (W, instObj 214 d), (d, wrD w I S (lv : Int) ind z1 z2 z3 z4 z5 z6 z7 u32 u4), (I, instObj 517 dX), (dX, ioD w U nI y1 y2 uI), (U, baObj acc)], rfl, F7, N7, ⟨hW, b1, n1, u1, by simp, by omega, hn1, rfl⟩, ?_, ?_, ?_⟩
  · intro i m news hI q hq
    obtain ⟨-, acc, nI, uI, -, -, -, rfl⟩ := hI
    simp only [List.mem_cons, List.not_mem_nil, or_false] at hq
    rcases hq with rfl | rfl | rfl | rfl | rfl | rfl <;> (show @LT.lt Nat _ _ _) <;> (first | exact l6 | omega)
  · intro m7 news7 h8 tk8 hI F8 N8
    obtain ⟨hW7, acc, nI, uI, hacc, hasz, hnI, rfl⟩ := hI
    clear F7 N7 hW
    have hlen : vs.length = cntB ks.length z + 1 := by
      rw [hvs.length]
      unfold rowsS
      simp
    have hasz9 : acc.size ≤ 5000000 := by
      have e : vs.toArray.size = cntB ks.length z + 1 := by rw [List.size_toArray, hlen]
      rw [e] at hasz
      omega
    dsimp only
    refine g_cons (g_any ?_)
    k_steps
    dsimp only
    refine g_cons (g_Expr (g_MethodCall ?_))
    k_steps
    dsimp only
    refine' g_callWith_K (K := hd03.heap_1 w.params) ?hk9 ?_
    case hk9 => k_is
    k_steps
    rename Fr _ _ _ _ => F9
    rename News _ _ _ _ => N9
    refine g_call (fin (its := #[]) (dp := dp + 1) (un := un + 3) (lv := lv) (by assumption) rfl rfl F9 X' T' N9 hnI l1 l2 l3 l4 l5 (by omega) (by omega) hind (by omega) (by omega) (by omega) ?_)
    intro h10 tk10 u10 u310 nS10 n10 zl10 hn10 hzl10 F10 N10 hk10
    clear F9 N9
    dsimp only
    refine g_execs_nil ?_
    refine leaveK_ F10 N10 fun kF kN => ?_
    refine hfin _ _ _ _ _ _ _ _ hn10 hzl10 ?_ kF kN fun a o ea ha => F10.keep a o (hkeep a o ea ha)
    rw [KBw.ints_app hacc (KBw.ints_app (KBw.ints_app (b := mulB lv ind) (c := (#[60, 47, 100, 97, 116, 97, 62] : Array UInt8)) rfl rfl) rfl), List.take_of_length_le (by rw [← hvs.length]; simp), lines_flat lv ind _ fun r hr => (hro r hr).1, hb1i]
    show _ ++ (mI lv ind ++ [60, 47, 100, 97, 116, 97, 62] ++ [10]) = _
    simp
  · intro Il i v6 m7 news7 h8 tk8 oI hDI hi hv6 hI F8 N8
    obtain ⟨hW7, acc, nI, uI, hacc, hasz, hnI, rfl⟩ := hI
    clear F7 N7 hW
    have hlen : vs.length = cntB ks.length z + 1 := by
      rw [hvs.length]
      unfold rowsS
      simp
    rw [List.size_toArray] at hi
    obtain ⟨c, t, r, rfl, hr, hc⟩ := hvs.at i v6 (by simpa using hv6)
    have hcs : c.size = r.length := by rw [← KBw.ints_length, hc]
    have hrl : r.length ≤ 80 := by
      rcases List.mem_append.mp (List.mem_of_getElem? hr) with h | h
      · exact (hro r h).2
      · rw [List.mem_singleton.mp h]; simp
    k_steps
    refine g_cons (g_If ?_)
    by_cases hc0 : c.size = 0
    · k_steps
      rename Fr _ _ _ _ => F9
      rename News _ _ _ _ => N9
      refine g_execs_nil (g_execs_nil ?_)
      have hr0 : r = [] := List.eq_nil_of_length_eq_zero (by omega)
      refine ⟨_, _, _, _, rfl, ⟨⟨by with_unfolding_all exact hW7.self⟩, acc, nI, uI, ?_, by omega, hnI, rfl⟩, F9, N9⟩
      rw [take_line hr, hacc, hr0]
      simp [lineI]
    · k_steps
      dsimp only
      refine g_cons (g_Expr (g_MethodCall ?_))
      k_steps
      dsimp only
      refine' g_callWith_K (K := hd03.heap_1 w.params) ?hk9 ?_
      case hk9 => k_is
      k_steps
      rename Fr _ _ _ _ => F9
      rename News _ _ _ _ => N9
      rename WM _ _ => hW9
      refine' g_wln_b (dp := dp + 1) (un := un + 3) (lv := lv) ?eB1 rfl rfl F9 X' T' N9 ?eW1 ?ed1 ?eI1 ?eU1 ?eV1 hnI l1 l2 l3 l4 rfl (by omega) hind hc0 (by omega) (by omega) (by omega) (by omega) ?_
      case eB1 => assumption
      case eW1 => k_mem
      case ed1 => k_mem
      case eI1 => k_mem
      case eU1 => k_upd
      case eV1 => (intro n1 u1; k_upd)
      intro h10 tk10 u10 n10 hn10 F10 N10
      refine g_execs_nil (g_execs_nil ?_)
      have hr0 : r ≠ [] := fun e => hc0 (by rw [hcs, e]; rfl)
      refine ⟨_, _, _, _, rfl, ⟨⟨by with_unfolding_all exact hW9.self⟩, _, n10, u10, ?_, ?_, hn10, rfl⟩, F10, N10⟩
      · rw [take_line hr, ← List.append_assoc]
        refine KBw.ints_app hacc ?_
        unfold lineI
        rw [if_neg hr0]
        exact KBw.ints_app (KBw.ints_app rfl hc) rfl
      · simp only [Array.size_append]
        simp
        omega
end Mine
end
section
open PySem PySem.W PyProof.Rows PySem.Calls PySem.Spec
set_option Elab.async false
set_option linter.all false
set_option maxRecDepth 100000
set_option maxHeartbeats 4000000
namespace Mine
theorem pk1 (w : World) (P : Program) : peek (hd03.heap_1 w.params) ⟨P, w.params⟩ (Bind.madeHere "object.__new__" (.ref 517)) = some () := by kernel_rfl
theorem pk2 (w : World) (P : Program) : peek (hd03.heap_1 w.params) ⟨P, w.params⟩ (Bind.madeBy (.ref 517)) = some none := by kernel_rfl
theorem pk4 (w : World) (P : Program) : peek (hd03.heap_1 w.params) ⟨P, w.params⟩ (specialOf (.ref 517) "__call__") = some (some (.builtin "type.__call__")) := by kernel_rfl
theorem pk6 (w : World) (P : Program) : peek (hd03.heap_1 w.params) ⟨P, w.params⟩ (typeLookup (.ref 517) "__init__") = some (some (.ref 304)) := by kernel_rfl
theorem pk7 (w : World) (P : Program) : peek (hd03.heap_1 w.params) ⟨P, w.params⟩ (isSubtype (.ref 517) (.ref 517)) = some true := by kernel_rfl
theorem pk8 (w : World) (P : Program) : peek (hd03.heap_1 w.params) ⟨P, w.params⟩ (isInstance (.ref 517) (.type "type")) = some true := by kernel_rfl
theorem pk9 (w : World) (P : Program) : peek (hd03.heap_1 w.params) ⟨P, w.params⟩ (isType (.ref 517)) = some true := by kernel_rfl
end Mine
end
section
open PySem PySem.W PyProof.Rows PySem.Calls PySem.Spec
open Builtin Builtin.ObjectAttr Builtin.Getset_descriptor
set_option Elab.async false
set_option linter.all false
set_option maxRecDepth 100000
set_option maxHeartbeats 4000000
namespace Mine
section
variable {P : Program} {w : World} {A : Around} {R : Result → Shared → Prop} {h : Heap} {g : Array GenState} {d : Drawn} {t : Nat} {os : OsState}
theorem new517 (X : (hd03.heap_1 w.params).In h) (hq : R (.ok (.ret (.ref (h.objs.size + 1)))) ⟨(h.push emptyDict).push (instObj 517 h.objs.size), g, d, t, os⟩) :
    codeAny (model P w) A (.call (.builtin "object.__new__") ⟨[.ref 517], []⟩) R ⟨h, g, d, t, os⟩ := by
  obtain ⟨oc, od, cd, sl, hC, e1, e2, e4⟩ : ∃ oc od cd sl, h.get? 517 = some ⟨oc, od, .cls cd, sl⟩ ∧ cd.abstract = false ∧ cd.hasDel = false ∧ cd.mro.isEmpty = false := ⟨_, _, _, _, X 517 _ rfl, rfl, rfl, rfl⟩
  have F := PySem.F.objNew
  refine codeAny_call_builtin_code (Code.quiet_builtin _ F.quiet) ?_
  simp only [checkBuiltinCall, F.kind, F.split, F.row]
  have typ : Looks (model P w) h (isType (.ref 517)) true := Looks.of_peek X (pk9 w P)
  have ity : Looks (model P w) h (isInstance (.ref 517) (.type "type")) true := Looks.of_peek X (pk8 w P)
  have self : Looks (model P w) h (isSubtype (.ref 517) (.ref 517)) true := Looks.of_peek X (pk7 w P)
  have top : Looks (model P w) h (isSubtype (.ref 517) (.type "object")) true := Looks.of_peek (K := hd03.heap_1 w.params) X (by kernel_rfl)
  have here : Looks (model P w) h (Bind.madeHere "object.__new__" (.ref 517)) () := Looks.of_peek X (pk1 w P)
  have base : Looks (model P w) h (Bind.staticBase (.ref 517)) (.type "object") := Looks.of_peek (K := hd03.heap_1 w.params) X (by kernel_rfl)
  have mobj : Looks (model P w) h (Bind.madeBy (.type "object")) (some "object.__new__") := Looks.of_peek (K := hd03.heap_1 w.params) X (by kernel_rfl)
  have m517 : Looks (model P w) h (Bind.madeBy (.ref 517)) none := Looks.of_peek X (pk2 w P)
  have args : Bind.checkArgs "object.__new__" ⟨.hand, "object.__new__", "__new__", .cls, []⟩ ⟨[.ref 517], []⟩ = pure () := by kernel_rfl
  rw [args]
  repeat (first | simp only [bne_self_eq_false, Bool.false_eq_true, if_false] | lk)
  refine codeAny_builtin F.entry ?_
  unfold Builtin.«object.__new__»
  have hC' := Heap.get?_push_of_some (instObj 517 (h.push emptyDict).objs.size.pred) (Heap.get?_push_of_some emptyDict hC)
  have fin : ∀ A', wpAny (model P w) A' (do
      let d ← if typeHasDict (.ref 517) then some <$> alloc { cls := .type "dict", data := .dict #[] } else pure none
      ret (← newObj (.ref 517) .plain d)) (fun fin s' => match fin with | .done f => R (.ok f) s' | .again c' => c'.quiet = true ∧ codeAny (model P w) A c' R s') (fun e s' => R (.error e) s') ⟨h, g, d, t, os⟩ := by
    intro A'
    show wpAny _ _ ((alloc emptyDict >>= fun x => pure (some x)) >>= _) _ _ _
    refine wpAny_bind (wpAny_bind (wpAny_alloc (wpAny_pure (wpAny_bind ?_))))
    show wpAny _ _ (newObjAsIs _ _ _) _ _ _
    unfold newObjAsIs classHasDel
    refine wpAny_bind (wpAny_alloc (wpAny_bind (wpAny_bind (wpAny_load (Heap.get?_push_of_some _ (Heap.get?_push_of_some _ hC)) (wpAny_pure ?_)))))
    rw [e2]
    refine wpAny_pure (wpAny_pure ?_)
    show R _ _
    rw [Heap.size_push]
    exact hq
  repeat (first | simp only [e1, Bool.false_eq_true, if_false] | exact fin _ | lk)
end
end Mine
end
section
set_option hygiene true
open PySem PySem.W PyProof.Rows PySem.Calls PySem.Spec
set_option Elab.async false
set_option linter.all false
set_option maxRecDepth 100000
set_option maxHeartbeats 8000000
namespace Mine
theorem k_obn {P : Program} {w : World} {A : Around} {E : Value → Shared → Prop} {s : Shared} {h₀ : Heap} {L : Addr} {m : Str → Option Value} {news : List (Addr × Obj)} {Q : Value → Shared → Prop} (F : Fr h₀ L s.heap m) (N : News h₀ L s.heap news) (X : (hd03.heap_1 w.params).In h₀)
    (h : ∀ I dX h', Fr h₀ L h' m → News h₀ L h' ((I, instObj 517 dX) :: (dX, emptyDict) :: news) → (∀ p ∈ news, p.1 < dX) → @LT.lt Nat _ dX I → Q (.ref I) { s with heap := h' }) :
    wpAny (model P w) A (call (.builtin "object.__new__") [.ref 517]) Q E s := by
  obtain ⟨hh, g, d, t, os⟩ := s
  refine wpAny_call (new517 (X.keeps F.keep) ?_)
  have := (N.push F emptyDict).push (F.push _) (instObj 517 hh.objs.size)
  rw [Heap.size_push] at this
  exact h _ hh.objs.size _ ((F.push _).push _) this (fun p hp => Heap.lt_size (N p hp).1) (Nat.lt_succ_self _)
local macro_rules | `(tactic| walk_at "call builtin:object.__new__") => `(tactic| (k_here; (rename News _ _ _ _ => zN); (rename Fr _ _ _ _ => zF); (rename Frag.In _ _ => zX); k_dflt (refine k_obn zF zN zX ?_); intro I' d' h' F' N' l1' l2'))
theorem bio_new {w : World} {env : Env} {dp un : Nat} {gd : Option (List Code)} {outer : List Env} {base g₀ : Heap} {s : Shared} {L : Addr} {m mg mb : Str → Option Value} {mean : ExcName → Option Value} {loose : List Str} {p : Program} {R : Result → Shared → Prop} {news : List (Addr × Obj)}
    (B : Below (arnd dp un gd outer) base outer g₀) (hf : env.frame = some L) (hke : env.scope.kind = .function) (F : Fr g₀ L s.heap m) (X : (hd03.heap_1 w.params).In g₀) (T : Top p loose mean mg mb g₀) (N : News g₀ L s.heap news)
    (hdp : dp + 20 < recursionLimit) (hu : un + 100 < cLine)
    (hfin : ∀ I dX h' tk, Fr g₀ L h' m → News g₀ L h' ((I, instObj 517 dX) :: (dX, emptyDict) :: news) → (∀ p ∈ news, p.1 < dX) → @LT.lt Nat _ dX I → R (.ok (.ret (.ref I))) { s with heap := h', toks := tk }) :
    codeAny (model PySem.Challenge.rw_ko0126_03.row.prog w) ((arnd dp un gd outer).deeper env) (.call (.ref 257) ⟨[.ref 517], []⟩) R s := by
  w_top off
  obtain ⟨g, gens₀, drawn₀, toks₀, os₀⟩ := s
  dsimp only at *
  revert X; k_fill; intro X
  refine' kp_both B F X N T rfl hf hke ?k6 ?k7 ?k8 ?kV ?kX ?kQ ?kM ?kN ?kD ?kR ?kP ?kS ?kT ?kB ?_ ?c2 ?c3 ?c4 ?c5
  case k6 => k_is
  case k7 => k_is
  case k8 => ktr_room
  case kV => kp_lit
  case kX => kp_lit
  case kQ => exact rfl
  case kM => exact rfl
  case kN => exact rfl
  case kD => kp_flats
  case kR => exact rfl
  case kP => exact rfl
  case kS => exact fun _ => rfl
  case kT => exact fun _ _ => rfl
  case kB => exact fun _ _ => locs rfl
  case c5 => decide
  case c2 => exact rfl
  case c3 => exact rfl
  case c4 => exact rfl
  k_whole
  intro C' D' o' g' L' h' tk' l1 l2 lo' hs' fs' FG' F' N' B' X' T'
  (try k_lt l1)
  (try k_lt2 l2)
  (try dsimp only)
  (try k_lift B')
  (try k_fold)
  k_steps
  rename_i I9 d9 h9 F9 N9 l19 l29 kF kN Tc kX
  refine hfin I9 d9 h9 _ kF (fun p hp => kN p ?_) (fun p hp => l19 p (.tail _ (.tail _ hp))) l29
  rcases List.mem_cons.mp hp with rfl | hp
  · exact .head _
  rcases List.mem_cons.mp hp with rfl | hp
  · exact .tail _ (.head _)
  · exact .tail _ (.tail _ (.tail _ (.tail _ hp)))
end Mine
end
section
open PySem PySem.W PyProof.Rows PySem.Calls PySem.Spec
set_option Elab.async false
set_option linter.all false
set_option maxRecDepth 100000
set_option maxHeartbeats 8000000
namespace Mine
section
variable {prog : Program} {w : World} {A : Around} {E : Value → Shared → Prop} {s : Shared} {env : Env}
theorem g_callWith_M0 {pos : Pos} {f : Value} {first : List Value} {args : List (Bool × Sem Value)} {Q : Value → Shared → Prop} (hst : args.any (·.1) = false) (he : evalArgs f true args [] = pure ⟨[], []⟩)
    (h : wpAny (model prog w) A (keeperOf f) (fun k s₂ => k = .machine ∧ wpG (model prog w) A (call f first) Q E s₂) E s) :
    wpG (model prog w) A (callWith pos f first args []) Q E s := by
  unfold callWith
  refine g_bind (g_holding (g_any (wpAny_of_eq he ?_)))
  refine g_bind (g_any (wpAny_standAt ?_))
  simp only [hst, List.any_nil, Bool.or_false, List.append_nil]
  refine g_bind (g_any (wpAny_mono h (fun k s₂ h₂ => ?_) fun _ _ x => x))
  obtain ⟨rfl, h₂⟩ := h₂
  exact g_bind (g_mono h₂ (fun r s₂ hr => g_bind (g_any (wpAny_holding (wpAny_point (g_pure hr))))) fun _ _ x => x)
theorem g_callWith_M {pos : Pos} {f : Value} {first : List Value} {e : Expr} {rest : List Expr} {Q : Value → Shared → Prop}
    (h : wpAny (model prog w) A (spliced (backTo pos (starEach (e :: rest) env))) (fun vs s₁ => wpAny (model prog w) A (keeperOf f) (fun k s₂ => k = .machine ∧ wpG (model prog w) A (call f (first ++ vs)) Q E s₂) E s₁) E s)
    (he : starEach (e :: rest) env = (false, eval e env) :: starEach rest env := by rfl) (hplain : (backTo pos (starEach rest env)).any (·.1) = false := by rfl) :
    wpG (model prog w) A (callWith pos f first (backTo pos (starEach (e :: rest) env)) []) Q E s := by
  rw [he] at h ⊢
  have hst : (backTo pos ((false, eval e env) :: starEach rest env)).any (·.1) = false := by show (false || (backTo pos (starEach rest env)).any (·.1)) = false; rw [hplain]; rfl
  unfold callWith
  refine g_bind (g_holding (g_any (evalArgs_plain (wpAny_mono h (fun vs s₁ h₁ => ?_) fun _ _ x => x))))
  refine g_bind (g_any (wpAny_standAt ?_))
  simp only [hst, List.any_nil, Bool.or_false]
  refine g_bind (g_any (wpAny_mono h₁ (fun k s₂ h₂ => ?_) fun _ _ x => x))
  obtain ⟨rfl, h₂⟩ := h₂
  exact g_bind (g_mono h₂ (fun r s₂ hr => g_bind (g_any (wpAny_holding (wpAny_point (g_pure hr))))) fun _ _ x => x)
end
local macro_rules | `(tactic| walk_at "call ref") => `(tactic| (k_here; refine wpAny_call ?_; k_dflt (refine' code_def ?k1 ?k2 ?k3 ?k4 ?k5 ?kA ?kF ?kK ?k6 ?k7 ?k8 ?k9 ?kB ?_ ?c2 ?c3 ?c4 ?c5; (case kA => exact rfl); (case kF => exact rfl); (case kK => exact rfl); (case k2 => assumption); (case k4 => assumption); (case k1 => assumption); (case k3 => assumption); (case k5 => assumption); (case k6 => k_is); (case k7 => k_is); (case k8 => ktr_room); (case k9 => exact BindsTo.of_eq rfl); (case c5 => decide); (case kB => exact locs rfl); (case c2 => exact rfl); (case c3 => exact rfl); (case c4 => exact rfl); k_whole; intro g' L' h' FG' F' N' B' X' T'; (try dsimp only); (try k_lift B'); (try k_fold))))
theorem bio_init {w : World} {env : Env} {dp un : Nat} {gd : Option (List Code)} {outer : List Env} {base g₀ : Heap} {s : Shared} {L : Addr} {m mg mb : Str → Option Value} {mean : ExcName → Option Value} {loose : List Str} {p : Program} {R : Result → Shared → Prop} {news : List (Addr × Obj)} {I dX : Addr}
    (B : Below (arnd dp un gd outer) base outer g₀) (hf : env.frame = some L) (hke : env.scope.kind = .function) (F : Fr g₀ L s.heap m) (X : (hd03.heap_1 w.params).In g₀) (T : Top p loose mean mg mb g₀) (N : News g₀ L s.heap [(I, instObj 517 dX), (dX, emptyDict)])
    (l1 : @LT.lt Nat _ dX I) (hdp : dp + 20 < recursionLimit) (hu : un + 100 < cLine)
    (hfin : ∀ U h' tk y1 y2 u, Fr g₀ L h' m → News g₀ L h' [(I, instObj 517 dX), (dX, ioD w U 0 y1 y2 u), (U, baObj #[])] → @LT.lt Nat _ I U → (∀ a o, s.heap.get? a = some o → a ∉ [I, dX] → h'.get? a = some o) → R (.ok (.ret .none)) { s with heap := h', toks := tk }) :
    codeG (model PySem.Challenge.rw_ko0126_03.row.prog w) ((arnd dp un gd outer).deeper env) (.call (.ref 304) ⟨[.ref I], []⟩) R s := by
  w_top off
  obtain ⟨g, gens₀, drawn₀, toks₀, os₀⟩ := s
  dsimp only at *
  revert X; k_fill; intro X
  refine' gc_defK B F X N T rfl hf hke ?k6 ?k7 ?k8 ?k9 ?kB ?_ ?c2 ?c3 ?c4 ?c5
  case k6 => k_is
  case k7 => k_is
  case k8 => ktr_room
  case k9 => exact BindsTo.of_defaults rfl ((X.keeps F.keep) 297 _ rfl) rfl rfl rfl
  case c5 => decide
  case kB => exact locs rfl
  case c2 => exact rfl
  case c3 => exact rfl
  case c4 => exact rfl
  k_whole
  intro g' L' h' FG' F' N' B' X' T' hkeep
  (try dsimp only)
  (try k_lift B')
  (try k_fold)
  refine g_cons (g_any ?_)
  k_steps
  dsimp only
  refine g_cons (g_Assign_Attr (g_IfExp ?_))
  k_steps
  refine g_Call ?_
  k_steps
  rename Fr _ _ _ _ => zF
  rename News _ _ _ _ => zN
  refine g_callWith_M0 rfl rfl (wpAny_pure ⟨rfl, ?_⟩)
  refine g_ba0 zF zN fun U h1 F1 N1 lU => ?_
  clear zF zN
  have l2 : @LT.lt Nat _ I U := lU _ (.head _)
  dsimp only
  k_steps
  dsimp only
  refine g_cons (g_any ?_)
  k_steps
  dsimp only
  refine g_execs_nil ?_
  rename Fr _ _ _ _ => zF
  rename News _ _ _ _ => zN
  have zN2 : ∃ y1 y2 u, News g' L' _ [(I, instObj 517 dX), (dX, ioD w U 0 y1 y2 u), (U, baObj #[])] := ⟨_, _, _, zN.perm fun p hp => by
    simp only [List.mem_cons, List.not_mem_nil, or_false] at hp ⊢
    rcases hp with rfl | rfl | rfl
    · exact .inr (.inl rfl)
    · exact .inr (.inr rfl)
    · exact .inl rfl⟩
  obtain ⟨y1, y2, u, zN2⟩ := zN2
  refine leaveK_ zF zN2 fun kF kN => ?_
  exact hfin U _ _ _ _ _ kF kN l2 fun a o ea ha => zF.keep a o (hkeep a o ea ha)
end Mine
end
section
open PySem PySem.W PyProof.Rows PySem.Calls PySem.Spec
set_option Elab.async false
set_option linter.all false
set_option maxRecDepth 100000
set_option maxHeartbeats 8000000
namespace Mine
section
variable {prog : Program} {w : World} {A : Around} {s : Shared}
theorem g_load {M : Model} {α : Type} {E : Value → Shared → Prop} {Q : α → Shared → Prop} {a : Addr} {p : Option Value} {k : Obj → Sem α} {o : Obj} (ho : s.heap.get? a = some o) (h : wpG M A (k o) Q E s) : wpG M A (.load a p k) Q E s := fun Γ q hΓ hC => ⟨o, ho, h Γ q hΓ hC⟩
theorem gc_call_builtin_at {R : Result → Shared → Prop} {id : String} {args : Args} {b : Builtin} (hq : (Code.builtin id args).quiet = true) (hd : isDecId id = false) (hb : entryFor table id = some b)
    (h : wpG (model prog w) A.in1 (checkBuiltinCall id args) (fun _ s₁ => wpG (model prog w) (A.under (.builtin id args)) (b args)
      (fun fin s' => match fin with | .done f => R (.ok f) s' | .again c' => c'.quiet = true ∧ isDec c' = false ∧ codeG (model prog w) A c' R s') (fun e s' => R (.error e) s') s₁)
      (fun e s' => R (.error e) s') s) : codeG (model prog w) A (.call (.builtin id) args) R s := by
  refine gc_tree ?_
  show wpG _ A.in1 (do checkBuiltinCall id args; again (.builtin id args)) _ _ s
  refine g_bind (g_mono h (fun _ s₁ h₁ => g_pure ⟨hq, hd, gc_builtin hb h₁⟩) fun _ _ h' => h')
end
theorem g_bio {w : World} {env : Env} {dp un : Nat} {gd : Option (List Code)} {outer : List Env} {base g₀ : Heap} {s : Shared} {L : Addr} {m mg mb : Str → Option Value} {mean : ExcName → Option Value} {loose : List Str} {p : Program} {Q E : Value → Shared → Prop} {news : List (Addr × Obj)}
    (B : Below (arnd dp un gd outer) base outer g₀) (hf : env.frame = some L) (hke : env.scope.kind = .function) (F : Fr g₀ L s.heap m) (X : (hd03.heap_1 w.params).In g₀) (T : Top p loose mean mg mb g₀) (N : News g₀ L s.heap news)
    (hdp : dp + 30 < recursionLimit) (hu : un + 200 < cLine)
    (h : ∀ I dX U h' tk y1 y2 u, Fr g₀ L h' m → News g₀ L h' ([(I, instObj 517 dX), (dX, ioD w U 0 y1 y2 u), (U, baObj #[])] ++ news) → @LT.lt Nat _ dX I → @LT.lt Nat _ I U → (∀ p ∈ news, @LT.lt Nat _ p.1 dX) → Q (.ref I) { s with heap := h', toks := tk }) :
    wpG (model PySem.Challenge.rw_ko0126_03.row.prog w) ((arnd dp un gd outer).deeper env) (call (.ref 517) []) Q E s := by
  obtain ⟨hh, g, dr, t, os⟩ := s
  dsimp only at *
  have Xh := X.keeps F.keep
  obtain ⟨oc, od, cd, sl, hC, e1, e2, e4⟩ : ∃ oc od cd sl, hh.get? 517 = some ⟨oc, od, .cls cd, sl⟩ ∧ cd.abstract = false ∧ cd.hasDel = false ∧ cd.mro.isEmpty = false := ⟨_, _, _, _, Xh 517 _ rfl, rfl, rfl, rfl⟩
  have call : Looks (model PySem.Challenge.rw_ko0126_03.row.prog w) hh (specialOf (.ref 517) "__call__") (some (.builtin "type.__call__")) := Looks.of_peek Xh (pk4 w _)
  have typ : Looks (model PySem.Challenge.rw_ko0126_03.row.prog w) hh (isInstance (.ref 517) (.type "type")) true := Looks.of_peek Xh (pk8 w _)
  have m517 : Looks (model PySem.Challenge.rw_ko0126_03.row.prog w) hh (Bind.madeBy (.ref 517)) none := Looks.of_peek Xh (pk2 w _)
  have hmro : Looks (model PySem.Challenge.rw_ko0126_03.row.prog w) hh (mroOf (.ref 517)) [.ref 517, .ref 275, .ref 260, .type "object"] := Looks.of_peek (K := hd03.heap_1 w.params) Xh (by kernel_rfl)
  refine g_call (gc_tree ?_)
  show wpG _ _ (callAny (.ref 517) _) _ _ _
  refine g_load hC ?_
  show wpG _ _ (callAny.viaDunder (.ref 517) _) _ _ _
  unfold callAny.viaDunder
  refine g_bind (g_any (call.here ?_))
  dsimp only
  rw [tc_bind]
  refine g_bind (g_pure (g_bind (g_pure ?_)))
  refine g_pure (a := Fin.again (.call (.builtin "type.__call__") ⟨[.ref 517], []⟩)) ⟨rfl, rfl, ?_⟩
  refine gc_call_builtin_at (Code.quiet_builtin _ (by decide +kernel)) (by decide) entry_typeCall (g_any (check_slot tc_kind tc_split typ (tc_args _ _ _) ?_))
  unfold Builtin.«type.__call__»
  dsimp only
  refine g_neg (show ¬ ((Value.ref 517 == Value.type "type") = true) from Bool.false_ne_true) ?_
  refine g_bind (g_any (hmro.here ?_))
  refine g_neg (by simp) ?_
  refine g_bind (g_any (m517.here ?_))
  dsimp only
  refine g_bind (g_any (cls_sm (K := hd03.heap_1 w.params) (mc := .type "type") (p := 261) (f := .ref 257) (rest := []) F X (by kernel_rfl) (by kernel_rfl) (by kernel_rfl) (by kernel_rfl) (by kernel_rfl) ?_))
  have BU : Below (arnd (dp+1) (un+1) (((arnd dp un gd outer).deeper env).under (.builtin "type.__call__" ⟨[.ref 517],[]⟩)).guards outer) base outer g₀ := ⟨B.stack, B.stays, B.frames⟩
  refine g_bind (g_holding (g_call (gc_any ?_)))
  refine bio_new BU hf hke F X T N (by omega) (by omega) fun I dX h1 tk1 F1 N1 lo1 l1 => ?_
  have hI := (N1 (I, instObj 517 dX) (.head _)).1
  have X1 := X.keeps F1.keep
  have t1 : Looks (model PySem.Challenge.rw_ko0126_03.row.prog w) h1 (typeOf (.ref I)) (.ref 517) := (Looks.ld hI).andThen .now
  have s1 : Looks (model PySem.Challenge.rw_ko0126_03.row.prog w) h1 (isInstance (.ref I) (.ref 517)) true := t1.andThen (Looks.of_peek X1 (pk7 w _))
  have i1 : Looks (model PySem.Challenge.rw_ko0126_03.row.prog w) h1 (specialOf (.ref I) "__init__") (some (.ref 304)) := t1.andThen (Looks.of_peek X1 (pk6 w _))
  have b1 : Looks (model PySem.Challenge.rw_ko0126_03.row.prog w) h1 (bindSpecial (.ref 304) (.ref I)) (.ref 304, [.ref I]) := bind_fn X1 (.ref I) (by kernel_rfl)
  dsimp only
  refine g_bind (g_any (s1.here ?_))
  refine g_neg (by simp) ?_
  refine g_bind (g_holding ?_)
  unfold callSpecial?
  refine g_bind (g_any (i1.here ?_))
  refine g_holding ?_
  refine g_bind (g_any (b1.here ?_))
  have N2 : News g₀ L h1 [(I, instObj 517 dX), (dX, emptyDict)] := fun q hq => N1 q (by
    rcases List.mem_cons.mp hq with rfl | hq
    · exact .head _
    · rw [List.mem_singleton.mp hq]; exact .tail _ (.head _))
  refine g_bind (g_call (bio_init (news := []) BU hf hke F1 X T N2 l1 (by omega) (by omega) fun U h2 tk2 y1 y2 u F2 N3 l2 hk2 => ?_))
  dsimp only
  refine g_pure (g_neg (by simp) (g_pure ?_))
  refine h I dX U h2 tk2 y1 y2 u F2 (fun q hq => ?_) l1 l2 lo1
  rcases List.mem_append.mp hq with hq | hq
  · exact N3 q hq
  · have z := N1 q (.tail _ (.tail _ hq))
    refine ⟨hk2 _ _ z.1 fun hm => ?_, z.2⟩
    have hlt := lo1 q hq
    simp only [List.mem_cons, List.not_mem_nil, or_false] at hm
    rcases hm with e | e
    · exact absurd e (Nat.ne_of_lt (Nat.lt_trans hlt l1))
    · exact absurd e (Nat.ne_of_lt hlt)
end Mine
end
section
open PySem PySem.W PyProof.Rows PySem.Calls PySem.Spec
set_option Elab.async false
set_option linter.all false
set_option maxRecDepth 100000
set_option maxHeartbeats 4000000
namespace Mine
section
variable {prog : Program} {w : World} {A₀ A : Around} {s : Shared} {base h₀ : Heap} {outer : List Env} {L : Addr} {m : Str → Option Value} {env : Env} {news : List (Addr × Obj)} {K : Frag} {p : Program} {loose : List Str} {mean : ExcName → Option Value} {mg mb : Str → Option Value}
  {R : Result → Shared → Prop} {name qual : Str} {params : Arguments} {body : List Stmt} {scope : Scope} {dV kV doc pm cdv ct oc : Value} {an od : Option Addr} {osl : Array (Option Value)} {f : Addr} {args : Args} {binds : List (Str × Value)}
/-- a def with cells, called from a frame, all of the heap its ground -/
theorem code_defCK (B : Below A₀ base outer h₀) (F : Fr h₀ L s.heap m) (X₀ : K.In h₀) (T : Top p loose mean mg mb h₀) (hA : A.frames = some (env :: outer)) (hf : env.frame = some L) (hke : env.scope.kind = .function)
    (ho : K.lookup f = some ⟨oc, od, .func (fnOf name qual params body scope dV kV doc pm an cdv ct), osl⟩) (hcd : codeIn K cdv qual = true) (hroom : A.depth < recursionLimit)
    (hbind : BindsTo s (fnOf name qual params body scope dV kV doc pm an cdv ct) args binds) (hkind : (binds.all fun y => scope.names.lookup y.1 == some .local || scope.names.lookup y.1 == some .cell) = true)
    (hnd : ((cellsFrom 0 scope.names []).map (·.1)).Nodup)
    (h : ∀ g L' h₁ tk cells, Fr h₀ L g m → Fr g L' h₁ (bindL (envOfC qual scope L' f cdv).kindOf binds fun _ => none) → News g L' h₁ cells →
      CellsAre (bindC (envOfC qual scope L' f cdv).kindOf binds fun _ => none) (cellsFrom (L' + 1) scope.names []) cells → Below A base (env :: outer) g → K.In g → Top p loose mean mg mb g → (∀ b o, s.heap.get? b = some o → g.get? b = some o) →
      wpAny (model prog w) (A.deeper (envOfC qual scope L' f cdv)) (execs body (envOfC qual scope L' f cdv))
        (fun fl s' => LeaveK h₀ L m g R (match fl with | .ret v => v | _ => .none) s')
        (fun e s' => wpAny (model prog w) (A.deeper (envOfC qual scope L' f cdv)) (leaving (envOfC qual scope L' f cdv) e) (fun _ s'' => R (.error e) s'') (fun e' s'' => R (.error e') s'') s')
        { s with heap := h₁, toks := tk })
    (hco : scope.isCoroutine = false) (hgen : scope.isGenerator = false) (hk : scope.kind = .function) : codeAny (model prog w) A (.call (.ref f) args) R s := by
  obtain ⟨FG, BG, st, lv⟩ := groundX (R := R) (news := []) B F News.nil hA hf hke
  refine codeAny_call_function hroom ((X₀.keeps F.keep) _ _ ho) rfl hco hgen rfl (codeRec_of (X₀.keeps F.keep) hcd) (hbind _ _ _ _ ?_)
  refine wpAny_newFunctionEnv_cells hk (kindsX hkind _) fun env' he s' x => ?_
  subst he
  refine ⟨(T.nolimit.keeps F.keep).keeps x.toInCall.keep, codeAny_func ?_⟩
  obtain ⟨h₁, tk, rfl, _⟩ := x.done
  have hk₁ := x.toInCall.keep
  obtain ⟨cells, NC, Y⟩ := Cl.news (h₀ := s.heap) (Nat.le_refl _) fun n c hm => ⟨x.cell n c (lookup_of_mem_nodup (cellsFrom_names scope.names 0 (s.heap.objs.size + 1) [] [] rfl ▸ hnd) hm), x.above n c hm⟩
  refine wpAny_mono (h _ s.heap.objs.size h₁ tk cells FG ⟨x.toInCall.ns, fun b o e => hk₁ b o (of_hideAll _ e), Nat.le_of_eq (hideAll_size _ _)⟩ (fun q hq => ?_) Y BG (X₀.keeps st) (T.keeps st) (fun b o e => hideAll_get _ e (by simp))) (fun fl s' hl => lv _ _ hl) fun _ _ y => y
  refine ⟨(NC q hq).1, (NC q hq).2.1, ?_⟩
  cases qq : (hideAll s.heap (([] : List (Addr × Obj)).map (·.1))).get? q.1 with
  | none => rfl
  | some o => have := of_hideAll _ qq; rw [(NC q hq).2.2] at this; cases this
end
end Mine
end
section
open PySem PySem.W PyProof.Rows PySem.Calls PySem.Spec
set_option Elab.async false
set_option linter.all false
set_option maxRecDepth 100000
set_option maxHeartbeats 4000000
namespace Mine
section
variable {prog : Program} {w : World} {M : Model} {A : Around} {E : Value → Shared → Prop} {s : Shared} {h₀ : Heap} {L : Addr} {m : Str → Option Value} {news : List (Addr × Obj)}
theorem grownN {n z : Nat} {Q : Value → Shared → Prop} (hz : z ≤ 1000000) (hn : n < 2 ^ z) (h : Q (.int (n : Int) s.toks) { s with toks := s.toks + 1 }) : wpAny M A (mkIntGrown (n : Int)) Q E s := by
  unfold mkIntGrown
  have hl : ¬ ((n : Int).natAbs.log2 ≥ bitsLine) := by
    rw [Int.natAbs_natCast]
    have hb : bitsLine = 134217728 := by first | rfl | decide
    by_cases h0 : n = 0
    · subst h0
      rw [hb]
      decide
    · have h1 := (Nat.log2_lt h0).mpr hn
      omega
  rw [if_neg hl]
  exact wpAny_mkInt h
theorem tree_bigN {b : Array UInt8} {t u : Tok} {P : Fin → Shared → Prop} (hl : b.size ≤ 100000) (h : P (.done (.ret (.int (KFB.value (KBw.bInts b)) s.toks))) { s with toks := s.toks + 1 }) :
    wpAny M A (Builtin.«int.from_bytes» ⟨[.type "int", .bytes b t, .str (PySem.Str.ofString "big") u], []⟩) P E s := by
  have hv : ((b.toList.foldl (fun (acc : Nat) (b : UInt8) => acc * 256 + b.toNat) 0 : Nat) : Int) = KFB.value (KBw.bInts b) := KFB.fold_cast b.toList 0
  have hn : b.toList.foldl (fun (acc : Nat) (b : UInt8) => acc * 256 + b.toNat) 0 < 2 ^ (8 * b.size) := by
    have h1 := KFB.fold_lt b.toList 0
    rw [Nat.zero_add, Nat.one_mul, Array.length_toList] at h1
    rw [Nat.pow_mul]
    exact h1
  unfold Builtin.«int.from_bytes»
  refine wpAny_bind (wpAny_of_eq (a := true) KFB.type_int ?_)
  refine KFB.if_not rfl ?_
  refine wpAny_bind (wpAny_of_eq (a := true) F.conv_sub_int ?_)
  refine KFB.if_not rfl ?_
  refine wpAny_bind (wpAny_of_eq (a := [some (.bytes b t), some (.str (PySem.Str.ofString "big") u), none]) (by kernel_rfl) ?_)
  refine wpAny_bind (wpAny_of_eq (a := PySem.Str.ofString "big") (by kernel_rfl) ?_)
  refine wpAny_bind (wpAny_of_eq (a := false) rfl ?_)
  refine wpAny_bind (wpAny_of_eq (a := false) (by kernel_rfl) ?_)
  refine wpAny_bind (wpAny_of_eq (a := b) rfl ?_)
  show wpAny _ _ (mkIntGrown (b.toList.foldl (fun (acc : Int) (b : UInt8) => acc * 256 + (b.toNat : Int)) ((0 : Nat) : Int)) >>= fun v => _) _ _ _
  rw [KFB.foldI_eq]
  refine wpAny_bind (grownN (by omega) hn ?_)
  rw [hv]
  refine KFB.if_so (by decide +kernel) ?_
  exact wpAny_bind (wpAny_pure (wpAny_pure h))
theorem call_bigN {x : Addr} {b : Array UInt8} {t u : Tok} {ks : List Int} {Q : Value → Shared → Prop} (N : News h₀ L s.heap news) (hm : (x, KFB.bound) ∈ news) (hb : KBw.bInts b = ks) (hl : ks.length ≤ 100000)
    (h : ∀ t' k, Q (.int (KFB.value ks) t') { s with toks := k }) : wpAny (model prog w) A (call (.ref x) [.bytes b t, .str (PySem.Str.ofString "big") u]) Q E s := by
  subst hb
  exact KFB.call_of (KFB.at_of N hm) (fun z => tree_bigN (by rw [← KBw.ints_length]; exact hl) z) (h _ _)
theorem k_modN {a b : Int} {t u : Tok} {r : Nat} {Q : Value → Shared → Prop} (hb : b ≠ 0) (hr : a.fmod b = (r : Int)) (h : Q (.int (r : Int) s.toks) { s with toks := s.toks + 1 }) : wpAny (model prog w) A (binaryOp .Mod (.int a t) (.int b u)) Q E s := by
  refine mod_int' hb ?_
  rw [hr]
  exact h
theorem k_mulN {a b : Int} {t u : Tok} {r : Nat} {Q : Value → Shared → Prop} (hr : a * b = (r : Int)) (h : Q (.int (r : Int) s.toks) { s with toks := s.toks + 1 }) (hm : PySem.IntMulOk a b) : wpAny (model prog w) A (binaryOp .Mult (.int a t) (.int b u)) Q E s := by
  refine PyProof.Rows.mul_int ?_ hm
  rw [hr]
  exact h
end
end Mine
end
section
open PySem PySem.W PyProof.Rows PySem.Calls PySem.Spec
set_option Elab.async false
set_option linter.all false
set_option maxRecDepth 100000
set_option maxHeartbeats 8000000
namespace Mine
local macro_rules | `(tactic| walk_at "binaryOp Mod int int") => `(tactic| (k_here; k_dflt (refine k_modN (by decide) (by assumption) ?_)))
local macro_rules | `(tactic| walk_at "binaryOp Mult int int") => `(tactic| (k_here; k_dflt (refine k_mulN (by assumption) ?_ (by mul_fits))))
local macro_rules | `(tactic| walk_at "binaryOp Mult bytes int") => `(tactic| (k_here; k_dflt (refine k_mulB (by decide) (by omega) ?_); intro t' k'))
local macro_rules | `(tactic| walk_at "call type:bytes") => `(tactic| (refine hold ?_))
local macro_rules | `(tactic| walk_at "binaryOp Add bytes bytes") => `(tactic| (refine hold ?_))
local macro_rules | `(tactic| walk_at "call ref") => `(tactic| (k_here; (with_reducible show wpAny _ _ (call (Value.ref _) [Value.bytes _ _, Value.str _ _]) _ _ _); (rename News _ _ _ _ => zN); k_dflt (refine call_bigN zN (by k_mem) (by assumption) (by assumption) ?_); intro t' k'))
def tabU : List UInt8 := [65, 66, 67, 68, 69, 70, 71, 72, 73, 74, 75, 76, 77, 78, 79, 80, 81, 82, 83, 84, 85, 86, 87, 88, 89, 90, 97, 98, 99, 100, 101, 102, 103, 104, 105, 106, 107, 108, 109, 110, 111, 112, 113, 114, 115, 116, 117, 118, 119, 120, 121, 122, 48, 49, 50, 51, 52, 53, 54, 55, 56, 57, 43, 47]
/-- the signs of the big number, the first ahead -/
def nsL (V : Int) (cnt : Nat) : List Int := (rangeKs 0 ((cnt : Int) - 0).toNat).map fun k => ((tabU.getD ((V.fdiv (64 ^ ((cnt : Int) - 1 - k).toNat)).fmod 64).toNat 0).toNat : Int)
/-- what _law_signs answers -/
def signsI (ks : List Int) : List Int := (nsL (KFB.value (ks ++ List.replicate ((3 - ks.length % 3) % 3) (0 : Int))) ((ks.length + 2) / 3 * 4)).take ((ks.length + 2) / 3 * 4 - (3 - ks.length % 3) % 3) ++ List.replicate ((3 - ks.length % 3) % 3) (61 : Int)
theorem nsL_len (V : Int) (cnt : Nat) : (nsL V cnt).length = cnt := by
  unfold nsL
  simp [rangeKs]
theorem nsL_in (V : Int) (cnt : Nat) : ∀ n ∈ nsL V cnt, 0 ≤ n ∧ n < 256 := fun n hn => by
  obtain ⟨k, -, rfl⟩ := List.mem_map.mp hn
  have := (tabU.getD ((V.fdiv (64 ^ ((cnt : Int) - 1 - k).toNat)).fmod 64).toNat 0).toNat_lt
  omega
theorem p64 (n : Nat) : (64 : Int) ^ n ≠ 0 := by
  have : 0 < (64 : Int) ^ n := Int.pow_pos (by decide)
  omega
local macro_rules | `(tactic| walk_at "binaryOp FloorDiv int int") => `(tactic| (k_here; (with_reducible show wpAny _ _ (binaryOp Operator.FloorDiv (Value.int _ _) (Value.int (64 ^ _) _)) _ _ _); refine floordiv_int (p64 _) ?_ (Or.inr (PySem.PylongRoom.of (Heap.NoLimit.keeps (Top.nolimit (by assumption)) (Fr.keep (by assumption))) (by show _ + 100 < recursionLimit; ktr_room)))))
local macro_rules | `(tactic| walk_at "binaryOp Mod int int") => `(tactic| (k_here; (with_reducible show wpAny _ _ (binaryOp Operator.Mod (Value.int (Int.fdiv _ _) _) (Value.int 64 _)) _ _ _); k_dflt (refine k_mod64 ?_)))
local macro_rules | `(tactic| walk_at "subscriptTail") => `(tactic| (k_here; (with_reducible show wpAny _ _ (subscriptTail _ _ (Value.bytes _ _) (Value.int _ _)) _ _ _); k_dflt (refine k_sg (by decide +kernel) (by omega) (by omega) ?_); intro t' k'))
theorem mul0_ints (n : Nat) : KBw.bInts (mulB n [0]) = List.replicate n (0 : Int) := by
  unfold mulB KBw.bInts
  induction n with
  | zero => rfl
  | succ n ih =>
    rw [List.replicate_succ, List.flatten_cons]
    rw [List.replicate_succ, ← ih]
    rfl
theorem mul61_ints (n : Nat) : KBw.bInts (mulB n [61]) = List.replicate n (61 : Int) := by
  unfold mulB KBw.bInts
  induction n with
  | zero => rfl
  | succ n ih =>
    rw [List.replicate_succ, List.flatten_cons]
    rw [List.replicate_succ, ← ih]
    rfl
theorem signs {w : World} {b : Array UInt8} {tb : Tok} {ks : List Int} {mg mb : Str → Option Value} {mean : ExcName → Option Value} {loose : List Str}
   {dp un : Nat} {gd : Option (List Code)} {outer : List Env} {base g₀ : Heap} {s : Shared} {L a : Addr} {m : Str → Option Value} {news : List (Addr × Obj)} {cn : Str} {nms ig ic mo} {ccd : Value} {Q E : Value → Shared → Prop}
    (B : Below (arnd dp un gd outer) base outer g₀) (F : Fr g₀ L s.heap m) (N : News g₀ L s.heap news) (X : (hd03.heap_1 w.params).In g₀) {p : Program} (T : Top p loose mean mg mb g₀)
    (hNS : g₀.NoSeer) (hk : KBw.bInts b = ks) (hl : ks.length ≤ 3000)
    (hret : ∀ h' tk t c, Fr g₀ L h' m → News g₀ L h' news → KBw.bInts c = signsI ks → Q (.bytes c t) { s with heap := h', toks := tk })
    (hdp : dp + 200 < recursionLimit) (hu : un + 400 < cLine) :
      wpAny (model PySem.Challenge.rw_ko0126_03.row.prog w) ((arnd dp un gd outer).deeper (envOf cn { kind := .function, names := nms, isGenerator := ig, isCoroutine := ic, more := mo } L a ccd)) (call (.ref 771) [.bytes b tb]) Q E s := by
  w_top off
  have hsh : (-(ks.length : Int)).fmod 3 = (((3 - ks.length % 3) % 3 : Nat) : Int) := by
    rw [Int.fmod_eq_emod_of_nonneg _ (by decide)]
    omega
  generalize hsd : (3 - ks.length % 3) % 3 = sh at hsh
  have hcnt : ((ks.length : Int) + (sh : Int)).fdiv 3 * 4 = (((ks.length + 2) / 3 * 4 : Nat) : Int) := by
    rw [Int.fdiv_eq_ediv_of_nonneg _ (by decide)]
    omega
  generalize hcd : (ks.length + 2) / 3 * 4 = cnt at hcnt
  obtain ⟨g, gens₀, drawn₀, toks₀, os₀⟩ := s
  dsimp only at *
  have B1 := B.push F (name := cn) (scope := { kind := .function, names := nms, isGenerator := ig, isCoroutine := ic, more := mo }) (a := a) (cd := ccd) rfl
  revert X; k_fill; intro X
  refine wpAny_call ?_
  refine' code_defCK B F X T rfl rfl rfl ?k6 ?k7 ?k8 ?k9 ?kB ?kD ?_ ?c2 ?c3 ?c4
  case k6 => k_is
  case k7 => k_is
  case k8 => ktr_room
  case k9 => exact BindsTo.of_eq rfl
  case kB => exact rfl
  case kD => decide +kernel
  case c2 => exact rfl
  case c3 => exact rfl
  case c4 => exact rfl
  k_whole
  intro g' L' h' tk' cells' FG' F' N' Y' B' X' T' hkeep
  have hNS1 : g'.NoSeer := (hNS.keeps F.keep).keeps hkeep
  k_cells Y'
  (try simp only [List.cons_append, List.nil_append] at N')
  (try dsimp only)
  (try k_lift B')
  (try k_fold)
  k_steps
  delta Hold
  refine KBa.add_K hk (mul0_ints sh) (by rw [List.length_replicate]; omega) ?_
  intro t5 k5 e5
  generalize b ++ mulB sh [0] = b5 at e5
  have hps : (ks ++ List.replicate sh (0 : Int)).length ≤ 100000 := by rw [List.length_append, List.length_replicate]; omega
  k_steps
  rename IntsAre _ _ => hns
  rename News _ _ _ _ => zN
  delta Hold
  refine k_bytesL (zN.isList (List.mem_cons.mpr (.inl rfl))) (ns := nsL (KFB.value (ks ++ List.replicate sh 0)) cnt) hns (nsL_in _ _) (by rw [List.size_toArray, hns.length]; show (nsL _ _).length ≤ _; rw [nsL_len]; omega) rfl ?_
  intro h9 t9 k9 b9 hk9 hb9
  rename Fr _ _ _ _ => zF
  have F9 := zF.keptAll hk9
  have N9 := zN.grown hk9
  clear zF zN hns
  dsimp only at F9 N9 ⊢
  have hl9 : b9.size = cnt := by rw [← KBw.ints_length, hb9, nsL_len]
  have hcs : (cnt : Int) - (sh : Int) = ((cnt - sh : Nat) : Int) := by omega
  k_steps
  rename Fr _ _ _ _ => zF
  rename News _ _ _ _ => zN
  refine KBc.slice_K (s := ⟨_, _, _, _, _⟩) (lo := none) (hi := some ((cnt : Int) - (sh : Int))) zF zN hb9 .none (.int _ _) (by rw [nsL_len]; omega) ?_
  intro h10 t10 k10 F10 N10 e10
  have e11 : KBw.bInts (KBy.picked b9 none (some ((cnt : Int) - (sh : Int)))) = (nsL (KFB.value (ks ++ List.replicate sh 0)) cnt).take (cnt - sh) := by
    rw [e10, hcs]
    show ((nsL _ _).drop 0).take (clipAt (nsL _ _).length ((cnt - sh : Nat) : Int) - 0) = _
    rw [clipAt_nat, nsL_len, List.drop_zero, Nat.sub_zero, Nat.min_eq_left (by omega)]
  generalize KBy.picked b9 none (some ((cnt : Int) - (sh : Int))) = b11 at e11
  clear zF zN e10
  dsimp only
  k_steps
  delta Hold
  refine KBa.add_K e11 (mul61_ints sh) (by rw [List.length_replicate, List.length_take, nsL_len]; omega) ?_
  intro t12 k12 e12
  dsimp only
  k_steps
  have hkp : ∀ b o, g.get? b = some o → h10.get? b = some o := fun b o e => F10.keep b o (hkeep b o e)
  exact hret _ _ _ _ (F.keptAll hkp) (N.grown hkp) (by rw [e12]; unfold signsI; rw [hsd, hcd])
end Mine
end
section
open PySem
set_option Elab.async false
set_option linter.all false
set_option maxRecDepth 100000
namespace Mine
def valN (l : List Nat) : Nat := l.foldl (fun a k => a * 256 + k) 0
theorem valN_acc : ∀ (l : List Nat) (a : Nat), l.foldl (fun a k => a * 256 + k) a = a * 256 ^ l.length + valN l
  | [], a => by simp [valN]
  | c :: r, a => by
    unfold valN
    rw [List.foldl_cons, List.foldl_cons, valN_acc r, valN_acc r, List.length_cons, Nat.pow_succ]
    have e : (a * 256 + c) * 256 ^ r.length = a * (256 ^ r.length * 256) + c * 256 ^ r.length := by
      rw [Nat.add_mul, Nat.mul_assoc, Nat.mul_comm 256 (256 ^ r.length)]
    rw [e]
    simp
    omega
theorem valN_lt : ∀ (l : List Nat), (∀ k ∈ l, k < 256) → valN l < 256 ^ l.length
  | [], _ => by simp [valN]
  | c :: r, h => by
    have e : valN (c :: r) = c * 256 ^ r.length + valN r := by
      show r.foldl _ (0 * 256 + c) = _
      rw [valN_acc, Nat.zero_mul, Nat.zero_add]
    have h1 := valN_lt r fun k hk => h k (.tail _ hk)
    have h2 : c + 1 ≤ 256 := h c (.head _)
    rw [e, List.length_cons, Nat.pow_succ]
    have h3 : (c + 1) * 256 ^ r.length ≤ 256 * 256 ^ r.length := Nat.mul_le_mul_right _ h2
    rw [Nat.add_mul, Nat.one_mul] at h3
    rw [Nat.mul_comm (256 ^ r.length) 256]
    omega
def dig (V e : Nat) : Nat := V / 64 ^ e % 64
def GD : List Nat → List Nat
  | x :: y :: z :: r => x / 4 :: (x % 4 * 16 + y / 16) :: (y % 16 * 4 + z / 64) :: z % 64 :: GD r
  | _ => []
theorem dig_hi {A R n j : Nat} (h : R < 64 ^ n) : dig (A * 64 ^ n + R) (n + j) = dig A j := by
  unfold dig
  rw [Nat.pow_add, ← Nat.div_div_eq_div_mul]
  have e : (A * 64 ^ n + R) / 64 ^ n = A := by
    rw [Nat.add_comm, Nat.add_mul_div_right _ _ (Nat.pow_pos (by decide)), Nat.div_eq_of_lt h, Nat.zero_add]
  rw [e]
theorem dig_lo {A R n e : Nat} (h : e < n) : dig (A * 64 ^ n + R) e = dig R e := by
  unfold dig
  obtain ⟨d, rfl⟩ : ∃ d, n = e + (d + 1) := ⟨n - e - 1, by omega⟩
  have e1 : A * 64 ^ (e + (d + 1)) + R = R + (A * 64 ^ d * 64) * 64 ^ e := by
    rw [Nat.pow_add, Nat.pow_succ, Nat.add_comm]
    congr 1
    rw [Nat.mul_comm (64 ^ e), ← Nat.mul_assoc, ← Nat.mul_assoc]
  rw [e1, Nat.add_mul_div_right _ _ (Nat.pow_pos (by decide)), Nat.add_mul_mod_self_right]
theorem four {x y z : Nat} (hx : x < 256) (hy : y < 256) (hz : z < 256) : dig (x * 65536 + y * 256 + z) 3 = x / 4 ∧ dig (x * 65536 + y * 256 + z) 2 = x % 4 * 16 + y / 16 ∧ dig (x * 65536 + y * 256 + z) 1 = y % 16 * 4 + z / 64 ∧ dig (x * 65536 + y * 256 + z) 0 = z % 64 := by
  unfold dig
  have e3 : (64 : Nat) ^ 3 = 262144 := by decide
  have e2 : (64 : Nat) ^ 2 = 4096 := by decide
  rw [e3, e2, Nat.pow_one, Nat.pow_zero]
  omega
theorem digs : ∀ (m : Nat) (l : List Nat), l.length = 3 * m → (∀ k ∈ l, k < 256) → (List.range (4 * m)).map (fun k => dig (valN l) (4 * m - 1 - k)) = GD l
  | 0, l, hl, _ => by
    have : l = [] := List.eq_nil_of_length_eq_zero (by omega)
    subst this
    rfl
  | m + 1, l, hl, h => by
    obtain ⟨x, y, z, r, rfl⟩ : ∃ x y z r, l = x :: y :: z :: r := by
      match l, hl with
      | x :: y :: z :: r, _ => exact ⟨x, y, z, r, rfl⟩
    have hr : r.length = 3 * m := by simp at hl; omega
    have hx : x < 256 := h x (.head _)
    have hy : y < 256 := h y (.tail _ (.head _))
    have hz : z < 256 := h z (.tail _ (.tail _ (.head _)))
    have hrr : ∀ k ∈ r, k < 256 := fun k hk => h k (.tail _ (.tail _ (.tail _ hk)))
    have hv : valN (x :: y :: z :: r) = (x * 65536 + y * 256 + z) * 64 ^ (4 * m) + valN r := by
      have e0 : valN (x :: y :: z :: r) = r.foldl (fun a k => a * 256 + k) (((0 * 256 + x) * 256 + y) * 256 + z) := by
        unfold valN
        rw [List.foldl_cons, List.foldl_cons, List.foldl_cons]
      rw [e0, valN_acc, hr]
      have e1 : (256 : Nat) ^ (3 * m) = 64 ^ (4 * m) := by
        rw [Nat.pow_mul, Nat.pow_mul]
      rw [e1]
      congr 2
      omega
    have hlt : valN r < 64 ^ (4 * m) := by
      have := valN_lt r hrr
      rw [hr] at this
      have e1 : (256 : Nat) ^ (3 * m) = 64 ^ (4 * m) := by
        rw [Nat.pow_mul, Nat.pow_mul]
      rw [e1] at this
      exact this
    have f := four hx hy hz
    have e4 : 4 * (m + 1) = 4 + 4 * m := by omega
    have ih := digs m r hr hrr
    rw [hv, e4, List.range_add, List.map_append, List.map_map]
    have a0 : ∀ j, j < 4 → dig ((x * 65536 + y * 256 + z) * 64 ^ (4 * m) + valN r) (4 + 4 * m - 1 - j) = dig (x * 65536 + y * 256 + z) (3 - j) := fun j hj => by
      rw [show 4 + 4 * m - 1 - j = 4 * m + (3 - j) by omega]
      exact dig_hi hlt
    show [dig _ (4 + 4 * m - 1 - 0), dig _ (4 + 4 * m - 1 - 1), dig _ (4 + 4 * m - 1 - 2), dig _ (4 + 4 * m - 1 - 3)] ++ _ = _
    rw [a0 0 (by decide), a0 1 (by decide), a0 2 (by decide), a0 3 (by decide)]
    show [dig _ 3, dig _ 2, dig _ 1, dig _ 0] ++ _ = x / 4 :: (x % 4 * 16 + y / 16) :: (y % 16 * 4 + z / 64) :: z % 64 :: GD r
    rw [f.1, f.2.1, f.2.2.1, f.2.2.2, ← ih]
    show _ :: _ :: _ :: _ :: _ = _
    congr 4
    refine List.map_congr_left fun k hk => ?_
    have hk2 := List.mem_range.mp hk
    show dig _ (4 + 4 * m - 1 - (4 + k)) = _
    rw [show 4 + 4 * m - 1 - (4 + k) = 4 * m - 1 - k by omega]
    exact dig_lo (by omega)
end Mine
end
section
open PySem PySem.W PyProof.Rows
set_option Elab.async false
set_option linter.all false
set_option maxRecDepth 100000
namespace Mine
def castL (l : List Nat) : List Int := l.map fun (k : Nat) => (k : Int)
theorem value_cast (l : List Nat) : KFB.value (castL l) = (valN l : Int) := by
  have key : ∀ (l : List Nat) (a : Nat), (castL l).foldl (fun a k => a * 256 + k) (a : Int) = ((l.foldl (fun a k => a * 256 + k) a : Nat) : Int) := by
    intro l
    induction l with
    | nil => intro a; rfl
    | cons c r ih =>
      intro a
      show (castL r).foldl _ ((a : Int) * 256 + (c : Int)) = _
      rw [List.foldl_cons, ← ih]
      congr 1
  exact key l 0
theorem tabU_sg : ∀ d : Fin 64, (((tabU.getD d.val 0).toNat : Nat) : Int) = sg (d.val : Int) := by decide +kernel
theorem nsL_GD {l : List Nat} {m : Nat} (hl : l.length = 3 * m) (h : ∀ k ∈ l, k < 256) : nsL (valN l : Int) (4 * m) = (GD l).map fun (d : Nat) => sg (d : Int) := by
  rw [← digs m l hl h, List.map_map]
  unfold nsL rangeKs
  rw [List.map_map]
  have e0 : (((4 * m : Nat) : Int) - 0).toNat = 4 * m := by omega
  rw [e0]
  refine List.map_congr_left fun i hi => ?_
  have hi2 := List.mem_range.mp hi
  show (((tabU.getD (((valN l : Int).fdiv (64 ^ (((4 * m : Nat) : Int) - 1 - (0 + (i : Int))).toNat)).fmod 64).toNat 0).toNat : Nat) : Int) = sg (dig (valN l) (4 * m - 1 - i) : Int)
  have e1 : (((4 * m : Nat) : Int) - 1 - (0 + (i : Int))).toNat = 4 * m - 1 - i := by omega
  rw [e1]
  have e2 : ((valN l : Int).fdiv (64 ^ (4 * m - 1 - i))).fmod 64 = (dig (valN l) (4 * m - 1 - i) : Int) := by
    have p : (0 : Int) ≤ 64 ^ (4 * m - 1 - i) := Int.le_of_lt (Int.pow_pos (by decide))
    rw [Int.fdiv_eq_ediv_of_nonneg _ p, Int.fmod_eq_emod_of_nonneg _ (by decide)]
    unfold dig
    push_cast
    rfl
  rw [e2, Int.toNat_natCast]
  have hd : dig (valN l) (4 * m - 1 - i) < 64 := Nat.mod_lt _ (by decide)
  exact tabU_sg ⟨_, hd⟩
def padS (n : Nat) : Nat := (3 - n % 3) % 3
def padC (n : Nat) : Nat := (n + 2) / 3 * 4
theorem gpad : ∀ (ns : List Nat), (∀ k ∈ ns, k < 256) → (((GD (ns ++ List.replicate (padS ns.length) 0)).map fun (d : Nat) => sg (d : Int)).take (padC ns.length - padS ns.length)) ++ List.replicate (padS ns.length) (61 : Int) = G (castL ns)
  | [], _ => by rfl
  | [x], h => by
    have p1 : padS [x].length = 2 := rfl
    have p2 : padC [x].length = 4 := by unfold padC; rw [List.length_singleton]
    rw [p1, p2]
    show [sg ((x / 4 : Nat) : Int), sg ((x % 4 * 16 + 0 / 16 : Nat) : Int)] ++ [61, 61] = [sg ((x : Int) / 4), sg ((x : Int) % 4 * 16), 61, 61]
    have e1 : ((x / 4 : Nat) : Int) = (x : Int) / 4 := by omega
    have e2 : ((x % 4 * 16 + 0 / 16 : Nat) : Int) = (x : Int) % 4 * 16 := by omega
    rw [e1, e2]
    rfl
  | [x, y], h => by
    have p1 : padS [x, y].length = 1 := rfl
    have p2 : padC [x, y].length = 4 := by unfold padC; rw [show [x, y].length = 2 from rfl]
    rw [p1, p2]
    show [sg ((x / 4 : Nat) : Int), sg ((x % 4 * 16 + y / 16 : Nat) : Int), sg ((y % 16 * 4 + 0 / 64 : Nat) : Int)] ++ [61] = [sg ((x : Int) / 4), sg ((x : Int) % 4 * 16 + (y : Int) / 16), sg ((y : Int) % 16 * 4), 61]
    have e1 : ((x / 4 : Nat) : Int) = (x : Int) / 4 := by omega
    have e2 : ((x % 4 * 16 + y / 16 : Nat) : Int) = (x : Int) % 4 * 16 + (y : Int) / 16 := by omega
    have e3 : ((y % 16 * 4 + 0 / 64 : Nat) : Int) = (y : Int) % 16 * 4 := by omega
    rw [e1, e2, e3]
    rfl
  | x :: y :: z :: r, h => by
    have ih := gpad r fun k hk => h k (.tail _ (.tail _ (.tail _ hk)))
    have a1 : padS (x :: y :: z :: r).length = padS r.length := by unfold padS; simp only [List.length_cons]; omega
    have a2 : padC (x :: y :: z :: r).length - padS (x :: y :: z :: r).length = (padC r.length - padS r.length) + 4 := by
      rw [a1]
      unfold padC padS
      simp only [List.length_cons]
      omega
    rw [a2, a1]
    show (sg ((x / 4 : Nat) : Int) :: sg ((x % 4 * 16 + y / 16 : Nat) : Int) :: sg ((y % 16 * 4 + z / 64 : Nat) : Int) :: sg ((z % 64 : Nat) : Int) :: (((GD (r ++ List.replicate (padS r.length) 0)).map fun (d : Nat) => sg (d : Int)).take (padC r.length - padS r.length))) ++ _ = sg ((x : Int) / 4) :: sg ((x : Int) % 4 * 16 + (y : Int) / 16) :: sg ((y : Int) % 16 * 4 + (z : Int) / 64) :: sg ((z : Int) % 64) :: G (castL r)
    have e1 : ((x / 4 : Nat) : Int) = (x : Int) / 4 := by omega
    have e2 : ((x % 4 * 16 + y / 16 : Nat) : Int) = (x : Int) % 4 * 16 + (y : Int) / 16 := by omega
    have e3 : ((y % 16 * 4 + z / 64 : Nat) : Int) = (y : Int) % 16 * 4 + (z : Int) / 64 := by omega
    have e4 : ((z % 64 : Nat) : Int) = (z : Int) % 64 := by omega
    rw [e1, e2, e3, e4, ← ih]
    rfl
theorem signs_G {ks : List Int} (h : ∀ k ∈ ks, 0 ≤ k ∧ k < 256) : signsI ks = G ks := by
  obtain ⟨ns, rfl, hn⟩ : ∃ ns : List Nat, ks = castL ns ∧ ∀ k ∈ ns, k < 256 := by
    refine ⟨ks.map Int.toNat, ?_, fun k hk => ?_⟩
    · unfold castL
      rw [List.map_map]
      symm
      have : ks.map ((fun k : Nat => (k : Int)) ∘ Int.toNat) = ks.map id := List.map_congr_left fun k hk => by
        have := h k hk
        show ((k.toNat : Nat) : Int) = k
        omega
      rw [this, List.map_id]
    · obtain ⟨j, hj, rfl⟩ := List.mem_map.mp hk
      have := h j hj
      omega
  have hlen : (castL ns).length = ns.length := by unfold castL; rw [List.length_map]
  rw [← gpad ns hn]
  unfold signsI
  rw [hlen]
  show (nsL (KFB.value (castL ns ++ List.replicate (padS ns.length) (0 : Int))) (padC ns.length)).take (padC ns.length - padS ns.length) ++ _ = _
  have e1 : castL ns ++ List.replicate (padS ns.length) (0 : Int) = castL (ns ++ List.replicate (padS ns.length) 0) := by
    unfold castL
    rw [List.map_append, List.map_replicate]
    rfl
  obtain ⟨m, hm⟩ : ∃ m, (ns ++ List.replicate (padS ns.length) 0).length = 3 * m ∧ padC ns.length = 4 * m := by
    refine ⟨(ns.length + 2) / 3, ?_, ?_⟩
    · rw [List.length_append, List.length_replicate]
      unfold padS
      omega
    · unfold padC
      omega
  have hall : ∀ k ∈ ns ++ List.replicate (padS ns.length) 0, k < 256 := fun k hk => by
    rcases List.mem_append.mp hk with hk | hk
    · exact hn k hk
    · rw [(List.mem_replicate.mp hk).2]; decide
  rw [e1, value_cast, hm.2, nsL_GD hm.1 hall]
  unfold padS
  rfl
end Mine
end
section
open PySem
set_option Elab.async false
set_option linter.all false
set_option maxRecDepth 100000
namespace Mine
theorem G_len3 {ks : List Int} {q : Nat} (h : ks.length = 3 * q) : (G ks).length = 4 * q := by
  rw [G_len, h]
  omega
/-- a row of the signs is a chunk's base64 -/
theorem row_cut {ks : List Int} (h : ∀ k ∈ ks, 0 ≤ k ∧ k < 256) {q i : Nat} (hq : 1 ≤ q) (hi : i < cntB ks.length (3 * q)) : ((G ks).drop (i * (4 * q))).take (4 * q) = b64 (chunkB ks (3 * q) i) := by
  have hlt := cntB_lt hi
  rw [b64_G (chunk_in h _ _)]
  have e1 : ks = ks.take (i * (3 * q)) ++ ks.drop (i * (3 * q)) := (List.take_append_drop _ _).symm
  have l1 : (ks.take (i * (3 * q))).length = 3 * (i * q) := by
    rw [List.length_take, Nat.min_eq_left (Nat.le_of_lt hlt), Nat.mul_left_comm]
  have e2 : G ks = G (ks.take (i * (3 * q))) ++ G (ks.drop (i * (3 * q))) := by
    conv => lhs; rw [e1]
    exact G_app _ _ ⟨i * q, l1⟩
  have l2 : (G (ks.take (i * (3 * q)))).length = i * (4 * q) := by
    rw [G_len3 l1, Nat.mul_left_comm]
  rw [e2, ← l2, List.drop_left]
  unfold chunkB
  generalize ks.drop (i * (3 * q)) = r
  by_cases hr : 3 * q ≤ r.length
  · have l3 : (r.take (3 * q)).length = 3 * q := by rw [List.length_take, Nat.min_eq_left hr]
    have e3 : G r = G (r.take (3 * q)) ++ G (r.drop (3 * q)) := by
      conv => lhs; rw [← List.take_append_drop (3 * q) r]
      exact G_app _ _ ⟨q, l3⟩
    rw [e3, ← G_len3 l3, List.take_left]
  · rw [List.take_of_length_le (by omega : r.length ≤ 3 * q)]
    refine List.take_of_length_le ?_
    rw [G_len]
    omega
/-- as many rows as chunks -/
theorem cnt_rows {ks : List Int} {q : Nat} (hq : 1 ≤ q) : cntB (G ks).length (4 * q) = cntB ks.length (3 * q) := by
  rw [G_len]
  unfold cntB
  generalize ks.length = n
  by_cases hn : 0 < n
  · have e : 0 < (n + 2) / 3 * 4 := by omega
    rw [if_pos hn, if_pos e]
    congr 1
    have a1 : ((n + 2) / 3 * 4 - 1) / (4 * q) = ((n + 2) / 3 - 1) / q := by
      rw [← Nat.div_div_eq_div_mul]
      congr 1
      omega
    have a2 : (n - 1) / (3 * q) = ((n + 2) / 3 - 1) / q := by
      rw [← Nat.div_div_eq_div_mul]
      congr 1
      omega
    rw [a1, a2]
  · have e : n = 0 := by omega
    subst e
    rfl
end Mine
end
section
open PySem PySem.W PyProof.Rows PySem.Calls PySem.Spec
set_option Elab.async false
set_option linter.all false
set_option maxRecDepth 100000
namespace Mine
section
variable {prog : Program} {w : World} {A : Around} {E : Value → Shared → Prop} {s : Shared}
/-- a list against the empty list -/
theorem k_neNil {l b : Addr} {items : Array Value} {Q : Value → Shared → Prop} (hl : s.heap.IsList l items) (hb : s.heap.IsList b #[]) (hu : A.units < cLine)
    (h0 : items.size = 0 → Q (.bool false) s) (h1 : items.size ≠ 0 → Q (.bool true) s) : wpAny (model prog w) A (compareOp .NotEq (.ref l) (.ref b)) Q E s := by
  by_cases hz : items.size = 0
  · have := PySem.SeqAt.RcNeAt.lists (A := A) (e := fun _ => true) hl hb hz hu (fun j h1 h2 => absurd h2 (Nat.not_lt_zero _)) prog w E Q
    refine this ?_
    rw [hz]
    exact h0 hz
  · exact PySem.SeqAt.RcNeAt.lists_lengths (A := A) hl hb (by simp; exact fun e => hz (by rw [e]; rfl)) hu prog w E Q (h1 hz)
end
end Mine
end
section
open PySem PySem.W PyProof.Rows PySem.Calls PySem.Spec
set_option Elab.async false
set_option linter.all false
set_option maxRecDepth 100000
set_option maxHeartbeats 4000000
namespace Mine
theorem noI_bytes_add : typeLookup (.type "bytes") (dunderI "add") = pure none := by rw [typeLookup_type, builtinLookup_eq_fast]; kernel_rfl
theorem look_by_bytes : typeLookup (.type "bytes") "__bytes__" = pure (some (.builtin "bytes.__bytes__")) := by rw [typeLookup_type, builtinLookup_eq_fast]; kernel_rfl
section
variable {prog : Program} {w : World} {A : Around} {E : Value → Shared → Prop} {s : Shared} {b c : Array UInt8} {t u : Tok} {Q : Value → Shared → Prop}
/-- octets += octets -/
theorem k_iaddB {ks ls : List Int} (hb : KBw.bInts b = ks) (hc : KBw.bInts c = ls) (hsz : b.size + c.size ≤ 16777216) (h : ∀ t' k, KBw.bInts (b ++ c) = ks ++ ls → Q (.bytes (b ++ c) t') { s with toks := k }) : wpAny (model prog w) A (inplaceOp .Add (.bytes b t) (.bytes c u)) Q E s := by
  have h := fun t' k => h t' k (KBw.ints_app hb hc)
  refine iconcat_gives (typeIs_bytes s b t) (typeIs_bytes s c u) noI_bytes_add KBy.noFill_bytes_add KBy.seq_bytes_add FB.slot_bytes_add FB.entry_bytes_add (FB.args_bytes_add_2 _ _) (KBy.gives_bytes_add (KBy.tooLong_not hsz)) ?_
  by_cases hb : b.isEmpty = true
  · rw [if_pos hb]
    have e : b = #[] := Array.isEmpty_iff.1 hb
    have h' := h u s.toks
    rw [e, Array.empty_append] at h'
    exact h'
  · rw [if_neg hb]
    by_cases hc : c.isEmpty = true
    · rw [if_pos hc]
      have e : c = #[] := Array.isEmpty_iff.1 hc
      have h' := h t s.toks
      rw [e, Array.append_empty] at h'
      exact h'
    · rw [if_neg hc]
      exact ⟨by rw [Array.size_append, sizeLine_eq]; exact hsz, h s.toks (s.toks + 1)⟩
theorem byby_new (hQ : Q (.bytes b t) s) : codeAny (model prog w) A (.call (.builtin "bytes.__new__") ⟨[.type "bytes", .bytes b t], []⟩) (wants Q E) s := by
  refine codeAny_of_tree ?_
  show wpAny _ A.in1 (do checkBuiltinCall "bytes.__new__" ⟨[.type "bytes", .bytes b t], []⟩; again (.builtin "bytes.__new__" ⟨[.type "bytes", .bytes b t], []⟩)) _ _ s
  refine wpAny_bind (wpAny_of_eq (F.bm_newCall _) (wpAny_pure ⟨plainId_quiet F.bm_plain _, codeAny_builtin F.bm_entry ?_⟩))
  rw [Around.under_plainId F.bm_plain _]
  unfold Builtin.«bytes.__new__»
  refine wpAny_bind (wpAny_of_eq (a := true) rfl ?_)
  refine bm_if_false rfl ?_
  refine wpAny_bind (wpAny_of_eq F.bm_sub ?_)
  refine bm_if_false rfl ?_
  refine wpAny_bind (wpAny_of_eq (F.bm_bind _) ?_)
  refine wpAny_bind (wpAny_of_eq (a := ()) rfl ?_)
  refine wpAny_bind (wpAny_of_eq (a := ()) rfl ?_)
  refine bm_if_false rfl ?_
  refine wpAny_bind (wpAny_specialOf (typeIs_bytes s b t) look_by_bytes ?_)
  refine wpAny_bind (wpAny_rule ?_)
  refine wpAny_bind (wpAny_typeOf (typeIs_bytes s b t) ?_)
  refine bm_if_true rfl ?_
  refine wpAny_of_eq (a := PySem.Fin.done (.ret (.bytes b t))) rfl ?_
  first
    | exact hQ
    | exact ⟨_, rfl, hQ⟩
theorem k_bytesBy (hQ : Q (.bytes b t) s) : wpAny (model prog w) A (call (.type "bytes") [.bytes b t]) Q E s := by
  refine callType_codes (Q₁ := fun obj s₁ => s₁.TypeIs obj "bytes" ∧ Q obj s₁) F.bm_called (F.bm_typeCall _) F.entry_object_init
    (byby_new ⟨rfl, hQ⟩) fun obj s₁ h₁ => ?_
  exact ⟨h₁.1, F.args_object_init_2 obj _, object_init_meets F.bm_called.init.lookup F.bm_called.made (by decide) prog w A.in1 _ s₁ ⟨h₁.1, rfl, h₁.2⟩⟩
theorem k_bytesV {v : Value} (hv : Buf s.heap v b) (hz : b.size ≤ 16777216) (hQ : ∀ t k, Q (.bytes b t) { s with toks := k }) : wpAny (model prog w) A (call (.type "bytes") [v]) Q E s := by
  rcases hv with ⟨t, rfl⟩ | ⟨a, rfl, ho⟩
  · exact k_bytesBy (hQ t s.toks)
  · exact k_bytesBa ho (by rw [sizeLine_eq]; exact hz) hQ
end
end Mine
end
section
open PySem PySem.W PyProof.Rows PySem.Calls PySem.Spec
set_option Elab.async false
set_option linter.all false
set_option maxRecDepth 100000
set_option maxHeartbeats 4000000
namespace Mine
section
variable {prog : Program} {w : World} {A : Around} {E : Value → Shared → Prop} {s : Shared} {h₀ : Heap} {env : Env} {x : Str} {body : List Stmt} {Q : Flow → Shared → Prop}
/-- a for over range(0, n, z) whose turns grow the octets `due` -/
theorem dueGo {r : Addr} {n z : Nat} {t₀ u₀ v₀ : Tok} {m₀ : Str → Option Value} {news : List (Addr × Obj)} (PM : (Str → Option Value) → Prop) (PD : Nat → Array UInt8 → Prop) (hh : A.handled = none) (hr : IsRange s.heap r 0 (n : Int) (z : Int) t₀ u₀ v₀)
    (hl : n ≤ 100000) (h1 : 1 ≤ z) (h2 : z ≤ 1000) (F : Fr h₀ env.locals s.heap m₀) (N : News h₀ env.locals s.heap news) (hm : PM m₀) (hd : ∃ du td, m₀ "due" = some (.bytes du td) ∧ PD 0 du)
    (hnil : ∀ m du td h tk, PM m → m "due" = some (.bytes du td) → PD (cntB n z) du → Fr h₀ env.locals h m → News h₀ env.locals h news → Q .next { s with heap := h, toks := tk })
    (hstep : ∀ (Q' : Flow → Shared → Prop) i m du td t h tk I it, i * z < n → i < cntB n z → PM m → m "due" = some (.bytes du td) → PD i du → (∀ p ∈ news, @LT.lt Nat _ p.1 I) → Fr h₀ env.locals h (fun y => if y = x then some (.int ((i * z : Nat) : Int) t) else m y) →
      News h₀ env.locals h ((I, it) :: news) →
      wpAny (model prog w) A (execs body env) (UnrPost h₀ env.locals { s with heap := h, toks := tk } I it (fun m' n' => (PM m' ∧ ∃ du td, m' "due" = some (.bytes du td) ∧ PD (i + 1) du) ∧ n' = news) Q') E { s with heap := h, toks := tk }) :
    wpAny (model prog w) A (pyIter (.ref r)) (fun it s₂ => LoopAtV prog w A h₀ env x body Q E it s₂) E s := by
  obtain ⟨hs, hc⟩ := small_z hl h1 h2
  refine krs_iter (n := cntB n z) hh hr hs hc F N fun I hI => ?_
  refine krsInv (fun i m nw => (PM m ∧ ∃ du td, m "due" = some (.bytes du td) ∧ PD i du) ∧ nw = news) (fun m nw hJ h tk F1 N1 => ?_) (fun i m nw hi hJ t h tk F1 N1 => ?_) _ 0 m₀ _ (Nat.zero_add _) ⟨⟨hm, hd⟩, rfl⟩
  · obtain ⟨⟨p1, du, td, p2, p3⟩, rfl⟩ := hJ
    exact hnil m du td h tk p1 p2 p3 F1 N1
  · obtain ⟨⟨p1, du, td, p2, p3⟩, rfl⟩ := hJ
    have hlt := cntB_lt hi
    have e : (0 : Int) + (i : Int) * (z : Int) = ((i * z : Nat) : Int) := by push_cast; omega
    rw [e] at F1
    exact hstep Q i m du td t h tk I _ hlt hi p1 p2 p3 hI F1 N1
end
end Mine
end
section
open PySem PySem.W PyProof.Rows PySem.Calls PySem.Spec
set_option Elab.async false
set_option linter.all false
set_option maxRecDepth 100000
set_option maxHeartbeats 4000000
namespace Mine
local macro_rules | `(tactic| walk_at "binaryOp Mult bytes int") => `(tactic| (refine hold ?_))
local macro_rules | `(tactic| walk_at "binaryOp Mult bytes int") => `(tactic| (k_here; (with_reducible show wpAny _ _ (binaryOp Operator.Mult (Value.bytes (List.toArray _) _) (Value.int (Nat.cast _) _)) _ _ _); k_dflt (refine k_mulB (by omega) (by omega) ?_); intro t' k'))
local macro_rules | `(tactic| walk_at "exec For Name Name cons nil") => `(tactic| (k_here; (rename Fr _ _ _ _ => lF'); (with_unfolding_all refine' For_invVF lF' ?k1 ?k2 ?_; (case k1 => exact rfl); (case k2 => exact rfl); k_whole)))
local macro_rules | `(tactic| walk_at "pyIter bytes") => `(tactic| refine hold ?_)
structure LM3 (m : Str → Option Value) (lv : Nat) (ind : List UInt8) (data : Array UInt8) : Prop where
  level : ∃ t, m "level" = some (.int (lv : Int) t)
  margin : ∃ t, m "margin" = some (.bytes (mulB lv ind) t)
  data : ∃ t, m "data" = some (.bytes data t)
  indent : ∃ t, m "indent" = some (.bytes ind.toArray t)
theorem colA3 (c : Nat) : (c : Int).fdiv 8 * 8 + 8 = (colS c 9 : Int) := by
  rw [Int.fdiv_eq_ediv_of_nonneg _ (by decide)]
  unfold colS
  rw [if_pos rfl]
  omega
theorem colB3 (c : Nat) {k : Int} (h : ¬ k = 9) : (c : Int) + 1 = (colS c k : Int) := by
  unfold colS
  rw [if_neg h]
  omega
theorem rest3 {w : World} {dp un : Nat} {gd : Option (List Code)} {g₀ : Heap} {s : Shared} {L fa D : Addr} {cd : Value} {m0 mg mb : Str → Option Value} {mean : ExcName → Option Value} {loose : List Str} {p : Program} {Q : Flow → Shared → Prop}
    {t1 t2 t3 : Tok} {ind : List UInt8} {lv nD : Nat} {hd : Int} {ws : List Value} {ks : List Int}
    (B : Below (arnd dp un gd []) g₀ [] g₀) (X : (hd03.heap_1 w.params).In g₀) (T : Top p loose mean mg mb g₀)
    (F : Fr g₀ L s.heap (fun y => if y = Str.ofString "indent" then some (.bytes ind.toArray t1) else if y = Str.ofString "level" then some (.int (lv : Int) t2) else if y = Str.ofString "head" then some (.int hd t3) else if y = Str.ofString "script" then some (.ref D) else m0 y))
    (N : News g₀ L s.heap [(D, W.listOf ws.toArray nD)]) (hws : IntsAre ws ks) (hl : ks.length ≤ 63) (hlv : lv < 13) (hind : ind.length ≤ 4) (hdp : dp + 300 < recursionLimit) (hu : un + 1000 < cLine)
    (hrest : ∀ m h' tk data tw news, data.size ≤ 504 → LM3 m lv ind data → Fr g₀ L h' (fun y => if y = Str.ofString "width" then some (.int ((widM (colF (mulB lv ind).toList)).fdiv 4 * 4) tw) else m y) → News g₀ L h' news → wpG (model PySem.Challenge.rw_ko0126_03.row.prog w) ((arnd dp un gd []).deeper (envOf (Str.ofString "law") lawSc L fa cd)) (execs (lawBody.drop 8) (envOf (Str.ofString "law") lawSc L fa cd)) Q (fun _ _ => False) { s with heap := h', toks := tk }) :
    wpG (model PySem.Challenge.rw_ko0126_03.row.prog w) ((arnd dp un gd []).deeper (envOf (Str.ofString "law") lawSc L fa cd)) (execs (lawBody.drop 3) (envOf (Str.ofString "law") lawSc L fa cd)) Q (fun _ _ => False) s := by
  w_top off
  obtain ⟨g, gens₀, drawn₀, toks₀, os₀⟩ := s
  dsimp only at *
  revert X; k_fill; intro X
  conv in (List.drop _ _) => whnf
  conv in (envOf _ _ _ _ _) => arg 2; whnf
  conv in (envOf _ lawSc _ _ _) => arg 2; whnf
  have B1 := B
  refine g_cons (g_any ?_)
  k_steps
  delta Hold
  refine k_mulD (by rw [← KBw.ints_length, KBa.ints_make (by assumption), List.length_map]; exact hl) (by have := Int.fmod_nonneg_of_pos (hd.fdiv 65) (show (0 : Int) < 8 by decide); omega) (by have := Int.fmod_lt_of_pos (hd.fdiv 65) (show (0 : Int) < 8 by decide); omega) ?_
  intro tD kD data hdata
  k_steps
  dsimp only
  refine g_cons (g_any ?_)
  k_steps
  dsimp only
  refine g_cons (g_any ?_)
  k_steps
  dsimp only
  refine g_cons (g_any ?_)
  k_steps
  rename Fr _ _ _ _ => zF
  rename News _ _ _ _ => zN
  delta Hold
  refine colGo (fun m => LM3 m lv ind data) rfl rfl zF zN ⟨⟨_, by with_unfolding_all rfl⟩, ⟨_, by with_unfolding_all rfl⟩, ⟨_, by with_unfolding_all rfl⟩, ⟨_, by with_unfolding_all rfl⟩⟩ ⟨_, by with_unfolding_all rfl⟩ ?cturn ?cdone
  case cturn =>
    intro k t m h tk own c h0 h1 hoff hP hC F1 N1
    obtain ⟨tc, hC⟩ := hC
    have F2 := fr_pin F1 (x := Str.ofString "column") (v := .int (c : Int) tc) ((if_neg (by decide)).trans hC)
    clear zF zN F1
    dsimp only
    by_cases h9 : k = 9
    · subst h9
      k_steps
      rename Fr _ _ _ _ => zF
      rename News _ _ _ _ => zN
      exact ⟨_, _, _, _, _, rfl, zF, zN, fun p hp => List.mem_append.mpr (Or.inl hp), fun p hp => List.mem_append.mpr (Or.inr hp), rfl, ⟨⟨by with_unfolding_all exact hP.level, by with_unfolding_all exact hP.margin, by with_unfolding_all exact hP.data, by with_unfolding_all exact hP.indent⟩, _, by with_unfolding_all exact congrArg (fun z => some (Value.int z _)) (colA3 c)⟩, rfl⟩
    · k_steps
      rename Fr _ _ _ _ => zF
      rename News _ _ _ _ => zN
      exact ⟨_, _, _, _, _, rfl, zF, zN, fun p hp => List.mem_append.mpr (Or.inl hp), fun p hp => List.mem_append.mpr (Or.inr hp), rfl, ⟨⟨by with_unfolding_all exact hP.level, by with_unfolding_all exact hP.margin, by with_unfolding_all exact hP.data, by with_unfolding_all exact hP.indent⟩, _, by with_unfolding_all exact congrArg (fun z => some (Value.int z _)) (colB3 c h9)⟩, rfl⟩
  case cdone =>
    intro m h tk t hP hc F1 N1
    rw [col3] at hc
    have F2 := fr_pin F1 (x := Str.ofString "column") hc
    clear zF zN F1
    generalize hcw : colF (mulB lv ind).toList = cw at hc F2 hrest
    dsimp only
    refine g_cons (g_any ?_)
    k_steps
    rename Fr _ _ _ _ => zF
    rename News _ _ _ _ => zN
    dsimp only
    refine hrest _ _ _ data _ _ hdata ⟨by with_unfolding_all exact hP.level, by with_unfolding_all exact hP.margin, by with_unfolding_all exact hP.data, by with_unfolding_all exact hP.indent⟩ zF zN
end Mine
end
section
open PySem PySem.W PyProof.Rows PySem.Calls PySem.Spec
set_option Elab.async false
set_option linter.all false
set_option maxRecDepth 100000
set_option maxHeartbeats 4000000
namespace Mine
structure LM4 (m : Str → Option Value) (lv : Nat) (ind : List UInt8) (data : Array UInt8) (wd : Int) (I W : Addr) : Prop where
  level : ∃ t, m "level" = some (.int (lv : Int) t)
  margin : ∃ t, m "margin" = some (.bytes (mulB lv ind) t)
  data : ∃ t, m "data" = some (.bytes data t)
  width : ∃ t, m "width" = some (.int wd t)
  file : m "file" = some (.ref I)
  writer : m "writer" = some (.ref W)
local macro_rules | `(tactic| k_room) => `(tactic| ktr_room)
theorem rest8 {w : World} {dp un : Nat} {gd : Option (List Code)} {g₀ : Heap} {s : Shared} {L fa : Addr} {cd : Value} {m mg mb : Str → Option Value} {mean : ExcName → Option Value} {loose : List Str} {p : Program} {Q : Flow → Shared → Prop}
    {tw : Tok} {ind : List UInt8} {lv : Nat} {wd : Int} {data : Array UInt8}
    (B : Below (arnd dp un gd []) g₀ [] g₀) (X : (hd03.heap_1 w.params).In g₀) (T : Top p loose mean mg mb g₀)
    (hm : LM3 m lv ind data) (F : Fr g₀ L s.heap (fun y => if y = Str.ofString "width" then some (.int wd tw) else m y))
    (hdp : dp + 300 < recursionLimit) (hu : un + 1000 < cLine)
    (hrest : ∀ m h' tk td I dX U W d S y1 y2 u z1 z2 z3 z4 z5 z6 z7 u3 u4 nS, LM4 m lv ind data wd I W → Fr g₀ L h' (fun y => if y = Str.ofString "due" then some (.bytes #[] td) else m y) →
      News g₀ L h' [(S, listOf #[] nS), (W, instObj 214 d), (d, wrD w I S (lv : Int) ind z1 z2 z3 z4 z5 z6 z7 u3 u4), (I, instObj 517 dX), (dX, ioD w U 0 y1 y2 u), (U, baObj #[])] →
      @LT.lt Nat _ dX I → @LT.lt Nat _ I U → @LT.lt Nat _ U d → @LT.lt Nat _ d W → @LT.lt Nat _ W S →
      wpG (model PySem.Challenge.rw_ko0126_03.row.prog w) ((arnd dp un gd []).deeper (envOf (Str.ofString "law") lawSc L fa cd)) (execs (lawBody.drop 11) (envOf (Str.ofString "law") lawSc L fa cd)) Q (fun _ _ => False) { s with heap := h', toks := tk }) :
    wpG (model PySem.Challenge.rw_ko0126_03.row.prog w) ((arnd dp un gd []).deeper (envOf (Str.ofString "law") lawSc L fa cd)) (execs (lawBody.drop 8) (envOf (Str.ofString "law") lawSc L fa cd)) Q (fun _ _ => False) s := by
  w_top off
  obtain ⟨g, gens₀, drawn₀, toks₀, os₀⟩ := s
  dsimp only at *
  have X0 := X
  revert X; k_fill; intro X
  conv in (List.drop _ _) => whnf
  conv in (envOf _ _ _ _ _) => arg 2; whnf
  conv in (envOf _ lawSc _ _ _) => arg 2; whnf
  have B1 := B
  have N : News g₀ L g [] := fun p hp => nomatch hp
  obtain ⟨⟨tl, hl⟩, ⟨tm, hmr⟩, ⟨td, hd⟩, ⟨ti, hi⟩⟩ := hm
  have F := fr_pin F (x := Str.ofString "level") ((if_neg (by decide)).trans hl)
  have F := fr_pin F (x := Str.ofString "indent") ((if_neg (by decide)).trans ((if_neg (by decide)).trans hi))
  refine g_cons (g_Assign_Name (g_Call ?_))
  k_steps
  dsimp only
  refine g_callWith_M0 rfl rfl ?_
  have hkp : Looks (model PySem.Challenge.rw_ko0126_03.row.prog w) g (keeperOf (.ref 517)) .machine := Looks.of_peek (K := hd03.heap_1 w.params) (X0.keeps F.keep) (by kernel_rfl)
  refine hkp.here ⟨rfl, ?_⟩
  rename Fr _ _ _ _ => zF
  refine g_bio (dp := dp) (un := un) (outer := []) B rfl rfl zF X0 T N (by omega) (by omega) ?_
  intro I dX U h1 tk1 y1 y2 u F1 N1 l1 l2 l3
  simp only [List.append_nil] at N1
  clear zF F l3 N hkp
  dsimp only
  k_steps
  dsimp only
  refine g_cons (g_any ?_)
  k_steps
  (try dsimp only)
  refine g_cons (g_any ?_)
  k_steps
  (try dsimp only)
  rename Fr _ _ _ _ => zF
  rename News _ _ _ _ => zN
  refine hrest _ _ _ _ I dX U _ _ _ y1 y2 u _ _ _ _ _ _ _ _ _ _ ⟨⟨tl, by with_unfolding_all rfl⟩, ⟨tm, by with_unfolding_all exact hmr⟩, ⟨td, by with_unfolding_all exact hd⟩, ⟨tw, by with_unfolding_all rfl⟩, by with_unfolding_all rfl, by with_unfolding_all rfl⟩ zF zN l1 l2 ?_ ?_ ?_
  all_goals (first | assumption | (show @LT.lt Nat _ _ _; omega))
end Mine
end
section
set_option hygiene true
open PySem PySem.W PyProof.Rows PySem.Calls PySem.Spec
set_option Elab.async false
set_option linter.all false
set_option maxRecDepth 100000
set_option maxHeartbeats 8000000
namespace Mine
def lawLoop : List Stmt := match lawBody.drop 11 with
  | .For _ _ body _ _ :: _ => body
  | _ => []
section
variable {prog : Program} {w : World} {A : Around} {E : Value → Shared → Prop} {s : Shared} {b c : Array UInt8} {t u : Tok} {Q : Value → Shared → Prop}
theorem k_iaddB0 (hsz : b.size + c.size ≤ 16777216) (h : ∀ t' k, Q (.bytes (b ++ c) t') { s with toks := k }) : wpAny (model prog w) A (inplaceOp .Add (.bytes b t) (.bytes c u)) Q E s := k_iaddB rfl rfl hsz fun t' k _ => h t' k
end
theorem k_nn0 {prog : Program} {w : World} {A : Around} {E : Value → Shared → Prop} {s : Shared} {l b : Addr} {Q : Value → Shared → Prop} (hl : s.heap.IsList l #[]) (hb : s.heap.IsList b #[]) (hu : A.units < cLine) (h : Q (.bool false) s) : wpAny (model prog w) A (compareOp .NotEq (.ref l) (.ref b)) Q E s :=
  k_neNil hl hb hu (fun _ => h) (fun e => absurd rfl e)
local macro_rules | `(tactic| k_room) => `(tactic| ktr_room)
local macro_rules | `(tactic| walk_at "call type:bytes") => `(tactic| (k_here; (with_reducible show wpAny _ _ (call (Value.type "bytes") [_]) _ _ _); k_dflt (refine k_bytesV (by assumption) (by omega) ?_); intro t' k'))
local macro_rules | `(tactic| walk_at "call type:bytes") => `(tactic| (k_here; (with_reducible show wpAny _ _ (call (Value.type "bytes") [Value.ref _]) _ _ _); (rename News _ _ _ _ => zN); k_dflt (refine k_bytesBa (zN (_, _) (by k_mem)).1 (by rw [sizeLine_eq]; omega) ?_); intro t' k'))
local macro_rules | `(tactic| walk_at "compareOp NotEq bytes bytes") => `(tactic| (k_here; k_dflt (refine k_bne (by assumption) (by assumption) ?_)))
local macro_rules | `(tactic| walk_at "compareOp NotEq ref ref") => `(tactic| (k_here; (rename News _ _ _ _ => zN); k_dflt (refine k_nn0 (zN.isList (by k_mem)) (zN.isList (by k_mem)) ?nnu ?_; (case nnu => (first | (show _ < cLine; decide) | ktr_units)))))
local macro_rules | `(tactic| walk_at "call ref") => `(tactic| (k_here; (with_reducible show wpAny _ _ (call (Value.ref 771) _) _ _ _); refine hold ?_))
theorem k_addB0 {prog : Program} {w : World} {A : Around} {E : Value → Shared → Prop} {s : Shared} {b c : Array UInt8} {t u : Tok} {Q : Value → Shared → Prop} (hsz : b.size + c.size ≤ 16777216) (h : ∀ t' k, Q (.bytes (b ++ c) t') { s with toks := k }) : wpAny (model prog w) A (binaryOp .Add (.bytes b t) (.bytes c u)) Q E s := KBy.add_bytes hsz h
local macro_rules | `(tactic| walk_at "binaryOp Add bytes bytes") => `(tactic| (k_here; k_dflt (refine k_addB0 (by (try simp only [Array.size_append]); (try simp); omega) ?_); intro t' k'))
local macro_rules | `(tactic| walk_at "inplaceOp Add bytes bytes") => `(tactic| (k_here; k_dflt (refine k_iaddB0 (by (try simp only [Array.size_append]); (try simp); omega) ?_); intro t' k'))
structure LM5 (m : Str → Option Value) (lv : Nat) (ind : List UInt8) (data : Array UInt8) (wd : Int) (I W : Addr) (sb : Array UInt8) : Prop where
  lm : LM4 m lv ind data wd I W
  signs : ∃ t, m "signs" = some (.bytes sb t)
section
variable {prog : Program} {w : World} {A : Around} {E : Value → Shared → Prop} {s : Shared} {h₀ : Heap} {L : Addr} {m : Str → Option Value} {Q : Value → Shared → Prop} {value slice : Expr} {news : List (Addr × Obj)} {b : Array UInt8} {t : Tok} {ks : List Int}
theorem k_cut3 {i z : Nat} {ui uj : Tok} (hF : Fr h₀ L s.heap m) (hN : News h₀ L s.heap news) (hk : KBw.bInts b = ks) (hz : ks.length ≤ 16777216)
    (h : ∀ h' t' k c, Fr h₀ L h' m → News h₀ L h' news → c.size ≤ z → KBw.bInts c = (ks.drop i).take z → Q (.bytes c t') { s with heap := h', toks := k })
    (hs : subscripted slice false (.bytes b t) (.ref s.heap.objs.size) = operate [.ref s.heap.objs.size, .bytes b t] (getItem (.bytes b t) (.ref s.heap.objs.size)) := by with_unfolding_all rfl)
    (ht : ∀ r, letTemporaryGo value (.bytes b t) r = pure () := by intro _; with_unfolding_all rfl) :
    wpAny (model prog w) A (subscriptTail value slice (.bytes b t) (.ref s.heap.objs.size)) Q E { s with heap := s.heap.push { cls := .type "slice", data := .fields #[.int (i : Int) ui, .int ((i : Int) + (z : Int)) uj, .none] } } := by
  refine k_bcut hF hN hk (by omega) (by omega) hz (fun h' t' k c F' N' e => ?_) hs ht
  have e1 : ((i : Int) + (z : Int)).toNat - (i : Int).toNat = z := by omega
  rw [e1, Int.toNat_natCast] at e
  refine h h' t' k c F' N' ?_ e
  rw [← KBw.ints_length, e, List.length_take]
  exact Nat.min_le_left _ _
end
local macro_rules | `(tactic| walk_at "subscriptTail") => `(tactic| (k_here; (with_reducible show wpAny _ _ (subscriptTail _ (Expr.Slice (some _) (some _) none _) (Value.bytes _ _) (Value.ref _)) _ _ _); (rename News _ _ _ _ => zN); (rename Fr _ _ _ _ => zF); k_dflt (refine k_cut3 zF zN (by assumption) (by omega) ?_); intro h' t' k' c' F' N' z' e'))
local macro_rules | `(tactic| walk_at "pyIter ref") => `(tactic| ((with_reducible show wpAny _ _ (pyIter (Value.ref _)) (fun it s₂ => LoopAtV _ _ _ _ _ _ _ _ _ it s₂) _ _); (refine hold ?_)))
theorem turn3 {w : World} {dp un : Nat} {gd : Option (List Code)} {g₀ : Heap} {s : Shared} {L fa : Addr} {cd : Value} {m mg mb : Str → Option Value} {mean : ExcName → Option Value} {loose : List Str} {p : Program}
    {ind : List UInt8} {lv q : Nat} {wd : Int} {data : Array UInt8} {I dX U W d S BA Dl It : Addr} {y1 y2 u z1 z2 z3 z4 z5 z6 z7 u3 u4 td : Tok} {nS : Nat} {n : Int} {b0 du b : Array UInt8} {v : Value} {oB oD oI : Obj} {ks : List Int} {Q' : Flow → Shared → Prop}
    (B : Below (arnd dp un gd []) g₀ [] g₀) (X : (hd03.heap_1 w.params).In g₀) (T : Top p loose mean mg mb g₀) (hNS : g₀.NoSeer)
    (hm : LM4 m lv ind data wd I W) (hdue : m "due" = some (.bytes du td)) (F : Fr g₀ L s.heap (fun y => if y = Str.ofString "one" then some v else m y))
    (N : News g₀ L s.heap [(S, listOf #[] nS), (W, instObj 214 d), (d, wrD w I S (lv : Int) ind z1 z2 z3 z4 z5 z6 z7 u3 u4), (I, instObj 517 dX), (dX, ioD w U n y1 y2 u), (U, baObj b0), (BA, oB), (Dl, oD), (It, oI)])
    (l1 : @LT.lt Nat _ dX I) (l2 : @LT.lt Nat _ I U) (l3 : @LT.lt Nat _ U d) (l4 : @LT.lt Nat _ d W) (l5 : @LT.lt Nat _ W S) (l6 : @LT.lt Nat _ S BA) (l7 : @LT.lt Nat _ BA Dl) (l8 : @LT.lt Nat _ Dl It)
    (hn : n = (b0.size : Int)) (hv : (∃ t, v = .bytes b t) ∨ (v = .ref BA ∧ oB = baObj b)) (hk : KBw.bInts b = ks) (hkl : ks.length ≤ 505) (hlv : lv < 13) (hind : ind.length ≤ 4)
    (hcw : (tabsB (mulB lv ind).toList).size = colF (mulB lv ind).toList) (hcw2 : colF (mulB lv ind).toList ≤ 120) (hq : (widM (colF (mulB lv ind).toList)).fdiv 4 = (q : Int)) (hwd : wd = ((4 * q : Nat) : Int))
    (hdb : KBw.bInts du = KBw.bInts b0) (hdz : du.size ≤ 400000) (hdp : dp + 300 < recursionLimit) (hu : un + 1000 < cLine)
    (hfin : ∀ m' h' tk du' td' nS' n' b0' u' u3', LM4 m' lv ind data wd I W → m' "due" = some (.bytes du' td') → KBw.bInts du' = KBw.bInts b0' → du'.size ≤ du.size + 200000 → n' = (b0'.size : Int) → Fr g₀ L h' m' →
      News g₀ L h' [(S, listOf #[] nS'), (W, instObj 214 d), (d, wrD w I S (lv : Int) ind z1 z2 z3 z4 z5 z6 z7 u3' u4), (I, instObj 517 dX), (dX, ioD w U n' y1 y2 u'), (U, baObj b0'), (BA, oB), (Dl, oD), (It, oI)] → Q' .next { s with heap := h', toks := tk }) :
    wpG (model PySem.Challenge.rw_ko0126_03.row.prog w) ((arnd dp un gd []).deeper (envOf (Str.ofString "law") lawSc L fa cd)) (execs lawLoop (envOf (Str.ofString "law") lawSc L fa cd)) Q' (fun _ _ => False) s := by
  w_top off
  obtain ⟨g, gens₀, drawn₀, toks₀, os₀⟩ := s
  dsimp only at *
  have X0 := X
  revert X; k_fill; intro X
  conv in lawLoop => whnf
  conv in (envOf _ _ _ _ _) => arg 2; whnf
  conv in (envOf _ lawSc _ _ _) => arg 2; whnf
  have B1 := B
  have hbs : b.size ≤ 505 := by rw [← KBw.ints_length, hk]; exact hkl
  have hvb : Buf g v b := by
    rcases hv with ⟨t, e⟩ | ⟨e, rfl⟩
    · exact .inl ⟨t, e⟩
    · exact .inr ⟨BA, e, (N (BA, _) (by simp)).1⟩
  obtain ⟨⟨tl, hl⟩, ⟨tm, hmr⟩, ⟨tdt, hd⟩, ⟨tw, hw⟩, hfl, hwr⟩ := hm
  have F := fr_pin F (x := Str.ofString "writer") ((if_neg (by decide)).trans hwr)
  refine g_cons (g_any ?_)
  k_steps
  delta Hold
  rename Fr _ _ _ _ => zF
  rename News _ _ _ _ => zN
  refine signs (dp := dp) (un := un) B zF zN X0 T hNS hk (by omega) ?_ (by omega) (by omega)
  intro h1 tk1 t1 sb F1 N1 hsb
  clear zF zN
  (try clear F)
  dsimp only
  k_steps
  (try dsimp only)
  refine g_cons (g_Expr (g_MethodCall ?_))
  k_steps
  dsimp only
  refine' g_callWith_K (K := hd03.heap_1 w.params) ?hk1 ?_
  case hk1 => k_is
  k_steps
  rename Fr _ _ _ _ => zF
  rename News _ _ _ _ => zN
  have hvb2 : Buf _ v b := hv.elim (fun ⟨t, e⟩ => .inl ⟨t, e⟩) (fun ⟨e, eo⟩ => .inr ⟨BA, e, by rw [← eo]; exact (zN (BA, _) (by simp)).1⟩)
  have hne : BA ∉ [S, W, d, I, dX, U] ∧ Dl ∉ [S, W, d, I, dX, U] ∧ It ∉ [S, W, d, I, dX, U] := by
    simp only [List.mem_cons, List.not_mem_nil, or_false, not_or]
    refine ⟨⟨?_, ?_, ?_, ?_, ?_, ?_⟩, ⟨?_, ?_, ?_, ?_, ?_, ?_⟩, ⟨?_, ?_, ?_, ?_, ?_, ?_⟩⟩ <;> (show ¬ (@Eq Nat _ _)) <;> omega
  refine g_call (wby (dp := dp) (un := un) (lv := lv) (z := 3 * q) (ks := ks) B rfl rfl zF X0 T (fun p hp => zN p (List.mem_append_left [(BA, oB), (Dl, oD), (It, oI)] hp)) hn l1 l2 l3 l4 l5 hvb2 ?vna hk (by omega) hcw hcw2 ?vz rfl (by omega) hind ?vs (by omega) (by omega) ?vfin)
  case vna =>
    intro a ea
    rcases hv with ⟨t, e⟩ | ⟨e, -⟩
    · rw [e] at ea; cases ea
    · rw [e] at ea; cases ea; exact hne.1
  case vz => rw [hq]; push_cast; omega
  case vs =>
    have e := congrArg List.length hdb
    rw [KBw.ints_length, KBw.ints_length] at e
    omega
  case vfin =>
    intro h2 tk2 u2 u32 nS2 n2 zl2 b2 hn2 hzl2 hb2 F2 N2 hk2
    subst hzl2
    have N3 : News g₀ L h2 [(S, listOf #[] nS2), (W, instObj 214 d), (d, wrD w I S (lv : Int) ind z1 z2 z3 z4 z5 z6 z7 u32 u4), (I, instObj 517 dX), (dX, ioD w U n2 y1 y2 u2), (U, baObj b2), (BA, oB), (Dl, oD), (It, oI)] := fun p hp => by
      rcases List.mem_append.mp (show p ∈ [(S, listOf #[] nS2), (W, instObj 214 d), (d, wrD w I S (lv : Int) ind z1 z2 z3 z4 z5 z6 z7 u32 u4), (I, instObj 517 dX), (dX, ioD w U n2 y1 y2 u2), (U, baObj b2)] ++ [(BA, oB), (Dl, oD), (It, oI)] from hp) with e | e
      · exact N2 p e
      · have z := zN p (List.mem_append_right [(S, listOf #[] nS), (W, instObj 214 d), (d, wrD w I S (lv : Int) ind z1 z2 z3 z4 z5 z6 z7 u3 u4), (I, instObj 517 dX), (dX, ioD w U n y1 y2 u), (U, baObj b0)] e)
        refine ⟨hk2 p.1 p.2 z.1 ?_, z.2⟩
        simp only [List.mem_cons, List.not_mem_nil, or_false] at e
        rcases e with rfl | rfl | rfl
        · exact hne.1
        · exact hne.2.1
        · exact hne.2.2
    clear zF zN N2 hvb2 hvb hk2
    have hmsz := mulB_size lv ind
    have hm2 : lv * ind.length ≤ 12 * 4 := Nat.mul_le_mul (by omega) hind
    have hin : ∀ k ∈ ks, 0 ≤ k ∧ k < 256 := by rw [← hk]; exact fun k hk => KBw.ints_in hk
    rw [signs_G hin] at hsb
    have hsz : sb.size = (G ks).length := by rw [← KBw.ints_length, hsb]
    have hgl : (G ks).length ≤ 680 := by rw [G_len]; omega
    subst hwd
    have hq1 : 4 ≤ q ∧ q ≤ 19 := by
      have h1 := widM_ok (colF (mulB lv ind).toList)
      rw [Int.fdiv_eq_ediv_of_nonneg _ (by decide)] at hq
      omega
    generalize hzw : 4 * q = zw
    have hzwb : 16 ≤ zw ∧ zw ≤ 76 := by omega
    rw [hzw] at hw
    have F2 := fr_pin F2 (x := Str.ofString "margin") ((if_neg (by decide)).trans ((if_neg (by decide)).trans ((if_neg (by decide)).trans hmr)))
    have F2 := fr_pin F2 (x := Str.ofString "due") ((if_neg (by decide)).trans ((if_neg (by decide)).trans ((if_neg (by decide)).trans ((if_neg (by decide)).trans hdue))))
    have F2 := fr_pin F2 (x := Str.ofString "width") ((if_neg (by decide)).trans ((if_neg (by decide)).trans ((if_neg (by decide)).trans ((if_neg (by decide)).trans ((if_neg (by decide)).trans hw)))))
    dsimp only
    refine g_cons (g_any ?_)
    k_steps
    (try dsimp only)
    refine g_cons (g_any ?_)
    k_steps
    rename IsRange _ _ _ _ _ _ _ _ => hR
    rename Fr _ _ _ _ => zF
    rename News _ _ _ _ => zN
    have hg : KBw.bInts (du ++ (mulB lv ind ++ #[60, 100, 97, 116, 97, 62, 10])) = KBw.bInts du ++ (mI lv ind ++ [60, 100, 97, 116, 97, 62, 10]) := KBw.ints_app rfl (KBw.ints_app rfl rfl)
    delta Hold
    refine' dueGo (n := (G ks).length) (z := zw) (fun m => LM5 m lv ind data (zw : Int) I W sb) (fun i x => KBw.bInts x = (KBw.bInts du ++ (mI lv ind ++ [60, 100, 97, 116, 97, 62, 10])) ++ ((List.range i).map fun j => mI lv ind ++ (((G ks).drop (j * zw)).take zw) ++ [10]).flatten ∧ x.size ≤ du.size + 100 + i * 200) rfl hR (by omega) (by omega) (by omega) zF zN ?dpm ?ddu ?dnil ?dstep
    case dpm => exact ⟨⟨⟨tl, by with_unfolding_all exact hl⟩, ⟨tm, by with_unfolding_all rfl⟩, ⟨tdt, by with_unfolding_all exact hd⟩, ⟨tw, by with_unfolding_all rfl⟩, by with_unfolding_all exact hfl, by with_unfolding_all rfl⟩, ⟨t1, by with_unfolding_all rfl⟩⟩
    case ddu =>
      refine ⟨_, _, by with_unfolding_all rfl, by rw [hg]; simp, ?_⟩
      simp only [Array.size_append]
      simp
      omega
    case dstep =>
      intro Q2 i m3 du3 td3 t3 h3 tk3 I3 it3 hlt hic hP hdu3 hPD hI F3 N3
      obtain ⟨⟨⟨tl3, hl3⟩, ⟨tm3, hmr3⟩, ⟨tdt3, hd3⟩, ⟨tw3, hw3⟩, hfl3, hwr3⟩, ⟨ts3, hs3⟩⟩ := hP
      obtain ⟨hp1, hp2⟩ := hPD
      clear zF zN
      have hcn : i ≤ 680 := Nat.le_trans (Nat.le_of_lt hic) (Nat.le_trans (cntB_le _ _) hgl)
      have F3 := fr_pin F3 (x := Str.ofString "margin") ((if_neg (by decide)).trans hmr3)
      have F3 := fr_pin F3 (x := Str.ofString "due") ((if_neg (by decide)).trans ((if_neg (by decide)).trans hdu3))
      have F3 := fr_pin F3 (x := Str.ofString "signs") ((if_neg (by decide)).trans ((if_neg (by decide)).trans ((if_neg (by decide)).trans hs3)))
      have F3 := fr_pin F3 (x := Str.ofString "width") ((if_neg (by decide)).trans ((if_neg (by decide)).trans ((if_neg (by decide)).trans ((if_neg (by decide)).trans hw3))))
      generalize hdd : i * zw = dd at F3 hlt
      dsimp only
      k_steps
      rename Fr _ _ _ _ => zF
      rename News _ _ _ _ => zN
      rename KBw.bInts _ = List.take _ _ => hc
      have hcz := congrArg List.length hc
      rw [KBw.ints_length, List.length_take] at hcz
      have hcz2 := Nat.min_le_left zw ((G ks).drop dd).length
      subst hdd
      refine ⟨_, _, _, _, rfl, zF, zN, fun p hp => Nat.ne_of_lt (hI p hp), ⟨⟨⟨⟨tl3, by with_unfolding_all exact hl3⟩, ⟨tm3, by with_unfolding_all rfl⟩, ⟨tdt3, by with_unfolding_all exact hd3⟩, ⟨tw3, by with_unfolding_all rfl⟩, by with_unfolding_all exact hfl3, by with_unfolding_all exact hwr3⟩, ⟨ts3, by with_unfolding_all rfl⟩⟩, _, _, by with_unfolding_all rfl, ?_, ?_⟩, rfl⟩
      · rw [KBw.ints_app hp1 (KBw.ints_app (KBw.ints_app (b := mulB lv ind) rfl hc) (c := #[10]) rfl), List.range_succ, List.map_append, List.flatten_append, List.append_assoc]
        show _ ++ (_ ++ (mI lv ind ++ _ ++ [10])) = _
        simp
      · simp only [Array.size_append]
        simp
        omega
    case dnil =>
      intro m4 du4 td4 h4 tk4 hP4 hdu4 hPD4 F4 N4
      obtain ⟨⟨⟨tl4, hl4⟩, ⟨tm4, hmr4⟩, ⟨tdt4, hd4⟩, ⟨tw4, hw4⟩, hfl4, hwr4⟩, ⟨ts4, hs4⟩⟩ := hP4
      obtain ⟨hp1, hp2⟩ := hPD4
      clear zF zN
      have hcn : cntB (G ks).length zw ≤ 680 := Nat.le_trans (cntB_le _ _) hgl
      have F4 := fr_pin F4 (x := Str.ofString "margin") hmr4
      have F4 := fr_pin F4 (x := Str.ofString "due") ((if_neg (by decide)).trans hdu4)
      have F4 := fr_pin F4 (x := Str.ofString "file") ((if_neg (by decide)).trans ((if_neg (by decide)).trans hfl4))
      have F4 := fr_pin F4 (x := Str.ofString "writer") ((if_neg (by decide)).trans ((if_neg (by decide)).trans ((if_neg (by decide)).trans hwr4)))
      have F4 := fr_pin F4 (x := Str.ofString "level") ((if_neg (by decide)).trans ((if_neg (by decide)).trans ((if_neg (by decide)).trans ((if_neg (by decide)).trans hl4))))
      have hd5 : KBw.bInts (du4 ++ (mulB lv ind ++ #[60, 47, 100, 97, 116, 97, 62, 10])) = KBw.bInts b2 := by
        rw [KBw.ints_app hp1 (KBw.ints_app (b := mulB lv ind) (c := #[60, 47, 100, 97, 116, 97, 62, 10]) rfl rfl), hb2, hdb]
        congr 2
        subst hzw
        rw [cnt_rows (by omega)]
        unfold rowsS
        rw [List.map_map]
        refine congrArg List.flatten (List.map_congr_left fun j hj => ?_)
        show mI lv ind ++ _ ++ [10] = mI lv ind ++ b64 (chunkB ks (3 * q) j) ++ [10]
        rw [row_cut hin (by omega) (List.mem_range.mp hj)]
      have hb2z : b2.size ≤ 1000000 := by
        have e := congrArg List.length hd5
        rw [KBw.ints_length, KBw.ints_length] at e
        simp only [Array.size_append] at e
        simp at e
        omega
      have hd6 := hb2.symm
      have hd7 := hd5.trans hb2
      dsimp only
      refine g_cons (g_any ?_)
      k_steps
      (try dsimp only)
      refine g_cons (g_any ?_)
      k_steps
      · exact absurd (rfl : ((lv : Nat) : Int) = (lv : Int)) (by assumption)
      · dsimp only
        refine g_execs_nil ?_
        rename Fr _ _ _ _ => zF
        rename News _ _ _ _ => zN
        subst hzw
        refine hfin _ _ _ _ _ _ _ b2 _ _ ⟨⟨tl4, by with_unfolding_all rfl⟩, ⟨tm4, by with_unfolding_all rfl⟩, ⟨tdt4, by with_unfolding_all exact hd4⟩, ⟨tw4, by with_unfolding_all exact hw4⟩, by with_unfolding_all rfl, by with_unfolding_all rfl⟩ (by with_unfolding_all rfl) hd5 ?_ hn2 zF (fun p hp => zN p (.tail _ hp))
        simp only [Array.size_append]
        simp
        omega
end Mine
end
section
open PySem PySem.W PyProof.Rows PySem.Calls PySem.Spec
set_option Elab.async false
set_option linter.all false
set_option maxRecDepth 100000
set_option maxHeartbeats 8000000
namespace Mine
section
variable {prog : Program} {w : World} {A : Around} {s : Shared} {env : Env} {E : Value → Shared → Prop}
theorem g_List2 {e1 e2 : Expr} {pos : Pos} {Q : Value → Shared → Prop}
    (h : wpAny (model prog w) A (eval e1 env) (fun v1 s₁ => wpG (model prog w) A (eval e2 env) (fun v2 s₂ => Q (.ref s₂.heap.objs.size) { s₂ with heap := s₂.heap.push (listOf #[v1, v2] 0) }) E s₁) E s)
    (he : backTo pos (starEach [e1, e2] env) = [(false, eval e1 env), (false, eval e2 env)] := by rfl) : wpG (model prog w) A (eval (.List [e1, e2] pos) env) Q E s := by
  rw [arm_eval_List, he]
  refine g_bind (g_any (wpAny_standAt ?_))
  refine g_bind ?_
  unfold spliced
  refine g_bind (g_any (wpAny_mono h (fun v1 s₁ h₁ => ?_) fun _ _ x => x))
  refine g_bind (g_pure ?_)
  refine g_bind (g_holding ?_)
  unfold spliced
  refine g_bind (g_mono h₁ (fun v2 s₂ h₂ => ?_) fun _ _ x => x)
  refine g_bind (g_pure ?_)
  refine g_bind (g_holding ?_)
  unfold spliced
  refine g_pure (g_pure (g_pure ?_))
  refine g_any (wpAny_newList ?_ (by show 2 ≤ sizeLine; decide))
  exact h₂
end
local macro_rules | `(tactic| k_room) => `(tactic| ktr_room)
local macro_rules | `(tactic| walk_at "binaryOp Add bytes bytes") => `(tactic| (k_here; k_dflt (refine k_addB0 (by (try simp only [Array.size_append]); (try simp); omega) ?_); intro t' k'))
theorem rest11 {w : World} {dp un : Nat} {gd : Option (List Code)} {g₀ : Heap} {s : Shared} {L fa : Addr} {cd : Value} {m mg mb : Str → Option Value} {mean : ExcName → Option Value} {loose : List Str} {p : Program} {Q : Flow → Shared → Prop}
    {ind : List UInt8} {lv q : Nat} {wd : Int} {data : Array UInt8} {I dX U W d S : Addr} {y1 y2 u z1 z2 z3 z4 z5 z6 z7 u3 u4 td : Tok} {nS : Nat}
    (B : Below (arnd dp un gd []) g₀ [] g₀) (X : (hd03.heap_1 w.params).In g₀) (T : Top p loose mean mg mb g₀) (hNS : g₀.NoSeer)
    (hm : LM4 m lv ind data wd I W) (F : Fr g₀ L s.heap (fun y => if y = Str.ofString "due" then some (.bytes #[] td) else m y))
    (N : News g₀ L s.heap [(S, listOf #[] nS), (W, instObj 214 d), (d, wrD w I S (lv : Int) ind z1 z2 z3 z4 z5 z6 z7 u3 u4), (I, instObj 517 dX), (dX, ioD w U 0 y1 y2 u), (U, baObj #[])])
    (l1 : @LT.lt Nat _ dX I) (l2 : @LT.lt Nat _ I U) (l3 : @LT.lt Nat _ U d) (l4 : @LT.lt Nat _ d W) (l5 : @LT.lt Nat _ W S)
    (hdl : data.size ≤ 504) (hlv : lv < 13) (hind : ind.length ≤ 4)
    (hcw : (tabsB (mulB lv ind).toList).size = colF (mulB lv ind).toList) (hcw2 : colF (mulB lv ind).toList ≤ 120) (hq : (widM (colF (mulB lv ind).toList)).fdiv 4 = (q : Int)) (hwd : wd = ((4 * q : Nat) : Int))
    (hdp : dp + 300 < recursionLimit) (hu : un + 1000 < cLine)
    (hret : ∀ h' tk m', Fr g₀ L h' m' → Q (.ret (.bool true)) { s with heap := h', toks := tk }) :
    wpG (model PySem.Challenge.rw_ko0126_03.row.prog w) ((arnd dp un gd []).deeper (envOf (Str.ofString "law") lawSc L fa cd)) (execs (lawBody.drop 11) (envOf (Str.ofString "law") lawSc L fa cd)) Q (fun _ _ => False) s := by
  w_top off
  obtain ⟨g, gens₀, drawn₀, toks₀, os₀⟩ := s
  dsimp only at *
  have X0 := X
  revert X; k_fill; intro X
  conv in (List.drop _ _) => whnf
  conv in (envOf _ _ _ _ _) => arg 2; whnf
  conv in (envOf _ lawSc _ _ _) => arg 2; whnf
  have B1 := B
  have hm0 := hm
  obtain ⟨⟨tl, hl⟩, ⟨tm, hmr⟩, ⟨tdt, hd⟩, ⟨tw, hw⟩, hfl, hwr⟩ := hm
  have F := fr_pin F (x := Str.ofString "data") ((if_neg (by decide)).trans hd)
  refine g_cons (g_ForList (h₀ := g₀) (L := L) rfl (g_List2 ?_))
  k_steps
  refine g_Call ?_
  k_steps
  refine g_callWith_M ?_
  k_steps
  refine wpAny_pure ⟨rfl, ?_⟩
  rename Fr _ _ _ _ => zF
  rename News _ _ _ _ => zN
  refine g_ba1 zF zN (by rw [sizeLine_eq]; simp only [Array.size_append]; simp; omega) fun BA h1 F1 N1 lo => ?_
  have hlo : @LT.lt Nat _ S BA := lo _ (.head _)
  have hb505 : (data ++ #[255]).size ≤ 505 := by simp only [Array.size_append]; simp; omega
  clear zF zN lo
  dsimp only at F1 N1 ⊢
  refine ⟨_, #[.bytes data tdt, .ref BA], 0, _, [(S, listOf #[] nS), (W, instObj 214 d), (d, wrD w I S (lv : Int) ind z1 z2 z3 z4 z5 z6 z7 u3 u4), (I, instObj 517 dX), (dX, ioD w U 0 y1 y2 u), (U, baObj #[]), (BA, baObj (data ++ #[255]))], fun i m' news => LM4 m' lv ind data wd I W ∧ ∃ du td nS n b0 u u3, m' "due" = some (.bytes du td) ∧ KBw.bInts du = KBw.bInts b0 ∧ du.size ≤ i * 200000 ∧ n = (b0.size : Int) ∧
    news = [(S, listOf #[] nS), (W, instObj 214 d), (d, wrD w I S (lv : Int) ind z1 z2 z3 z4 z5 z6 z7 u3 u4), (I, instObj 517 dX), (dX, ioD w U n y1 y2 u), (U, baObj b0), (BA, baObj (data ++ #[255]))], rfl, F1.push _, (fun p hp => ?_), ⟨⟨⟨tl, by with_unfolding_all exact hl⟩, ⟨tm, by with_unfolding_all exact hmr⟩, ⟨tdt, by with_unfolding_all rfl⟩, ⟨tw, by with_unfolding_all exact hw⟩, by with_unfolding_all exact hfl, by with_unfolding_all exact hwr⟩, #[], td, nS, 0, #[], u, u3, by with_unfolding_all rfl, rfl, by simp, by rfl, rfl⟩, ?_, ?_, ?_⟩
  · refine (N1.push F1 _) p ?_
    rcases List.mem_cons.mp hp with rfl | hp
    · exact .head _
    · refine .tail _ ?_
      refine (List.mem_append.mp (show p ∈ [(S, listOf #[] nS), (W, instObj 214 d), (d, wrD w I S (lv : Int) ind z1 z2 z3 z4 z5 z6 z7 u3 u4), (I, instObj 517 dX), (dX, ioD w U 0 y1 y2 u), (U, baObj #[])] ++ [(BA, baObj (data ++ #[255]))] from hp)).elim (fun h => .tail _ h) (fun h => ?_)
      rw [List.mem_singleton.mp h]
      exact .head _
  · rintro i m' news ⟨-, du, td, nS, n, b0, u, u3, -, -, -, -, rfl⟩ p hp
    have hBA : @LT.lt Nat _ BA h1.objs.size := Heap.lt_size (N1 _ (.head _)).1
    simp only [List.mem_cons, List.not_mem_nil, or_false] at hp
    rcases hp with rfl | rfl | rfl | rfl | rfl | rfl | rfl <;> (show @LT.lt Nat _ _ _) <;> omega
  · rintro m' news h tk ⟨-, -⟩ F2 N2
    clear F1 N1
    refine g_cons (g_any ?_)
    k_steps
    exact hret _ _ _ F2
  · rintro It i v m' news h tk oI hDI hi hv hI F2 N2
    have hBA : @LT.lt Nat _ BA h1.objs.size := Heap.lt_size (N1 _ (.head _)).1
    clear F1 N1
    obtain ⟨hm2, du, td2, nS2, n2, b2, u2, u32, hdu, hdb, hdz, hn2, rfl⟩ := hI
    have hi2 : i < 2 := hi
    have hv2 : ∃ b, ((∃ t, v = .bytes b t) ∨ (v = .ref BA ∧ baObj (data ++ #[255]) = baObj b)) ∧ b.size ≤ 505 := by
      rcases (by omega : i = 0 ∨ i = 1) with rfl | rfl
      · exact ⟨data, .inl ⟨tdt, (Option.some.inj hv).symm⟩, by omega⟩
      · exact ⟨data ++ #[255], .inr ⟨(Option.some.inj hv).symm, rfl⟩, hb505⟩
    obtain ⟨b, hvb, hbz⟩ := hv2
    k_steps
    rename Fr _ _ _ _ => zF
    rename News _ _ _ _ => zN
    have zN9 : News g₀ L _ [(S, listOf #[] nS2), (W, instObj 214 d), (d, wrD w I S (lv : Int) ind z1 z2 z3 z4 z5 z6 z7 u32 u4), (I, instObj 517 dX), (dX, ioD w U n2 y1 y2 u2), (U, baObj b2), (BA, baObj (data ++ #[255])), (h1.objs.size, listOf #[.bytes data tdt, .ref BA] 0), (It, oI)] := fun p hp => zN p (by
      rcases List.mem_append.mp (show p ∈ [(S, listOf #[] nS2), (W, instObj 214 d), (d, wrD w I S (lv : Int) ind z1 z2 z3 z4 z5 z6 z7 u32 u4), (I, instObj 517 dX), (dX, ioD w U n2 y1 y2 u2), (U, baObj b2), (BA, baObj (data ++ #[255]))] ++ [(h1.objs.size, listOf #[.bytes data tdt, .ref BA] 0), (It, oI)] from hp) with e | e
      · exact .tail _ (.tail _ e)
      · rcases List.mem_cons.mp e with e | e
        · rw [e]; exact .tail _ (.head _)
        · rw [List.mem_singleton.mp e]; exact .head _)
    refine turn3 (q := q) (ks := KBw.bInts b) (dp := dp) (un := un) B X0 T hNS hm2 hdu zF zN9 l1 l2 l3 l4 l5 hlo hBA hDI hn2 hvb rfl (by rw [KBw.ints_length]; exact hbz) hlv hind hcw hcw2 hq hwd hdb ?_ hdp hu ?_
    · have := Nat.mul_le_mul_right 200000 (show i ≤ 1 by omega)
      omega
    · intro m9 h9 tk9 du9 td9 nS9 n9 b9 u9 u39 hm9 hdu9 hdb9 hdz9 hn9 F9 N9
      refine ⟨m9, _, h9, tk9, rfl, ⟨hm9, du9, td9, nS9, n9, b9, u9, u39, hdu9, hdb9, by rw [Nat.add_mul]; omega, hn9, rfl⟩, F9, fun p hp => N9 p ?_⟩
      refine List.mem_append.mpr (?_ : p ∈ [(S, listOf #[] nS9), (W, instObj 214 d), (d, wrD w I S (lv : Int) ind z1 z2 z3 z4 z5 z6 z7 u39 u4), (I, instObj 517 dX), (dX, ioD w U n9 y1 y2 u9), (U, baObj b9), (BA, baObj (data ++ #[255]))] ∨ p ∈ [(h1.objs.size, listOf #[.bytes data tdt, .ref BA] 0), (It, oI)])
      rcases List.mem_cons.mp hp with e | hp
      · exact .inr (by rw [e]; exact .tail _ (.head _))
      · rcases List.mem_cons.mp hp with e | hp
        · exact .inr (by rw [e]; exact .head _)
        · exact .inl hp
end Mine
end
section
open PySem PySem.W PyProof.Rows PySem.Calls PySem.Spec
set_option Elab.async false
set_option linter.all false
set_option maxRecDepth 100000
set_option maxHeartbeats 8000000
namespace Mine
theorem restAll {w : World} {dp un : Nat} {gd : Option (List Code)} {g₀ : Heap} {s : Shared} {L fa D : Addr} {cd : Value} {m mg mb : Str → Option Value} {mean : ExcName → Option Value} {loose : List Str} {p : Program} {Q : Flow → Shared → Prop}
    {t1 t2 t3 : Tok} {nD n : Nat} {hd : Int} {ws : List Value} {ks : List Int}
    (B : Below (arnd dp un gd []) g₀ [] g₀) (X : (hd03.heap_1 w.params).In g₀) (T : Top p loose mean mg mb g₀) (hNS : g₀.NoSeer)
    (F : Fr g₀ L s.heap m) (h1 : m "level" = some (.int (hd.fmod 13) t2)) (h2 : m "indent" = some (.bytes (ind3 n).toArray t1)) (h3 : m "head" = some (.int hd t3)) (h4 : m "script" = some (.ref D))
    (N : News g₀ L s.heap [(D, W.listOf ws.toArray nD)]) (hws : IntsAre ws ks) (hl : ks.length ≤ 63) (hn : n < 5) (hdp : dp + 300 < recursionLimit) (hu : un + 1000 < cLine)
    (hret : ∀ h' tk m', Fr g₀ L h' m' → Q (.ret (.bool true)) { s with heap := h', toks := tk }) :
    wpG (model PySem.Challenge.rw_ko0126_03.row.prog w) ((arnd dp un gd []).deeper (envOf (Str.ofString "law") lawSc L fa cd)) (execs (lawBody.drop 3) (envOf (Str.ofString "law") lawSc L fa cd)) Q (fun _ _ => False) s := by
  obtain ⟨lv, elv⟩ : ∃ lv : Nat, hd.fmod 13 = (lv : Int) := ⟨(hd.fmod 13).toNat, by have := Int.fmod_nonneg_of_pos hd (show (0 : Int) < 13 by decide); omega⟩
  have hlv : lv < 13 := by have := Int.fmod_lt_of_pos hd (show (0 : Int) < 13 by decide); omega
  rw [elv] at h1
  have F := fr_pin F (x := Str.ofString "script") h4
  have F := fr_pin F (x := Str.ofString "head") ((if_neg (by decide)).trans h3)
  have F := fr_pin F (x := Str.ofString "level") ((if_neg (by decide)).trans ((if_neg (by decide)).trans h1))
  have F := fr_pin F (x := Str.ofString "indent") ((if_neg (by decide)).trans ((if_neg (by decide)).trans ((if_neg (by decide)).trans h2)))
  have hq0 := widM_ok (colF (mulB lv (ind3 n)).toList)
  obtain ⟨q, hq⟩ : ∃ q : Nat, (widM (colF (mulB lv (ind3 n)).toList)).fdiv 4 = (q : Int) := by
    rw [Int.fdiv_eq_ediv_of_nonneg _ (by decide)]
    exact ⟨((widM (colF (mulB lv (ind3 n)).toList)) / 4).toNat, by omega⟩
  have hw3 := wid3 hn hlv
  refine rest3 B X T F N hws hl hlv (ind3_len n) hdp hu fun m h' tk data tw news hdz hm F1 N1 => ?_
  rw [hq] at F1
  have ewd : (q : Int) * 4 = ((4 * q : Nat) : Int) := by push_cast; omega
  rw [ewd] at F1
  refine rest8 B X T hm F1 hdp hu fun m8 h8 tk8 td I dX U W d S y1 y2 u z1 z2 z3 z4 z5 z6 z7 u3 u4 nS hm8 F8 N8 l1 l2 l3 l4 l5 => ?_
  exact rest11 (q := q) B X T hNS hm8 F8 N8 l1 l2 l3 l4 l5 hdz hlv (ind3_len n) hw3.1 hw3.2 hq rfl hdp hu fun h9 tk9 m9 F9 => hret h9 tk9 m9 F9
end Mine
end
section
open PySem PySem.W PyProof.Rows PySem.Calls PySem.Spec
set_option Elab.async false
set_option maxRecDepth 100000
set_option maxHeartbeats 8000000
namespace Mine
def HoldL (p : Prop) : Prop := p
theorem holdL {p : Prop} (h : HoldL p) : p := h
local macro_rules | `(tactic| walk_at "compareOp NotEq ref ref") => `(tactic| (refine holdL ?_))
theorem enter_callG {M : Model} {A : Around} {s : Shared} {f : Value} {pos : List Value} {kw : List (Str × Value)} {c : ClaimW} {cl : Str → Option Addr} {mean : ExcName → Option Value} {args : List WData} {s₁ : Shared}
    (h : codeG M A (.call f ⟨pos, kw⟩) (GoodWG c cl mean args s₁) s) : wpG M A (PySem.call f pos kw) (fun v s' => GoodWG c cl mean args s₁ (.ok (.ret v)) s') (fun e s' => GoodWG c cl mean args s₁ (.error e) s') s :=
  g_call (gc_mono h fun res s' g => by rcases g.1 with ⟨v, _, _, rfl, _⟩ | ⟨e, _, _, rfl, _⟩ <;> exact g)
theorem law3 : PySem.Challenge.rw_ko0126_03.Holds := hd03 ⟨Zh.left03, by
  w_strict (
    k_fill
    intro w s₀ s₁ mg mb G Y fa o pm cd doc dV kV ho hd hcd hD hmg hg args vals as hpre hlay hrd hwl hlo
    have KX := kIn_of Y
    have X := (Ground.X G).1
    have V := (Ground.X G).2
    have GL := glob_more (Ground.glob G (by decide +kernel) (by decide +kernel)) V
    refine Ground.open G ?_
    intro T B D TE TW
    try (refine guard_noD D (by decide +kernel) ?_; clear D)
    obtain ⟨_, _, M⟩ := bmod_of_top T
    have TA := at_of_top T
    try (obtain ⟨_, _, he, B0⟩ := based_of_top T rfl hmg ho hd; have he' : cd = _ := he; subst he'; clear he)
    clear hmg
    wrow_args hpre hlay hrd hwl hlo
    refine g_guard ?dum (enter_callG (gc_mono ?main fun _ _ g => GoodW.toG g))
    case dum =>
      refine wpAny_pure ?_
      refine GoodW.toG ⟨.inl ⟨_, .bool true, [], rfl, raisesW_false ?dr, .bool true, ?dp, unshared_nil⟩, fun _ _ e => e, rfl, hg⟩
      case dr => wrow_none_raised
      case dp => wrow_post
    w_top on
    have K0 := below_caller (Top.heap T)
    have he := Dflts.none hD rfl
    subst he
    refine gc_full (by decide) ho hd (Top.nolimit T) hcd (BindsTo.of_eq rfl) (locs rfl) fun h₁ F => ?_
    w_binds F
    have N0 := (News.nil : News _ _ _ []).at F
    clear hd hcd TA
    k_drop
    refine g_cons (g_any ?_)
    k_steps
    dsimp only
    refine g_cons (g_any ?_)
    k_steps
    rename News _ _ _ _ => zN
    delta HoldL
    have q1 := (zN _ (.head _)).1
    have q2 := (zN _ (.tail _ (.head _))).1
    dsimp only at q1 q2
    have e1 := (⟨_, q1, rfl, _, rfl⟩ : Heap.IsList _ _ _)
    have e2 := (⟨_, q2, rfl, _, rfl⟩ : Heap.IsList _ _ _)
    refine k_neNil e2 e1 ?lnU ?lnA ?lnB
    case lnU => first | (show _ < cLine; decide) | ktr_units
    case lnA =>
      intro hz0
      k_steps
      dsimp only
      refine g_cons (g_any ?_)
      k_steps
      (dsimp only
       rename Fr _ _ _ _ => zF
       rename News _ _ _ _ => zN
       rename IntsAre _ (List.take 300 _) => zI
       refine g_mono (restAll (dp := 301) (un := 4) (gd := some []) (n := 0) K0 KX T GL.seer zF (by with_unfolding_all rfl) (by with_unfolding_all rfl) (by with_unfolding_all rfl) (by with_unfolding_all rfl) (fun p hp => zN p (by rw [List.mem_singleton.mp hp]; k_mem)) zI (by rw [List.length_take]; omega) (by decide) (by decide) (by decide) ?_) (fun _ _ x => x) (fun _ _ x => x.elim)
       intro h9 tk9 m9 F9
       clear zF zN
       k_steps)
    case lnB =>
      intro hz0
      have hpos : 0 < (List.take 300 _).length := (by rename IntsAre _ (List.take 300 _) => hws; rw [← hws.length, ← List.size_toArray]; exact Nat.pos_of_ne_zero hz0)
      k_steps
      dsimp only
      refine g_cons (g_any ?_)
      k_steps
      ·
        (dsimp only
         rename Fr _ _ _ _ => zF
         rename News _ _ _ _ => zN
         rename IntsAre _ (List.take 300 _) => zI
         refine g_mono (restAll (dp := 301) (un := 4) (gd := some []) (n := 0) K0 KX T GL.seer zF (by with_unfolding_all rfl) (by with_unfolding_all rfl) (by with_unfolding_all rfl) (by with_unfolding_all rfl) (fun p hp => zN p (by rw [List.mem_singleton.mp hp]; k_mem)) zI (by rw [List.length_take]; omega) (by decide) (by decide) (by decide) ?_) (fun _ _ x => x) (fun _ _ x => x.elim)
         intro h9 tk9 m9 F9
         clear zF zN
         k_steps)
      ·
        (dsimp only
         rename Fr _ _ _ _ => zF
         rename News _ _ _ _ => zN
         rename IntsAre _ (List.take 300 _) => zI
         refine g_mono (restAll (dp := 301) (un := 4) (gd := some []) (n := 1) K0 KX T GL.seer zF (by with_unfolding_all rfl) (by with_unfolding_all rfl) (by with_unfolding_all rfl) (by with_unfolding_all rfl) (fun p hp => zN p (by rw [List.mem_singleton.mp hp]; k_mem)) zI (by rw [List.length_take]; omega) (by decide) (by decide) (by decide) ?_) (fun _ _ x => x) (fun _ _ x => x.elim)
         intro h9 tk9 m9 F9
         clear zF zN
         k_steps)
      ·
        (dsimp only
         rename Fr _ _ _ _ => zF
         rename News _ _ _ _ => zN
         rename IntsAre _ (List.take 300 _) => zI
         refine g_mono (restAll (dp := 301) (un := 4) (gd := some []) (n := 2) K0 KX T GL.seer zF (by with_unfolding_all rfl) (by with_unfolding_all rfl) (by with_unfolding_all rfl) (by with_unfolding_all rfl) (fun p hp => zN p (by rw [List.mem_singleton.mp hp]; k_mem)) zI (by rw [List.length_take]; omega) (by decide) (by decide) (by decide) ?_) (fun _ _ x => x) (fun _ _ x => x.elim)
         intro h9 tk9 m9 F9
         clear zF zN
         k_steps)
      ·
        (dsimp only
         rename Fr _ _ _ _ => zF
         rename News _ _ _ _ => zN
         rename IntsAre _ (List.take 300 _) => zI
         refine g_mono (restAll (dp := 301) (un := 4) (gd := some []) (n := 3) K0 KX T GL.seer zF (by with_unfolding_all rfl) (by with_unfolding_all rfl) (by with_unfolding_all rfl) (by with_unfolding_all rfl) (fun p hp => zN p (by rw [List.mem_singleton.mp hp]; k_mem)) zI (by rw [List.length_take]; omega) (by decide) (by decide) (by decide) ?_) (fun _ _ x => x) (fun _ _ x => x.elim)
         intro h9 tk9 m9 F9
         clear zF zN
         k_steps)
      ·
        (dsimp only
         rename Fr _ _ _ _ => zF
         rename News _ _ _ _ => zN
         rename IntsAre _ (List.take 300 _) => zI
         refine g_mono (restAll (dp := 301) (un := 4) (gd := some []) (n := 4) K0 KX T GL.seer zF (by with_unfolding_all rfl) (by with_unfolding_all rfl) (by with_unfolding_all rfl) (by with_unfolding_all rfl) (fun p hp => zN p (by rw [List.mem_singleton.mp hp]; k_mem)) zI (by rw [List.length_take]; omega) (by decide) (by decide) (by decide) ?_) (fun _ _ x => x) (fun _ _ x => x.elim)
         intro h9 tk9 m9 F9
         clear zF zN
         k_steps))⟩
end Mine
end
set_option maxRecDepth 100000 in
set_option maxHeartbeats 8000000 in
theorem PySem.Challenge.cw_ko0126_03_holds : PySem.Challenge.rw_ko0126_03.Holds := by
  exact Mine.law3
