import PyProof.Rows.All
import Wide.All
import OpenK.AllK
import Wide.FinOn
import PyProof.Walk
import PyProof.WalkLemmas
import PyProof.ListTruth
import KE.KRegrown
import KE.TopReadKeeps
import PyProof.IsiH_list
import PyProof.DictTable
import PyProof.FactsAll.str_8
import PyProof.Rows.LoopInvT
import KE.KLcPair
import PyProof.WalksU
import PyProof.WalksMore
import KE.LcTurns
import PyProof.ZipIter
import PyProof.Draws
import PyProof.EqKinds
import PyProof.SeqInW
import PyProof.Rows.GenSrcRange
import KE.KRevSl
import PyProof.WalksEnum
import PyProof.EnumMake
import PyProof.EnumStmt
import OpenK.KEqL
import KE.KSliceW
import PyProof.EqAt
import KE.KSetAt
import PyProof.ListIndexNeg
import PySem.Challenge.RW_ku0029_01
open PySem PySem.W PySem.Calls PyProof.Rows
set_option Elab.async false
set_option compiler.extract_closed false
set_option maxRecDepth 100000
set_option maxHeartbeats 8000000
set_option linter.unusedVariables false
namespace Mine
section
open PyProof.Rows PySem PySem.Calls PySem.W

noncomputable abbrev pw : Program := PySem.Challenge.pw_ku0029_01
noncomputable def ss (x : String) : Str := Str.ofString x
noncomputable def en (P : Params) (x : String) (t : Tok) (v : Value) : DictEntry := ⟨PyData.keyHash P (Str.ofString x), .str (Str.ofString x) t, v⟩
noncomputable def nd (o : Obj) (l r : BT) : BT := .node o l r
noncomputable def nl : BT := .nil
noncomputable def pB : List Stmt := pw.main.body
noncomputable def stI (l : List Stmt) (i : Nat) : Stmt := match l, i with
  | [], _ => .Pass ⟨0, 0, 0, 0⟩
  | x :: _, 0 => x
  | _ :: r, n + 1 => stI r n
noncomputable def fdA : Stmt → Arguments
  | .FunctionDef _ a _ _ _ _ _ _ _ _ => a
  | _ => default
noncomputable def fdB : Stmt → List Stmt
  | .FunctionDef _ _ b _ _ _ _ _ _ _ => b
  | _ => []
noncomputable def fdS : Stmt → Scope
  | .FunctionDef _ _ _ _ _ _ s _ _ _ => s
  | _ => default
noncomputable def clB : Stmt → List Stmt
  | .ClassDef _ _ _ b _ _ _ _ _ _ _ => b
  | _ => []
noncomputable def o0_0 (P : Params) : Obj := (Obj.mk (Value.type "dict") none (Data.dict #[(en P "__name__" 1 (Value.str (ss "builtins") 160)), (en P "__doc__" 2 (Value.builtin "builtins.__doc__:str#\x6fpaque")), (en P "__package__" 3 (Value.builtin "builtins.__package__:str#\x6fpaque")), (en P "__loader__" 4 (Value.builtin "builtins.__loader__:shared#\x6fpaque")), (en P "__spec__" 5 (Value.builtin "builtins.__spec__#\x6fpaque")), (en P "__build_class__" 6 (Value.builtin "__build_class__")), (en P "__import__" 7 (Value.builtin "__import__")), (en P "abs" 8 (Value.builtin "abs")), (en P "all" 9 (Value.builtin "all")), (en P "any" 10 (Value.builtin "any")), (en P "ascii" 11 (Value.builtin "ascii")), (en P "bin" 12 (Value.builtin "bin")), (en P "breakpoint" 13 (Value.builtin "breakpoint")), (en P "callable" 14 (Value.builtin "callable")), (en P "chr" 15 (Value.builtin "chr")), (en P "compile" 16 (Value.builtin "compile")), (en P "delattr" 17 (Value.builtin "delattr")), (en P "dir" 18 (Value.builtin "dir")), (en P "divmod" 19 (Value.builtin "divmod")), (en P "eval" 20 (Value.builtin "eval")), (en P "exec" 21 (Value.builtin "exec")), (en P "format" 22 (Value.builtin "format")), (en P "getattr" 23 (Value.builtin "getattr")), (en P "globals" 24 (Value.builtin "globals")), (en P "hasattr" 25 (Value.builtin "hasattr")), (en P "hash" 26 (Value.builtin "hash")), (en P "hex" 27 (Value.builtin "hex")), (en P "id" 28 (Value.builtin "id")), (en P "input" 29 (Value.builtin "input")), (en P "isinstance" 30 (Value.builtin "isinstance")), (en P "issubclass" 31 (Value.builtin "issubclass")), (en P "iter" 32 (Value.builtin "iter")), (en P "aiter" 33 (Value.builtin "aiter")), (en P "len" 34 (Value.builtin "len")), (en P "locals" 35 (Value.builtin "locals")), (en P "max" 36 (Value.builtin "max")), (en P "min" 37 (Value.builtin "min")), (en P "next" 38 (Value.builtin "next")), (en P "anext" 39 (Value.builtin "anext")), (en P "oct" 40 (Value.builtin "oct")), (en P "ord" 41 (Value.builtin "ord")), (en P "pow" 42 (Value.builtin "pow")), (en P "print" 43 (Value.builtin "print")), (en P "repr" 44 (Value.builtin "repr")), (en P "round" 45 (Value.builtin "round")), (en P "setattr" 46 (Value.builtin "setattr")), (en P "sorted" 47 (Value.builtin "sorted")), (en P "sum" 48 (Value.builtin "sum")), (en P "vars" 49 (Value.builtin "vars")), (en P "None" 50 Value.none), (en P "Ellipsis" 51 Value.ellipsis), (en P "NotImplemented" 52 Value.notImplemented), (en P "False" 53 (Value.bool Bool.false)), (en P "True" 54 (Value.bool Bool.true)), (en P "bool" 55 (Value.type "bool")), (en P "memoryview" 56 (Value.type "memoryview")), (en P "bytearray" 57 (Value.type "bytearray")), (en P "bytes" 58 (Value.type "bytes")), (en P "classmethod" 59 (Value.type "classmethod")), (en P "complex" 60 (Value.type "complex")), (en P "dict" 61 (Value.type "dict")), (en P "enumerate" 62 (Value.type "enumerate")), (en P "filter" 63 (Value.type "filter")), (en P "float" 64 (Value.type "float")), (en P "frozenset" 65 (Value.type "frozenset")), (en P "property" 66 (Value.type "property")), (en P "int" 67 (Value.type "int")), (en P "list" 68 (Value.type "list")), (en P "map" 69 (Value.type "map")), (en P "object" 70 (Value.type "object")), (en P "range" 71 (Value.type "range")), (en P "reversed" 72 (Value.type "reversed")), (en P "set" 73 (Value.type "set")), (en P "slice" 74 (Value.type "slice")), (en P "staticmethod" 75 (Value.type "staticmethod")), (en P "str" 76 (Value.type "str")), (en P "super" 77 (Value.type "super")), (en P "tuple" 78 (Value.type "tuple")), (en P "type" 79 (Value.type "type")), (en P "zip" 80 (Value.type "zip")), (en P "__debug__" 81 (Value.bool Bool.true)), (en P "BaseException" 82 (Value.type "BaseException")), (en P "BaseExceptionGroup" 83 (Value.type "BaseExceptionGroup")), (en P "Exception" 84 (Value.type "Exception")), (en P "GeneratorExit" 85 (Value.type "GeneratorExit")), (en P "KeyboardInterrupt" 86 (Value.type "KeyboardInterrupt")), (en P "SystemExit" 87 (Value.type "SystemExit")), (en P "ArithmeticError" 88 (Value.type "ArithmeticError")), (en P "AssertionError" 89 (Value.type "AssertionError")), (en P "AttributeError" 90 (Value.type "AttributeError")), (en P "BufferError" 91 (Value.type "BufferError")), (en P "EOFError" 92 (Value.type "EOFError")), (en P "ImportError" 93 (Value.type "ImportError")), (en P "LookupError" 94 (Value.type "LookupError")), (en P "MemoryError" 95 (Value.type "MemoryError")), (en P "NameError" 96 (Value.type "NameError")), (en P "OSError" 97 (Value.type "OSError")), (en P "ReferenceError" 98 (Value.type "ReferenceError")), (en P "RuntimeError" 99 (Value.type "RuntimeError")), (en P "StopAsyncIteration" 100 (Value.type "StopAsyncIteration")), (en P "StopIteration" 101 (Value.type "StopIteration")), (en P "SyntaxError" 102 (Value.type "SyntaxError")), (en P "SystemError" 103 (Value.type "SystemError")), (en P "TypeError" 104 (Value.type "TypeError")), (en P "ValueError" 105 (Value.type "ValueError")), (en P "Warning" 106 (Value.type "Warning")), (en P "FloatingPointError" 107 (Value.type "FloatingPointError")), (en P "OverflowError" 108 (Value.type "OverflowError")), (en P "ZeroDivisionError" 109 (Value.type "ZeroDivisionError")), (en P "BytesWarning" 110 (Value.type "BytesWarning")), (en P "DeprecationWarning" 111 (Value.type "DeprecationWarning")), (en P "EncodingWarning" 112 (Value.type "EncodingWarning")), (en P "FutureWarning" 113 (Value.type "FutureWarning")), (en P "ImportWarning" 114 (Value.type "ImportWarning")), (en P "PendingDeprecationWarning" 115 (Value.type "PendingDeprecationWarning")), (en P "ResourceWarning" 116 (Value.type "ResourceWarning")), (en P "RuntimeWarning" 117 (Value.type "RuntimeWarning")), (en P "SyntaxWarning" 118 (Value.type "SyntaxWarning")), (en P "UnicodeWarning" 119 (Value.type "UnicodeWarning")), (en P "UserWarning" 120 (Value.type "UserWarning")), (en P "BlockingIOError" 121 (Value.type "BlockingIOError")), (en P "ChildProcessError" 122 (Value.type "ChildProcessError")), (en P "ConnectionError" 123 (Value.type "ConnectionError")), (en P "FileExistsError" 124 (Value.type "FileExistsError")), (en P "FileNotFoundError" 125 (Value.type "FileNotFoundError")), (en P "InterruptedError" 126 (Value.type "InterruptedError")), (en P "IsADirectoryError" 127 (Value.type "IsADirectoryError")), (en P "NotADirectoryError" 128 (Value.type "NotADirectoryError")), (en P "PermissionError" 129 (Value.type "PermissionError")), (en P "ProcessLookupError" 130 (Value.type "ProcessLookupError")), (en P "TimeoutError" 131 (Value.type "TimeoutError")), (en P "IndentationError" 132 (Value.type "IndentationError")), (en P "_IncompleteInputError" 133 (Value.type "_IncompleteInputError")), (en P "IndexError" 134 (Value.type "IndexError")), (en P "KeyError" 135 (Value.type "KeyError")), (en P "ModuleNotFoundError" 136 (Value.type "ModuleNotFoundError")), (en P "NotImplementedError" 137 (Value.type "NotImplementedError")), (en P "PythonFinalizationError" 138 (Value.type "PythonFinalizationError")), (en P "RecursionError" 139 (Value.type "RecursionError")), (en P "UnboundLocalError" 140 (Value.type "UnboundLocalError")), (en P "UnicodeError" 141 (Value.type "UnicodeError")), (en P "BrokenPipeError" 142 (Value.type "BrokenPipeError")), (en P "ConnectionAbortedError" 143 (Value.type "ConnectionAbortedError")), (en P "ConnectionRefusedError" 144 (Value.type "ConnectionRefusedError")), (en P "ConnectionResetError" 145 (Value.type "ConnectionResetError")), (en P "TabError" 146 (Value.type "TabError")), (en P "UnicodeDecodeError" 147 (Value.type "UnicodeDecodeError")), (en P "UnicodeEncodeError" 148 (Value.type "UnicodeEncodeError")), (en P "UnicodeTranslateError" 149 (Value.type "UnicodeTranslateError")), (en P "ExceptionGroup" 150 (Value.type "ExceptionGroup")), (en P "EnvironmentError" 151 (Value.type "OSError")), (en P "IOError" 152 (Value.type "OSError")), (en P "open" 153 (Value.builtin "open")), (en P "quit" 154 (Value.builtin "builtins.quit#\x6fpaque")), (en P "exit" 155 (Value.builtin "builtins.exit#\x6fpaque")), (en P "copyright" 156 (Value.builtin "builtins.copyright#\x6fpaque")), (en P "credits" 157 (Value.builtin "builtins.credits#\x6fpaque")), (en P "license" 158 (Value.builtin "builtins.license#\x6fpaque")), (en P "help" 159 (Value.builtin "builtins.help#\x6fpaque"))] 159) #[])
noncomputable def o0_1 (P : Params) : Obj := (Obj.mk (Value.type "dict") none (Data.dict #[(en P "builtins" 162 (Value.ref 4)), (en P "__main__" 163 (Value.ref 5)), (en P "_sre" 244 (Value.ref 12)), (en P "_collections" 292 (Value.ref 30))] 4) #[])
noncomputable def o0_2 (P : Params) : Obj := (Obj.mk Value.none none (Data.dict #[(en P "\x69mport.loaded._sre" 183 (Value.bool Bool.true)), (en P "class._frozen_importlib.BuiltinImporter" 185 (Value.ref 14)), (en P "watched.\x69mport" 206 (Value.ref 18)), (en P "class._frozen_importlib.ModuleSpec" 216 (Value.ref 22)), (en P "sys.modules.booked-epoch" 245 (Value.int 4 0)), (en P "\x69mport.later-laid._sre" 270 (Value.bool Bool.true)), (en P "watched.library" 272 (Value.ref 27)), (en P "watched.library-objects" 0 (Value.str (ss "\x0c\x1e") 0)), (en P "watched.library-deep._sre" 273 (Value.str (Str.mk #[4, 0, 0, 11, 4, 0, 0, 11, 4, 0, 0, 3, 4, 0, 0, 11, 8, 4, 100, 105, 99, 116, 2]) 0)), (en P "\x69mport.loaded._collections" 280 (Value.bool Bool.true)), (en P "sys.modules.landed._collections" 294 (Value.bool Bool.true)), (en P "\x69mport.later-laid._collections" 309 (Value.bool Bool.true)), (en P "watched.library-deep._collections" 311 (Value.str (Str.mk #[4, 0, 0, 29, 4, 0, 0, 29, 4, 0, 0, 3, 4, 0, 0, 29, 8, 4, 100, 105, 99, 116, 2]) 0))] 13) #[])
noncomputable def o0_3 (P : Params) : Obj := (Obj.mk (Value.type "dict") none (Data.dict #[(en P "__name__" 165 (Value.str (ss "__main__") 164)), (en P "__doc__" 166 Value.none), (en P "__package__" 167 Value.none), (en P "__loader__" 168 (Value.builtin "__main__.__loader__#\x6fpaque")), (en P "__spec__" 169 Value.none), (en P "__annotations__" 170 (Value.ref 6)), (en P "__builtins__" 171 (Value.ref 4)), (en P "__file__" 173 (Value.str (ss "/claim/cut.py") 172)), (en P "__cached__" 174 Value.none), (en P "_sre" 275 (Value.ref 12)), (en P "deque" 317 (Value.type "collections.deque"))] 11) #[])
noncomputable def o0_4 (P : Params) : Obj := (Obj.mk (Value.type "module") (some 0) Data.plain #[])
noncomputable def o0_5 (P : Params) : Obj := (Obj.mk (Value.type "module") (some 3) Data.plain #[])
noncomputable def o0_6 (P : Params) : Obj := (Obj.mk (Value.type "dict") none (Data.dict #[] 0) #[])
noncomputable def o0_7 (P : Params) : Obj := (Obj.mk (Value.type "tuple") none (Data.seq #[] 0) #[])
noncomputable def o0_8 (P : Params) : Obj := (Obj.mk Value.none none (Data.fields #[]) #[])
noncomputable def o0_9 (P : Params) : Obj := (Obj.mk (Value.type "code") none (Data.fields #[(Value.str (ss "<module>") 176), (Value.str (ss "<module>") 177), (Value.str (ss "/claim/cut.py") 178), (Value.int 1 0), (Value.int 0 0), (Value.int 0 0), (Value.int 0 0), (Value.int 0 0), (Value.ref 7), (Value.bool Bool.false), (Value.int 175 0), (Value.ref 8), Value.none, Value.none, Value.none, Value.none, (Value.int 179 0), (Value.int 1 0), (Value.str (ss "/claim/cut.py") 180)]) #[])
noncomputable def o0_10 (P : Params) : Obj := (Obj.mk (Value.type "frame") none Data.plain #[(some (Value.ref 9)), (some (Value.ref 3)), (some (Value.ref 3)), none, (some (Value.str (ss "__main__") 164)), none, (some (Value.ref 0))])
noncomputable def o0_11 (P : Params) : Obj := (Obj.mk (Value.type "dict") none (Data.dict #[(en P "__name__" 247 (Value.str (ss "_sre") 246)), (en P "__doc__" 248 Value.none), (en P "__package__" 250 (Value.str (ss "") 249)), (en P "__loader__" 251 (Value.builtin "off-the-table:_sre.__loader__:shared#\x6fpaque")), (en P "__spec__" 252 (Value.builtin "off-the-table:_sre.__spec__:shared#\x6fpaque")), (en P "compile" 253 (Value.builtin "_sre.compile")), (en P "template" 254 (Value.builtin "off-the-table:_sre.template:shared#\x6fpaque")), (en P "getcodesize" 255 (Value.builtin "off-the-table:_sre.getcodesize:shared#\x6fpaque")), (en P "ascii_iscased" 256 (Value.builtin "off-the-table:_sre.ascii_iscased:shared#\x6fpaque")), (en P "unicode_iscased" 257 (Value.builtin "off-the-table:_sre.unicode_iscased:shared#\x6fpaque")), (en P "ascii_tolower" 258 (Value.builtin "off-the-table:_sre.ascii_tolower:shared#\x6fpaque")), (en P "unicode_tolower" 259 (Value.builtin "off-the-table:_sre.unicode_tolower:shared#\x6fpaque")), (en P "MAGIC" 261 (Value.int 20230612 260)), (en P "CODESIZE" 263 (Value.int 4 262)), (en P "MAXREPEAT" 265 (Value.int 4294967295 264)), (en P "MAXGROUPS" 267 (Value.int 1073741823 266)), (en P "copyright" 269 (Value.str (ss " SRE 2.2.2 Copyright (c) 1997-2002 by Secret Labs AB ") 268))] 17) #[])
noncomputable def o0_12 (P : Params) : Obj := (Obj.mk (Value.type "module") (some 11) Data.plain #[])
noncomputable def o0_13 (P : Params) : Obj := (Obj.mk (Value.type "dict") none (Data.dict #[(en P "__module__" 189 (Value.str (ss "_frozen_importlib") 186)), (en P "__firstlineno__" 190 (Value.int 971 187)), (en P "__doc__" 191 (Value.builtin "_frozen_importlib.BuiltinImporter.__doc__:str#\x6fpaque")), (en P "_ORIGIN" 192 (Value.str (ss "built-in") 188)), (en P "find_spec" 193 (Value.builtin "_frozen_importlib.BuiltinImporter.find_spec#\x6fpaque")), (en P "create_module" 194 (Value.builtin "_frozen_importlib.BuiltinImporter.create_module#\x6fpaque")), (en P "exec_module" 195 (Value.builtin "_frozen_importlib.BuiltinImporter.exec_module#\x6fpaque")), (en P "get_code" 196 (Value.builtin "_frozen_importlib.BuiltinImporter.get_code#\x6fpaque")), (en P "get_source" 197 (Value.builtin "_frozen_importlib.BuiltinImporter.get_source#\x6fpaque")), (en P "is_package" 198 (Value.builtin "_frozen_importlib.BuiltinImporter.is_package#\x6fpaque")), (en P "load_module" 199 (Value.builtin "_frozen_importlib.BuiltinImporter.load_module#\x6fpaque")), (en P "__static_attributes__" 200 (Value.ref 15)), (en P "__dict__" 202 (Value.ref 16)), (en P "__weakref__" 204 (Value.ref 17))] 14) #[])
noncomputable def o0_14 (P : Params) : Obj := (Obj.mk (Value.type "type") none (Data.cls (ClassData.mk (ss "BuiltinImporter") [(Value.type "object")] [(Value.ref 14), (Value.type "object")] 13 (ss "BuiltinImporter") Bool.true [] [] Bool.false none Bool.false)) #[])
noncomputable def o0_15 (P : Params) : Obj := (Obj.mk (Value.type "tuple") none (Data.seq #[] 0) #[])
noncomputable def o0_16 (P : Params) : Obj := (Obj.mk (Value.type "getset_descriptor") none (Data.fields #[(Value.str (ss "__dict__") 201), (Value.ref 14), (Value.builtin "function.__dict__"), (Value.builtin "function.__dict__#set")]) #[])
noncomputable def o0_17 (P : Params) : Obj := (Obj.mk (Value.type "getset_descriptor") none (Data.fields #[(Value.str (ss "__weakref__") 203), (Value.ref 14), (Value.builtin "ExceptionGroup.__weakref__"), Value.none]) #[])
noncomputable def o0_18 (P : Params) : Obj := (Obj.mk Value.none none (Data.seq #[(Value.int 13 0), (Value.str (Str.mk #[6, 189, 10, 95, 95, 109, 111, 100, 117, 108, 101, 95, 95, 6, 186, 17, 95, 102, 114, 111, 122, 101, 110, 95, 105, 109, 112, 111, 114, 116, 108, 105, 98, 6, 190, 15, 95, 95, 102, 105, 114, 115, 116, 108, 105, 110, 101, 110, 111, 95, 95, 4, 187, 0, 971, 6, 191, 7, 95, 95, 100, 111, 99, 95, 95, 9, 52, 95, 102, 114, 111, 122, 101, 110, 95, 105, 109, 112, 111, 114, 116, 108, 105, 98, 46, 66, 117, 105, 108, 116, 105, 110, 73, 109, 112, 111, 114, 116, 101, 114, 46, 95, 95, 100, 111, 99, 95, 95, 58, 115, 116, 114, 35, 111, 112, 97, 113, 117, 101, 6, 192, 7, 95, 79, 82, 73, 71, 73, 78, 6, 188, 8, 98, 117, 105, 108, 116, 45, 105, 110, 6, 193, 9, 102, 105, 110, 100, 95, 115, 112, 101, 99, 9, 50, 95, 102, 114, 111, 122, 101, 110, 95, 105, 109, 112, 111, 114, 116, 108, 105, 98, 46, 66, 117, 105, 108, 116, 105, 110, 73, 109, 112, 111, 114, 116, 101, 114, 46, 102, 105, 110, 100, 95, 115, 112, 101, 99, 35, 111, 112, 97, 113, 117, 101, 6, 194, 13, 99, 114, 101, 97, 116, 101, 95, 109, 111, 100, 117, 108, 101, 9, 54, 95, 102, 114, 111, 122, 101, 110, 95, 105, 109, 112, 111, 114, 116, 108, 105, 98, 46, 66, 117, 105, 108, 116, 105, 110, 73, 109, 112, 111, 114, 116, 101, 114, 46, 99, 114, 101, 97, 116, 101, 95, 109, 111, 100, 117, 108, 101, 35, 111, 112, 97, 113, 117, 101, 6, 195, 11, 101, 120, 101, 99, 95, 109, 111, 100, 117, 108, 101, 9, 52, 95, 102, 114, 111, 122, 101, 110, 95, 105, 109, 112, 111, 114, 116, 108, 105, 98, 46, 66, 117, 105, 108, 116, 105, 110, 73, 109, 112, 111, 114, 116, 101, 114, 46, 101, 120, 101, 99, 95, 109, 111, 100, 117, 108, 101, 35, 111, 112, 97, 113, 117, 101, 6, 196, 8, 103, 101, 116, 95, 99, 111, 100, 101, 9, 49, 95, 102, 114, 111, 122, 101, 110, 95, 105, 109, 112, 111, 114, 116, 108, 105, 98, 46, 66, 117, 105, 108, 116, 105, 110, 73, 109, 112, 111, 114, 116, 101, 114, 46, 103, 101, 116, 95, 99, 111, 100, 101, 35, 111, 112, 97, 113, 117, 101, 6, 197, 10, 103, 101, 116, 95, 115, 111, 117, 114, 99, 101, 9, 51, 95, 102, 114, 111, 122, 101, 110, 95, 105, 109, 112, 111, 114, 116, 108, 105, 98, 46, 66, 117, 105, 108, 116, 105, 110, 73, 109, 112, 111, 114, 116, 101, 114, 46, 103, 101, 116, 95, 115, 111, 117, 114, 99, 101, 35, 111, 112, 97, 113, 117, 101, 6, 198, 10, 105, 115, 95, 112, 97, 99, 107, 97, 103, 101, 9, 51, 95, 102, 114, 111, 122, 101, 110, 95, 105, 109, 112, 111, 114, 116, 108, 105, 98, 46, 66, 117, 105, 108, 116, 105, 110, 73, 109, 112, 111, 114, 116, 101, 114, 46, 105, 115, 95, 112, 97, 99, 107, 97, 103, 101, 35, 111, 112, 97, 113, 117, 101, 6, 199, 11, 108, 111, 97, 100, 95, 109, 111, 100, 117, 108, 101, 9, 52, 95, 102, 114, 111, 122, 101, 110, 95, 105, 109, 112, 111, 114, 116, 108, 105, 98, 46, 66, 117, 105, 108, 116, 105, 110, 73, 109, 112, 111, 114, 116, 101, 114, 46, 108, 111, 97, 100, 95, 109, 111, 100, 117, 108, 101, 35, 111, 112, 97, 113, 117, 101, 6, 200, 21, 95, 95, 115, 116, 97, 116, 105, 99, 95, 97, 116, 116, 114, 105, 98, 117, 116, 101, 115, 95, 95, 4, 0, 0, 15, 6, 202, 8, 95, 95, 100, 105, 99, 116, 95, 95, 4, 0, 0, 16, 6, 204, 11, 95, 95, 119, 101, 97, 107, 114, 101, 102, 95, 95, 4, 0, 0, 17]) 0), (Value.bool Bool.true), (Value.bool Bool.true), (Value.str (ss "") 205), (Value.int 21 0), (Value.str (Str.mk #[6, 227, 10, 95, 95, 109, 111, 100, 117, 108, 101, 95, 95, 6, 217, 17, 95, 102, 114, 111, 122, 101, 110, 95, 105, 109, 112, 111, 114, 116, 108, 105, 98, 6, 228, 15, 95, 95, 102, 105, 114, 115, 116, 108, 105, 110, 101, 110, 111, 95, 95, 4, 218, 0, 562, 6, 229, 7, 95, 95, 100, 111, 99, 95, 95, 9, 47, 95, 102, 114, 111, 122, 101, 110, 95, 105, 109, 112, 111, 114, 116, 108, 105, 98, 46, 77, 111, 100, 117, 108, 101, 83, 112, 101, 99, 46, 95, 95, 100, 111, 99, 95, 95, 58, 115, 116, 114, 35, 111, 112, 97, 113, 117, 101, 6, 230, 8, 95, 95, 105, 110, 105, 116, 95, 95, 9, 44, 95, 102, 114, 111, 122, 101, 110, 95, 105, 109, 112, 111, 114, 116, 108, 105, 98, 46, 77, 111, 100, 117, 108, 101, 83, 112, 101, 99, 46, 95, 95, 105, 110, 105, 116, 95, 95, 35, 111, 112, 97, 113, 117, 101, 6, 231, 8, 95, 95, 114, 101, 112, 114, 95, 95, 9, 44, 95, 102, 114, 111, 122, 101, 110, 95, 105, 109, 112, 111, 114, 116, 108, 105, 98, 46, 77, 111, 100, 117, 108, 101, 83, 112, 101, 99, 46, 95, 95, 114, 101, 112, 114, 95, 95, 35, 111, 112, 97, 113, 117, 101, 6, 232, 6, 95, 95, 101, 113, 95, 95, 9, 42, 95, 102, 114, 111, 122, 101, 110, 95, 105, 109, 112, 111, 114, 116, 108, 105, 98, 46, 77, 111, 100, 117, 108, 101, 83, 112, 101, 99, 46, 95, 95, 101, 113, 95, 95, 35, 111, 112, 97, 113, 117, 101, 6, 233, 6, 99, 97, 99, 104, 101, 100, 9, 42, 95, 102, 114, 111, 122, 101, 110, 95, 105, 109, 112, 111, 114, 116, 108, 105, 98, 46, 77, 111, 100, 117, 108, 101, 83, 112, 101, 99, 46, 99, 97, 99, 104, 101, 100, 35, 111, 112, 97, 113, 117, 101, 6, 234, 6, 112, 97, 114, 101, 110, 116, 9, 42, 95, 102, 114, 111, 122, 101, 110, 95, 105, 109, 112, 111, 114, 116, 108, 105, 98, 46, 77, 111, 100, 117, 108, 101, 83, 112, 101, 99, 46, 112, 97, 114, 101, 110, 116, 35, 111, 112, 97, 113, 117, 101, 6, 235, 12, 104, 97, 115, 95, 108, 111, 99, 97, 116, 105, 111, 110, 9, 48, 95, 102, 114, 111, 122, 101, 110, 95, 105, 109, 112, 111, 114, 116, 108, 105, 98, 46, 77, 111, 100, 117, 108, 101, 83, 112, 101, 99, 46, 104, 97, 115, 95, 108, 111, 99, 97, 116, 105, 111, 110, 35, 111, 112, 97, 113, 117, 101, 6, 236, 21, 95, 95, 115, 116, 97, 116, 105, 99, 95, 97, 116, 116, 114, 105, 98, 117, 116, 101, 115, 95, 95, 4, 0, 0, 23, 6, 238, 8, 95, 95, 100, 105, 99, 116, 95, 95, 4, 0, 0, 24, 6, 240, 11, 95, 95, 119, 101, 97, 107, 114, 101, 102, 95, 95, 4, 0, 0, 25, 6, 241, 8, 95, 95, 104, 97, 115, 104, 95, 95, 0]) 0), (Value.bool Bool.true), (Value.bool Bool.true), (Value.str (ss "") 242)] 1) #[])
noncomputable def o0_19 (P : Params) : Obj := (Obj.mk (Value.type "list") none (Data.seq #[] 0) #[])
noncomputable def o0_20 (P : Params) : Obj := (Obj.mk (Value.type "dict") none (Data.dict #[(en P "name" 208 (Value.str (ss "_sre") 207)), (en P "loader" 209 (Value.ref 14)), (en P "origin" 210 (Value.str (ss "built-in") 184)), (en P "loader_state" 211 Value.none), (en P "submodule_search_locations" 212 Value.none), (en P "_uninitialized_submodules" 213 (Value.ref 19)), (en P "_set_fileattr" 214 (Value.bool Bool.false)), (en P "_cached" 215 Value.none), (en P "_initializing" 243 (Value.bool Bool.false))] 9) #[])
noncomputable def o0_21 (P : Params) : Obj := (Obj.mk (Value.type "dict") none (Data.dict #[(en P "__module__" 227 (Value.str (ss "_frozen_importlib") 217)), (en P "__firstlineno__" 228 (Value.int 562 218)), (en P "__doc__" 229 (Value.builtin "_frozen_importlib.ModuleSpec.__doc__:str#\x6fpaque")), (en P "__init__" 230 (Value.builtin "_frozen_importlib.ModuleSpec.__init__#\x6fpaque")), (en P "__repr__" 231 (Value.builtin "_frozen_importlib.ModuleSpec.__repr__#\x6fpaque")), (en P "__eq__" 232 (Value.builtin "_frozen_importlib.ModuleSpec.__eq__#\x6fpaque")), (en P "cached" 233 (Value.builtin "_frozen_importlib.ModuleSpec.cached#\x6fpaque")), (en P "parent" 234 (Value.builtin "_frozen_importlib.ModuleSpec.parent#\x6fpaque")), (en P "has_location" 235 (Value.builtin "_frozen_importlib.ModuleSpec.has_location#\x6fpaque")), (en P "__static_attributes__" 236 (Value.ref 23)), (en P "__dict__" 238 (Value.ref 24)), (en P "__weakref__" 240 (Value.ref 25)), (en P "__hash__" 241 Value.none)] 13) #[])
noncomputable def o0_22 (P : Params) : Obj := (Obj.mk (Value.type "type") none (Data.cls (ClassData.mk (ss "ModuleSpec") [(Value.type "object")] [(Value.ref 22), (Value.type "object")] 21 (ss "ModuleSpec") Bool.true [] [] Bool.false none Bool.false)) #[])
noncomputable def o0_23 (P : Params) : Obj := (Obj.mk (Value.type "tuple") none (Data.seq #[(Value.str (ss "_cached") 219), (Value.str (ss "_set_fileattr") 220), (Value.str (ss "_uninitialized_submodules") 221), (Value.str (ss "loader") 222), (Value.str (ss "loader_state") 223), (Value.str (ss "name") 224), (Value.str (ss "origin") 225), (Value.str (ss "submodule_search_locations") 226)] 0) #[])
noncomputable def o0_24 (P : Params) : Obj := (Obj.mk (Value.type "getset_descriptor") none (Data.fields #[(Value.str (ss "__dict__") 237), (Value.ref 22), (Value.builtin "function.__dict__"), (Value.builtin "function.__dict__#set")]) #[])
noncomputable def o0_25 (P : Params) : Obj := (Obj.mk (Value.type "getset_descriptor") none (Data.fields #[(Value.str (ss "__weakref__") 239), (Value.ref 22), (Value.builtin "ExceptionGroup.__weakref__"), Value.none]) #[])
noncomputable def o0_26 (P : Params) : Obj := (Obj.mk (Value.ref 22) (some 20) Data.plain #[])
noncomputable def o0_27 (P : Params) : Obj := (Obj.mk Value.none none (Data.seq #[(Value.int 11 0), (Value.str (Str.mk #[6, 247, 8, 95, 95, 110, 97, 109, 101, 95, 95, 6, 246, 4, 95, 115, 114, 101, 6, 248, 7, 95, 95, 100, 111, 99, 95, 95, 0, 6, 250, 11, 95, 95, 112, 97, 99, 107, 97, 103, 101, 95, 95, 6, 249, 0, 6, 251, 10, 95, 95, 108, 111, 97, 100, 101, 114, 95, 95, 4, 0, 0, 14, 6, 252, 8, 95, 95, 115, 112, 101, 99, 95, 95, 4, 0, 0, 26, 6, 253, 7, 99, 111, 109, 112, 105, 108, 101, 9, 12, 95, 115, 114, 101, 46, 99, 111, 109, 112, 105, 108, 101, 6, 254, 8, 116, 101, 109, 112, 108, 97, 116, 101, 9, 13, 95, 115, 114, 101, 46, 116, 101, 109, 112, 108, 97, 116, 101, 6, 255, 11, 103, 101, 116, 99, 111, 100, 101, 115, 105, 122, 101, 9, 16, 95, 115, 114, 101, 46, 103, 101, 116, 99, 111, 100, 101, 115, 105, 122, 101, 6, 256, 13, 97, 115, 99, 105, 105, 95, 105, 115, 99, 97, 115, 101, 100, 9, 18, 95, 115, 114, 101, 46, 97, 115, 99, 105, 105, 95, 105, 115, 99, 97, 115, 101, 100, 6, 257, 15, 117, 110, 105, 99, 111, 100, 101, 95, 105, 115, 99, 97, 115, 101, 100, 9, 20, 95, 115, 114, 101, 46, 117, 110, 105, 99, 111, 100, 101, 95, 105, 115, 99, 97, 115, 101, 100, 6, 258, 13, 97, 115, 99, 105, 105, 95, 116, 111, 108, 111, 119, 101, 114, 9, 18, 95, 115, 114, 101, 46, 97, 115, 99, 105, 105, 95, 116, 111, 108, 111, 119, 101, 114, 6, 259, 15, 117, 110, 105, 99, 111, 100, 101, 95, 116, 111, 108, 111, 119, 101, 114, 9, 20, 95, 115, 114, 101, 46, 117, 110, 105, 99, 111, 100, 101, 95, 116, 111, 108, 111, 119, 101, 114, 6, 261, 5, 77, 65, 71, 73, 67, 4, 260, 0, 20230612, 6, 263, 8, 67, 79, 68, 69, 83, 73, 90, 69, 4, 262, 0, 4, 6, 265, 9, 77, 65, 88, 82, 69, 80, 69, 65, 84, 4, 264, 0, 4294967295, 6, 267, 9, 77, 65, 88, 71, 82, 79, 85, 80, 83, 4, 266, 0, 1073741823, 6, 269, 9, 99, 111, 112, 121, 114, 105, 103, 104, 116, 6, 268, 53, 32, 83, 82, 69, 32, 50, 46, 50, 46, 50, 32, 67, 111, 112, 121, 114, 105, 103, 104, 116, 32, 40, 99, 41, 32, 49, 57, 57, 55, 45, 50, 48, 48, 50, 32, 98, 121, 32, 83, 101, 99, 114, 101, 116, 32, 76, 97, 98, 115, 32, 65, 66, 32]) 0), (Value.bool Bool.true), (Value.bool Bool.false), (Value.str (ss "_sre") 271), (Value.int 29 0), (Value.str (Str.mk #[6, 296, 8, 95, 95, 110, 97, 109, 101, 95, 95, 6, 295, 12, 95, 99, 111, 108, 108, 101, 99, 116, 105, 111, 110, 115, 6, 297, 7, 95, 95, 100, 111, 99, 95, 95, 9, 31, 95, 99, 111, 108, 108, 101, 99, 116, 105, 111, 110, 115, 46, 95, 95, 100, 111, 99, 95, 95, 58, 115, 116, 114, 35, 111, 112, 97, 113, 117, 101, 6, 299, 11, 95, 95, 112, 97, 99, 107, 97, 103, 101, 95, 95, 6, 298, 0, 6, 300, 10, 95, 95, 108, 111, 97, 100, 101, 114, 95, 95, 4, 0, 0, 14, 6, 301, 8, 95, 95, 115, 112, 101, 99, 95, 95, 4, 0, 0, 33, 6, 302, 15, 95, 99, 111, 117, 110, 116, 95, 101, 108, 101, 109, 101, 110, 116, 115, 9, 28, 95, 99, 111, 108, 108, 101, 99, 116, 105, 111, 110, 115, 46, 95, 99, 111, 117, 110, 116, 95, 101, 108, 101, 109, 101, 110, 116, 115, 6, 303, 5, 100, 101, 113, 117, 101, 8, 17, 99, 111, 108, 108, 101, 99, 116, 105, 111, 110, 115, 46, 100, 101, 113, 117, 101, 6, 304, 11, 100, 101, 102, 97, 117, 108, 116, 100, 105, 99, 116, 8, 23, 99, 111, 108, 108, 101, 99, 116, 105, 111, 110, 115, 46, 100, 101, 102, 97, 117, 108, 116, 100, 105, 99, 116, 6, 305, 15, 95, 100, 101, 113, 117, 101, 95, 105, 116, 101, 114, 97, 116, 111, 114, 8, 27, 99, 111, 108, 108, 101, 99, 116, 105, 111, 110, 115, 46, 95, 100, 101, 113, 117, 101, 95, 105, 116, 101, 114, 97, 116, 111, 114, 6, 306, 23, 95, 100, 101, 113, 117, 101, 95, 114, 101, 118, 101, 114, 115, 101, 95, 105, 116, 101, 114, 97, 116, 111, 114, 8, 35, 99, 111, 108, 108, 101, 99, 116, 105, 111, 110, 115, 46, 95, 100, 101, 113, 117, 101, 95, 114, 101, 118, 101, 114, 115, 101, 95, 105, 116, 101, 114, 97, 116, 111, 114, 6, 307, 12, 95, 116, 117, 112, 108, 101, 103, 101, 116, 116, 101, 114, 8, 24, 99, 111, 108, 108, 101, 99, 116, 105, 111, 110, 115, 46, 95, 116, 117, 112, 108, 101, 103, 101, 116, 116, 101, 114, 6, 308, 11, 79, 114, 100, 101, 114, 101, 100, 68, 105, 99, 116, 8, 23, 99, 111, 108, 108, 101, 99, 116, 105, 111, 110, 115, 46, 79, 114, 100, 101, 114, 101, 100, 68, 105, 99, 116]) 0), (Value.bool Bool.true), (Value.bool Bool.false), (Value.str (ss "_collections") 310)] 1) #[])
noncomputable def o0_28 (P : Params) : Obj := (Obj.mk (Value.type "tuple") none (Data.seq #[(Value.str (ss "deque") 277)] 0) #[])
noncomputable def o0_29 (P : Params) : Obj := (Obj.mk (Value.type "dict") none (Data.dict #[(en P "__name__" 296 (Value.str (ss "_collections") 295)), (en P "__doc__" 297 (Value.builtin "off-the-table:_collections.__doc__:shared#\x6fpaque")), (en P "__package__" 299 (Value.str (ss "") 298)), (en P "__loader__" 300 (Value.builtin "off-the-table:_collections.__loader__:shared#\x6fpaque")), (en P "__spec__" 301 (Value.builtin "off-the-table:_collections.__spec__:shared#\x6fpaque")), (en P "_count_elements" 302 (Value.builtin "_collections._count_elements")), (en P "deque" 303 (Value.type "collections.deque")), (en P "defaultdict" 304 (Value.type "collections.defaultdict")), (en P "_deque_iterator" 305 (Value.builtin "off-the-table:_collections._deque_iterator:shared#\x6fpaque")), (en P "_deque_reverse_iterator" 306 (Value.builtin "off-the-table:_collections._deque_reverse_iterator:shared#\x6fpaque")), (en P "_tuplegetter" 307 (Value.type "collections._tuplegetter")), (en P "OrderedDict" 308 (Value.type "collections.OrderedDict"))] 12) #[])
noncomputable def o0_30 (P : Params) : Obj := (Obj.mk (Value.type "module") (some 29) Data.plain #[])
noncomputable def o0_31 (P : Params) : Obj := (Obj.mk (Value.type "list") none (Data.seq #[] 0) #[])
noncomputable def o0_32 (P : Params) : Obj := (Obj.mk (Value.type "dict") none (Data.dict #[(en P "name" 283 (Value.str (ss "_collections") 282)), (en P "loader" 284 (Value.ref 14)), (en P "origin" 285 (Value.str (ss "built-in") 281)), (en P "loader_state" 286 Value.none), (en P "submodule_search_locations" 287 Value.none), (en P "_uninitialized_submodules" 288 (Value.ref 31)), (en P "_set_fileattr" 289 (Value.bool Bool.false)), (en P "_cached" 290 Value.none), (en P "_initializing" 291 (Value.bool Bool.false))] 9) #[])
noncomputable def o0_33 (P : Params) : Obj := (Obj.mk (Value.ref 22) (some 32) Data.plain #[])
noncomputable def t0 (P : Params) : BT := (nd (o0_0 P) (nd (o0_1 P) (nd (o0_3 P) (nd (o0_7 P) (nd (o0_15 P) (nd (o0_31 P) nl nl) nl) (nd (o0_23 P) nl nl)) (nd (o0_11 P) (nd (o0_19 P) nl nl) (nd (o0_27 P) nl nl))) (nd (o0_5 P) (nd (o0_9 P) (nd (o0_17 P) (nd (o0_33 P) nl nl) nl) (nd (o0_25 P) nl nl)) (nd (o0_13 P) (nd (o0_21 P) nl nl) (nd (o0_29 P) nl nl)))) (nd (o0_2 P) (nd (o0_4 P) (nd (o0_8 P) (nd (o0_16 P) (nd (o0_32 P) nl nl) nl) (nd (o0_24 P) nl nl)) (nd (o0_12 P) (nd (o0_20 P) nl nl) (nd (o0_28 P) nl nl))) (nd (o0_6 P) (nd (o0_10 P) (nd (o0_18 P) nl nl) (nd (o0_26 P) nl nl)) (nd (o0_14 P) (nd (o0_22 P) nl nl) (nd (o0_30 P) nl nl)))))
noncomputable def oa_34 (P : Params) : Obj := (Obj.mk (Value.type "tuple") none (Data.seq #[] 0) #[])
noncomputable def oa_35 (P : Params) : Obj := (Obj.mk Value.none none (Data.fields #[]) #[])
noncomputable def oa_36 (P : Params) : Obj := (Obj.mk (Value.type "code") none (Data.fields #[(Value.str (ss "<module>") 319), (Value.str (ss "<module>") 320), (Value.str (ss "/claim/cut.py") 321), (Value.int 1 0), (Value.int 0 0), (Value.int 0 0), (Value.int 0 0), (Value.int 0 0), (Value.ref 34), (Value.bool Bool.false), (Value.int 318 0), (Value.ref 35), Value.none, Value.none, Value.none, Value.none, (Value.int 322 0), (Value.int 1 0), (Value.str (ss "/claim/cut.py") 323)]) #[])
noncomputable def oa_37 (P : Params) : Obj := (Obj.mk (Value.type "frame") none Data.plain #[(some (Value.ref 36)), (some (Value.ref 3)), (some (Value.ref 3)), none, (some (Value.str (ss "__main__") 164)), none, (some (Value.ref 0))])
noncomputable def ta (P : Params) : BT := (nd (o0_0 P) (nd (o0_1 P) (nd (o0_3 P) (nd (o0_7 P) (nd (o0_15 P) (nd (o0_31 P) nl nl) nl) (nd (o0_23 P) nl nl)) (nd (o0_11 P) (nd (o0_19 P) (nd (oa_35 P) nl nl) nl) (nd (o0_27 P) nl nl))) (nd (o0_5 P) (nd (o0_9 P) (nd (o0_17 P) (nd (o0_33 P) nl nl) nl) (nd (o0_25 P) nl nl)) (nd (o0_13 P) (nd (o0_21 P) (nd (oa_37 P) nl nl) nl) (nd (o0_29 P) nl nl)))) (nd (o0_2 P) (nd (o0_4 P) (nd (o0_8 P) (nd (o0_16 P) (nd (o0_32 P) nl nl) nl) (nd (o0_24 P) nl nl)) (nd (o0_12 P) (nd (o0_20 P) (nd (oa_36 P) nl nl) nl) (nd (o0_28 P) nl nl))) (nd (o0_6 P) (nd (o0_10 P) (nd (o0_18 P) (nd (oa_34 P) nl nl) nl) (nd (o0_26 P) nl nl)) (nd (o0_14 P) (nd (o0_22 P) nl nl) (nd (o0_30 P) nl nl)))))
noncomputable def tb (P : Params) : BT := (nd (o0_0 P) (nd (o0_1 P) (nd (o0_3 P) (nd (o0_7 P) (nd (o0_15 P) (nd (o0_31 P) nl nl) nl) (nd (o0_23 P) nl nl)) (nd (o0_11 P) (nd (o0_19 P) (nd (oa_35 P) nl nl) nl) (nd (o0_27 P) nl nl))) (nd (o0_5 P) (nd (o0_9 P) (nd (o0_17 P) (nd (o0_33 P) nl nl) nl) (nd (o0_25 P) nl nl)) (nd (o0_13 P) (nd (o0_21 P) (nd (oa_37 P) nl nl) nl) (nd (o0_29 P) nl nl)))) (nd (o0_2 P) (nd (o0_4 P) (nd (o0_8 P) (nd (o0_16 P) (nd (o0_32 P) nl nl) nl) (nd (o0_24 P) nl nl)) (nd (o0_12 P) (nd (o0_20 P) (nd (oa_36 P) nl nl) nl) (nd (o0_28 P) nl nl))) (nd (o0_6 P) (nd (o0_10 P) (nd (o0_18 P) (nd (oa_34 P) nl nl) nl) (nd (o0_26 P) nl nl)) (nd (o0_14 P) (nd (o0_22 P) nl nl) (nd (o0_30 P) nl nl)))))
noncomputable def of_3 (P : Params) : Obj := (Obj.mk (Value.type "dict") none (Data.dict #[(en P "__name__" 165 (Value.str (ss "re") 460)), (en P "__doc__" 166 Value.none), (en P "__package__" 167 Value.none), (en P "__loader__" 168 (Value.builtin "__main__.__loader__#\x6fpaque")), (en P "__spec__" 169 Value.none), (en P "__annotations__" 170 (Value.ref 6)), (en P "__builtins__" 171 (Value.ref 4)), (en P "__file__" 173 (Value.str (ss "/claim/cut.py") 172)), (en P "__cached__" 174 Value.none), (en P "_sre" 275 (Value.ref 12)), (en P "deque" 317 (Value.type "collections.deque")), (en P "_wall" 330 (Value.ref 44)), (en P "_kind" 341 (Value.ref 51)), (en P "_fspath" 350 (Value.ref 58)), (en P "_check_arg_types" 360 (Value.ref 65)), (en P "isabs" 367 (Value.ref 72)), (en P "join" 378 (Value.ref 79)), (en P "join_path" 379 (Value.ref 79)), (en P "splitext" 391 (Value.ref 86)), (en P "basename" 399 (Value.ref 93)), (en P "dirname" 409 (Value.ref 100)), (en P "_modname" 421 (Value.ref 107)), (en P "twin_re_1_fnmatch" 459 (Value.ref 112))] 23) #[])
noncomputable def of_35 (P : Params) : Obj := (Obj.mk Value.none none (Data.fields #[(Value.int 3 0), (Value.int 0 0), (Value.ref 43), (Value.int 7 0), (Value.int 0 0), (Value.ref 50), (Value.int 28 0), (Value.int 0 0), (Value.ref 57), (Value.int 33 0), (Value.int 0 0), (Value.ref 64), (Value.int 38 0), (Value.int 0 0), (Value.ref 71), (Value.int 41 0), (Value.int 0 0), (Value.ref 78), (Value.int 62 0), (Value.int 0 0), (Value.ref 85), (Value.int 75 0), (Value.int 0 0), (Value.ref 92), (Value.int 79 0), (Value.int 0 0), (Value.ref 99), (Value.int 88 0), (Value.int 0 0), (Value.ref 106)]) #[])
noncomputable def of_38 (P : Params) : Obj := (Obj.mk (Value.type "tuple") none (Data.seq #[] 0) #[])
noncomputable def of_39 (P : Params) : Obj := (Obj.mk Value.none none (Data.fields #[]) #[])
noncomputable def of_40 (P : Params) : Obj := (Obj.mk (Value.type "tuple") none (Data.seq #[(Value.str (ss "k") 327)] 0) #[])
noncomputable def of_41 (P : Params) : Obj := (Obj.mk (Value.type "tuple") none (Data.seq #[] 0) #[])
noncomputable def of_42 (P : Params) : Obj := (Obj.mk Value.none none (Data.func (FuncData.mk (ss "_wall") (ss "_wall") (fdA (stI pB 2)) (FuncBody.stmts (fdB (stI pB 2))) (fdS (stI pB 2)) 0 [] Value.none Value.none Value.none Value.none none Value.none Value.none 0)) #[])
noncomputable def of_43 (P : Params) : Obj := (Obj.mk (Value.type "code") none (Data.fields #[(Value.str (ss "_wall") 324), (Value.str (ss "_wall") 325), (Value.str (ss "/claim/cut.py") 326), (Value.int 3 0), (Value.int 1 0), (Value.int 0 0), (Value.int 0 0), (Value.int 3 0), (Value.ref 38), (Value.bool Bool.true), (Value.int 318 0), (Value.ref 39), Value.none, (Value.ref 40), (Value.ref 41), (Value.ref 42), (Value.int 328 0), (Value.int 3 0), (Value.str (ss "/claim/cut.py") 329)]) #[])
noncomputable def of_44 (P : Params) : Obj := (Obj.mk (Value.type "function") none (Data.func (FuncData.mk (ss "_wall") (ss "_wall") (fdA (stI pB 2)) (FuncBody.stmts (fdB (stI pB 2))) (fdS (stI pB 2)) 3 [] Value.none Value.none Value.none (Value.str (ss "__main__") 164) none (Value.ref 43) Value.none 0)) #[])
noncomputable def of_45 (P : Params) : Obj := (Obj.mk (Value.type "tuple") none (Data.seq #[] 0) #[])
noncomputable def of_46 (P : Params) : Obj := (Obj.mk Value.none none (Data.fields #[]) #[])
noncomputable def of_47 (P : Params) : Obj := (Obj.mk (Value.type "tuple") none (Data.seq #[(Value.str (ss "name") 336), (Value.str (ss "x") 337), (Value.str (ss "t") 338)] 0) #[])
noncomputable def of_48 (P : Params) : Obj := (Obj.mk (Value.type "tuple") none (Data.seq #[] 0) #[])
noncomputable def of_49 (P : Params) : Obj := (Obj.mk Value.none none (Data.func (FuncData.mk (ss "_kind") (ss "_kind") (fdA (stI pB 4)) (FuncBody.stmts (fdB (stI pB 4))) (fdS (stI pB 4)) 0 [] Value.none Value.none Value.none Value.none none Value.none Value.none 0)) #[])
noncomputable def of_50 (P : Params) : Obj := (Obj.mk (Value.type "code") none (Data.fields #[(Value.str (ss "_kind") 333), (Value.str (ss "_kind") 334), (Value.str (ss "/claim/cut.py") 335), (Value.int 7 0), (Value.int 2 0), (Value.int 0 0), (Value.int 0 0), (Value.int 3 0), (Value.ref 45), (Value.bool Bool.true), (Value.int 318 0), (Value.ref 46), Value.none, (Value.ref 47), (Value.ref 48), (Value.ref 49), (Value.int 339 0), (Value.int 7 0), (Value.str (ss "/claim/cut.py") 340)]) #[])
noncomputable def of_51 (P : Params) : Obj := (Obj.mk (Value.type "function") none (Data.func (FuncData.mk (ss "_kind") (ss "_kind") (fdA (stI pB 4)) (FuncBody.stmts (fdB (stI pB 4))) (fdS (stI pB 4)) 3 [] Value.none Value.none Value.none (Value.str (ss "os.path") 331) none (Value.ref 50) Value.none 0)) #[])
noncomputable def of_52 (P : Params) : Obj := (Obj.mk (Value.type "tuple") none (Data.seq #[] 0) #[])
noncomputable def of_53 (P : Params) : Obj := (Obj.mk Value.none none (Data.fields #[]) #[])
noncomputable def of_54 (P : Params) : Obj := (Obj.mk (Value.type "tuple") none (Data.seq #[(Value.str (ss "name") 345), (Value.str (ss "x") 346), (Value.str (ss "k") 347)] 0) #[])
noncomputable def of_55 (P : Params) : Obj := (Obj.mk (Value.type "tuple") none (Data.seq #[] 0) #[])
noncomputable def of_56 (P : Params) : Obj := (Obj.mk Value.none none (Data.func (FuncData.mk (ss "_fspath") (ss "_fspath") (fdA (stI pB 5)) (FuncBody.stmts (fdB (stI pB 5))) (fdS (stI pB 5)) 0 [] Value.none Value.none Value.none Value.none none Value.none Value.none 0)) #[])
noncomputable def of_57 (P : Params) : Obj := (Obj.mk (Value.type "code") none (Data.fields #[(Value.str (ss "_fspath") 342), (Value.str (ss "_fspath") 343), (Value.str (ss "/claim/cut.py") 344), (Value.int 28 0), (Value.int 2 0), (Value.int 0 0), (Value.int 0 0), (Value.int 3 0), (Value.ref 52), (Value.bool Bool.true), (Value.int 318 0), (Value.ref 53), Value.none, (Value.ref 54), (Value.ref 55), (Value.ref 56), (Value.int 348 0), (Value.int 28 0), (Value.str (ss "/claim/cut.py") 349)]) #[])
noncomputable def of_58 (P : Params) : Obj := (Obj.mk (Value.type "function") none (Data.func (FuncData.mk (ss "_fspath") (ss "_fspath") (fdA (stI pB 5)) (FuncBody.stmts (fdB (stI pB 5))) (fdS (stI pB 5)) 3 [] Value.none Value.none Value.none (Value.str (ss "os.path") 331) none (Value.ref 57) Value.none 0)) #[])
noncomputable def of_59 (P : Params) : Obj := (Obj.mk (Value.type "tuple") none (Data.seq #[] 0) #[])
noncomputable def of_60 (P : Params) : Obj := (Obj.mk Value.none none (Data.fields #[]) #[])
noncomputable def of_61 (P : Params) : Obj := (Obj.mk (Value.type "tuple") none (Data.seq #[(Value.str (ss "funcname") 354), (Value.str (ss "args") 355), (Value.str (ss "s") 356), (Value.str (ss "k") 357)] 0) #[])
noncomputable def of_62 (P : Params) : Obj := (Obj.mk (Value.type "tuple") none (Data.seq #[] 0) #[])
noncomputable def of_63 (P : Params) : Obj := (Obj.mk Value.none none (Data.func (FuncData.mk (ss "_check_arg_types") (ss "_check_arg_types") (fdA (stI pB 6)) (FuncBody.stmts (fdB (stI pB 6))) (fdS (stI pB 6)) 0 [] Value.none Value.none Value.none Value.none none Value.none Value.none 0)) #[])
noncomputable def of_64 (P : Params) : Obj := (Obj.mk (Value.type "code") none (Data.fields #[(Value.str (ss "_check_arg_types") 351), (Value.str (ss "_check_arg_types") 352), (Value.str (ss "/claim/cut.py") 353), (Value.int 33 0), (Value.int 1 0), (Value.int 0 0), (Value.int 0 0), (Value.int 7 0), (Value.ref 59), (Value.bool Bool.true), (Value.int 318 0), (Value.ref 60), Value.none, (Value.ref 61), (Value.ref 62), (Value.ref 63), (Value.int 358 0), (Value.int 33 0), (Value.str (ss "/claim/cut.py") 359)]) #[])
noncomputable def of_65 (P : Params) : Obj := (Obj.mk (Value.type "function") none (Data.func (FuncData.mk (ss "_check_arg_types") (ss "_check_arg_types") (fdA (stI pB 6)) (FuncBody.stmts (fdB (stI pB 6))) (fdS (stI pB 6)) 3 [] Value.none Value.none Value.none (Value.str (ss "os.path") 331) none (Value.ref 64) Value.none 0)) #[])
noncomputable def of_66 (P : Params) : Obj := (Obj.mk (Value.type "tuple") none (Data.seq #[] 0) #[])
noncomputable def of_67 (P : Params) : Obj := (Obj.mk Value.none none (Data.fields #[]) #[])
noncomputable def of_68 (P : Params) : Obj := (Obj.mk (Value.type "tuple") none (Data.seq #[(Value.str (ss "s") 364)] 0) #[])
noncomputable def of_69 (P : Params) : Obj := (Obj.mk (Value.type "tuple") none (Data.seq #[] 0) #[])
noncomputable def of_70 (P : Params) : Obj := (Obj.mk Value.none none (Data.func (FuncData.mk (ss "isabs") (ss "isabs") (fdA (stI pB 7)) (FuncBody.stmts (fdB (stI pB 7))) (fdS (stI pB 7)) 0 [] Value.none Value.none Value.none Value.none none Value.none Value.none 0)) #[])
noncomputable def of_71 (P : Params) : Obj := (Obj.mk (Value.type "code") none (Data.fields #[(Value.str (ss "isabs") 361), (Value.str (ss "isabs") 362), (Value.str (ss "/claim/cut.py") 363), (Value.int 38 0), (Value.int 1 0), (Value.int 0 0), (Value.int 0 0), (Value.int 3 0), (Value.ref 66), (Value.bool Bool.true), (Value.int 318 0), (Value.ref 67), Value.none, (Value.ref 68), (Value.ref 69), (Value.ref 70), (Value.int 365 0), (Value.int 38 0), (Value.str (ss "/claim/cut.py") 366)]) #[])
noncomputable def of_72 (P : Params) : Obj := (Obj.mk (Value.type "function") none (Data.func (FuncData.mk (ss "isabs") (ss "isabs") (fdA (stI pB 7)) (FuncBody.stmts (fdB (stI pB 7))) (fdS (stI pB 7)) 3 [] Value.none Value.none Value.none (Value.str (ss "os.path") 331) none (Value.ref 71) Value.none 0)) #[])
noncomputable def of_73 (P : Params) : Obj := (Obj.mk (Value.type "tuple") none (Data.seq #[] 0) #[])
noncomputable def of_74 (P : Params) : Obj := (Obj.mk Value.none none (Data.fields #[]) #[])
noncomputable def of_75 (P : Params) : Obj := (Obj.mk (Value.type "tuple") none (Data.seq #[(Value.str (ss "a") 371), (Value.str (ss "p") 372), (Value.str (ss "b") 373), (Value.str (ss "sep") 374), (Value.str (ss "path") 375)] 0) #[])
noncomputable def of_76 (P : Params) : Obj := (Obj.mk (Value.type "tuple") none (Data.seq #[] 0) #[])
noncomputable def of_77 (P : Params) : Obj := (Obj.mk Value.none none (Data.func (FuncData.mk (ss "join") (ss "join") (fdA (stI pB 8)) (FuncBody.stmts (fdB (stI pB 8))) (fdS (stI pB 8)) 0 [] Value.none Value.none Value.none Value.none none Value.none Value.none 0)) #[])
noncomputable def of_78 (P : Params) : Obj := (Obj.mk (Value.type "code") none (Data.fields #[(Value.str (ss "join") 368), (Value.str (ss "join") 369), (Value.str (ss "/claim/cut.py") 370), (Value.int 41 0), (Value.int 1 0), (Value.int 0 0), (Value.int 0 0), (Value.int 7 0), (Value.ref 73), (Value.bool Bool.true), (Value.int 318 0), (Value.ref 74), Value.none, (Value.ref 75), (Value.ref 76), (Value.ref 77), (Value.int 376 0), (Value.int 41 0), (Value.str (ss "/claim/cut.py") 377)]) #[])
noncomputable def of_79 (P : Params) : Obj := (Obj.mk (Value.type "function") none (Data.func (FuncData.mk (ss "join") (ss "join") (fdA (stI pB 8)) (FuncBody.stmts (fdB (stI pB 8))) (fdS (stI pB 8)) 3 [] Value.none Value.none Value.none (Value.str (ss "os.path") 331) none (Value.ref 78) Value.none 0)) #[])
noncomputable def of_80 (P : Params) : Obj := (Obj.mk (Value.type "tuple") none (Data.seq #[] 0) #[])
noncomputable def of_81 (P : Params) : Obj := (Obj.mk Value.none none (Data.fields #[]) #[])
noncomputable def of_82 (P : Params) : Obj := (Obj.mk (Value.type "tuple") none (Data.seq #[(Value.str (ss "p") 383), (Value.str (ss "sep") 384), (Value.str (ss "extsep") 385), (Value.str (ss "sepIndex") 386), (Value.str (ss "dotIndex") 387), (Value.str (ss "filenameIndex") 388)] 0) #[])
noncomputable def of_83 (P : Params) : Obj := (Obj.mk (Value.type "tuple") none (Data.seq #[] 0) #[])
noncomputable def of_84 (P : Params) : Obj := (Obj.mk Value.none none (Data.func (FuncData.mk (ss "splitext") (ss "splitext") (fdA (stI pB 10)) (FuncBody.stmts (fdB (stI pB 10))) (fdS (stI pB 10)) 0 [] Value.none Value.none Value.none Value.none none Value.none Value.none 0)) #[])
noncomputable def of_85 (P : Params) : Obj := (Obj.mk (Value.type "code") none (Data.fields #[(Value.str (ss "splitext") 380), (Value.str (ss "splitext") 381), (Value.str (ss "/claim/cut.py") 382), (Value.int 62 0), (Value.int 1 0), (Value.int 0 0), (Value.int 0 0), (Value.int 3 0), (Value.ref 80), (Value.bool Bool.true), (Value.int 318 0), (Value.ref 81), Value.none, (Value.ref 82), (Value.ref 83), (Value.ref 84), (Value.int 389 0), (Value.int 62 0), (Value.str (ss "/claim/cut.py") 390)]) #[])
noncomputable def of_86 (P : Params) : Obj := (Obj.mk (Value.type "function") none (Data.func (FuncData.mk (ss "splitext") (ss "splitext") (fdA (stI pB 10)) (FuncBody.stmts (fdB (stI pB 10))) (fdS (stI pB 10)) 3 [] Value.none Value.none Value.none (Value.str (ss "os.path") 331) none (Value.ref 85) Value.none 0)) #[])
noncomputable def of_87 (P : Params) : Obj := (Obj.mk (Value.type "tuple") none (Data.seq #[] 0) #[])
noncomputable def of_88 (P : Params) : Obj := (Obj.mk Value.none none (Data.fields #[]) #[])
noncomputable def of_89 (P : Params) : Obj := (Obj.mk (Value.type "tuple") none (Data.seq #[(Value.str (ss "p") 395), (Value.str (ss "i") 396)] 0) #[])
noncomputable def of_90 (P : Params) : Obj := (Obj.mk (Value.type "tuple") none (Data.seq #[] 0) #[])
noncomputable def of_91 (P : Params) : Obj := (Obj.mk Value.none none (Data.func (FuncData.mk (ss "basename") (ss "basename") (fdA (stI pB 11)) (FuncBody.stmts (fdB (stI pB 11))) (fdS (stI pB 11)) 0 [] Value.none Value.none Value.none Value.none none Value.none Value.none 0)) #[])
noncomputable def of_92 (P : Params) : Obj := (Obj.mk (Value.type "code") none (Data.fields #[(Value.str (ss "basename") 392), (Value.str (ss "basename") 393), (Value.str (ss "/claim/cut.py") 394), (Value.int 75 0), (Value.int 1 0), (Value.int 0 0), (Value.int 0 0), (Value.int 3 0), (Value.ref 87), (Value.bool Bool.true), (Value.int 318 0), (Value.ref 88), Value.none, (Value.ref 89), (Value.ref 90), (Value.ref 91), (Value.int 397 0), (Value.int 75 0), (Value.str (ss "/claim/cut.py") 398)]) #[])
noncomputable def of_93 (P : Params) : Obj := (Obj.mk (Value.type "function") none (Data.func (FuncData.mk (ss "basename") (ss "basename") (fdA (stI pB 11)) (FuncBody.stmts (fdB (stI pB 11))) (fdS (stI pB 11)) 3 [] Value.none Value.none Value.none (Value.str (ss "os.path") 331) none (Value.ref 92) Value.none 0)) #[])
noncomputable def of_94 (P : Params) : Obj := (Obj.mk (Value.type "tuple") none (Data.seq #[] 0) #[])
noncomputable def of_95 (P : Params) : Obj := (Obj.mk Value.none none (Data.fields #[]) #[])
noncomputable def of_96 (P : Params) : Obj := (Obj.mk (Value.type "tuple") none (Data.seq #[(Value.str (ss "p") 403), (Value.str (ss "sep") 404), (Value.str (ss "i") 405), (Value.str (ss "head") 406)] 0) #[])
noncomputable def of_97 (P : Params) : Obj := (Obj.mk (Value.type "tuple") none (Data.seq #[] 0) #[])
noncomputable def of_98 (P : Params) : Obj := (Obj.mk Value.none none (Data.func (FuncData.mk (ss "dirname") (ss "dirname") (fdA (stI pB 12)) (FuncBody.stmts (fdB (stI pB 12))) (fdS (stI pB 12)) 0 [] Value.none Value.none Value.none Value.none none Value.none Value.none 0)) #[])
noncomputable def of_99 (P : Params) : Obj := (Obj.mk (Value.type "code") none (Data.fields #[(Value.str (ss "dirname") 400), (Value.str (ss "dirname") 401), (Value.str (ss "/claim/cut.py") 402), (Value.int 79 0), (Value.int 1 0), (Value.int 0 0), (Value.int 0 0), (Value.int 3 0), (Value.ref 94), (Value.bool Bool.true), (Value.int 318 0), (Value.ref 95), Value.none, (Value.ref 96), (Value.ref 97), (Value.ref 98), (Value.int 407 0), (Value.int 79 0), (Value.str (ss "/claim/cut.py") 408)]) #[])
noncomputable def of_100 (P : Params) : Obj := (Obj.mk (Value.type "function") none (Data.func (FuncData.mk (ss "dirname") (ss "dirname") (fdA (stI pB 12)) (FuncBody.stmts (fdB (stI pB 12))) (fdS (stI pB 12)) 3 [] Value.none Value.none Value.none (Value.str (ss "os.path") 331) none (Value.ref 99) Value.none 0)) #[])
noncomputable def of_101 (P : Params) : Obj := (Obj.mk (Value.type "tuple") none (Data.seq #[] 0) #[])
noncomputable def of_102 (P : Params) : Obj := (Obj.mk Value.none none (Data.fields #[]) #[])
noncomputable def of_103 (P : Params) : Obj := (Obj.mk (Value.type "tuple") none (Data.seq #[(Value.str (ss "path") 415), (Value.str (ss "base") 416), (Value.str (ss "filename") 417), (Value.str (ss "ext") 418)] 0) #[])
noncomputable def of_104 (P : Params) : Obj := (Obj.mk (Value.type "tuple") none (Data.seq #[] 0) #[])
noncomputable def of_105 (P : Params) : Obj := (Obj.mk Value.none none (Data.func (FuncData.mk (ss "_modname") (ss "_modname") (fdA (stI pB 14)) (FuncBody.stmts (fdB (stI pB 14))) (fdS (stI pB 14)) 0 [] Value.none Value.none Value.none Value.none none Value.none Value.none 0)) #[])
noncomputable def of_106 (P : Params) : Obj := (Obj.mk (Value.type "code") none (Data.fields #[(Value.str (ss "_modname") 412), (Value.str (ss "_modname") 413), (Value.str (ss "/claim/cut.py") 414), (Value.int 88 0), (Value.int 1 0), (Value.int 0 0), (Value.int 0 0), (Value.int 3 0), (Value.ref 101), (Value.bool Bool.true), (Value.int 318 0), (Value.ref 102), Value.none, (Value.ref 103), (Value.ref 104), (Value.ref 105), (Value.int 419 0), (Value.int 88 0), (Value.str (ss "/claim/cut.py") 420)]) #[])
noncomputable def of_107 (P : Params) : Obj := (Obj.mk (Value.type "function") none (Data.func (FuncData.mk (ss "_modname") (ss "_modname") (fdA (stI pB 14)) (FuncBody.stmts (fdB (stI pB 14))) (fdS (stI pB 14)) 3 [] Value.none Value.none Value.none (Value.str (ss "cpy313.trace") 410) none (Value.ref 106) Value.none 0)) #[])
noncomputable def of_108 (P : Params) : Obj := (Obj.mk (Value.type "list") none (Data.seq #[(Value.int 14 425), (Value.int 14 426), (Value.int 4 427), (Value.int 1 428), (Value.int 1 429), (Value.int 9 430), (Value.int 0 431), (Value.int 64 432), (Value.int 0 433), (Value.int 1342177280 434), (Value.int 0 435), (Value.int 0 436), (Value.int 0 437), (Value.int 0 438), (Value.int 0 439), (Value.int 17 440), (Value.int 0 441), (Value.int 13 442), (Value.int 11 443), (Value.int 9 444), (Value.int 0 445), (Value.int 64 446), (Value.int 0 447), (Value.int 1342177280 448), (Value.int 0 449), (Value.int 0 450), (Value.int 0 451), (Value.int 0 452), (Value.int 0 453), (Value.int 17 454), (Value.int 1 455), (Value.int 1 456)] 0) #[])
noncomputable def of_109 (P : Params) : Obj := (Obj.mk (Value.type "dict") none (Data.dict #[] 0) #[])
noncomputable def of_110 (P : Params) : Obj := (Obj.mk (Value.type "tuple") none (Data.seq #[Value.none, Value.none] 0) #[])
noncomputable def of_111 (P : Params) : Obj := (Obj.mk (Value.type "tuple") none (Data.seq #[(Value.int 14 0), (Value.int 14 0), (Value.int 4 0), (Value.int 1 0), (Value.int 1 0), (Value.int 9 0), (Value.int 0 0), (Value.int 64 0), (Value.int 0 0), (Value.int 1342177280 0), (Value.int 0 0), (Value.int 0 0), (Value.int 0 0), (Value.int 0 0), (Value.int 0 0), (Value.int 17 0), (Value.int 0 0), (Value.int 13 0), (Value.int 11 0), (Value.int 9 0), (Value.int 0 0), (Value.int 64 0), (Value.int 0 0), (Value.int 1342177280 0), (Value.int 0 0), (Value.int 0 0), (Value.int 0 0), (Value.int 0 0), (Value.int 0 0), (Value.int 17 0), (Value.int 1 0), (Value.int 1 0)] 0) #[])
noncomputable def of_112 (P : Params) : Obj := (Obj.mk (Value.type "re.Pattern") none (Data.fields #[(Value.str (ss "([&~|])") 423), (Value.int 32 458), (Value.int 1 0), Value.none, Value.none, (Value.ref 111), (Value.int 0 0)]) #[])
noncomputable def tf (P : Params) : BT := (nd (o0_0 P) (nd (o0_1 P) (nd (of_3 P) (nd (o0_7 P) (nd (o0_15 P) (nd (o0_31 P) (nd (of_63 P) nl nl) (nd (of_95 P) nl nl)) (nd (of_47 P) (nd (of_79 P) nl nl) (nd (of_111 P) nl nl))) (nd (o0_23 P) (nd (of_39 P) (nd (of_71 P) nl nl) (nd (of_103 P) nl nl)) (nd (of_55 P) (nd (of_87 P) nl nl) nl))) (nd (o0_11 P) (nd (o0_19 P) (nd (of_35 P) (nd (of_67 P) nl nl) (nd (of_99 P) nl nl)) (nd (of_51 P) (nd (of_83 P) nl nl) nl)) (nd (o0_27 P) (nd (of_43 P) (nd (of_75 P) nl nl) (nd (of_107 P) nl nl)) (nd (of_59 P) (nd (of_91 P) nl nl) nl)))) (nd (o0_5 P) (nd (o0_9 P) (nd (o0_17 P) (nd (o0_33 P) (nd (of_65 P) nl nl) (nd (of_97 P) nl nl)) (nd (of_49 P) (nd (of_81 P) nl nl) nl)) (nd (o0_25 P) (nd (of_41 P) (nd (of_73 P) nl nl) (nd (of_105 P) nl nl)) (nd (of_57 P) (nd (of_89 P) nl nl) nl))) (nd (o0_13 P) (nd (o0_21 P) (nd (oa_37 P) (nd (of_69 P) nl nl) (nd (of_101 P) nl nl)) (nd (of_53 P) (nd (of_85 P) nl nl) nl)) (nd (o0_29 P) (nd (of_45 P) (nd (of_77 P) nl nl) (nd (of_109 P) nl nl)) (nd (of_61 P) (nd (of_93 P) nl nl) nl))))) (nd (o0_2 P) (nd (o0_4 P) (nd (o0_8 P) (nd (o0_16 P) (nd (o0_32 P) (nd (of_64 P) nl nl) (nd (of_96 P) nl nl)) (nd (of_48 P) (nd (of_80 P) nl nl) (nd (of_112 P) nl nl))) (nd (o0_24 P) (nd (of_40 P) (nd (of_72 P) nl nl) (nd (of_104 P) nl nl)) (nd (of_56 P) (nd (of_88 P) nl nl) nl))) (nd (o0_12 P) (nd (o0_20 P) (nd (oa_36 P) (nd (of_68 P) nl nl) (nd (of_100 P) nl nl)) (nd (of_52 P) (nd (of_84 P) nl nl) nl)) (nd (o0_28 P) (nd (of_44 P) (nd (of_76 P) nl nl) (nd (of_108 P) nl nl)) (nd (of_60 P) (nd (of_92 P) nl nl) nl)))) (nd (o0_6 P) (nd (o0_10 P) (nd (o0_18 P) (nd (oa_34 P) (nd (of_66 P) nl nl) (nd (of_98 P) nl nl)) (nd (of_50 P) (nd (of_82 P) nl nl) nl)) (nd (o0_26 P) (nd (of_42 P) (nd (of_74 P) nl nl) (nd (of_106 P) nl nl)) (nd (of_58 P) (nd (of_90 P) nl nl) nl))) (nd (o0_14 P) (nd (o0_22 P) (nd (of_38 P) (nd (of_70 P) nl nl) (nd (of_102 P) nl nl)) (nd (of_54 P) (nd (of_86 P) nl nl) nl)) (nd (o0_30 P) (nd (of_46 P) (nd (of_78 P) nl nl) (nd (of_110 P) nl nl)) (nd (of_62 P) (nd (of_94 P) nl nl) nl))))))
noncomputable def og_3 (P : Params) : Obj := (Obj.mk (Value.type "dict") none (Data.dict #[(en P "__name__" 165 (Value.str (ss "re") 460)), (en P "__doc__" 166 Value.none), (en P "__package__" 167 Value.none), (en P "__loader__" 168 (Value.builtin "__main__.__loader__#\x6fpaque")), (en P "__spec__" 169 Value.none), (en P "__annotations__" 170 (Value.ref 6)), (en P "__builtins__" 171 (Value.ref 4)), (en P "__file__" 173 (Value.str (ss "/claim/cut.py") 172)), (en P "__cached__" 174 Value.none), (en P "_sre" 275 (Value.ref 12)), (en P "deque" 317 (Value.type "collections.deque")), (en P "_wall" 330 (Value.ref 44)), (en P "_kind" 341 (Value.ref 51)), (en P "_fspath" 350 (Value.ref 58)), (en P "_check_arg_types" 360 (Value.ref 65)), (en P "isabs" 367 (Value.ref 72)), (en P "join" 378 (Value.ref 79)), (en P "join_path" 379 (Value.ref 79)), (en P "splitext" 391 (Value.ref 86)), (en P "basename" 399 (Value.ref 93)), (en P "dirname" 409 (Value.ref 100)), (en P "_modname" 421 (Value.ref 107)), (en P "twin_re_1_fnmatch" 459 (Value.ref 112)), (en P "_special_chars_map" 607 (Value.ref 114))] 24) #[])
noncomputable def og_113 (P : Params) : Obj := (Obj.mk (Value.type "bytes_iterator") none (Data.fields #[Value.none, (Value.int 24 0)]) #[])
noncomputable def og_114 (P : Params) : Obj := (Obj.mk (Value.type "dict") none (Data.dict #[(DictEntry.mk 40 (Value.int 40 463) (Value.str (ss "\\(") 467)), (DictEntry.mk 41 (Value.int 41 469) (Value.str (ss "\\)") 473)), (DictEntry.mk 91 (Value.int 91 475) (Value.str (ss "\\[") 479)), (DictEntry.mk 93 (Value.int 93 481) (Value.str (ss "\\]") 485)), (DictEntry.mk 123 (Value.int 123 487) (Value.str (ss "\\{") 491)), (DictEntry.mk 125 (Value.int 125 493) (Value.str (ss "\\}") 497)), (DictEntry.mk 63 (Value.int 63 499) (Value.str (ss "\\?") 503)), (DictEntry.mk 42 (Value.int 42 505) (Value.str (ss "\\*") 509)), (DictEntry.mk 43 (Value.int 43 511) (Value.str (ss "\\+") 515)), (DictEntry.mk 45 (Value.int 45 517) (Value.str (ss "\\-") 521)), (DictEntry.mk 124 (Value.int 124 523) (Value.str (ss "\\|") 527)), (DictEntry.mk 94 (Value.int 94 529) (Value.str (ss "\\^") 533)), (DictEntry.mk 36 (Value.int 36 535) (Value.str (ss "\\$") 539)), (DictEntry.mk 92 (Value.int 92 541) (Value.str (ss "\\\\") 545)), (DictEntry.mk 46 (Value.int 46 547) (Value.str (ss "\\.") 551)), (DictEntry.mk 38 (Value.int 38 553) (Value.str (ss "\\&") 557)), (DictEntry.mk 126 (Value.int 126 559) (Value.str (ss "\\~") 563)), (DictEntry.mk 35 (Value.int 35 565) (Value.str (ss "\\#") 569)), (DictEntry.mk 32 (Value.int 32 571) (Value.str (ss "\\ ") 575)), (DictEntry.mk 9 (Value.int 9 577) (Value.str (ss "\\\t") 581)), (DictEntry.mk 10 (Value.int 10 583) (Value.str (ss "\\\n") 587)), (DictEntry.mk 13 (Value.int 13 589) (Value.str (ss "\\\x0d") 593)), (DictEntry.mk 11 (Value.int 11 595) (Value.str (ss "\\\x0b") 599)), (DictEntry.mk 12 (Value.int 12 601) (Value.str (ss "\\\x0c") 605))] 24) #[])
noncomputable def og_115 (P : Params) : Obj := (Obj.mk (Value.type "dict") none (Data.dict #[] 2) #[])
noncomputable def og_116 (P : Params) : Obj := (Obj.mk (Value.type "tuple") none (Data.seq #[] 0) #[])
noncomputable def og_117 (P : Params) : Obj := (Obj.mk (Value.type "StopIteration") none (Data.fields #[(Value.ref 116), Value.none, Value.none, Value.none, (Value.bool Bool.false), Value.none]) #[])
noncomputable def tg (P : Params) : BT := (nd (o0_0 P) (nd (o0_1 P) (nd (og_3 P) (nd (o0_7 P) (nd (o0_15 P) (nd (o0_31 P) (nd (of_63 P) nl nl) (nd (of_95 P) nl nl)) (nd (of_47 P) (nd (of_79 P) nl nl) (nd (of_111 P) nl nl))) (nd (o0_23 P) (nd (of_39 P) (nd (of_71 P) nl nl) (nd (of_103 P) nl nl)) (nd (of_55 P) (nd (of_87 P) nl nl) nl))) (nd (o0_11 P) (nd (o0_19 P) (nd (of_35 P) (nd (of_67 P) nl nl) (nd (of_99 P) nl nl)) (nd (of_51 P) (nd (of_83 P) nl nl) (nd (og_115 P) nl nl))) (nd (o0_27 P) (nd (of_43 P) (nd (of_75 P) nl nl) (nd (of_107 P) nl nl)) (nd (of_59 P) (nd (of_91 P) nl nl) nl)))) (nd (o0_5 P) (nd (o0_9 P) (nd (o0_17 P) (nd (o0_33 P) (nd (of_65 P) nl nl) (nd (of_97 P) nl nl)) (nd (of_49 P) (nd (of_81 P) nl nl) (nd (og_113 P) nl nl))) (nd (o0_25 P) (nd (of_41 P) (nd (of_73 P) nl nl) (nd (of_105 P) nl nl)) (nd (of_57 P) (nd (of_89 P) nl nl) nl))) (nd (o0_13 P) (nd (o0_21 P) (nd (oa_37 P) (nd (of_69 P) nl nl) (nd (of_101 P) nl nl)) (nd (of_53 P) (nd (of_85 P) nl nl) (nd (og_117 P) nl nl))) (nd (o0_29 P) (nd (of_45 P) (nd (of_77 P) nl nl) (nd (of_109 P) nl nl)) (nd (of_61 P) (nd (of_93 P) nl nl) nl))))) (nd (o0_2 P) (nd (o0_4 P) (nd (o0_8 P) (nd (o0_16 P) (nd (o0_32 P) (nd (of_64 P) nl nl) (nd (of_96 P) nl nl)) (nd (of_48 P) (nd (of_80 P) nl nl) (nd (of_112 P) nl nl))) (nd (o0_24 P) (nd (of_40 P) (nd (of_72 P) nl nl) (nd (of_104 P) nl nl)) (nd (of_56 P) (nd (of_88 P) nl nl) nl))) (nd (o0_12 P) (nd (o0_20 P) (nd (oa_36 P) (nd (of_68 P) nl nl) (nd (of_100 P) nl nl)) (nd (of_52 P) (nd (of_84 P) nl nl) (nd (og_116 P) nl nl))) (nd (o0_28 P) (nd (of_44 P) (nd (of_76 P) nl nl) (nd (of_108 P) nl nl)) (nd (of_60 P) (nd (of_92 P) nl nl) nl)))) (nd (o0_6 P) (nd (o0_10 P) (nd (o0_18 P) (nd (oa_34 P) (nd (of_66 P) nl nl) (nd (of_98 P) nl nl)) (nd (of_50 P) (nd (of_82 P) nl nl) (nd (og_114 P) nl nl))) (nd (o0_26 P) (nd (of_42 P) (nd (of_74 P) nl nl) (nd (of_106 P) nl nl)) (nd (of_58 P) (nd (of_90 P) nl nl) nl))) (nd (o0_14 P) (nd (o0_22 P) (nd (of_38 P) (nd (of_70 P) nl nl) (nd (of_102 P) nl nl)) (nd (of_54 P) (nd (of_86 P) nl nl) nl)) (nd (o0_30 P) (nd (of_46 P) (nd (of_78 P) nl nl) (nd (of_110 P) nl nl)) (nd (of_62 P) (nd (of_94 P) nl nl) nl))))))
noncomputable def oh_2 (P : Params) : Obj := (Obj.mk Value.none none (Data.dict #[(en P "\x69mport.loaded._sre" 183 (Value.bool Bool.true)), (en P "class._frozen_importlib.BuiltinImporter" 185 (Value.ref 14)), (en P "watched.\x69mport" 206 (Value.ref 18)), (en P "class._frozen_importlib.ModuleSpec" 216 (Value.ref 22)), (en P "sys.modules.booked-epoch" 245 (Value.int 4 0)), (en P "\x69mport.later-laid._sre" 270 (Value.bool Bool.true)), (en P "watched.library" 272 (Value.ref 27)), (en P "watched.library-objects" 0 (Value.str (ss "\x0c\x1e") 0)), (en P "watched.library-deep._sre" 273 (Value.str (Str.mk #[4, 0, 0, 11, 4, 0, 0, 11, 4, 0, 0, 3, 4, 0, 0, 11, 8, 4, 100, 105, 99, 116, 2]) 0)), (en P "\x69mport.loaded._collections" 280 (Value.bool Bool.true)), (en P "sys.modules.landed._collections" 294 (Value.bool Bool.true)), (en P "\x69mport.later-laid._collections" 309 (Value.bool Bool.true)), (en P "watched.library-deep._collections" 311 (Value.str (Str.mk #[4, 0, 0, 29, 4, 0, 0, 29, 4, 0, 0, 3, 4, 0, 0, 29, 8, 4, 100, 105, 99, 116, 2]) 0)), (en P "type.__subclasses__.OSError.0" 712 (Value.int 160 0)), (en P "type.__subclasses__.OSError.n" 713 (Value.int 1 0))] 15) #[])
noncomputable def oh_3 (P : Params) : Obj := (Obj.mk (Value.type "dict") none (Data.dict #[(en P "__name__" 165 (Value.str (ss "io") 676)), (en P "__doc__" 166 Value.none), (en P "__package__" 167 Value.none), (en P "__loader__" 168 (Value.builtin "__main__.__loader__#\x6fpaque")), (en P "__spec__" 169 Value.none), (en P "__annotations__" 170 (Value.ref 6)), (en P "__builtins__" 171 (Value.ref 4)), (en P "__file__" 173 (Value.str (ss "/claim/cut.py") 172)), (en P "__cached__" 174 Value.none), (en P "_sre" 275 (Value.ref 12)), (en P "deque" 317 (Value.type "collections.deque")), (en P "_wall" 330 (Value.ref 44)), (en P "_kind" 341 (Value.ref 51)), (en P "_fspath" 350 (Value.ref 58)), (en P "_check_arg_types" 360 (Value.ref 65)), (en P "isabs" 367 (Value.ref 72)), (en P "join" 378 (Value.ref 79)), (en P "join_path" 379 (Value.ref 79)), (en P "splitext" 391 (Value.ref 86)), (en P "basename" 399 (Value.ref 93)), (en P "dirname" 409 (Value.ref 100)), (en P "_modname" 421 (Value.ref 107)), (en P "twin_re_1_fnmatch" 459 (Value.ref 112)), (en P "_special_chars_map" 607 (Value.ref 114)), (en P "escape" 614 (Value.ref 124)), (en P "_translate" 635 (Value.ref 131)), (en P "twin_re_1_shlex" 675 (Value.ref 136)), (en P "_whence" 685 (Value.ref 143)), (en P "_index" 693 (Value.ref 150)), (en P "UnsupportedOperation" 715 (Value.ref 160)), (en P "IOBase" 747 (Value.ref 180)), (en P "BufferedIOBase" 765 (Value.ref 195)), (en P "TextIOBase" 783 (Value.ref 207)), (en P "BytesIO" 1045 (Value.ref 437))] 34) #[])
noncomputable def oh_35 (P : Params) : Obj := (Obj.mk Value.none none (Data.fields #[(Value.int 3 0), (Value.int 0 0), (Value.ref 43), (Value.int 7 0), (Value.int 0 0), (Value.ref 50), (Value.int 28 0), (Value.int 0 0), (Value.ref 57), (Value.int 33 0), (Value.int 0 0), (Value.ref 64), (Value.int 38 0), (Value.int 0 0), (Value.ref 71), (Value.int 41 0), (Value.int 0 0), (Value.ref 78), (Value.int 62 0), (Value.int 0 0), (Value.ref 85), (Value.int 75 0), (Value.int 0 0), (Value.ref 92), (Value.int 79 0), (Value.int 0 0), (Value.ref 99), (Value.int 88 0), (Value.int 0 0), (Value.ref 106), (Value.int 95 0), (Value.int 0 0), (Value.ref 123), (Value.int 102 0), (Value.int 0 0), (Value.ref 130), (Value.int 166 0), (Value.int 0 0), (Value.ref 142), (Value.int 171 0), (Value.int 0 0), (Value.ref 149), (Value.int 178 0), (Value.int 0 0), (Value.ref 156), (Value.int 180 0), (Value.int 0 0), (Value.ref 169), (Value.int 187 0), (Value.int 0 0), (Value.ref 191), (Value.int 189 0), (Value.int 0 0), (Value.ref 203), (Value.int 191 0), (Value.int 0 0), (Value.ref 215)]) #[])
noncomputable def oh_118 (P : Params) : Obj := (Obj.mk (Value.type "tuple") none (Data.seq #[] 0) #[])
noncomputable def oh_119 (P : Params) : Obj := (Obj.mk Value.none none (Data.fields #[]) #[])
noncomputable def oh_120 (P : Params) : Obj := (Obj.mk (Value.type "tuple") none (Data.seq #[(Value.str (ss "pattern") 611)] 0) #[])
noncomputable def oh_121 (P : Params) : Obj := (Obj.mk (Value.type "tuple") none (Data.seq #[] 0) #[])
noncomputable def oh_122 (P : Params) : Obj := (Obj.mk Value.none none (Data.func (FuncData.mk (ss "escape") (ss "escape") (fdA (stI pB 18)) (FuncBody.stmts (fdB (stI pB 18))) (fdS (stI pB 18)) 0 [] Value.none Value.none Value.none Value.none none Value.none Value.none 0)) #[])
noncomputable def oh_123 (P : Params) : Obj := (Obj.mk (Value.type "code") none (Data.fields #[(Value.str (ss "escape") 608), (Value.str (ss "escape") 609), (Value.str (ss "/claim/cut.py") 610), (Value.int 95 0), (Value.int 1 0), (Value.int 0 0), (Value.int 0 0), (Value.int 3 0), (Value.ref 118), (Value.bool Bool.true), (Value.int 318 0), (Value.ref 119), Value.none, (Value.ref 120), (Value.ref 121), (Value.ref 122), (Value.int 612 0), (Value.int 95 0), (Value.str (ss "/claim/cut.py") 613)]) #[])
noncomputable def oh_124 (P : Params) : Obj := (Obj.mk (Value.type "function") none (Data.func (FuncData.mk (ss "escape") (ss "escape") (fdA (stI pB 18)) (FuncBody.stmts (fdB (stI pB 18))) (fdS (stI pB 18)) 3 [] Value.none Value.none Value.none (Value.str (ss "re") 460) none (Value.ref 123) Value.none 0)) #[])
noncomputable def oh_125 (P : Params) : Obj := (Obj.mk (Value.type "tuple") none (Data.seq #[] 0) #[])
noncomputable def oh_126 (P : Params) : Obj := (Obj.mk Value.none none (Data.fields #[]) #[])
noncomputable def oh_127 (P : Params) : Obj := (Obj.mk (Value.type "tuple") none (Data.seq #[(Value.str (ss "pat") 620), (Value.str (ss "STAR") 621), (Value.str (ss "QUESTION_MARK") 622), (Value.str (ss "res") 623), (Value.str (ss "add") 624), (Value.str (ss "i") 625), (Value.str (ss "n") 626), (Value.str (ss "c") 627), (Value.str (ss "j") 628), (Value.str (ss "stuff") 629), (Value.str (ss "chunks") 630), (Value.str (ss "k") 631), (Value.str (ss "chunk") 632)] 0) #[])
noncomputable def oh_128 (P : Params) : Obj := (Obj.mk (Value.type "tuple") none (Data.seq #[] 0) #[])
noncomputable def oh_129 (P : Params) : Obj := (Obj.mk Value.none none (Data.func (FuncData.mk (ss "_translate") (ss "_translate") (fdA (stI pB 20)) (FuncBody.stmts (fdB (stI pB 20))) (fdS (stI pB 20)) 0 [] Value.none Value.none Value.none Value.none none Value.none Value.none 0)) #[])
noncomputable def oh_130 (P : Params) : Obj := (Obj.mk (Value.type "code") none (Data.fields #[(Value.str (ss "_translate") 617), (Value.str (ss "_translate") 618), (Value.str (ss "/claim/cut.py") 619), (Value.int 102 0), (Value.int 3 0), (Value.int 0 0), (Value.int 0 0), (Value.int 3 0), (Value.ref 125), (Value.bool Bool.true), (Value.int 318 0), (Value.ref 126), Value.none, (Value.ref 127), (Value.ref 128), (Value.ref 129), (Value.int 633 0), (Value.int 102 0), (Value.str (ss "/claim/cut.py") 634)]) #[])
noncomputable def oh_131 (P : Params) : Obj := (Obj.mk (Value.type "function") none (Data.func (FuncData.mk (ss "_translate") (ss "_translate") (fdA (stI pB 20)) (FuncBody.stmts (fdB (stI pB 20))) (fdS (stI pB 20)) 3 [] Value.none Value.none Value.none (Value.str (ss "cpy313.fnmatch") 615) none (Value.ref 130) Value.none 0)) #[])
noncomputable def oh_132 (P : Params) : Obj := (Obj.mk (Value.type "list") none (Data.seq #[(Value.int 14 639), (Value.int 17 640), (Value.int 4 641), (Value.int 1 642), (Value.int 1 643), (Value.int 21 644), (Value.int 9 645), (Value.int 0 646), (Value.int 604043296 647), (Value.int 1 648), (Value.int 0 649), (Value.int 0 650), (Value.int 0 651), (Value.int 0 652), (Value.int 0 653), (Value.int 8 654), (Value.int 4 655), (Value.int 0 656), (Value.int 13 657), (Value.int 14 658), (Value.int 21 659), (Value.int 9 660), (Value.int 0 661), (Value.int 604043296 662), (Value.int 1 663), (Value.int 0 664), (Value.int 0 665), (Value.int 0 666), (Value.int 0 667), (Value.int 0 668), (Value.int 8 669), (Value.int 4 670), (Value.int 0 671), (Value.int 1 672)] 0) #[])
noncomputable def oh_133 (P : Params) : Obj := (Obj.mk (Value.type "dict") none (Data.dict #[] 0) #[])
noncomputable def oh_134 (P : Params) : Obj := (Obj.mk (Value.type "tuple") none (Data.seq #[Value.none] 0) #[])
noncomputable def oh_135 (P : Params) : Obj := (Obj.mk (Value.type "tuple") none (Data.seq #[(Value.int 14 0), (Value.int 17 0), (Value.int 4 0), (Value.int 1 0), (Value.int 1 0), (Value.int 21 0), (Value.int 9 0), (Value.int 0 0), (Value.int 604043296 0), (Value.int 1 0), (Value.int 0 0), (Value.int 0 0), (Value.int 0 0), (Value.int 0 0), (Value.int 0 0), (Value.int 8 0), (Value.int 4 0), (Value.int 0 0), (Value.int 13 0), (Value.int 14 0), (Value.int 21 0), (Value.int 9 0), (Value.int 0 0), (Value.int 604043296 0), (Value.int 1 0), (Value.int 0 0), (Value.int 0 0), (Value.int 0 0), (Value.int 0 0), (Value.int 0 0), (Value.int 8 0), (Value.int 4 0), (Value.int 0 0), (Value.int 1 0)] 0) #[])
noncomputable def oh_136 (P : Params) : Obj := (Obj.mk (Value.type "re.Pattern") none (Data.fields #[(Value.str (ss "[^\\w@%+=:,./-]") 637), (Value.int 256 674), (Value.int 0 0), Value.none, Value.none, (Value.ref 135), (Value.int 0 0)]) #[])
noncomputable def oh_137 (P : Params) : Obj := (Obj.mk (Value.type "tuple") none (Data.seq #[] 0) #[])
noncomputable def oh_138 (P : Params) : Obj := (Obj.mk Value.none none (Data.fields #[]) #[])
noncomputable def oh_139 (P : Params) : Obj := (Obj.mk (Value.type "tuple") none (Data.seq #[(Value.str (ss "n") 681), (Value.str (ss "what") 682)] 0) #[])
noncomputable def oh_140 (P : Params) : Obj := (Obj.mk (Value.type "tuple") none (Data.seq #[] 0) #[])
noncomputable def oh_141 (P : Params) : Obj := (Obj.mk Value.none none (Data.func (FuncData.mk (ss "_whence") (ss "_whence") (fdA (stI pB 23)) (FuncBody.stmts (fdB (stI pB 23))) (fdS (stI pB 23)) 0 [] Value.none Value.none Value.none Value.none none Value.none Value.none 0)) #[])
noncomputable def oh_142 (P : Params) : Obj := (Obj.mk (Value.type "code") none (Data.fields #[(Value.str (ss "_whence") 678), (Value.str (ss "_whence") 679), (Value.str (ss "/claim/cut.py") 680), (Value.int 166 0), (Value.int 2 0), (Value.int 0 0), (Value.int 0 0), (Value.int 3 0), (Value.ref 137), (Value.bool Bool.true), (Value.int 318 0), (Value.ref 138), Value.none, (Value.ref 139), (Value.ref 140), (Value.ref 141), (Value.int 683 0), (Value.int 166 0), (Value.str (ss "/claim/cut.py") 684)]) #[])
noncomputable def oh_143 (P : Params) : Obj := (Obj.mk (Value.type "function") none (Data.func (FuncData.mk (ss "_whence") (ss "_whence") (fdA (stI pB 23)) (FuncBody.stmts (fdB (stI pB 23))) (fdS (stI pB 23)) 3 [] Value.none Value.none Value.none (Value.str (ss "io") 676) none (Value.ref 142) Value.none 0)) #[])
noncomputable def oh_144 (P : Params) : Obj := (Obj.mk (Value.type "tuple") none (Data.seq #[] 0) #[])
noncomputable def oh_145 (P : Params) : Obj := (Obj.mk Value.none none (Data.fields #[]) #[])
noncomputable def oh_146 (P : Params) : Obj := (Obj.mk (Value.type "tuple") none (Data.seq #[(Value.str (ss "n") 689), (Value.str (ss "what") 690)] 0) #[])
noncomputable def oh_147 (P : Params) : Obj := (Obj.mk (Value.type "tuple") none (Data.seq #[] 0) #[])
noncomputable def oh_148 (P : Params) : Obj := (Obj.mk Value.none none (Data.func (FuncData.mk (ss "_index") (ss "_index") (fdA (stI pB 24)) (FuncBody.stmts (fdB (stI pB 24))) (fdS (stI pB 24)) 0 [] Value.none Value.none Value.none Value.none none Value.none Value.none 0)) #[])
noncomputable def oh_149 (P : Params) : Obj := (Obj.mk (Value.type "code") none (Data.fields #[(Value.str (ss "_index") 686), (Value.str (ss "_index") 687), (Value.str (ss "/claim/cut.py") 688), (Value.int 171 0), (Value.int 2 0), (Value.int 0 0), (Value.int 0 0), (Value.int 3 0), (Value.ref 144), (Value.bool Bool.true), (Value.int 318 0), (Value.ref 145), Value.none, (Value.ref 146), (Value.ref 147), (Value.ref 148), (Value.int 691 0), (Value.int 171 0), (Value.str (ss "/claim/cut.py") 692)]) #[])
noncomputable def oh_150 (P : Params) : Obj := (Obj.mk (Value.type "function") none (Data.func (FuncData.mk (ss "_index") (ss "_index") (fdA (stI pB 24)) (FuncBody.stmts (fdB (stI pB 24))) (fdS (stI pB 24)) 3 [] Value.none Value.none Value.none (Value.str (ss "io") 676) none (Value.ref 149) Value.none 0)) #[])
noncomputable def oh_151 (P : Params) : Obj := (Obj.mk (Value.type "tuple") none (Data.seq #[(Value.type "OSError"), (Value.type "ValueError")] 0) #[])
noncomputable def oh_152 (P : Params) : Obj := (Obj.mk (Value.type "builtin_function_or_method") none (Data.fields #[(Value.builtin "type.__prepare__"), (Value.type "type")]) #[])
noncomputable def oh_153 (P : Params) : Obj := (Obj.mk (Value.type "dict") none (Data.dict #[(en P "__module__" 701 (Value.str (ss "io") 706)), (en P "__qualname__" 703 (Value.str (ss "UnsupportedOperation") 702)), (en P "__firstlineno__" 705 (Value.int 178 704)), (en P "__static_attributes__" 708 (Value.ref 158))] 4) #[])
noncomputable def oh_154 (P : Params) : Obj := (Obj.mk (Value.type "tuple") none (Data.seq #[] 0) #[])
noncomputable def oh_155 (P : Params) : Obj := (Obj.mk Value.none none (Data.fields #[]) #[])
noncomputable def oh_156 (P : Params) : Obj := (Obj.mk (Value.type "code") none (Data.fields #[(Value.str (ss "UnsupportedOperation") 696), (Value.str (ss "UnsupportedOperation") 697), (Value.str (ss "/claim/cut.py") 698), (Value.int 178 0), (Value.int 0 0), (Value.int 0 0), (Value.int 0 0), (Value.int 0 0), (Value.ref 154), (Value.bool Bool.false), (Value.int 318 0), (Value.ref 155), Value.none, Value.none, Value.none, Value.none, (Value.int 699 0), (Value.int 178 0), (Value.str (ss "/claim/cut.py") 700)]) #[])
noncomputable def oh_157 (P : Params) : Obj := (Obj.mk (Value.type "frame") none Data.plain #[(some (Value.ref 156)), (some (Value.ref 3)), (some (Value.ref 153)), none, (some (Value.str (ss "io") 676)), none, (some (Value.ref 0))])
noncomputable def oh_158 (P : Params) : Obj := (Obj.mk (Value.type "tuple") none (Data.seq #[] 0) #[])
noncomputable def oh_159 (P : Params) : Obj := (Obj.mk (Value.type "dict") none (Data.dict #[(en P "__module__" 701 (Value.str (ss "io") 706)), (en P "__firstlineno__" 705 (Value.int 178 704)), (en P "__static_attributes__" 708 (Value.ref 158)), (en P "__weakref__" 710 (Value.ref 161)), (en P "__doc__" 711 Value.none)] 3) #[])
noncomputable def oh_160 (P : Params) : Obj := (Obj.mk (Value.type "type") none (Data.cls (ClassData.mk (ss "UnsupportedOperation") [(Value.type "OSError"), (Value.type "ValueError")] [(Value.ref 160), (Value.type "OSError"), (Value.type "ValueError"), (Value.type "Exception"), (Value.type "BaseException"), (Value.type "object")] 159 (ss "UnsupportedOperation") Bool.true [] [] Bool.false none Bool.false)) #[(some (Value.ref 151)), none, (some (Value.str (ss "UnsupportedOperation") 694)), (some (Value.str (ss "UnsupportedOperation") 702)), (some (Value.builtin "OSError.__new__")), (some (Value.bool Bool.true))])
noncomputable def oh_161 (P : Params) : Obj := (Obj.mk (Value.type "getset_descriptor") none (Data.fields #[(Value.str (ss "__weakref__") 709), (Value.ref 160), (Value.builtin "ExceptionGroup.__weakref__"), Value.none]) #[])
noncomputable def oh_162 (P : Params) : Obj := (Obj.mk (Value.type "super") none (Data.fields #[(Value.ref 160), (Value.ref 160), (Value.ref 160)]) #[])
noncomputable def oh_163 (P : Params) : Obj := (Obj.mk (Value.type "builtin_function_or_method") none (Data.fields #[(Value.builtin "object.__init_subclass__"), (Value.ref 160)]) #[])
noncomputable def oh_164 (P : Params) : Obj := (Obj.mk (Value.type "tuple") none (Data.seq #[] 0) #[])
noncomputable def oh_165 (P : Params) : Obj := (Obj.mk (Value.type "builtin_function_or_method") none (Data.fields #[(Value.builtin "type.__prepare__"), (Value.type "type")]) #[])
noncomputable def oh_166 (P : Params) : Obj := (Obj.mk (Value.type "dict") none (Data.dict #[(en P "__module__" 723 (Value.str (ss "io") 728)), (en P "__qualname__" 725 (Value.str (ss "IOBase") 724)), (en P "__firstlineno__" 727 (Value.int 180 726)), (en P "__new__" 738 (Value.ref 177)), (en P "__static_attributes__" 739 (Value.ref 178))] 5) #[])
noncomputable def oh_167 (P : Params) : Obj := (Obj.mk (Value.type "tuple") none (Data.seq #[] 0) #[])
noncomputable def oh_168 (P : Params) : Obj := (Obj.mk Value.none none (Data.fields #[(Value.int 183 0), (Value.int 4 0), (Value.ref 176)]) #[])
noncomputable def oh_169 (P : Params) : Obj := (Obj.mk (Value.type "code") none (Data.fields #[(Value.str (ss "IOBase") 718), (Value.str (ss "IOBase") 719), (Value.str (ss "/claim/cut.py") 720), (Value.int 180 0), (Value.int 0 0), (Value.int 0 0), (Value.int 0 0), (Value.int 0 0), (Value.ref 167), (Value.bool Bool.false), (Value.int 318 0), (Value.ref 168), Value.none, Value.none, Value.none, Value.none, (Value.int 721 0), (Value.int 180 0), (Value.str (ss "/claim/cut.py") 722)]) #[])
noncomputable def oh_170 (P : Params) : Obj := (Obj.mk (Value.type "frame") none Data.plain #[(some (Value.ref 169)), (some (Value.ref 3)), (some (Value.ref 166)), none, (some (Value.str (ss "io") 676)), none, (some (Value.ref 0))])
noncomputable def oh_171 (P : Params) : Obj := (Obj.mk (Value.type "tuple") none (Data.seq #[] 0) #[])
noncomputable def oh_172 (P : Params) : Obj := (Obj.mk Value.none none (Data.fields #[]) #[])
noncomputable def oh_173 (P : Params) : Obj := (Obj.mk (Value.type "tuple") none (Data.seq #[(Value.str (ss "cls") 733), (Value.str (ss "args") 734), (Value.str (ss "kwargs") 735)] 0) #[])
noncomputable def oh_174 (P : Params) : Obj := (Obj.mk (Value.type "tuple") none (Data.seq #[] 0) #[])
noncomputable def oh_175 (P : Params) : Obj := (Obj.mk Value.none none (Data.func (FuncData.mk (ss "__new__") (ss "IOBase.__new__") (fdA (stI (clB (stI pB 26)) 1)) (FuncBody.stmts (fdB (stI (clB (stI pB 26)) 1))) (fdS (stI (clB (stI pB 26)) 1)) 0 [] Value.none Value.none Value.none Value.none none Value.none Value.none 0)) #[])
noncomputable def oh_176 (P : Params) : Obj := (Obj.mk (Value.type "code") none (Data.fields #[(Value.str (ss "__new__") 730), (Value.str (ss "IOBase.__new__") 731), (Value.str (ss "/claim/cut.py") 732), (Value.int 183 0), (Value.int 1 0), (Value.int 1 0), (Value.int 0 0), (Value.int 15 0), (Value.ref 171), (Value.bool Bool.true), (Value.int 318 0), (Value.ref 172), Value.none, (Value.ref 173), (Value.ref 174), (Value.ref 175), (Value.int 736 0), (Value.int 183 0), (Value.str (ss "/claim/cut.py") 737)]) #[])
noncomputable def oh_177 (P : Params) : Obj := (Obj.mk (Value.type "function") none (Data.func (FuncData.mk (ss "__new__") (ss "IOBase.__new__") (fdA (stI (clB (stI pB 26)) 1)) (FuncBody.stmts (fdB (stI (clB (stI pB 26)) 1))) (fdS (stI (clB (stI pB 26)) 1)) 3 [] Value.none Value.none Value.none (Value.str (ss "io") 676) none (Value.ref 176) Value.none 0)) #[])
noncomputable def oh_178 (P : Params) : Obj := (Obj.mk (Value.type "tuple") none (Data.seq #[] 0) #[])
noncomputable def oh_179 (P : Params) : Obj := (Obj.mk (Value.type "dict") none (Data.dict #[(en P "__module__" 723 (Value.str (ss "io") 728)), (en P "__firstlineno__" 727 (Value.int 180 726)), (en P "__new__" 738 (Value.ref 181)), (en P "__static_attributes__" 739 (Value.ref 178)), (en P "__dict__" 742 (Value.ref 182)), (en P "__weakref__" 744 (Value.ref 183)), (en P "__doc__" 745 Value.none)] 4) #[])
noncomputable def oh_180 (P : Params) : Obj := (Obj.mk (Value.type "type") none (Data.cls (ClassData.mk (ss "IOBase") [(Value.type "object")] [(Value.ref 180), (Value.type "object")] 179 (ss "IOBase") Bool.true [] [(Value.ref 195), (Value.ref 207)] Bool.false none Bool.false)) #[none, none, (some (Value.str (ss "IOBase") 716)), (some (Value.str (ss "IOBase") 724)), (some Value.none), (some (Value.bool Bool.true))])
noncomputable def oh_181 (P : Params) : Obj := (Obj.mk (Value.type "staticmethod") none (Data.fields #[(Value.ref 177)]) #[])
noncomputable def oh_182 (P : Params) : Obj := (Obj.mk (Value.type "getset_descriptor") none (Data.fields #[(Value.str (ss "__dict__") 741), (Value.ref 180), (Value.builtin "function.__dict__"), (Value.builtin "function.__dict__#set")]) #[])
noncomputable def oh_183 (P : Params) : Obj := (Obj.mk (Value.type "getset_descriptor") none (Data.fields #[(Value.str (ss "__weakref__") 743), (Value.ref 180), (Value.builtin "ExceptionGroup.__weakref__"), Value.none]) #[])
noncomputable def oh_184 (P : Params) : Obj := (Obj.mk (Value.type "super") none (Data.fields #[(Value.ref 180), (Value.ref 180), (Value.ref 180)]) #[])
noncomputable def oh_185 (P : Params) : Obj := (Obj.mk (Value.type "builtin_function_or_method") none (Data.fields #[(Value.builtin "object.__init_subclass__"), (Value.ref 180)]) #[])
noncomputable def oh_186 (P : Params) : Obj := (Obj.mk (Value.type "tuple") none (Data.seq #[(Value.ref 180)] 0) #[])
noncomputable def oh_187 (P : Params) : Obj := (Obj.mk (Value.type "builtin_function_or_method") none (Data.fields #[(Value.builtin "type.__prepare__"), (Value.type "type")]) #[])
noncomputable def oh_188 (P : Params) : Obj := (Obj.mk (Value.type "dict") none (Data.dict #[(en P "__module__" 755 (Value.str (ss "io") 760)), (en P "__qualname__" 757 (Value.str (ss "BufferedIOBase") 756)), (en P "__firstlineno__" 759 (Value.int 187 758)), (en P "__static_attributes__" 762 (Value.ref 193))] 4) #[])
noncomputable def oh_189 (P : Params) : Obj := (Obj.mk (Value.type "tuple") none (Data.seq #[] 0) #[])
noncomputable def oh_190 (P : Params) : Obj := (Obj.mk Value.none none (Data.fields #[]) #[])
noncomputable def oh_191 (P : Params) : Obj := (Obj.mk (Value.type "code") none (Data.fields #[(Value.str (ss "BufferedIOBase") 750), (Value.str (ss "BufferedIOBase") 751), (Value.str (ss "/claim/cut.py") 752), (Value.int 187 0), (Value.int 0 0), (Value.int 0 0), (Value.int 0 0), (Value.int 0 0), (Value.ref 189), (Value.bool Bool.false), (Value.int 318 0), (Value.ref 190), Value.none, Value.none, Value.none, Value.none, (Value.int 753 0), (Value.int 187 0), (Value.str (ss "/claim/cut.py") 754)]) #[])
noncomputable def oh_192 (P : Params) : Obj := (Obj.mk (Value.type "frame") none Data.plain #[(some (Value.ref 191)), (some (Value.ref 3)), (some (Value.ref 188)), none, (some (Value.str (ss "io") 676)), none, (some (Value.ref 0))])
noncomputable def oh_193 (P : Params) : Obj := (Obj.mk (Value.type "tuple") none (Data.seq #[] 0) #[])
noncomputable def oh_194 (P : Params) : Obj := (Obj.mk (Value.type "dict") none (Data.dict #[(en P "__module__" 755 (Value.str (ss "io") 760)), (en P "__firstlineno__" 759 (Value.int 187 758)), (en P "__static_attributes__" 762 (Value.ref 193)), (en P "__doc__" 763 Value.none)] 2) #[])
noncomputable def oh_195 (P : Params) : Obj := (Obj.mk (Value.type "type") none (Data.cls (ClassData.mk (ss "BufferedIOBase") [(Value.ref 180)] [(Value.ref 195), (Value.ref 180), (Value.type "object")] 194 (ss "BufferedIOBase") Bool.true [] [(Value.ref 437)] Bool.false none Bool.false)) #[(some (Value.ref 186)), none, (some (Value.str (ss "BufferedIOBase") 748)), (some (Value.str (ss "BufferedIOBase") 756)), (some Value.none), (some (Value.bool Bool.true))])
noncomputable def oh_196 (P : Params) : Obj := (Obj.mk (Value.type "super") none (Data.fields #[(Value.ref 195), (Value.ref 195), (Value.ref 195)]) #[])
noncomputable def oh_197 (P : Params) : Obj := (Obj.mk (Value.type "builtin_function_or_method") none (Data.fields #[(Value.builtin "object.__init_subclass__"), (Value.ref 195)]) #[])
noncomputable def oh_198 (P : Params) : Obj := (Obj.mk (Value.type "tuple") none (Data.seq #[(Value.ref 180)] 0) #[])
noncomputable def oh_199 (P : Params) : Obj := (Obj.mk (Value.type "builtin_function_or_method") none (Data.fields #[(Value.builtin "type.__prepare__"), (Value.type "type")]) #[])
noncomputable def oh_200 (P : Params) : Obj := (Obj.mk (Value.type "dict") none (Data.dict #[(en P "__module__" 773 (Value.str (ss "io") 778)), (en P "__qualname__" 775 (Value.str (ss "TextIOBase") 774)), (en P "__firstlineno__" 777 (Value.int 189 776)), (en P "__static_attributes__" 780 (Value.ref 205))] 4) #[])
noncomputable def oh_201 (P : Params) : Obj := (Obj.mk (Value.type "tuple") none (Data.seq #[] 0) #[])
noncomputable def oh_202 (P : Params) : Obj := (Obj.mk Value.none none (Data.fields #[]) #[])
noncomputable def oh_203 (P : Params) : Obj := (Obj.mk (Value.type "code") none (Data.fields #[(Value.str (ss "TextIOBase") 768), (Value.str (ss "TextIOBase") 769), (Value.str (ss "/claim/cut.py") 770), (Value.int 189 0), (Value.int 0 0), (Value.int 0 0), (Value.int 0 0), (Value.int 0 0), (Value.ref 201), (Value.bool Bool.false), (Value.int 318 0), (Value.ref 202), Value.none, Value.none, Value.none, Value.none, (Value.int 771 0), (Value.int 189 0), (Value.str (ss "/claim/cut.py") 772)]) #[])
noncomputable def oh_204 (P : Params) : Obj := (Obj.mk (Value.type "frame") none Data.plain #[(some (Value.ref 203)), (some (Value.ref 3)), (some (Value.ref 200)), none, (some (Value.str (ss "io") 676)), none, (some (Value.ref 0))])
noncomputable def oh_205 (P : Params) : Obj := (Obj.mk (Value.type "tuple") none (Data.seq #[] 0) #[])
noncomputable def oh_206 (P : Params) : Obj := (Obj.mk (Value.type "dict") none (Data.dict #[(en P "__module__" 773 (Value.str (ss "io") 778)), (en P "__firstlineno__" 777 (Value.int 189 776)), (en P "__static_attributes__" 780 (Value.ref 205)), (en P "__doc__" 781 Value.none)] 2) #[])
noncomputable def oh_207 (P : Params) : Obj := (Obj.mk (Value.type "type") none (Data.cls (ClassData.mk (ss "TextIOBase") [(Value.ref 180)] [(Value.ref 207), (Value.ref 180), (Value.type "object")] 206 (ss "TextIOBase") Bool.true [] [] Bool.false none Bool.false)) #[(some (Value.ref 198)), none, (some (Value.str (ss "TextIOBase") 766)), (some (Value.str (ss "TextIOBase") 774)), (some Value.none), (some (Value.bool Bool.true))])
noncomputable def oh_208 (P : Params) : Obj := (Obj.mk (Value.type "super") none (Data.fields #[(Value.ref 207), (Value.ref 207), (Value.ref 207)]) #[])
noncomputable def oh_209 (P : Params) : Obj := (Obj.mk (Value.type "builtin_function_or_method") none (Data.fields #[(Value.builtin "object.__init_subclass__"), (Value.ref 207)]) #[])
noncomputable def oh_210 (P : Params) : Obj := (Obj.mk (Value.type "tuple") none (Data.seq #[(Value.ref 195)] 0) #[])
noncomputable def oh_211 (P : Params) : Obj := (Obj.mk (Value.type "builtin_function_or_method") none (Data.fields #[(Value.builtin "type.__prepare__"), (Value.type "type")]) #[])
noncomputable def oh_212 (P : Params) : Obj := (Obj.mk (Value.type "dict") none (Data.dict #[(en P "__module__" 791 (Value.str (ss "_io") 796)), (en P "__qualname__" 793 (Value.str (ss "BytesIO") 792)), (en P "__firstlineno__" 795 (Value.int 191 794)), (en P "__init__" 805 (Value.ref 224)), (en P "_BytesIO__check" 812 (Value.ref 231)), (en P "_BytesIO__line" 823 (Value.ref 238)), (en P "closed" 831 (Value.ref 246)), (en P "close" 838 (Value.ref 253)), (en P "__enter__" 845 (Value.ref 260)), (en P "__exit__" 853 (Value.ref 267)), (en P "readable" 860 (Value.ref 274)), (en P "writable" 867 (Value.ref 281)), (en P "seekable" 874 (Value.ref 288)), (en P "isatty" 881 (Value.ref 295)), (en P "flush" 888 (Value.ref 302)), (en P "fileno" 895 (Value.ref 309)), (en P "detach" 902 (Value.ref 316)), (en P "getvalue" 909 (Value.ref 323)), (en P "getbuffer" 916 (Value.ref 330)), (en P "tell" 923 (Value.ref 337)), (en P "seek" 933 (Value.ref 345)), (en P "truncate" 941 (Value.ref 353)), (en P "read" 953 (Value.ref 361)), (en P "read1" 963 (Value.ref 369)), (en P "readinto" 973 (Value.ref 376)), (en P "readinto1" 981 (Value.ref 383)), (en P "readline" 991 (Value.ref 391)), (en P "readlines" 999 (Value.ref 399)), (en P "__iter__" 1006 (Value.ref 406)), (en P "__next__" 1014 (Value.ref 413)), (en P "write" 1024 (Value.ref 420)), (en P "writelines" 1032 (Value.ref 427)), (en P "__repr__" 1039 (Value.ref 434)), (en P "__static_attributes__" 1042 (Value.ref 435))] 34) #[])
noncomputable def oh_213 (P : Params) : Obj := (Obj.mk (Value.type "tuple") none (Data.seq #[] 0) #[])
noncomputable def oh_214 (P : Params) : Obj := (Obj.mk Value.none none (Data.fields #[(Value.int 194 0), (Value.int 4 0), (Value.ref 223), (Value.int 200 0), (Value.int 4 0), (Value.ref 230), (Value.int 204 0), (Value.int 4 0), (Value.ref 237), (Value.int 218 0), (Value.int 4 0), (Value.ref 244), (Value.int 221 0), (Value.int 4 0), (Value.ref 252), (Value.int 224 0), (Value.int 4 0), (Value.ref 259), (Value.int 228 0), (Value.int 4 0), (Value.ref 266), (Value.int 231 0), (Value.int 4 0), (Value.ref 273), (Value.int 235 0), (Value.int 4 0), (Value.ref 280), (Value.int 239 0), (Value.int 4 0), (Value.ref 287), (Value.int 243 0), (Value.int 4 0), (Value.ref 294), (Value.int 247 0), (Value.int 4 0), (Value.ref 301), (Value.int 250 0), (Value.int 4 0), (Value.ref 308), (Value.int 253 0), (Value.int 4 0), (Value.ref 315), (Value.int 256 0), (Value.int 4 0), (Value.ref 322), (Value.int 259 0), (Value.int 4 0), (Value.ref 329), (Value.int 262 0), (Value.int 4 0), (Value.ref 336), (Value.int 266 0), (Value.int 4 0), (Value.ref 344), (Value.int 283 0), (Value.int 4 0), (Value.ref 352), (Value.int 286 0), (Value.int 4 0), (Value.ref 360), (Value.int 300 0), (Value.int 4 0), (Value.ref 368), (Value.int 303 0), (Value.int 4 0), (Value.ref 375), (Value.int 317 0), (Value.int 4 0), (Value.ref 382), (Value.int 320 0), (Value.int 4 0), (Value.ref 390), (Value.int 327 0), (Value.int 4 0), (Value.ref 398), (Value.int 330 0), (Value.int 4 0), (Value.ref 405), (Value.int 333 0), (Value.int 4 0), (Value.ref 412), (Value.int 340 0), (Value.int 4 0), (Value.ref 419), (Value.int 356 0), (Value.int 4 0), (Value.ref 426), (Value.int 359 0), (Value.int 4 0), (Value.ref 433)]) #[])
noncomputable def oh_215 (P : Params) : Obj := (Obj.mk (Value.type "code") none (Data.fields #[(Value.str (ss "BytesIO") 786), (Value.str (ss "BytesIO") 787), (Value.str (ss "/claim/cut.py") 788), (Value.int 191 0), (Value.int 0 0), (Value.int 0 0), (Value.int 0 0), (Value.int 0 0), (Value.ref 213), (Value.bool Bool.false), (Value.int 318 0), (Value.ref 214), Value.none, Value.none, Value.none, Value.none, (Value.int 789 0), (Value.int 191 0), (Value.str (ss "/claim/cut.py") 790)]) #[])
noncomputable def oh_216 (P : Params) : Obj := (Obj.mk (Value.type "frame") none Data.plain #[(some (Value.ref 215)), (some (Value.ref 3)), (some (Value.ref 212)), none, (some (Value.str (ss "io") 676)), none, (some (Value.ref 0))])
noncomputable def oh_217 (P : Params) : Obj := (Obj.mk (Value.type "tuple") none (Data.seq #[Value.none] 0) #[])
noncomputable def oh_218 (P : Params) : Obj := (Obj.mk (Value.type "tuple") none (Data.seq #[] 0) #[])
noncomputable def oh_219 (P : Params) : Obj := (Obj.mk Value.none none (Data.fields #[]) #[])
noncomputable def oh_220 (P : Params) : Obj := (Obj.mk (Value.type "tuple") none (Data.seq #[(Value.str (ss "self") 801), (Value.str (ss "initial_bytes") 802)] 0) #[])
noncomputable def oh_221 (P : Params) : Obj := (Obj.mk (Value.type "tuple") none (Data.seq #[] 0) #[])
noncomputable def oh_222 (P : Params) : Obj := (Obj.mk Value.none none (Data.func (FuncData.mk (ss "__init__") (ss "BytesIO.__init__") (fdA (stI (clB (stI pB 29)) 1)) (FuncBody.stmts (fdB (stI (clB (stI pB 29)) 1))) (fdS (stI (clB (stI pB 29)) 1)) 0 [] Value.none Value.none Value.none Value.none none Value.none Value.none 0)) #[])
noncomputable def oh_223 (P : Params) : Obj := (Obj.mk (Value.type "code") none (Data.fields #[(Value.str (ss "__init__") 798), (Value.str (ss "BytesIO.__init__") 799), (Value.str (ss "/claim/cut.py") 800), (Value.int 194 0), (Value.int 2 0), (Value.int 0 0), (Value.int 0 0), (Value.int 3 0), (Value.ref 218), (Value.bool Bool.true), (Value.int 318 0), (Value.ref 219), Value.none, (Value.ref 220), (Value.ref 221), (Value.ref 222), (Value.int 803 0), (Value.int 194 0), (Value.str (ss "/claim/cut.py") 804)]) #[])
noncomputable def oh_224 (P : Params) : Obj := (Obj.mk (Value.type "function") none (Data.func (FuncData.mk (ss "__init__") (ss "BytesIO.__init__") (fdA (stI (clB (stI pB 29)) 1)) (FuncBody.stmts (fdB (stI (clB (stI pB 29)) 1))) (fdS (stI (clB (stI pB 29)) 1)) 3 [] (Value.ref 217) Value.none Value.none (Value.str (ss "io") 676) none (Value.ref 223) Value.none 0)) #[])
noncomputable def oh_225 (P : Params) : Obj := (Obj.mk (Value.type "tuple") none (Data.seq #[] 0) #[])
noncomputable def oh_226 (P : Params) : Obj := (Obj.mk Value.none none (Data.fields #[]) #[])
noncomputable def oh_227 (P : Params) : Obj := (Obj.mk (Value.type "tuple") none (Data.seq #[(Value.str (ss "self") 809)] 0) #[])
noncomputable def oh_228 (P : Params) : Obj := (Obj.mk (Value.type "tuple") none (Data.seq #[] 0) #[])
noncomputable def oh_229 (P : Params) : Obj := (Obj.mk Value.none none (Data.func (FuncData.mk (ss "__check") (ss "BytesIO.__check") (fdA (stI (clB (stI pB 29)) 2)) (FuncBody.stmts (fdB (stI (clB (stI pB 29)) 2))) (fdS (stI (clB (stI pB 30)) 4)) 0 [] Value.none Value.none Value.none Value.none none Value.none Value.none 0)) #[])
noncomputable def oh_230 (P : Params) : Obj := (Obj.mk (Value.type "code") none (Data.fields #[(Value.str (ss "__check") 806), (Value.str (ss "BytesIO.__check") 807), (Value.str (ss "/claim/cut.py") 808), (Value.int 200 0), (Value.int 1 0), (Value.int 0 0), (Value.int 0 0), (Value.int 3 0), (Value.ref 225), (Value.bool Bool.true), (Value.int 318 0), (Value.ref 226), Value.none, (Value.ref 227), (Value.ref 228), (Value.ref 229), (Value.int 810 0), (Value.int 200 0), (Value.str (ss "/claim/cut.py") 811)]) #[])
noncomputable def oh_231 (P : Params) : Obj := (Obj.mk (Value.type "function") none (Data.func (FuncData.mk (ss "__check") (ss "BytesIO.__check") (fdA (stI (clB (stI pB 29)) 2)) (FuncBody.stmts (fdB (stI (clB (stI pB 29)) 2))) (fdS (stI (clB (stI pB 30)) 4)) 3 [] Value.none Value.none Value.none (Value.str (ss "io") 676) none (Value.ref 230) Value.none 0)) #[])
noncomputable def oh_232 (P : Params) : Obj := (Obj.mk (Value.type "tuple") none (Data.seq #[] 0) #[])
noncomputable def oh_233 (P : Params) : Obj := (Obj.mk Value.none none (Data.fields #[]) #[])
noncomputable def oh_234 (P : Params) : Obj := (Obj.mk (Value.type "tuple") none (Data.seq #[(Value.str (ss "self") 816), (Value.str (ss "limit") 817), (Value.str (ss "start") 818), (Value.str (ss "stop") 819), (Value.str (ss "i") 820)] 0) #[])
noncomputable def oh_235 (P : Params) : Obj := (Obj.mk (Value.type "tuple") none (Data.seq #[] 0) #[])
noncomputable def oh_236 (P : Params) : Obj := (Obj.mk Value.none none (Data.func (FuncData.mk (ss "__line") (ss "BytesIO.__line") (fdA (stI (clB (stI pB 29)) 3)) (FuncBody.stmts (fdB (stI (clB (stI pB 29)) 3))) (fdS (stI (clB (stI pB 29)) 3)) 0 [] Value.none Value.none Value.none Value.none none Value.none Value.none 0)) #[])
noncomputable def oh_237 (P : Params) : Obj := (Obj.mk (Value.type "code") none (Data.fields #[(Value.str (ss "__line") 813), (Value.str (ss "BytesIO.__line") 814), (Value.str (ss "/claim/cut.py") 815), (Value.int 204 0), (Value.int 2 0), (Value.int 0 0), (Value.int 0 0), (Value.int 3 0), (Value.ref 232), (Value.bool Bool.true), (Value.int 318 0), (Value.ref 233), Value.none, (Value.ref 234), (Value.ref 235), (Value.ref 236), (Value.int 821 0), (Value.int 204 0), (Value.str (ss "/claim/cut.py") 822)]) #[])
noncomputable def oh_238 (P : Params) : Obj := (Obj.mk (Value.type "function") none (Data.func (FuncData.mk (ss "__line") (ss "BytesIO.__line") (fdA (stI (clB (stI pB 29)) 3)) (FuncBody.stmts (fdB (stI (clB (stI pB 29)) 3))) (fdS (stI (clB (stI pB 29)) 3)) 3 [] Value.none Value.none Value.none (Value.str (ss "io") 676) none (Value.ref 237) Value.none 0)) #[])
noncomputable def oh_239 (P : Params) : Obj := (Obj.mk (Value.type "tuple") none (Data.seq #[] 0) #[])
noncomputable def oh_240 (P : Params) : Obj := (Obj.mk Value.none none (Data.fields #[]) #[])
noncomputable def oh_241 (P : Params) : Obj := (Obj.mk (Value.type "tuple") none (Data.seq #[(Value.str (ss "self") 827)] 0) #[])
noncomputable def oh_242 (P : Params) : Obj := (Obj.mk (Value.type "tuple") none (Data.seq #[] 0) #[])
noncomputable def oh_243 (P : Params) : Obj := (Obj.mk Value.none none (Data.func (FuncData.mk (ss "closed") (ss "BytesIO.closed") (fdA (stI (clB (stI pB 29)) 4)) (FuncBody.stmts (fdB (stI (clB (stI pB 29)) 4))) (fdS (stI (clB (stI pB 32)) 9)) 0 [] Value.none Value.none Value.none Value.none none Value.none Value.none 0)) #[])
noncomputable def oh_244 (P : Params) : Obj := (Obj.mk (Value.type "code") none (Data.fields #[(Value.str (ss "closed") 824), (Value.str (ss "BytesIO.closed") 825), (Value.str (ss "/claim/cut.py") 826), (Value.int 217 0), (Value.int 1 0), (Value.int 0 0), (Value.int 0 0), (Value.int 3 0), (Value.ref 239), (Value.bool Bool.true), (Value.int 318 0), (Value.ref 240), Value.none, (Value.ref 241), (Value.ref 242), (Value.ref 243), (Value.int 828 0), (Value.int 217 0), (Value.str (ss "/claim/cut.py") 829)]) #[])
noncomputable def oh_245 (P : Params) : Obj := (Obj.mk (Value.type "function") none (Data.func (FuncData.mk (ss "closed") (ss "BytesIO.closed") (fdA (stI (clB (stI pB 29)) 4)) (FuncBody.stmts (fdB (stI (clB (stI pB 29)) 4))) (fdS (stI (clB (stI pB 32)) 9)) 3 [] Value.none Value.none Value.none (Value.str (ss "io") 676) none (Value.ref 244) Value.none 0)) #[])
noncomputable def oh_246 (P : Params) : Obj := (Obj.mk (Value.type "property") none (Data.fields #[(Value.ref 245), Value.none, Value.none, Value.none, (Value.str (ss "closed") 831), (Value.bool Bool.false)]) #[])
noncomputable def oh_247 (P : Params) : Obj := (Obj.mk (Value.type "tuple") none (Data.seq #[] 0) #[])
noncomputable def oh_248 (P : Params) : Obj := (Obj.mk Value.none none (Data.fields #[]) #[])
noncomputable def oh_249 (P : Params) : Obj := (Obj.mk (Value.type "tuple") none (Data.seq #[(Value.str (ss "self") 835)] 0) #[])
noncomputable def oh_250 (P : Params) : Obj := (Obj.mk (Value.type "tuple") none (Data.seq #[] 0) #[])
noncomputable def oh_251 (P : Params) : Obj := (Obj.mk Value.none none (Data.func (FuncData.mk (ss "close") (ss "BytesIO.close") (fdA (stI (clB (stI pB 29)) 5)) (FuncBody.stmts (fdB (stI (clB (stI pB 29)) 5))) (fdS (stI (clB (stI pB 32)) 9)) 0 [] Value.none Value.none Value.none Value.none none Value.none Value.none 0)) #[])
noncomputable def oh_252 (P : Params) : Obj := (Obj.mk (Value.type "code") none (Data.fields #[(Value.str (ss "close") 832), (Value.str (ss "BytesIO.close") 833), (Value.str (ss "/claim/cut.py") 834), (Value.int 221 0), (Value.int 1 0), (Value.int 0 0), (Value.int 0 0), (Value.int 3 0), (Value.ref 247), (Value.bool Bool.true), (Value.int 318 0), (Value.ref 248), Value.none, (Value.ref 249), (Value.ref 250), (Value.ref 251), (Value.int 836 0), (Value.int 221 0), (Value.str (ss "/claim/cut.py") 837)]) #[])
noncomputable def oh_253 (P : Params) : Obj := (Obj.mk (Value.type "function") none (Data.func (FuncData.mk (ss "close") (ss "BytesIO.close") (fdA (stI (clB (stI pB 29)) 5)) (FuncBody.stmts (fdB (stI (clB (stI pB 29)) 5))) (fdS (stI (clB (stI pB 32)) 9)) 3 [] Value.none Value.none Value.none (Value.str (ss "io") 676) none (Value.ref 252) Value.none 0)) #[])
noncomputable def oh_254 (P : Params) : Obj := (Obj.mk (Value.type "tuple") none (Data.seq #[] 0) #[])
noncomputable def oh_255 (P : Params) : Obj := (Obj.mk Value.none none (Data.fields #[]) #[])
noncomputable def oh_256 (P : Params) : Obj := (Obj.mk (Value.type "tuple") none (Data.seq #[(Value.str (ss "self") 842)] 0) #[])
noncomputable def oh_257 (P : Params) : Obj := (Obj.mk (Value.type "tuple") none (Data.seq #[] 0) #[])
noncomputable def oh_258 (P : Params) : Obj := (Obj.mk Value.none none (Data.func (FuncData.mk (ss "__enter__") (ss "BytesIO.__enter__") (fdA (stI (clB (stI pB 29)) 6)) (FuncBody.stmts (fdB (stI (clB (stI pB 29)) 6))) (fdS (stI (clB (stI pB 32)) 9)) 0 [] Value.none Value.none Value.none Value.none none Value.none Value.none 0)) #[])
noncomputable def oh_259 (P : Params) : Obj := (Obj.mk (Value.type "code") none (Data.fields #[(Value.str (ss "__enter__") 839), (Value.str (ss "BytesIO.__enter__") 840), (Value.str (ss "/claim/cut.py") 841), (Value.int 224 0), (Value.int 1 0), (Value.int 0 0), (Value.int 0 0), (Value.int 3 0), (Value.ref 254), (Value.bool Bool.true), (Value.int 318 0), (Value.ref 255), Value.none, (Value.ref 256), (Value.ref 257), (Value.ref 258), (Value.int 843 0), (Value.int 224 0), (Value.str (ss "/claim/cut.py") 844)]) #[])
noncomputable def oh_260 (P : Params) : Obj := (Obj.mk (Value.type "function") none (Data.func (FuncData.mk (ss "__enter__") (ss "BytesIO.__enter__") (fdA (stI (clB (stI pB 29)) 6)) (FuncBody.stmts (fdB (stI (clB (stI pB 29)) 6))) (fdS (stI (clB (stI pB 32)) 9)) 3 [] Value.none Value.none Value.none (Value.str (ss "io") 676) none (Value.ref 259) Value.none 0)) #[])
noncomputable def oh_261 (P : Params) : Obj := (Obj.mk (Value.type "tuple") none (Data.seq #[] 0) #[])
noncomputable def oh_262 (P : Params) : Obj := (Obj.mk Value.none none (Data.fields #[]) #[])
noncomputable def oh_263 (P : Params) : Obj := (Obj.mk (Value.type "tuple") none (Data.seq #[(Value.str (ss "self") 849), (Value.str (ss "args") 850)] 0) #[])
noncomputable def oh_264 (P : Params) : Obj := (Obj.mk (Value.type "tuple") none (Data.seq #[] 0) #[])
noncomputable def oh_265 (P : Params) : Obj := (Obj.mk Value.none none (Data.func (FuncData.mk (ss "__exit__") (ss "BytesIO.__exit__") (fdA (stI (clB (stI pB 29)) 7)) (FuncBody.stmts (fdB (stI (clB (stI pB 29)) 7))) (fdS (stI (clB (stI pB 30)) 13)) 0 [] Value.none Value.none Value.none Value.none none Value.none Value.none 0)) #[])
noncomputable def oh_266 (P : Params) : Obj := (Obj.mk (Value.type "code") none (Data.fields #[(Value.str (ss "__exit__") 846), (Value.str (ss "BytesIO.__exit__") 847), (Value.str (ss "/claim/cut.py") 848), (Value.int 228 0), (Value.int 1 0), (Value.int 0 0), (Value.int 0 0), (Value.int 7 0), (Value.ref 261), (Value.bool Bool.true), (Value.int 318 0), (Value.ref 262), Value.none, (Value.ref 263), (Value.ref 264), (Value.ref 265), (Value.int 851 0), (Value.int 228 0), (Value.str (ss "/claim/cut.py") 852)]) #[])
noncomputable def oh_267 (P : Params) : Obj := (Obj.mk (Value.type "function") none (Data.func (FuncData.mk (ss "__exit__") (ss "BytesIO.__exit__") (fdA (stI (clB (stI pB 29)) 7)) (FuncBody.stmts (fdB (stI (clB (stI pB 29)) 7))) (fdS (stI (clB (stI pB 30)) 13)) 3 [] Value.none Value.none Value.none (Value.str (ss "io") 676) none (Value.ref 266) Value.none 0)) #[])
noncomputable def oh_268 (P : Params) : Obj := (Obj.mk (Value.type "tuple") none (Data.seq #[] 0) #[])
noncomputable def oh_269 (P : Params) : Obj := (Obj.mk Value.none none (Data.fields #[]) #[])
noncomputable def oh_270 (P : Params) : Obj := (Obj.mk (Value.type "tuple") none (Data.seq #[(Value.str (ss "self") 857)] 0) #[])
noncomputable def oh_271 (P : Params) : Obj := (Obj.mk (Value.type "tuple") none (Data.seq #[] 0) #[])
noncomputable def oh_272 (P : Params) : Obj := (Obj.mk Value.none none (Data.func (FuncData.mk (ss "readable") (ss "BytesIO.readable") (fdA (stI (clB (stI pB 29)) 8)) (FuncBody.stmts (fdB (stI (clB (stI pB 29)) 8))) (fdS (stI (clB (stI pB 32)) 9)) 0 [] Value.none Value.none Value.none Value.none none Value.none Value.none 0)) #[])
noncomputable def oh_273 (P : Params) : Obj := (Obj.mk (Value.type "code") none (Data.fields #[(Value.str (ss "readable") 854), (Value.str (ss "BytesIO.readable") 855), (Value.str (ss "/claim/cut.py") 856), (Value.int 231 0), (Value.int 1 0), (Value.int 0 0), (Value.int 0 0), (Value.int 3 0), (Value.ref 268), (Value.bool Bool.true), (Value.int 318 0), (Value.ref 269), Value.none, (Value.ref 270), (Value.ref 271), (Value.ref 272), (Value.int 858 0), (Value.int 231 0), (Value.str (ss "/claim/cut.py") 859)]) #[])
noncomputable def oh_274 (P : Params) : Obj := (Obj.mk (Value.type "function") none (Data.func (FuncData.mk (ss "readable") (ss "BytesIO.readable") (fdA (stI (clB (stI pB 29)) 8)) (FuncBody.stmts (fdB (stI (clB (stI pB 29)) 8))) (fdS (stI (clB (stI pB 32)) 9)) 3 [] Value.none Value.none Value.none (Value.str (ss "io") 676) none (Value.ref 273) Value.none 0)) #[])
noncomputable def oh_275 (P : Params) : Obj := (Obj.mk (Value.type "tuple") none (Data.seq #[] 0) #[])
noncomputable def oh_276 (P : Params) : Obj := (Obj.mk Value.none none (Data.fields #[]) #[])
noncomputable def oh_277 (P : Params) : Obj := (Obj.mk (Value.type "tuple") none (Data.seq #[(Value.str (ss "self") 864)] 0) #[])
noncomputable def oh_278 (P : Params) : Obj := (Obj.mk (Value.type "tuple") none (Data.seq #[] 0) #[])
noncomputable def oh_279 (P : Params) : Obj := (Obj.mk Value.none none (Data.func (FuncData.mk (ss "writable") (ss "BytesIO.writable") (fdA (stI (clB (stI pB 29)) 9)) (FuncBody.stmts (fdB (stI (clB (stI pB 29)) 9))) (fdS (stI (clB (stI pB 32)) 9)) 0 [] Value.none Value.none Value.none Value.none none Value.none Value.none 0)) #[])
noncomputable def oh_280 (P : Params) : Obj := (Obj.mk (Value.type "code") none (Data.fields #[(Value.str (ss "writable") 861), (Value.str (ss "BytesIO.writable") 862), (Value.str (ss "/claim/cut.py") 863), (Value.int 235 0), (Value.int 1 0), (Value.int 0 0), (Value.int 0 0), (Value.int 3 0), (Value.ref 275), (Value.bool Bool.true), (Value.int 318 0), (Value.ref 276), Value.none, (Value.ref 277), (Value.ref 278), (Value.ref 279), (Value.int 865 0), (Value.int 235 0), (Value.str (ss "/claim/cut.py") 866)]) #[])
noncomputable def oh_281 (P : Params) : Obj := (Obj.mk (Value.type "function") none (Data.func (FuncData.mk (ss "writable") (ss "BytesIO.writable") (fdA (stI (clB (stI pB 29)) 9)) (FuncBody.stmts (fdB (stI (clB (stI pB 29)) 9))) (fdS (stI (clB (stI pB 32)) 9)) 3 [] Value.none Value.none Value.none (Value.str (ss "io") 676) none (Value.ref 280) Value.none 0)) #[])
noncomputable def oh_282 (P : Params) : Obj := (Obj.mk (Value.type "tuple") none (Data.seq #[] 0) #[])
noncomputable def oh_283 (P : Params) : Obj := (Obj.mk Value.none none (Data.fields #[]) #[])
noncomputable def oh_284 (P : Params) : Obj := (Obj.mk (Value.type "tuple") none (Data.seq #[(Value.str (ss "self") 871)] 0) #[])
noncomputable def oh_285 (P : Params) : Obj := (Obj.mk (Value.type "tuple") none (Data.seq #[] 0) #[])
noncomputable def oh_286 (P : Params) : Obj := (Obj.mk Value.none none (Data.func (FuncData.mk (ss "seekable") (ss "BytesIO.seekable") (fdA (stI (clB (stI pB 29)) 10)) (FuncBody.stmts (fdB (stI (clB (stI pB 29)) 10))) (fdS (stI (clB (stI pB 32)) 9)) 0 [] Value.none Value.none Value.none Value.none none Value.none Value.none 0)) #[])
noncomputable def oh_287 (P : Params) : Obj := (Obj.mk (Value.type "code") none (Data.fields #[(Value.str (ss "seekable") 868), (Value.str (ss "BytesIO.seekable") 869), (Value.str (ss "/claim/cut.py") 870), (Value.int 239 0), (Value.int 1 0), (Value.int 0 0), (Value.int 0 0), (Value.int 3 0), (Value.ref 282), (Value.bool Bool.true), (Value.int 318 0), (Value.ref 283), Value.none, (Value.ref 284), (Value.ref 285), (Value.ref 286), (Value.int 872 0), (Value.int 239 0), (Value.str (ss "/claim/cut.py") 873)]) #[])
noncomputable def oh_288 (P : Params) : Obj := (Obj.mk (Value.type "function") none (Data.func (FuncData.mk (ss "seekable") (ss "BytesIO.seekable") (fdA (stI (clB (stI pB 29)) 10)) (FuncBody.stmts (fdB (stI (clB (stI pB 29)) 10))) (fdS (stI (clB (stI pB 32)) 9)) 3 [] Value.none Value.none Value.none (Value.str (ss "io") 676) none (Value.ref 287) Value.none 0)) #[])
noncomputable def oh_289 (P : Params) : Obj := (Obj.mk (Value.type "tuple") none (Data.seq #[] 0) #[])
noncomputable def oh_290 (P : Params) : Obj := (Obj.mk Value.none none (Data.fields #[]) #[])
noncomputable def oh_291 (P : Params) : Obj := (Obj.mk (Value.type "tuple") none (Data.seq #[(Value.str (ss "self") 878)] 0) #[])
noncomputable def oh_292 (P : Params) : Obj := (Obj.mk (Value.type "tuple") none (Data.seq #[] 0) #[])
noncomputable def oh_293 (P : Params) : Obj := (Obj.mk Value.none none (Data.func (FuncData.mk (ss "isatty") (ss "BytesIO.isatty") (fdA (stI (clB (stI pB 29)) 11)) (FuncBody.stmts (fdB (stI (clB (stI pB 29)) 11))) (fdS (stI (clB (stI pB 32)) 9)) 0 [] Value.none Value.none Value.none Value.none none Value.none Value.none 0)) #[])
noncomputable def oh_294 (P : Params) : Obj := (Obj.mk (Value.type "code") none (Data.fields #[(Value.str (ss "isatty") 875), (Value.str (ss "BytesIO.isatty") 876), (Value.str (ss "/claim/cut.py") 877), (Value.int 243 0), (Value.int 1 0), (Value.int 0 0), (Value.int 0 0), (Value.int 3 0), (Value.ref 289), (Value.bool Bool.true), (Value.int 318 0), (Value.ref 290), Value.none, (Value.ref 291), (Value.ref 292), (Value.ref 293), (Value.int 879 0), (Value.int 243 0), (Value.str (ss "/claim/cut.py") 880)]) #[])
noncomputable def oh_295 (P : Params) : Obj := (Obj.mk (Value.type "function") none (Data.func (FuncData.mk (ss "isatty") (ss "BytesIO.isatty") (fdA (stI (clB (stI pB 29)) 11)) (FuncBody.stmts (fdB (stI (clB (stI pB 29)) 11))) (fdS (stI (clB (stI pB 32)) 9)) 3 [] Value.none Value.none Value.none (Value.str (ss "io") 676) none (Value.ref 294) Value.none 0)) #[])
noncomputable def oh_296 (P : Params) : Obj := (Obj.mk (Value.type "tuple") none (Data.seq #[] 0) #[])
noncomputable def oh_297 (P : Params) : Obj := (Obj.mk Value.none none (Data.fields #[]) #[])
noncomputable def oh_298 (P : Params) : Obj := (Obj.mk (Value.type "tuple") none (Data.seq #[(Value.str (ss "self") 885)] 0) #[])
noncomputable def oh_299 (P : Params) : Obj := (Obj.mk (Value.type "tuple") none (Data.seq #[] 0) #[])
noncomputable def oh_300 (P : Params) : Obj := (Obj.mk Value.none none (Data.func (FuncData.mk (ss "flush") (ss "BytesIO.flush") (fdA (stI (clB (stI pB 29)) 12)) (FuncBody.stmts (fdB (stI (clB (stI pB 29)) 12))) (fdS (stI (clB (stI pB 32)) 9)) 0 [] Value.none Value.none Value.none Value.none none Value.none Value.none 0)) #[])
noncomputable def oh_301 (P : Params) : Obj := (Obj.mk (Value.type "code") none (Data.fields #[(Value.str (ss "flush") 882), (Value.str (ss "BytesIO.flush") 883), (Value.str (ss "/claim/cut.py") 884), (Value.int 247 0), (Value.int 1 0), (Value.int 0 0), (Value.int 0 0), (Value.int 3 0), (Value.ref 296), (Value.bool Bool.true), (Value.int 318 0), (Value.ref 297), Value.none, (Value.ref 298), (Value.ref 299), (Value.ref 300), (Value.int 886 0), (Value.int 247 0), (Value.str (ss "/claim/cut.py") 887)]) #[])
noncomputable def oh_302 (P : Params) : Obj := (Obj.mk (Value.type "function") none (Data.func (FuncData.mk (ss "flush") (ss "BytesIO.flush") (fdA (stI (clB (stI pB 29)) 12)) (FuncBody.stmts (fdB (stI (clB (stI pB 29)) 12))) (fdS (stI (clB (stI pB 32)) 9)) 3 [] Value.none Value.none Value.none (Value.str (ss "io") 676) none (Value.ref 301) Value.none 0)) #[])
noncomputable def oh_303 (P : Params) : Obj := (Obj.mk (Value.type "tuple") none (Data.seq #[] 0) #[])
noncomputable def oh_304 (P : Params) : Obj := (Obj.mk Value.none none (Data.fields #[]) #[])
noncomputable def oh_305 (P : Params) : Obj := (Obj.mk (Value.type "tuple") none (Data.seq #[(Value.str (ss "self") 892)] 0) #[])
noncomputable def oh_306 (P : Params) : Obj := (Obj.mk (Value.type "tuple") none (Data.seq #[] 0) #[])
noncomputable def oh_307 (P : Params) : Obj := (Obj.mk Value.none none (Data.func (FuncData.mk (ss "fileno") (ss "BytesIO.fileno") (fdA (stI (clB (stI pB 29)) 13)) (FuncBody.stmts (fdB (stI (clB (stI pB 29)) 13))) (fdS (stI (clB (stI pB 30)) 19)) 0 [] Value.none Value.none Value.none Value.none none Value.none Value.none 0)) #[])
noncomputable def oh_308 (P : Params) : Obj := (Obj.mk (Value.type "code") none (Data.fields #[(Value.str (ss "fileno") 889), (Value.str (ss "BytesIO.fileno") 890), (Value.str (ss "/claim/cut.py") 891), (Value.int 250 0), (Value.int 1 0), (Value.int 0 0), (Value.int 0 0), (Value.int 3 0), (Value.ref 303), (Value.bool Bool.true), (Value.int 318 0), (Value.ref 304), Value.none, (Value.ref 305), (Value.ref 306), (Value.ref 307), (Value.int 893 0), (Value.int 250 0), (Value.str (ss "/claim/cut.py") 894)]) #[])
noncomputable def oh_309 (P : Params) : Obj := (Obj.mk (Value.type "function") none (Data.func (FuncData.mk (ss "fileno") (ss "BytesIO.fileno") (fdA (stI (clB (stI pB 29)) 13)) (FuncBody.stmts (fdB (stI (clB (stI pB 29)) 13))) (fdS (stI (clB (stI pB 30)) 19)) 3 [] Value.none Value.none Value.none (Value.str (ss "io") 676) none (Value.ref 308) Value.none 0)) #[])
noncomputable def oh_310 (P : Params) : Obj := (Obj.mk (Value.type "tuple") none (Data.seq #[] 0) #[])
noncomputable def oh_311 (P : Params) : Obj := (Obj.mk Value.none none (Data.fields #[]) #[])
noncomputable def oh_312 (P : Params) : Obj := (Obj.mk (Value.type "tuple") none (Data.seq #[(Value.str (ss "self") 899)] 0) #[])
noncomputable def oh_313 (P : Params) : Obj := (Obj.mk (Value.type "tuple") none (Data.seq #[] 0) #[])
noncomputable def oh_314 (P : Params) : Obj := (Obj.mk Value.none none (Data.func (FuncData.mk (ss "detach") (ss "BytesIO.detach") (fdA (stI (clB (stI pB 29)) 14)) (FuncBody.stmts (fdB (stI (clB (stI pB 29)) 14))) (fdS (stI (clB (stI pB 30)) 32)) 0 [] Value.none Value.none Value.none Value.none none Value.none Value.none 0)) #[])
noncomputable def oh_315 (P : Params) : Obj := (Obj.mk (Value.type "code") none (Data.fields #[(Value.str (ss "detach") 896), (Value.str (ss "BytesIO.detach") 897), (Value.str (ss "/claim/cut.py") 898), (Value.int 253 0), (Value.int 1 0), (Value.int 0 0), (Value.int 0 0), (Value.int 3 0), (Value.ref 310), (Value.bool Bool.true), (Value.int 318 0), (Value.ref 311), Value.none, (Value.ref 312), (Value.ref 313), (Value.ref 314), (Value.int 900 0), (Value.int 253 0), (Value.str (ss "/claim/cut.py") 901)]) #[])
noncomputable def oh_316 (P : Params) : Obj := (Obj.mk (Value.type "function") none (Data.func (FuncData.mk (ss "detach") (ss "BytesIO.detach") (fdA (stI (clB (stI pB 29)) 14)) (FuncBody.stmts (fdB (stI (clB (stI pB 29)) 14))) (fdS (stI (clB (stI pB 30)) 32)) 3 [] Value.none Value.none Value.none (Value.str (ss "io") 676) none (Value.ref 315) Value.none 0)) #[])
noncomputable def oh_317 (P : Params) : Obj := (Obj.mk (Value.type "tuple") none (Data.seq #[] 0) #[])
noncomputable def oh_318 (P : Params) : Obj := (Obj.mk Value.none none (Data.fields #[]) #[])
noncomputable def oh_319 (P : Params) : Obj := (Obj.mk (Value.type "tuple") none (Data.seq #[(Value.str (ss "self") 906)] 0) #[])
noncomputable def oh_320 (P : Params) : Obj := (Obj.mk (Value.type "tuple") none (Data.seq #[] 0) #[])
noncomputable def oh_321 (P : Params) : Obj := (Obj.mk Value.none none (Data.func (FuncData.mk (ss "getvalue") (ss "BytesIO.getvalue") (fdA (stI (clB (stI pB 29)) 15)) (FuncBody.stmts (fdB (stI (clB (stI pB 29)) 15))) (fdS (stI (clB (stI pB 30)) 32)) 0 [] Value.none Value.none Value.none Value.none none Value.none Value.none 0)) #[])
noncomputable def oh_322 (P : Params) : Obj := (Obj.mk (Value.type "code") none (Data.fields #[(Value.str (ss "getvalue") 903), (Value.str (ss "BytesIO.getvalue") 904), (Value.str (ss "/claim/cut.py") 905), (Value.int 256 0), (Value.int 1 0), (Value.int 0 0), (Value.int 0 0), (Value.int 3 0), (Value.ref 317), (Value.bool Bool.true), (Value.int 318 0), (Value.ref 318), Value.none, (Value.ref 319), (Value.ref 320), (Value.ref 321), (Value.int 907 0), (Value.int 256 0), (Value.str (ss "/claim/cut.py") 908)]) #[])
noncomputable def oh_323 (P : Params) : Obj := (Obj.mk (Value.type "function") none (Data.func (FuncData.mk (ss "getvalue") (ss "BytesIO.getvalue") (fdA (stI (clB (stI pB 29)) 15)) (FuncBody.stmts (fdB (stI (clB (stI pB 29)) 15))) (fdS (stI (clB (stI pB 30)) 32)) 3 [] Value.none Value.none Value.none (Value.str (ss "io") 676) none (Value.ref 322) Value.none 0)) #[])
noncomputable def oh_324 (P : Params) : Obj := (Obj.mk (Value.type "tuple") none (Data.seq #[] 0) #[])
noncomputable def oh_325 (P : Params) : Obj := (Obj.mk Value.none none (Data.fields #[]) #[])
noncomputable def oh_326 (P : Params) : Obj := (Obj.mk (Value.type "tuple") none (Data.seq #[(Value.str (ss "self") 913)] 0) #[])
noncomputable def oh_327 (P : Params) : Obj := (Obj.mk (Value.type "tuple") none (Data.seq #[] 0) #[])
noncomputable def oh_328 (P : Params) : Obj := (Obj.mk Value.none none (Data.func (FuncData.mk (ss "getbuffer") (ss "BytesIO.getbuffer") (fdA (stI (clB (stI pB 29)) 16)) (FuncBody.stmts (fdB (stI (clB (stI pB 29)) 16))) (fdS (stI (clB (stI pB 30)) 32)) 0 [] Value.none Value.none Value.none Value.none none Value.none Value.none 0)) #[])
noncomputable def oh_329 (P : Params) : Obj := (Obj.mk (Value.type "code") none (Data.fields #[(Value.str (ss "getbuffer") 910), (Value.str (ss "BytesIO.getbuffer") 911), (Value.str (ss "/claim/cut.py") 912), (Value.int 259 0), (Value.int 1 0), (Value.int 0 0), (Value.int 0 0), (Value.int 3 0), (Value.ref 324), (Value.bool Bool.true), (Value.int 318 0), (Value.ref 325), Value.none, (Value.ref 326), (Value.ref 327), (Value.ref 328), (Value.int 914 0), (Value.int 259 0), (Value.str (ss "/claim/cut.py") 915)]) #[])
noncomputable def oh_330 (P : Params) : Obj := (Obj.mk (Value.type "function") none (Data.func (FuncData.mk (ss "getbuffer") (ss "BytesIO.getbuffer") (fdA (stI (clB (stI pB 29)) 16)) (FuncBody.stmts (fdB (stI (clB (stI pB 29)) 16))) (fdS (stI (clB (stI pB 30)) 32)) 3 [] Value.none Value.none Value.none (Value.str (ss "io") 676) none (Value.ref 329) Value.none 0)) #[])
noncomputable def oh_331 (P : Params) : Obj := (Obj.mk (Value.type "tuple") none (Data.seq #[] 0) #[])
noncomputable def oh_332 (P : Params) : Obj := (Obj.mk Value.none none (Data.fields #[]) #[])
noncomputable def oh_333 (P : Params) : Obj := (Obj.mk (Value.type "tuple") none (Data.seq #[(Value.str (ss "self") 920)] 0) #[])
noncomputable def oh_334 (P : Params) : Obj := (Obj.mk (Value.type "tuple") none (Data.seq #[] 0) #[])
noncomputable def oh_335 (P : Params) : Obj := (Obj.mk Value.none none (Data.func (FuncData.mk (ss "tell") (ss "BytesIO.tell") (fdA (stI (clB (stI pB 29)) 17)) (FuncBody.stmts (fdB (stI (clB (stI pB 29)) 17))) (fdS (stI (clB (stI pB 32)) 9)) 0 [] Value.none Value.none Value.none Value.none none Value.none Value.none 0)) #[])
noncomputable def oh_336 (P : Params) : Obj := (Obj.mk (Value.type "code") none (Data.fields #[(Value.str (ss "tell") 917), (Value.str (ss "BytesIO.tell") 918), (Value.str (ss "/claim/cut.py") 919), (Value.int 262 0), (Value.int 1 0), (Value.int 0 0), (Value.int 0 0), (Value.int 3 0), (Value.ref 331), (Value.bool Bool.true), (Value.int 318 0), (Value.ref 332), Value.none, (Value.ref 333), (Value.ref 334), (Value.ref 335), (Value.int 921 0), (Value.int 262 0), (Value.str (ss "/claim/cut.py") 922)]) #[])
noncomputable def oh_337 (P : Params) : Obj := (Obj.mk (Value.type "function") none (Data.func (FuncData.mk (ss "tell") (ss "BytesIO.tell") (fdA (stI (clB (stI pB 29)) 17)) (FuncBody.stmts (fdB (stI (clB (stI pB 29)) 17))) (fdS (stI (clB (stI pB 32)) 9)) 3 [] Value.none Value.none Value.none (Value.str (ss "io") 676) none (Value.ref 336) Value.none 0)) #[])
noncomputable def oh_338 (P : Params) : Obj := (Obj.mk (Value.type "tuple") none (Data.seq #[(Value.int 0 924)] 0) #[])
noncomputable def oh_339 (P : Params) : Obj := (Obj.mk (Value.type "tuple") none (Data.seq #[] 0) #[])
noncomputable def oh_340 (P : Params) : Obj := (Obj.mk Value.none none (Data.fields #[]) #[])
noncomputable def oh_341 (P : Params) : Obj := (Obj.mk (Value.type "tuple") none (Data.seq #[(Value.str (ss "self") 928), (Value.str (ss "pos") 929), (Value.str (ss "whence") 930)] 0) #[])
noncomputable def oh_342 (P : Params) : Obj := (Obj.mk (Value.type "tuple") none (Data.seq #[] 0) #[])
noncomputable def oh_343 (P : Params) : Obj := (Obj.mk Value.none none (Data.func (FuncData.mk (ss "seek") (ss "BytesIO.seek") (fdA (stI (clB (stI pB 29)) 18)) (FuncBody.stmts (fdB (stI (clB (stI pB 29)) 18))) (fdS (stI (clB (stI pB 29)) 18)) 0 [] Value.none Value.none Value.none Value.none none Value.none Value.none 0)) #[])
noncomputable def oh_344 (P : Params) : Obj := (Obj.mk (Value.type "code") none (Data.fields #[(Value.str (ss "seek") 925), (Value.str (ss "BytesIO.seek") 926), (Value.str (ss "/claim/cut.py") 927), (Value.int 266 0), (Value.int 3 0), (Value.int 3 0), (Value.int 0 0), (Value.int 3 0), (Value.ref 339), (Value.bool Bool.true), (Value.int 318 0), (Value.ref 340), Value.none, (Value.ref 341), (Value.ref 342), (Value.ref 343), (Value.int 931 0), (Value.int 266 0), (Value.str (ss "/claim/cut.py") 932)]) #[])
noncomputable def oh_345 (P : Params) : Obj := (Obj.mk (Value.type "function") none (Data.func (FuncData.mk (ss "seek") (ss "BytesIO.seek") (fdA (stI (clB (stI pB 29)) 18)) (FuncBody.stmts (fdB (stI (clB (stI pB 29)) 18))) (fdS (stI (clB (stI pB 29)) 18)) 3 [] (Value.ref 338) Value.none Value.none (Value.str (ss "io") 676) none (Value.ref 344) Value.none 0)) #[])
noncomputable def oh_346 (P : Params) : Obj := (Obj.mk (Value.type "tuple") none (Data.seq #[Value.none] 0) #[])
noncomputable def oh_347 (P : Params) : Obj := (Obj.mk (Value.type "tuple") none (Data.seq #[] 0) #[])
noncomputable def oh_348 (P : Params) : Obj := (Obj.mk Value.none none (Data.fields #[]) #[])
noncomputable def oh_349 (P : Params) : Obj := (Obj.mk (Value.type "tuple") none (Data.seq #[(Value.str (ss "self") 937), (Value.str (ss "size") 938)] 0) #[])
noncomputable def oh_350 (P : Params) : Obj := (Obj.mk (Value.type "tuple") none (Data.seq #[] 0) #[])
noncomputable def oh_351 (P : Params) : Obj := (Obj.mk Value.none none (Data.func (FuncData.mk (ss "truncate") (ss "BytesIO.truncate") (fdA (stI (clB (stI pB 29)) 19)) (FuncBody.stmts (fdB (stI (clB (stI pB 29)) 19))) (fdS (stI (clB (stI pB 29)) 25)) 0 [] Value.none Value.none Value.none Value.none none Value.none Value.none 0)) #[])
noncomputable def oh_352 (P : Params) : Obj := (Obj.mk (Value.type "code") none (Data.fields #[(Value.str (ss "truncate") 934), (Value.str (ss "BytesIO.truncate") 935), (Value.str (ss "/claim/cut.py") 936), (Value.int 283 0), (Value.int 2 0), (Value.int 2 0), (Value.int 0 0), (Value.int 3 0), (Value.ref 347), (Value.bool Bool.true), (Value.int 318 0), (Value.ref 348), Value.none, (Value.ref 349), (Value.ref 350), (Value.ref 351), (Value.int 939 0), (Value.int 283 0), (Value.str (ss "/claim/cut.py") 940)]) #[])
noncomputable def oh_353 (P : Params) : Obj := (Obj.mk (Value.type "function") none (Data.func (FuncData.mk (ss "truncate") (ss "BytesIO.truncate") (fdA (stI (clB (stI pB 29)) 19)) (FuncBody.stmts (fdB (stI (clB (stI pB 29)) 19))) (fdS (stI (clB (stI pB 29)) 25)) 3 [] (Value.ref 346) Value.none Value.none (Value.str (ss "io") 676) none (Value.ref 352) Value.none 0)) #[])
noncomputable def oh_354 (P : Params) : Obj := (Obj.mk (Value.type "tuple") none (Data.seq #[(Value.int (-1) 943)] 0) #[])
noncomputable def oh_355 (P : Params) : Obj := (Obj.mk (Value.type "tuple") none (Data.seq #[] 0) #[])
noncomputable def oh_356 (P : Params) : Obj := (Obj.mk Value.none none (Data.fields #[]) #[])
noncomputable def oh_357 (P : Params) : Obj := (Obj.mk (Value.type "tuple") none (Data.seq #[(Value.str (ss "self") 947), (Value.str (ss "size") 948), (Value.str (ss "start") 949), (Value.str (ss "stop") 950)] 0) #[])
noncomputable def oh_358 (P : Params) : Obj := (Obj.mk (Value.type "tuple") none (Data.seq #[] 0) #[])
noncomputable def oh_359 (P : Params) : Obj := (Obj.mk Value.none none (Data.func (FuncData.mk (ss "read") (ss "BytesIO.read") (fdA (stI (clB (stI pB 29)) 20)) (FuncBody.stmts (fdB (stI (clB (stI pB 29)) 20))) (fdS (stI (clB (stI pB 29)) 20)) 0 [] Value.none Value.none Value.none Value.none none Value.none Value.none 0)) #[])
noncomputable def oh_360 (P : Params) : Obj := (Obj.mk (Value.type "code") none (Data.fields #[(Value.str (ss "read") 944), (Value.str (ss "BytesIO.read") 945), (Value.str (ss "/claim/cut.py") 946), (Value.int 286 0), (Value.int 2 0), (Value.int 2 0), (Value.int 0 0), (Value.int 3 0), (Value.ref 355), (Value.bool Bool.true), (Value.int 318 0), (Value.ref 356), Value.none, (Value.ref 357), (Value.ref 358), (Value.ref 359), (Value.int 951 0), (Value.int 286 0), (Value.str (ss "/claim/cut.py") 952)]) #[])
noncomputable def oh_361 (P : Params) : Obj := (Obj.mk (Value.type "function") none (Data.func (FuncData.mk (ss "read") (ss "BytesIO.read") (fdA (stI (clB (stI pB 29)) 20)) (FuncBody.stmts (fdB (stI (clB (stI pB 29)) 20))) (fdS (stI (clB (stI pB 29)) 20)) 3 [] (Value.ref 354) Value.none Value.none (Value.str (ss "io") 676) none (Value.ref 360) Value.none 0)) #[])
noncomputable def oh_362 (P : Params) : Obj := (Obj.mk (Value.type "tuple") none (Data.seq #[(Value.int (-1) 955)] 0) #[])
noncomputable def oh_363 (P : Params) : Obj := (Obj.mk (Value.type "tuple") none (Data.seq #[] 0) #[])
noncomputable def oh_364 (P : Params) : Obj := (Obj.mk Value.none none (Data.fields #[]) #[])
noncomputable def oh_365 (P : Params) : Obj := (Obj.mk (Value.type "tuple") none (Data.seq #[(Value.str (ss "self") 959), (Value.str (ss "size") 960)] 0) #[])
noncomputable def oh_366 (P : Params) : Obj := (Obj.mk (Value.type "tuple") none (Data.seq #[] 0) #[])
noncomputable def oh_367 (P : Params) : Obj := (Obj.mk Value.none none (Data.func (FuncData.mk (ss "read1") (ss "BytesIO.read1") (fdA (stI (clB (stI pB 29)) 21)) (FuncBody.stmts (fdB (stI (clB (stI pB 29)) 21))) (fdS (stI (clB (stI pB 29)) 25)) 0 [] Value.none Value.none Value.none Value.none none Value.none Value.none 0)) #[])
noncomputable def oh_368 (P : Params) : Obj := (Obj.mk (Value.type "code") none (Data.fields #[(Value.str (ss "read1") 956), (Value.str (ss "BytesIO.read1") 957), (Value.str (ss "/claim/cut.py") 958), (Value.int 300 0), (Value.int 2 0), (Value.int 2 0), (Value.int 0 0), (Value.int 3 0), (Value.ref 363), (Value.bool Bool.true), (Value.int 318 0), (Value.ref 364), Value.none, (Value.ref 365), (Value.ref 366), (Value.ref 367), (Value.int 961 0), (Value.int 300 0), (Value.str (ss "/claim/cut.py") 962)]) #[])
noncomputable def oh_369 (P : Params) : Obj := (Obj.mk (Value.type "function") none (Data.func (FuncData.mk (ss "read1") (ss "BytesIO.read1") (fdA (stI (clB (stI pB 29)) 21)) (FuncBody.stmts (fdB (stI (clB (stI pB 29)) 21))) (fdS (stI (clB (stI pB 29)) 25)) 3 [] (Value.ref 362) Value.none Value.none (Value.str (ss "io") 676) none (Value.ref 368) Value.none 0)) #[])
noncomputable def oh_370 (P : Params) : Obj := (Obj.mk (Value.type "tuple") none (Data.seq #[] 0) #[])
noncomputable def oh_371 (P : Params) : Obj := (Obj.mk Value.none none (Data.fields #[]) #[])
noncomputable def oh_372 (P : Params) : Obj := (Obj.mk (Value.type "tuple") none (Data.seq #[(Value.str (ss "self") 967), (Value.str (ss "buffer") 968), (Value.str (ss "start") 969), (Value.str (ss "n") 970)] 0) #[])
noncomputable def oh_373 (P : Params) : Obj := (Obj.mk (Value.type "tuple") none (Data.seq #[] 0) #[])
noncomputable def oh_374 (P : Params) : Obj := (Obj.mk Value.none none (Data.func (FuncData.mk (ss "readinto") (ss "BytesIO.readinto") (fdA (stI (clB (stI pB 29)) 22)) (FuncBody.stmts (fdB (stI (clB (stI pB 29)) 22))) (fdS (stI (clB (stI pB 29)) 22)) 0 [] Value.none Value.none Value.none Value.none none Value.none Value.none 0)) #[])
noncomputable def oh_375 (P : Params) : Obj := (Obj.mk (Value.type "code") none (Data.fields #[(Value.str (ss "readinto") 964), (Value.str (ss "BytesIO.readinto") 965), (Value.str (ss "/claim/cut.py") 966), (Value.int 303 0), (Value.int 2 0), (Value.int 2 0), (Value.int 0 0), (Value.int 3 0), (Value.ref 370), (Value.bool Bool.true), (Value.int 318 0), (Value.ref 371), Value.none, (Value.ref 372), (Value.ref 373), (Value.ref 374), (Value.int 971 0), (Value.int 303 0), (Value.str (ss "/claim/cut.py") 972)]) #[])
noncomputable def oh_376 (P : Params) : Obj := (Obj.mk (Value.type "function") none (Data.func (FuncData.mk (ss "readinto") (ss "BytesIO.readinto") (fdA (stI (clB (stI pB 29)) 22)) (FuncBody.stmts (fdB (stI (clB (stI pB 29)) 22))) (fdS (stI (clB (stI pB 29)) 22)) 3 [] Value.none Value.none Value.none (Value.str (ss "io") 676) none (Value.ref 375) Value.none 0)) #[])
noncomputable def oh_377 (P : Params) : Obj := (Obj.mk (Value.type "tuple") none (Data.seq #[] 0) #[])
noncomputable def oh_378 (P : Params) : Obj := (Obj.mk Value.none none (Data.fields #[]) #[])
noncomputable def oh_379 (P : Params) : Obj := (Obj.mk (Value.type "tuple") none (Data.seq #[(Value.str (ss "self") 977), (Value.str (ss "buffer") 978)] 0) #[])
noncomputable def oh_380 (P : Params) : Obj := (Obj.mk (Value.type "tuple") none (Data.seq #[] 0) #[])
noncomputable def oh_381 (P : Params) : Obj := (Obj.mk Value.none none (Data.func (FuncData.mk (ss "readinto1") (ss "BytesIO.readinto1") (fdA (stI (clB (stI pB 29)) 23)) (FuncBody.stmts (fdB (stI (clB (stI pB 29)) 23))) (fdS (stI (clB (stI pB 29)) 23)) 0 [] Value.none Value.none Value.none Value.none none Value.none Value.none 0)) #[])
noncomputable def oh_382 (P : Params) : Obj := (Obj.mk (Value.type "code") none (Data.fields #[(Value.str (ss "readinto1") 974), (Value.str (ss "BytesIO.readinto1") 975), (Value.str (ss "/claim/cut.py") 976), (Value.int 317 0), (Value.int 2 0), (Value.int 2 0), (Value.int 0 0), (Value.int 3 0), (Value.ref 377), (Value.bool Bool.true), (Value.int 318 0), (Value.ref 378), Value.none, (Value.ref 379), (Value.ref 380), (Value.ref 381), (Value.int 979 0), (Value.int 317 0), (Value.str (ss "/claim/cut.py") 980)]) #[])
noncomputable def oh_383 (P : Params) : Obj := (Obj.mk (Value.type "function") none (Data.func (FuncData.mk (ss "readinto1") (ss "BytesIO.readinto1") (fdA (stI (clB (stI pB 29)) 23)) (FuncBody.stmts (fdB (stI (clB (stI pB 29)) 23))) (fdS (stI (clB (stI pB 29)) 23)) 3 [] Value.none Value.none Value.none (Value.str (ss "io") 676) none (Value.ref 382) Value.none 0)) #[])
noncomputable def oh_384 (P : Params) : Obj := (Obj.mk (Value.type "tuple") none (Data.seq #[(Value.int (-1) 983)] 0) #[])
noncomputable def oh_385 (P : Params) : Obj := (Obj.mk (Value.type "tuple") none (Data.seq #[] 0) #[])
noncomputable def oh_386 (P : Params) : Obj := (Obj.mk Value.none none (Data.fields #[]) #[])
noncomputable def oh_387 (P : Params) : Obj := (Obj.mk (Value.type "tuple") none (Data.seq #[(Value.str (ss "self") 987), (Value.str (ss "size") 988)] 0) #[])
noncomputable def oh_388 (P : Params) : Obj := (Obj.mk (Value.type "tuple") none (Data.seq #[] 0) #[])
noncomputable def oh_389 (P : Params) : Obj := (Obj.mk Value.none none (Data.func (FuncData.mk (ss "readline") (ss "BytesIO.readline") (fdA (stI (clB (stI pB 29)) 24)) (FuncBody.stmts (fdB (stI (clB (stI pB 29)) 24))) (fdS (stI (clB (stI pB 30)) 26)) 0 [] Value.none Value.none Value.none Value.none none Value.none Value.none 0)) #[])
noncomputable def oh_390 (P : Params) : Obj := (Obj.mk (Value.type "code") none (Data.fields #[(Value.str (ss "readline") 984), (Value.str (ss "BytesIO.readline") 985), (Value.str (ss "/claim/cut.py") 986), (Value.int 320 0), (Value.int 2 0), (Value.int 2 0), (Value.int 0 0), (Value.int 3 0), (Value.ref 385), (Value.bool Bool.true), (Value.int 318 0), (Value.ref 386), Value.none, (Value.ref 387), (Value.ref 388), (Value.ref 389), (Value.int 989 0), (Value.int 320 0), (Value.str (ss "/claim/cut.py") 990)]) #[])
noncomputable def oh_391 (P : Params) : Obj := (Obj.mk (Value.type "function") none (Data.func (FuncData.mk (ss "readline") (ss "BytesIO.readline") (fdA (stI (clB (stI pB 29)) 24)) (FuncBody.stmts (fdB (stI (clB (stI pB 29)) 24))) (fdS (stI (clB (stI pB 30)) 26)) 3 [] (Value.ref 384) Value.none Value.none (Value.str (ss "io") 676) none (Value.ref 390) Value.none 0)) #[])
noncomputable def oh_392 (P : Params) : Obj := (Obj.mk (Value.type "tuple") none (Data.seq #[Value.none] 0) #[])
noncomputable def oh_393 (P : Params) : Obj := (Obj.mk (Value.type "tuple") none (Data.seq #[] 0) #[])
noncomputable def oh_394 (P : Params) : Obj := (Obj.mk Value.none none (Data.fields #[]) #[])
noncomputable def oh_395 (P : Params) : Obj := (Obj.mk (Value.type "tuple") none (Data.seq #[(Value.str (ss "self") 995), (Value.str (ss "size") 996)] 0) #[])
noncomputable def oh_396 (P : Params) : Obj := (Obj.mk (Value.type "tuple") none (Data.seq #[] 0) #[])
noncomputable def oh_397 (P : Params) : Obj := (Obj.mk Value.none none (Data.func (FuncData.mk (ss "readlines") (ss "BytesIO.readlines") (fdA (stI (clB (stI pB 29)) 25)) (FuncBody.stmts (fdB (stI (clB (stI pB 29)) 25))) (fdS (stI (clB (stI pB 29)) 25)) 0 [] Value.none Value.none Value.none Value.none none Value.none Value.none 0)) #[])
noncomputable def oh_398 (P : Params) : Obj := (Obj.mk (Value.type "code") none (Data.fields #[(Value.str (ss "readlines") 992), (Value.str (ss "BytesIO.readlines") 993), (Value.str (ss "/claim/cut.py") 994), (Value.int 327 0), (Value.int 2 0), (Value.int 2 0), (Value.int 0 0), (Value.int 3 0), (Value.ref 393), (Value.bool Bool.true), (Value.int 318 0), (Value.ref 394), Value.none, (Value.ref 395), (Value.ref 396), (Value.ref 397), (Value.int 997 0), (Value.int 327 0), (Value.str (ss "/claim/cut.py") 998)]) #[])
noncomputable def oh_399 (P : Params) : Obj := (Obj.mk (Value.type "function") none (Data.func (FuncData.mk (ss "readlines") (ss "BytesIO.readlines") (fdA (stI (clB (stI pB 29)) 25)) (FuncBody.stmts (fdB (stI (clB (stI pB 29)) 25))) (fdS (stI (clB (stI pB 29)) 25)) 3 [] (Value.ref 392) Value.none Value.none (Value.str (ss "io") 676) none (Value.ref 398) Value.none 0)) #[])
noncomputable def oh_400 (P : Params) : Obj := (Obj.mk (Value.type "tuple") none (Data.seq #[] 0) #[])
noncomputable def oh_401 (P : Params) : Obj := (Obj.mk Value.none none (Data.fields #[]) #[])
noncomputable def oh_402 (P : Params) : Obj := (Obj.mk (Value.type "tuple") none (Data.seq #[(Value.str (ss "self") 1003)] 0) #[])
noncomputable def oh_403 (P : Params) : Obj := (Obj.mk (Value.type "tuple") none (Data.seq #[] 0) #[])
noncomputable def oh_404 (P : Params) : Obj := (Obj.mk Value.none none (Data.func (FuncData.mk (ss "__iter__") (ss "BytesIO.__iter__") (fdA (stI (clB (stI pB 29)) 26)) (FuncBody.stmts (fdB (stI (clB (stI pB 29)) 26))) (fdS (stI (clB (stI pB 32)) 9)) 0 [] Value.none Value.none Value.none Value.none none Value.none Value.none 0)) #[])
noncomputable def oh_405 (P : Params) : Obj := (Obj.mk (Value.type "code") none (Data.fields #[(Value.str (ss "__iter__") 1000), (Value.str (ss "BytesIO.__iter__") 1001), (Value.str (ss "/claim/cut.py") 1002), (Value.int 330 0), (Value.int 1 0), (Value.int 0 0), (Value.int 0 0), (Value.int 3 0), (Value.ref 400), (Value.bool Bool.true), (Value.int 318 0), (Value.ref 401), Value.none, (Value.ref 402), (Value.ref 403), (Value.ref 404), (Value.int 1004 0), (Value.int 330 0), (Value.str (ss "/claim/cut.py") 1005)]) #[])
noncomputable def oh_406 (P : Params) : Obj := (Obj.mk (Value.type "function") none (Data.func (FuncData.mk (ss "__iter__") (ss "BytesIO.__iter__") (fdA (stI (clB (stI pB 29)) 26)) (FuncBody.stmts (fdB (stI (clB (stI pB 29)) 26))) (fdS (stI (clB (stI pB 32)) 9)) 3 [] Value.none Value.none Value.none (Value.str (ss "io") 676) none (Value.ref 405) Value.none 0)) #[])
noncomputable def oh_407 (P : Params) : Obj := (Obj.mk (Value.type "tuple") none (Data.seq #[] 0) #[])
noncomputable def oh_408 (P : Params) : Obj := (Obj.mk Value.none none (Data.fields #[]) #[])
noncomputable def oh_409 (P : Params) : Obj := (Obj.mk (Value.type "tuple") none (Data.seq #[(Value.str (ss "self") 1010), (Value.str (ss "line") 1011)] 0) #[])
noncomputable def oh_410 (P : Params) : Obj := (Obj.mk (Value.type "tuple") none (Data.seq #[] 0) #[])
noncomputable def oh_411 (P : Params) : Obj := (Obj.mk Value.none none (Data.func (FuncData.mk (ss "__next__") (ss "BytesIO.__next__") (fdA (stI (clB (stI pB 29)) 27)) (FuncBody.stmts (fdB (stI (clB (stI pB 29)) 27))) (fdS (stI (clB (stI pB 30)) 29)) 0 [] Value.none Value.none Value.none Value.none none Value.none Value.none 0)) #[])
noncomputable def oh_412 (P : Params) : Obj := (Obj.mk (Value.type "code") none (Data.fields #[(Value.str (ss "__next__") 1007), (Value.str (ss "BytesIO.__next__") 1008), (Value.str (ss "/claim/cut.py") 1009), (Value.int 333 0), (Value.int 1 0), (Value.int 0 0), (Value.int 0 0), (Value.int 3 0), (Value.ref 407), (Value.bool Bool.true), (Value.int 318 0), (Value.ref 408), Value.none, (Value.ref 409), (Value.ref 410), (Value.ref 411), (Value.int 1012 0), (Value.int 333 0), (Value.str (ss "/claim/cut.py") 1013)]) #[])
noncomputable def oh_413 (P : Params) : Obj := (Obj.mk (Value.type "function") none (Data.func (FuncData.mk (ss "__next__") (ss "BytesIO.__next__") (fdA (stI (clB (stI pB 29)) 27)) (FuncBody.stmts (fdB (stI (clB (stI pB 29)) 27))) (fdS (stI (clB (stI pB 30)) 29)) 3 [] Value.none Value.none Value.none (Value.str (ss "io") 676) none (Value.ref 412) Value.none 0)) #[])
noncomputable def oh_414 (P : Params) : Obj := (Obj.mk (Value.type "tuple") none (Data.seq #[] 0) #[])
noncomputable def oh_415 (P : Params) : Obj := (Obj.mk Value.none none (Data.fields #[]) #[])
noncomputable def oh_416 (P : Params) : Obj := (Obj.mk (Value.type "tuple") none (Data.seq #[(Value.str (ss "self") 1018), (Value.str (ss "b") 1019), (Value.str (ss "n") 1020), (Value.str (ss "start") 1021)] 0) #[])
noncomputable def oh_417 (P : Params) : Obj := (Obj.mk (Value.type "tuple") none (Data.seq #[] 0) #[])
noncomputable def oh_418 (P : Params) : Obj := (Obj.mk Value.none none (Data.func (FuncData.mk (ss "write") (ss "BytesIO.write") (fdA (stI (clB (stI pB 29)) 28)) (FuncBody.stmts (fdB (stI (clB (stI pB 29)) 28))) (fdS (stI (clB (stI pB 29)) 28)) 0 [] Value.none Value.none Value.none Value.none none Value.none Value.none 0)) #[])
noncomputable def oh_419 (P : Params) : Obj := (Obj.mk (Value.type "code") none (Data.fields #[(Value.str (ss "write") 1015), (Value.str (ss "BytesIO.write") 1016), (Value.str (ss "/claim/cut.py") 1017), (Value.int 340 0), (Value.int 2 0), (Value.int 2 0), (Value.int 0 0), (Value.int 3 0), (Value.ref 414), (Value.bool Bool.true), (Value.int 318 0), (Value.ref 415), Value.none, (Value.ref 416), (Value.ref 417), (Value.ref 418), (Value.int 1022 0), (Value.int 340 0), (Value.str (ss "/claim/cut.py") 1023)]) #[])
noncomputable def oh_420 (P : Params) : Obj := (Obj.mk (Value.type "function") none (Data.func (FuncData.mk (ss "write") (ss "BytesIO.write") (fdA (stI (clB (stI pB 29)) 28)) (FuncBody.stmts (fdB (stI (clB (stI pB 29)) 28))) (fdS (stI (clB (stI pB 29)) 28)) 3 [] Value.none Value.none Value.none (Value.str (ss "io") 676) none (Value.ref 419) Value.none 0)) #[])
noncomputable def oh_421 (P : Params) : Obj := (Obj.mk (Value.type "tuple") none (Data.seq #[] 0) #[])
noncomputable def oh_422 (P : Params) : Obj := (Obj.mk Value.none none (Data.fields #[]) #[])
noncomputable def oh_423 (P : Params) : Obj := (Obj.mk (Value.type "tuple") none (Data.seq #[(Value.str (ss "self") 1028), (Value.str (ss "lines") 1029)] 0) #[])
noncomputable def oh_424 (P : Params) : Obj := (Obj.mk (Value.type "tuple") none (Data.seq #[] 0) #[])
noncomputable def oh_425 (P : Params) : Obj := (Obj.mk Value.none none (Data.func (FuncData.mk (ss "writelines") (ss "BytesIO.writelines") (fdA (stI (clB (stI pB 29)) 29)) (FuncBody.stmts (fdB (stI (clB (stI pB 29)) 29))) (fdS (stI (clB (stI pB 30)) 31)) 0 [] Value.none Value.none Value.none Value.none none Value.none Value.none 0)) #[])
noncomputable def oh_426 (P : Params) : Obj := (Obj.mk (Value.type "code") none (Data.fields #[(Value.str (ss "writelines") 1025), (Value.str (ss "BytesIO.writelines") 1026), (Value.str (ss "/claim/cut.py") 1027), (Value.int 356 0), (Value.int 2 0), (Value.int 2 0), (Value.int 0 0), (Value.int 3 0), (Value.ref 421), (Value.bool Bool.true), (Value.int 318 0), (Value.ref 422), Value.none, (Value.ref 423), (Value.ref 424), (Value.ref 425), (Value.int 1030 0), (Value.int 356 0), (Value.str (ss "/claim/cut.py") 1031)]) #[])
noncomputable def oh_427 (P : Params) : Obj := (Obj.mk (Value.type "function") none (Data.func (FuncData.mk (ss "writelines") (ss "BytesIO.writelines") (fdA (stI (clB (stI pB 29)) 29)) (FuncBody.stmts (fdB (stI (clB (stI pB 29)) 29))) (fdS (stI (clB (stI pB 30)) 31)) 3 [] Value.none Value.none Value.none (Value.str (ss "io") 676) none (Value.ref 426) Value.none 0)) #[])
noncomputable def oh_428 (P : Params) : Obj := (Obj.mk (Value.type "tuple") none (Data.seq #[] 0) #[])
noncomputable def oh_429 (P : Params) : Obj := (Obj.mk Value.none none (Data.fields #[]) #[])
noncomputable def oh_430 (P : Params) : Obj := (Obj.mk (Value.type "tuple") none (Data.seq #[(Value.str (ss "self") 1036)] 0) #[])
noncomputable def oh_431 (P : Params) : Obj := (Obj.mk (Value.type "tuple") none (Data.seq #[] 0) #[])
noncomputable def oh_432 (P : Params) : Obj := (Obj.mk Value.none none (Data.func (FuncData.mk (ss "__repr__") (ss "BytesIO.__repr__") (fdA (stI (clB (stI pB 29)) 30)) (FuncBody.stmts (fdB (stI (clB (stI pB 29)) 30))) (fdS (stI (clB (stI pB 30)) 32)) 0 [] Value.none Value.none Value.none Value.none none Value.none Value.none 0)) #[])
noncomputable def oh_433 (P : Params) : Obj := (Obj.mk (Value.type "code") none (Data.fields #[(Value.str (ss "__repr__") 1033), (Value.str (ss "BytesIO.__repr__") 1034), (Value.str (ss "/claim/cut.py") 1035), (Value.int 359 0), (Value.int 1 0), (Value.int 0 0), (Value.int 0 0), (Value.int 3 0), (Value.ref 428), (Value.bool Bool.true), (Value.int 318 0), (Value.ref 429), Value.none, (Value.ref 430), (Value.ref 431), (Value.ref 432), (Value.int 1037 0), (Value.int 359 0), (Value.str (ss "/claim/cut.py") 1038)]) #[])
noncomputable def oh_434 (P : Params) : Obj := (Obj.mk (Value.type "function") none (Data.func (FuncData.mk (ss "__repr__") (ss "BytesIO.__repr__") (fdA (stI (clB (stI pB 29)) 30)) (FuncBody.stmts (fdB (stI (clB (stI pB 29)) 30))) (fdS (stI (clB (stI pB 30)) 32)) 3 [] Value.none Value.none Value.none (Value.str (ss "io") 676) none (Value.ref 433) Value.none 0)) #[])
noncomputable def oh_435 (P : Params) : Obj := (Obj.mk (Value.type "tuple") none (Data.seq #[(Value.str (ss "__buf") 1040), (Value.str (ss "__pos") 1041)] 0) #[])
noncomputable def oh_436 (P : Params) : Obj := (Obj.mk (Value.type "dict") none (Data.dict #[(en P "__module__" 791 (Value.str (ss "_io") 796)), (en P "__firstlineno__" 795 (Value.int 191 794)), (en P "__init__" 805 (Value.ref 224)), (en P "_BytesIO__check" 812 (Value.ref 231)), (en P "_BytesIO__line" 823 (Value.ref 238)), (en P "closed" 831 (Value.ref 246)), (en P "close" 838 (Value.ref 253)), (en P "__enter__" 845 (Value.ref 260)), (en P "__exit__" 853 (Value.ref 267)), (en P "readable" 860 (Value.ref 274)), (en P "writable" 867 (Value.ref 281)), (en P "seekable" 874 (Value.ref 288)), (en P "isatty" 881 (Value.ref 295)), (en P "flush" 888 (Value.ref 302)), (en P "fileno" 895 (Value.ref 309)), (en P "detach" 902 (Value.ref 316)), (en P "getvalue" 909 (Value.ref 323)), (en P "getbuffer" 916 (Value.ref 330)), (en P "tell" 923 (Value.ref 337)), (en P "seek" 933 (Value.ref 345)), (en P "truncate" 941 (Value.ref 353)), (en P "read" 953 (Value.ref 361)), (en P "read1" 963 (Value.ref 369)), (en P "readinto" 973 (Value.ref 376)), (en P "readinto1" 981 (Value.ref 383)), (en P "readline" 991 (Value.ref 391)), (en P "readlines" 999 (Value.ref 399)), (en P "__iter__" 1006 (Value.ref 406)), (en P "__next__" 1014 (Value.ref 413)), (en P "write" 1024 (Value.ref 420)), (en P "writelines" 1032 (Value.ref 427)), (en P "__repr__" 1039 (Value.ref 434)), (en P "__static_attributes__" 1042 (Value.ref 435)), (en P "__doc__" 1043 Value.none)] 2) #[])
noncomputable def oh_437 (P : Params) : Obj := (Obj.mk (Value.type "type") none (Data.cls (ClassData.mk (ss "BytesIO") [(Value.ref 195)] [(Value.ref 437), (Value.ref 195), (Value.ref 180), (Value.type "object")] 436 (ss "BytesIO") Bool.true [] [] Bool.false none Bool.false)) #[(some (Value.ref 210)), none, (some (Value.str (ss "BytesIO") 784)), (some (Value.str (ss "BytesIO") 792)), (some Value.none), (some (Value.bool Bool.true))])
noncomputable def oh_438 (P : Params) : Obj := (Obj.mk (Value.type "super") none (Data.fields #[(Value.ref 437), (Value.ref 437), (Value.ref 437)]) #[])
noncomputable def oh_439 (P : Params) : Obj := (Obj.mk (Value.type "builtin_function_or_method") none (Data.fields #[(Value.builtin "object.__init_subclass__"), (Value.ref 437)]) #[])
noncomputable def th (P : Params) : BT := (nd (o0_0 P) (nd (o0_1 P) (nd (oh_3 P) (nd (o0_7 P) (nd (o0_15 P) (nd (o0_31 P) (nd (of_63 P) (nd (oh_127 P) (nd (oh_255 P) nl nl) (nd (oh_383 P) nl nl)) (nd (oh_191 P) (nd (oh_319 P) nl nl) nl)) (nd (of_95 P) (nd (oh_159 P) (nd (oh_287 P) nl nl) (nd (oh_415 P) nl nl)) (nd (oh_223 P) (nd (oh_351 P) nl nl) nl))) (nd (of_47 P) (nd (of_79 P) (nd (oh_143 P) (nd (oh_271 P) nl nl) (nd (oh_399 P) nl nl)) (nd (oh_207 P) (nd (oh_335 P) nl nl) nl)) (nd (of_111 P) (nd (oh_175 P) (nd (oh_303 P) nl nl) (nd (oh_431 P) nl nl)) (nd (oh_239 P) (nd (oh_367 P) nl nl) nl)))) (nd (o0_23 P) (nd (of_39 P) (nd (of_71 P) (nd (oh_135 P) (nd (oh_263 P) nl nl) (nd (oh_391 P) nl nl)) (nd (oh_199 P) (nd (oh_327 P) nl nl) nl)) (nd (of_103 P) (nd (oh_167 P) (nd (oh_295 P) nl nl) (nd (oh_423 P) nl nl)) (nd (oh_231 P) (nd (oh_359 P) nl nl) nl))) (nd (of_55 P) (nd (of_87 P) (nd (oh_151 P) (nd (oh_279 P) nl nl) (nd (oh_407 P) nl nl)) (nd (oh_215 P) (nd (oh_343 P) nl nl) nl)) (nd (oh_119 P) (nd (oh_183 P) (nd (oh_311 P) nl nl) (nd (oh_439 P) nl nl)) (nd (oh_247 P) (nd (oh_375 P) nl nl) nl))))) (nd (o0_11 P) (nd (o0_19 P) (nd (oh_35 P) (nd (of_67 P) (nd (oh_131 P) (nd (oh_259 P) nl nl) (nd (oh_387 P) nl nl)) (nd (oh_195 P) (nd (oh_323 P) nl nl) nl)) (nd (of_99 P) (nd (oh_163 P) (nd (oh_291 P) nl nl) (nd (oh_419 P) nl nl)) (nd (oh_227 P) (nd (oh_355 P) nl nl) nl))) (nd (of_51 P) (nd (of_83 P) (nd (oh_147 P) (nd (oh_275 P) nl nl) (nd (oh_403 P) nl nl)) (nd (oh_211 P) (nd (oh_339 P) nl nl) nl)) (nd (og_115 P) (nd (oh_179 P) (nd (oh_307 P) nl nl) (nd (oh_435 P) nl nl)) (nd (oh_243 P) (nd (oh_371 P) nl nl) nl)))) (nd (o0_27 P) (nd (of_43 P) (nd (of_75 P) (nd (oh_139 P) (nd (oh_267 P) nl nl) (nd (oh_395 P) nl nl)) (nd (oh_203 P) (nd (oh_331 P) nl nl) nl)) (nd (of_107 P) (nd (oh_171 P) (nd (oh_299 P) nl nl) (nd (oh_427 P) nl nl)) (nd (oh_235 P) (nd (oh_363 P) nl nl) nl))) (nd (of_59 P) (nd (of_91 P) (nd (oh_155 P) (nd (oh_283 P) nl nl) (nd (oh_411 P) nl nl)) (nd (oh_219 P) (nd (oh_347 P) nl nl) nl)) (nd (oh_123 P) (nd (oh_187 P) (nd (oh_315 P) nl nl) nl) (nd (oh_251 P) (nd (oh_379 P) nl nl) nl)))))) (nd (o0_5 P) (nd (o0_9 P) (nd (o0_17 P) (nd (o0_33 P) (nd (of_65 P) (nd (oh_129 P) (nd (oh_257 P) nl nl) (nd (oh_385 P) nl nl)) (nd (oh_193 P) (nd (oh_321 P) nl nl) nl)) (nd (of_97 P) (nd (oh_161 P) (nd (oh_289 P) nl nl) (nd (oh_417 P) nl nl)) (nd (oh_225 P) (nd (oh_353 P) nl nl) nl))) (nd (of_49 P) (nd (of_81 P) (nd (oh_145 P) (nd (oh_273 P) nl nl) (nd (oh_401 P) nl nl)) (nd (oh_209 P) (nd (oh_337 P) nl nl) nl)) (nd (og_113 P) (nd (oh_177 P) (nd (oh_305 P) nl nl) (nd (oh_433 P) nl nl)) (nd (oh_241 P) (nd (oh_369 P) nl nl) nl)))) (nd (o0_25 P) (nd (of_41 P) (nd (of_73 P) (nd (oh_137 P) (nd (oh_265 P) nl nl) (nd (oh_393 P) nl nl)) (nd (oh_201 P) (nd (oh_329 P) nl nl) nl)) (nd (of_105 P) (nd (oh_169 P) (nd (oh_297 P) nl nl) (nd (oh_425 P) nl nl)) (nd (oh_233 P) (nd (oh_361 P) nl nl) nl))) (nd (of_57 P) (nd (of_89 P) (nd (oh_153 P) (nd (oh_281 P) nl nl) (nd (oh_409 P) nl nl)) (nd (oh_217 P) (nd (oh_345 P) nl nl) nl)) (nd (oh_121 P) (nd (oh_185 P) (nd (oh_313 P) nl nl) nl) (nd (oh_249 P) (nd (oh_377 P) nl nl) nl))))) (nd (o0_13 P) (nd (o0_21 P) (nd (oa_37 P) (nd (of_69 P) (nd (oh_133 P) (nd (oh_261 P) nl nl) (nd (oh_389 P) nl nl)) (nd (oh_197 P) (nd (oh_325 P) nl nl) nl)) (nd (of_101 P) (nd (oh_165 P) (nd (oh_293 P) nl nl) (nd (oh_421 P) nl nl)) (nd (oh_229 P) (nd (oh_357 P) nl nl) nl))) (nd (of_53 P) (nd (of_85 P) (nd (oh_149 P) (nd (oh_277 P) nl nl) (nd (oh_405 P) nl nl)) (nd (oh_213 P) (nd (oh_341 P) nl nl) nl)) (nd (og_117 P) (nd (oh_181 P) (nd (oh_309 P) nl nl) (nd (oh_437 P) nl nl)) (nd (oh_245 P) (nd (oh_373 P) nl nl) nl)))) (nd (o0_29 P) (nd (of_45 P) (nd (of_77 P) (nd (oh_141 P) (nd (oh_269 P) nl nl) (nd (oh_397 P) nl nl)) (nd (oh_205 P) (nd (oh_333 P) nl nl) nl)) (nd (of_109 P) (nd (oh_173 P) (nd (oh_301 P) nl nl) (nd (oh_429 P) nl nl)) (nd (oh_237 P) (nd (oh_365 P) nl nl) nl))) (nd (of_61 P) (nd (of_93 P) (nd (oh_157 P) (nd (oh_285 P) nl nl) (nd (oh_413 P) nl nl)) (nd (oh_221 P) (nd (oh_349 P) nl nl) nl)) (nd (oh_125 P) (nd (oh_189 P) (nd (oh_317 P) nl nl) nl) (nd (oh_253 P) (nd (oh_381 P) nl nl) nl))))))) (nd (oh_2 P) (nd (o0_4 P) (nd (o0_8 P) (nd (o0_16 P) (nd (o0_32 P) (nd (of_64 P) (nd (oh_128 P) (nd (oh_256 P) nl nl) (nd (oh_384 P) nl nl)) (nd (oh_192 P) (nd (oh_320 P) nl nl) nl)) (nd (of_96 P) (nd (oh_160 P) (nd (oh_288 P) nl nl) (nd (oh_416 P) nl nl)) (nd (oh_224 P) (nd (oh_352 P) nl nl) nl))) (nd (of_48 P) (nd (of_80 P) (nd (oh_144 P) (nd (oh_272 P) nl nl) (nd (oh_400 P) nl nl)) (nd (oh_208 P) (nd (oh_336 P) nl nl) nl)) (nd (of_112 P) (nd (oh_176 P) (nd (oh_304 P) nl nl) (nd (oh_432 P) nl nl)) (nd (oh_240 P) (nd (oh_368 P) nl nl) nl)))) (nd (o0_24 P) (nd (of_40 P) (nd (of_72 P) (nd (oh_136 P) (nd (oh_264 P) nl nl) (nd (oh_392 P) nl nl)) (nd (oh_200 P) (nd (oh_328 P) nl nl) nl)) (nd (of_104 P) (nd (oh_168 P) (nd (oh_296 P) nl nl) (nd (oh_424 P) nl nl)) (nd (oh_232 P) (nd (oh_360 P) nl nl) nl))) (nd (of_56 P) (nd (of_88 P) (nd (oh_152 P) (nd (oh_280 P) nl nl) (nd (oh_408 P) nl nl)) (nd (oh_216 P) (nd (oh_344 P) nl nl) nl)) (nd (oh_120 P) (nd (oh_184 P) (nd (oh_312 P) nl nl) nl) (nd (oh_248 P) (nd (oh_376 P) nl nl) nl))))) (nd (o0_12 P) (nd (o0_20 P) (nd (oa_36 P) (nd (of_68 P) (nd (oh_132 P) (nd (oh_260 P) nl nl) (nd (oh_388 P) nl nl)) (nd (oh_196 P) (nd (oh_324 P) nl nl) nl)) (nd (of_100 P) (nd (oh_164 P) (nd (oh_292 P) nl nl) (nd (oh_420 P) nl nl)) (nd (oh_228 P) (nd (oh_356 P) nl nl) nl))) (nd (of_52 P) (nd (of_84 P) (nd (oh_148 P) (nd (oh_276 P) nl nl) (nd (oh_404 P) nl nl)) (nd (oh_212 P) (nd (oh_340 P) nl nl) nl)) (nd (og_116 P) (nd (oh_180 P) (nd (oh_308 P) nl nl) (nd (oh_436 P) nl nl)) (nd (oh_244 P) (nd (oh_372 P) nl nl) nl)))) (nd (o0_28 P) (nd (of_44 P) (nd (of_76 P) (nd (oh_140 P) (nd (oh_268 P) nl nl) (nd (oh_396 P) nl nl)) (nd (oh_204 P) (nd (oh_332 P) nl nl) nl)) (nd (of_108 P) (nd (oh_172 P) (nd (oh_300 P) nl nl) (nd (oh_428 P) nl nl)) (nd (oh_236 P) (nd (oh_364 P) nl nl) nl))) (nd (of_60 P) (nd (of_92 P) (nd (oh_156 P) (nd (oh_284 P) nl nl) (nd (oh_412 P) nl nl)) (nd (oh_220 P) (nd (oh_348 P) nl nl) nl)) (nd (oh_124 P) (nd (oh_188 P) (nd (oh_316 P) nl nl) nl) (nd (oh_252 P) (nd (oh_380 P) nl nl) nl)))))) (nd (o0_6 P) (nd (o0_10 P) (nd (o0_18 P) (nd (oa_34 P) (nd (of_66 P) (nd (oh_130 P) (nd (oh_258 P) nl nl) (nd (oh_386 P) nl nl)) (nd (oh_194 P) (nd (oh_322 P) nl nl) nl)) (nd (of_98 P) (nd (oh_162 P) (nd (oh_290 P) nl nl) (nd (oh_418 P) nl nl)) (nd (oh_226 P) (nd (oh_354 P) nl nl) nl))) (nd (of_50 P) (nd (of_82 P) (nd (oh_146 P) (nd (oh_274 P) nl nl) (nd (oh_402 P) nl nl)) (nd (oh_210 P) (nd (oh_338 P) nl nl) nl)) (nd (og_114 P) (nd (oh_178 P) (nd (oh_306 P) nl nl) (nd (oh_434 P) nl nl)) (nd (oh_242 P) (nd (oh_370 P) nl nl) nl)))) (nd (o0_26 P) (nd (of_42 P) (nd (of_74 P) (nd (oh_138 P) (nd (oh_266 P) nl nl) (nd (oh_394 P) nl nl)) (nd (oh_202 P) (nd (oh_330 P) nl nl) nl)) (nd (of_106 P) (nd (oh_170 P) (nd (oh_298 P) nl nl) (nd (oh_426 P) nl nl)) (nd (oh_234 P) (nd (oh_362 P) nl nl) nl))) (nd (of_58 P) (nd (of_90 P) (nd (oh_154 P) (nd (oh_282 P) nl nl) (nd (oh_410 P) nl nl)) (nd (oh_218 P) (nd (oh_346 P) nl nl) nl)) (nd (oh_122 P) (nd (oh_186 P) (nd (oh_314 P) nl nl) nl) (nd (oh_250 P) (nd (oh_378 P) nl nl) nl))))) (nd (o0_14 P) (nd (o0_22 P) (nd (of_38 P) (nd (of_70 P) (nd (oh_134 P) (nd (oh_262 P) nl nl) (nd (oh_390 P) nl nl)) (nd (oh_198 P) (nd (oh_326 P) nl nl) nl)) (nd (of_102 P) (nd (oh_166 P) (nd (oh_294 P) nl nl) (nd (oh_422 P) nl nl)) (nd (oh_230 P) (nd (oh_358 P) nl nl) nl))) (nd (of_54 P) (nd (of_86 P) (nd (oh_150 P) (nd (oh_278 P) nl nl) (nd (oh_406 P) nl nl)) (nd (oh_214 P) (nd (oh_342 P) nl nl) nl)) (nd (oh_118 P) (nd (oh_182 P) (nd (oh_310 P) nl nl) (nd (oh_438 P) nl nl)) (nd (oh_246 P) (nd (oh_374 P) nl nl) nl)))) (nd (o0_30 P) (nd (of_46 P) (nd (of_78 P) (nd (oh_142 P) (nd (oh_270 P) nl nl) (nd (oh_398 P) nl nl)) (nd (oh_206 P) (nd (oh_334 P) nl nl) nl)) (nd (of_110 P) (nd (oh_174 P) (nd (oh_302 P) nl nl) (nd (oh_430 P) nl nl)) (nd (oh_238 P) (nd (oh_366 P) nl nl) nl))) (nd (of_62 P) (nd (of_94 P) (nd (oh_158 P) (nd (oh_286 P) nl nl) (nd (oh_414 P) nl nl)) (nd (oh_222 P) (nd (oh_350 P) nl nl) nl)) (nd (oh_126 P) (nd (oh_190 P) (nd (oh_318 P) nl nl) nl) (nd (oh_254 P) (nd (oh_382 P) nl nl) nl))))))))
noncomputable def oz_3 (P : Params) : Obj := (Obj.mk (Value.type "dict") none (Data.dict #[(en P "__name__" 165 (Value.str (ss "law_ku0029_01") 1501)), (en P "__doc__" 166 Value.none), (en P "__package__" 167 Value.none), (en P "__loader__" 168 (Value.builtin "__main__.__loader__#\x6fpaque")), (en P "__spec__" 169 Value.none), (en P "__annotations__" 170 (Value.ref 6)), (en P "__builtins__" 171 (Value.ref 4)), (en P "__file__" 173 (Value.str (ss "/claim/cut.py") 172)), (en P "__cached__" 174 Value.none), (en P "_sre" 275 (Value.ref 12)), (en P "deque" 317 (Value.type "collections.deque")), (en P "_wall" 330 (Value.ref 44)), (en P "_kind" 341 (Value.ref 51)), (en P "_fspath" 350 (Value.ref 58)), (en P "_check_arg_types" 360 (Value.ref 65)), (en P "isabs" 367 (Value.ref 72)), (en P "join" 378 (Value.ref 796)), (en P "join_path" 379 (Value.ref 79)), (en P "splitext" 391 (Value.ref 86)), (en P "basename" 399 (Value.ref 93)), (en P "dirname" 409 (Value.ref 100)), (en P "_modname" 421 (Value.ref 107)), (en P "twin_re_1_fnmatch" 459 (Value.ref 112)), (en P "_special_chars_map" 607 (Value.ref 114)), (en P "escape" 614 (Value.ref 124)), (en P "_translate" 635 (Value.ref 131)), (en P "twin_re_1_shlex" 675 (Value.ref 136)), (en P "_whence" 685 (Value.ref 143)), (en P "_index" 693 (Value.ref 150)), (en P "UnsupportedOperation" 715 (Value.ref 160)), (en P "IOBase" 747 (Value.ref 180)), (en P "BufferedIOBase" 765 (Value.ref 195)), (en P "TextIOBase" 783 (Value.ref 207)), (en P "BytesIO" 1045 (Value.ref 437)), (en P "StringIO" 1332 (Value.ref 684)), (en P "shlex" 1473 (Value.ref 777)), (en P "split" 1483 (Value.ref 789)), (en P "join_shlex" 1491 (Value.ref 796)), (en P "_find_\x75nsafe" 1493 (Value.ref 797)), (en P "quote" 1500 (Value.ref 804)), (en P "_law_figure" 1508 (Value.ref 809)), (en P "_law_read" 1514 (Value.ref 814)), (en P "law" 1520 (Value.ref 819))] 43) #[])
noncomputable def oz_35 (P : Params) : Obj := (Obj.mk Value.none none (Data.fields #[(Value.int 3 0), (Value.int 0 0), (Value.ref 43), (Value.int 7 0), (Value.int 0 0), (Value.ref 50), (Value.int 28 0), (Value.int 0 0), (Value.ref 57), (Value.int 33 0), (Value.int 0 0), (Value.ref 64), (Value.int 38 0), (Value.int 0 0), (Value.ref 71), (Value.int 41 0), (Value.int 0 0), (Value.ref 78), (Value.int 62 0), (Value.int 0 0), (Value.ref 85), (Value.int 75 0), (Value.int 0 0), (Value.ref 92), (Value.int 79 0), (Value.int 0 0), (Value.ref 99), (Value.int 88 0), (Value.int 0 0), (Value.ref 106), (Value.int 95 0), (Value.int 0 0), (Value.ref 123), (Value.int 102 0), (Value.int 0 0), (Value.ref 130), (Value.int 166 0), (Value.int 0 0), (Value.ref 142), (Value.int 171 0), (Value.int 0 0), (Value.ref 149), (Value.int 178 0), (Value.int 0 0), (Value.ref 156), (Value.int 180 0), (Value.int 0 0), (Value.ref 169), (Value.int 187 0), (Value.int 0 0), (Value.ref 191), (Value.int 189 0), (Value.int 0 0), (Value.ref 203), (Value.int 191 0), (Value.int 0 0), (Value.ref 215), (Value.int 361 0), (Value.int 0 0), (Value.ref 445), (Value.int 567 0), (Value.int 0 0), (Value.ref 692), (Value.int 821 0), (Value.int 0 0), (Value.ref 788), (Value.int 829 0), (Value.int 0 0), (Value.ref 795), (Value.int 833 0), (Value.int 0 0), (Value.ref 803), (Value.int 840 0), (Value.int 0 0), (Value.ref 808), (Value.int 847 0), (Value.int 0 0), (Value.ref 813), (Value.int 856 0), (Value.int 0 0), (Value.ref 818)]) #[])
noncomputable def oz_207 (P : Params) : Obj := (Obj.mk (Value.type "type") none (Data.cls (ClassData.mk (ss "TextIOBase") [(Value.ref 180)] [(Value.ref 207), (Value.ref 180), (Value.type "object")] 206 (ss "TextIOBase") Bool.true [] [(Value.ref 684)] Bool.false none Bool.false)) #[(some (Value.ref 198)), none, (some (Value.str (ss "TextIOBase") 766)), (some (Value.str (ss "TextIOBase") 774)), (some Value.none), (some (Value.bool Bool.true))])
noncomputable def oz_440 (P : Params) : Obj := (Obj.mk (Value.type "tuple") none (Data.seq #[(Value.ref 207)] 0) #[])
noncomputable def oz_441 (P : Params) : Obj := (Obj.mk (Value.type "builtin_function_or_method") none (Data.fields #[(Value.builtin "type.__prepare__"), (Value.type "type")]) #[])
noncomputable def oz_442 (P : Params) : Obj := (Obj.mk (Value.type "dict") none (Data.dict #[(en P "__module__" 1053 (Value.str (ss "_io") 1058)), (en P "__qualname__" 1055 (Value.str (ss "StringIO") 1054)), (en P "__firstlineno__" 1057 (Value.int 361 1056)), (en P "__init__" 1070 (Value.ref 454)), (en P "_StringIO__translated" 1079 (Value.ref 461)), (en P "_StringIO__check" 1086 (Value.ref 468)), (en P "_StringIO__check_dot" 1093 (Value.ref 475)), (en P "_StringIO__line" 1108 (Value.ref 482)), (en P "closed" 1116 (Value.ref 490)), (en P "line_buffering" 1124 (Value.ref 498)), (en P "newlines" 1132 (Value.ref 506)), (en P "encoding" 1140 (Value.ref 514)), (en P "errors" 1148 (Value.ref 522)), (en P "close" 1155 (Value.ref 529)), (en P "__enter__" 1162 (Value.ref 536)), (en P "__exit__" 1170 (Value.ref 543)), (en P "readable" 1177 (Value.ref 550)), (en P "writable" 1184 (Value.ref 557)), (en P "seekable" 1191 (Value.ref 564)), (en P "isatty" 1198 (Value.ref 571)), (en P "flush" 1205 (Value.ref 578)), (en P "fileno" 1212 (Value.ref 585)), (en P "detach" 1219 (Value.ref 592)), (en P "getvalue" 1226 (Value.ref 599)), (en P "tell" 1233 (Value.ref 606)), (en P "seek" 1243 (Value.ref 614)), (en P "truncate" 1251 (Value.ref 622)), (en P "read" 1263 (Value.ref 630)), (en P "readline" 1273 (Value.ref 638)), (en P "readlines" 1283 (Value.ref 646)), (en P "__iter__" 1290 (Value.ref 653)), (en P "__next__" 1298 (Value.ref 660)), (en P "write" 1310 (Value.ref 667)), (en P "writelines" 1318 (Value.ref 674)), (en P "__repr__" 1325 (Value.ref 681)), (en P "__static_attributes__" 1329 (Value.ref 682))] 36) #[])
noncomputable def oz_443 (P : Params) : Obj := (Obj.mk (Value.type "tuple") none (Data.seq #[] 0) #[])
noncomputable def oz_444 (P : Params) : Obj := (Obj.mk Value.none none (Data.fields #[(Value.int 364 0), (Value.int 4 0), (Value.ref 453), (Value.int 377 0), (Value.int 4 0), (Value.ref 460), (Value.int 385 0), (Value.int 4 0), (Value.ref 467), (Value.int 389 0), (Value.int 4 0), (Value.ref 474), (Value.int 393 0), (Value.int 4 0), (Value.ref 481), (Value.int 426 0), (Value.int 4 0), (Value.ref 488), (Value.int 430 0), (Value.int 4 0), (Value.ref 496), (Value.int 434 0), (Value.int 4 0), (Value.ref 504), (Value.int 438 0), (Value.int 4 0), (Value.ref 512), (Value.int 442 0), (Value.int 4 0), (Value.ref 520), (Value.int 445 0), (Value.int 4 0), (Value.ref 528), (Value.int 448 0), (Value.int 4 0), (Value.ref 535), (Value.int 452 0), (Value.int 4 0), (Value.ref 542), (Value.int 455 0), (Value.int 4 0), (Value.ref 549), (Value.int 459 0), (Value.int 4 0), (Value.ref 556), (Value.int 463 0), (Value.int 4 0), (Value.ref 563), (Value.int 467 0), (Value.int 4 0), (Value.ref 570), (Value.int 471 0), (Value.int 4 0), (Value.ref 577), (Value.int 474 0), (Value.int 4 0), (Value.ref 584), (Value.int 477 0), (Value.int 4 0), (Value.ref 591), (Value.int 480 0), (Value.int 4 0), (Value.ref 598), (Value.int 483 0), (Value.int 4 0), (Value.ref 605), (Value.int 487 0), (Value.int 4 0), (Value.ref 613), (Value.int 504 0), (Value.int 4 0), (Value.ref 621), (Value.int 507 0), (Value.int 4 0), (Value.ref 629), (Value.int 521 0), (Value.int 4 0), (Value.ref 637), (Value.int 528 0), (Value.int 4 0), (Value.ref 645), (Value.int 531 0), (Value.int 4 0), (Value.ref 652), (Value.int 535 0), (Value.int 4 0), (Value.ref 659), (Value.int 542 0), (Value.int 4 0), (Value.ref 666), (Value.int 561 0), (Value.int 4 0), (Value.ref 673), (Value.int 564 0), (Value.int 4 0), (Value.ref 680)]) #[])
noncomputable def oz_445 (P : Params) : Obj := (Obj.mk (Value.type "code") none (Data.fields #[(Value.str (ss "StringIO") 1048), (Value.str (ss "StringIO") 1049), (Value.str (ss "/claim/cut.py") 1050), (Value.int 361 0), (Value.int 0 0), (Value.int 0 0), (Value.int 0 0), (Value.int 0 0), (Value.ref 443), (Value.bool Bool.false), (Value.int 318 0), (Value.ref 444), Value.none, Value.none, Value.none, Value.none, (Value.int 1051 0), (Value.int 361 0), (Value.str (ss "/claim/cut.py") 1052)]) #[])
noncomputable def oz_446 (P : Params) : Obj := (Obj.mk (Value.type "frame") none Data.plain #[(some (Value.ref 445)), (some (Value.ref 3)), (some (Value.ref 442)), none, (some (Value.str (ss "io") 676)), none, (some (Value.ref 0))])
noncomputable def oz_447 (P : Params) : Obj := (Obj.mk (Value.type "tuple") none (Data.seq #[(Value.str (ss "") 1060), (Value.str (ss "\n") 1061)] 0) #[])
noncomputable def oz_448 (P : Params) : Obj := (Obj.mk (Value.type "tuple") none (Data.seq #[] 0) #[])
noncomputable def oz_449 (P : Params) : Obj := (Obj.mk Value.none none (Data.fields #[]) #[])
noncomputable def oz_450 (P : Params) : Obj := (Obj.mk (Value.type "tuple") none (Data.seq #[(Value.str (ss "self") 1065), (Value.str (ss "initial_value") 1066), (Value.str (ss "newline") 1067)] 0) #[])
noncomputable def oz_451 (P : Params) : Obj := (Obj.mk (Value.type "tuple") none (Data.seq #[] 0) #[])
noncomputable def oz_452 (P : Params) : Obj := (Obj.mk Value.none none (Data.func (FuncData.mk (ss "__init__") (ss "StringIO.__init__") (fdA (stI (clB (stI pB 30)) 1)) (FuncBody.stmts (fdB (stI (clB (stI pB 30)) 1))) (fdS (stI (clB (stI pB 30)) 1)) 0 [] Value.none Value.none Value.none Value.none none Value.none Value.none 0)) #[])
noncomputable def oz_453 (P : Params) : Obj := (Obj.mk (Value.type "code") none (Data.fields #[(Value.str (ss "__init__") 1062), (Value.str (ss "StringIO.__init__") 1063), (Value.str (ss "/claim/cut.py") 1064), (Value.int 364 0), (Value.int 3 0), (Value.int 0 0), (Value.int 0 0), (Value.int 3 0), (Value.ref 448), (Value.bool Bool.true), (Value.int 318 0), (Value.ref 449), Value.none, (Value.ref 450), (Value.ref 451), (Value.ref 452), (Value.int 1068 0), (Value.int 364 0), (Value.str (ss "/claim/cut.py") 1069)]) #[])
noncomputable def oz_454 (P : Params) : Obj := (Obj.mk (Value.type "function") none (Data.func (FuncData.mk (ss "__init__") (ss "StringIO.__init__") (fdA (stI (clB (stI pB 30)) 1)) (FuncBody.stmts (fdB (stI (clB (stI pB 30)) 1))) (fdS (stI (clB (stI pB 30)) 1)) 3 [] (Value.ref 447) Value.none Value.none (Value.str (ss "io") 676) none (Value.ref 453) Value.none 0)) #[])
noncomputable def oz_455 (P : Params) : Obj := (Obj.mk (Value.type "tuple") none (Data.seq #[] 0) #[])
noncomputable def oz_456 (P : Params) : Obj := (Obj.mk Value.none none (Data.fields #[]) #[])
noncomputable def oz_457 (P : Params) : Obj := (Obj.mk (Value.type "tuple") none (Data.seq #[(Value.str (ss "self") 1074), (Value.str (ss "s") 1075), (Value.str (ss "newline") 1076)] 0) #[])
noncomputable def oz_458 (P : Params) : Obj := (Obj.mk (Value.type "tuple") none (Data.seq #[] 0) #[])
noncomputable def oz_459 (P : Params) : Obj := (Obj.mk Value.none none (Data.func (FuncData.mk (ss "__translated") (ss "StringIO.__translated") (fdA (stI (clB (stI pB 30)) 2)) (FuncBody.stmts (fdB (stI (clB (stI pB 30)) 2))) (fdS (stI (clB (stI pB 30)) 2)) 0 [] Value.none Value.none Value.none Value.none none Value.none Value.none 0)) #[])
noncomputable def oz_460 (P : Params) : Obj := (Obj.mk (Value.type "code") none (Data.fields #[(Value.str (ss "__translated") 1071), (Value.str (ss "StringIO.__translated") 1072), (Value.str (ss "/claim/cut.py") 1073), (Value.int 377 0), (Value.int 2 0), (Value.int 0 0), (Value.int 0 0), (Value.int 3 0), (Value.ref 455), (Value.bool Bool.true), (Value.int 318 0), (Value.ref 456), Value.none, (Value.ref 457), (Value.ref 458), (Value.ref 459), (Value.int 1077 0), (Value.int 377 0), (Value.str (ss "/claim/cut.py") 1078)]) #[])
noncomputable def oz_461 (P : Params) : Obj := (Obj.mk (Value.type "function") none (Data.func (FuncData.mk (ss "__translated") (ss "StringIO.__translated") (fdA (stI (clB (stI pB 30)) 2)) (FuncBody.stmts (fdB (stI (clB (stI pB 30)) 2))) (fdS (stI (clB (stI pB 30)) 2)) 3 [] Value.none Value.none Value.none (Value.str (ss "io") 676) none (Value.ref 460) Value.none 0)) #[])
noncomputable def oz_462 (P : Params) : Obj := (Obj.mk (Value.type "tuple") none (Data.seq #[] 0) #[])
noncomputable def oz_463 (P : Params) : Obj := (Obj.mk Value.none none (Data.fields #[]) #[])
noncomputable def oz_464 (P : Params) : Obj := (Obj.mk (Value.type "tuple") none (Data.seq #[(Value.str (ss "self") 1083)] 0) #[])
noncomputable def oz_465 (P : Params) : Obj := (Obj.mk (Value.type "tuple") none (Data.seq #[] 0) #[])
noncomputable def oz_466 (P : Params) : Obj := (Obj.mk Value.none none (Data.func (FuncData.mk (ss "__check") (ss "StringIO.__check") (fdA (stI (clB (stI pB 30)) 3)) (FuncBody.stmts (fdB (stI (clB (stI pB 30)) 3))) (fdS (stI (clB (stI pB 30)) 4)) 0 [] Value.none Value.none Value.none Value.none none Value.none Value.none 0)) #[])
noncomputable def oz_467 (P : Params) : Obj := (Obj.mk (Value.type "code") none (Data.fields #[(Value.str (ss "__check") 1080), (Value.str (ss "StringIO.__check") 1081), (Value.str (ss "/claim/cut.py") 1082), (Value.int 385 0), (Value.int 1 0), (Value.int 0 0), (Value.int 0 0), (Value.int 3 0), (Value.ref 462), (Value.bool Bool.true), (Value.int 318 0), (Value.ref 463), Value.none, (Value.ref 464), (Value.ref 465), (Value.ref 466), (Value.int 1084 0), (Value.int 385 0), (Value.str (ss "/claim/cut.py") 1085)]) #[])
noncomputable def oz_468 (P : Params) : Obj := (Obj.mk (Value.type "function") none (Data.func (FuncData.mk (ss "__check") (ss "StringIO.__check") (fdA (stI (clB (stI pB 30)) 3)) (FuncBody.stmts (fdB (stI (clB (stI pB 30)) 3))) (fdS (stI (clB (stI pB 30)) 4)) 3 [] Value.none Value.none Value.none (Value.str (ss "io") 676) none (Value.ref 467) Value.none 0)) #[])
noncomputable def oz_469 (P : Params) : Obj := (Obj.mk (Value.type "tuple") none (Data.seq #[] 0) #[])
noncomputable def oz_470 (P : Params) : Obj := (Obj.mk Value.none none (Data.fields #[]) #[])
noncomputable def oz_471 (P : Params) : Obj := (Obj.mk (Value.type "tuple") none (Data.seq #[(Value.str (ss "self") 1090)] 0) #[])
noncomputable def oz_472 (P : Params) : Obj := (Obj.mk (Value.type "tuple") none (Data.seq #[] 0) #[])
noncomputable def oz_473 (P : Params) : Obj := (Obj.mk Value.none none (Data.func (FuncData.mk (ss "__check_dot") (ss "StringIO.__check_dot") (fdA (stI (clB (stI pB 30)) 4)) (FuncBody.stmts (fdB (stI (clB (stI pB 30)) 4))) (fdS (stI (clB (stI pB 30)) 4)) 0 [] Value.none Value.none Value.none Value.none none Value.none Value.none 0)) #[])
noncomputable def oz_474 (P : Params) : Obj := (Obj.mk (Value.type "code") none (Data.fields #[(Value.str (ss "__check_dot") 1087), (Value.str (ss "StringIO.__check_dot") 1088), (Value.str (ss "/claim/cut.py") 1089), (Value.int 389 0), (Value.int 1 0), (Value.int 0 0), (Value.int 0 0), (Value.int 3 0), (Value.ref 469), (Value.bool Bool.true), (Value.int 318 0), (Value.ref 470), Value.none, (Value.ref 471), (Value.ref 472), (Value.ref 473), (Value.int 1091 0), (Value.int 389 0), (Value.str (ss "/claim/cut.py") 1092)]) #[])
noncomputable def oz_475 (P : Params) : Obj := (Obj.mk (Value.type "function") none (Data.func (FuncData.mk (ss "__check_dot") (ss "StringIO.__check_dot") (fdA (stI (clB (stI pB 30)) 4)) (FuncBody.stmts (fdB (stI (clB (stI pB 30)) 4))) (fdS (stI (clB (stI pB 30)) 4)) 3 [] Value.none Value.none Value.none (Value.str (ss "io") 676) none (Value.ref 474) Value.none 0)) #[])
noncomputable def oz_476 (P : Params) : Obj := (Obj.mk (Value.type "tuple") none (Data.seq #[] 0) #[])
noncomputable def oz_477 (P : Params) : Obj := (Obj.mk Value.none none (Data.fields #[]) #[])
noncomputable def oz_478 (P : Params) : Obj := (Obj.mk (Value.type "tuple") none (Data.seq #[(Value.str (ss "self") 1097), (Value.str (ss "limit") 1098), (Value.str (ss "start") 1099), (Value.str (ss "stop") 1100), (Value.str (ss "cut") 1101), (Value.str (ss "newline") 1102), (Value.str (ss "i") 1103), (Value.str (ss "j") 1104), (Value.str (ss "end") 1105)] 0) #[])
noncomputable def oz_479 (P : Params) : Obj := (Obj.mk (Value.type "tuple") none (Data.seq #[] 0) #[])
noncomputable def oz_480 (P : Params) : Obj := (Obj.mk Value.none none (Data.func (FuncData.mk (ss "__line") (ss "StringIO.__line") (fdA (stI (clB (stI pB 30)) 5)) (FuncBody.stmts (fdB (stI (clB (stI pB 30)) 5))) (fdS (stI (clB (stI pB 30)) 5)) 0 [] Value.none Value.none Value.none Value.none none Value.none Value.none 0)) #[])
noncomputable def oz_481 (P : Params) : Obj := (Obj.mk (Value.type "code") none (Data.fields #[(Value.str (ss "__line") 1094), (Value.str (ss "StringIO.__line") 1095), (Value.str (ss "/claim/cut.py") 1096), (Value.int 393 0), (Value.int 2 0), (Value.int 0 0), (Value.int 0 0), (Value.int 3 0), (Value.ref 476), (Value.bool Bool.true), (Value.int 318 0), (Value.ref 477), Value.none, (Value.ref 478), (Value.ref 479), (Value.ref 480), (Value.int 1106 0), (Value.int 393 0), (Value.str (ss "/claim/cut.py") 1107)]) #[])
noncomputable def oz_482 (P : Params) : Obj := (Obj.mk (Value.type "function") none (Data.func (FuncData.mk (ss "__line") (ss "StringIO.__line") (fdA (stI (clB (stI pB 30)) 5)) (FuncBody.stmts (fdB (stI (clB (stI pB 30)) 5))) (fdS (stI (clB (stI pB 30)) 5)) 3 [] Value.none Value.none Value.none (Value.str (ss "io") 676) none (Value.ref 481) Value.none 0)) #[])
noncomputable def oz_483 (P : Params) : Obj := (Obj.mk (Value.type "tuple") none (Data.seq #[] 0) #[])
noncomputable def oz_484 (P : Params) : Obj := (Obj.mk Value.none none (Data.fields #[]) #[])
noncomputable def oz_485 (P : Params) : Obj := (Obj.mk (Value.type "tuple") none (Data.seq #[(Value.str (ss "self") 1112)] 0) #[])
noncomputable def oz_486 (P : Params) : Obj := (Obj.mk (Value.type "tuple") none (Data.seq #[] 0) #[])
noncomputable def oz_487 (P : Params) : Obj := (Obj.mk Value.none none (Data.func (FuncData.mk (ss "closed") (ss "StringIO.closed") (fdA (stI (clB (stI pB 30)) 6)) (FuncBody.stmts (fdB (stI (clB (stI pB 30)) 6))) (fdS (stI (clB (stI pB 32)) 9)) 0 [] Value.none Value.none Value.none Value.none none Value.none Value.none 0)) #[])
noncomputable def oz_488 (P : Params) : Obj := (Obj.mk (Value.type "code") none (Data.fields #[(Value.str (ss "closed") 1109), (Value.str (ss "StringIO.closed") 1110), (Value.str (ss "/claim/cut.py") 1111), (Value.int 425 0), (Value.int 1 0), (Value.int 0 0), (Value.int 0 0), (Value.int 3 0), (Value.ref 483), (Value.bool Bool.true), (Value.int 318 0), (Value.ref 484), Value.none, (Value.ref 485), (Value.ref 486), (Value.ref 487), (Value.int 1113 0), (Value.int 425 0), (Value.str (ss "/claim/cut.py") 1114)]) #[])
noncomputable def oz_489 (P : Params) : Obj := (Obj.mk (Value.type "function") none (Data.func (FuncData.mk (ss "closed") (ss "StringIO.closed") (fdA (stI (clB (stI pB 30)) 6)) (FuncBody.stmts (fdB (stI (clB (stI pB 30)) 6))) (fdS (stI (clB (stI pB 32)) 9)) 3 [] Value.none Value.none Value.none (Value.str (ss "io") 676) none (Value.ref 488) Value.none 0)) #[])
noncomputable def oz_490 (P : Params) : Obj := (Obj.mk (Value.type "property") none (Data.fields #[(Value.ref 489), Value.none, Value.none, Value.none, (Value.str (ss "closed") 1116), (Value.bool Bool.false)]) #[])
noncomputable def oz_491 (P : Params) : Obj := (Obj.mk (Value.type "tuple") none (Data.seq #[] 0) #[])
noncomputable def oz_492 (P : Params) : Obj := (Obj.mk Value.none none (Data.fields #[]) #[])
noncomputable def oz_493 (P : Params) : Obj := (Obj.mk (Value.type "tuple") none (Data.seq #[(Value.str (ss "self") 1120)] 0) #[])
noncomputable def oz_494 (P : Params) : Obj := (Obj.mk (Value.type "tuple") none (Data.seq #[] 0) #[])
noncomputable def oz_495 (P : Params) : Obj := (Obj.mk Value.none none (Data.func (FuncData.mk (ss "line_buffering") (ss "StringIO.line_buffering") (fdA (stI (clB (stI pB 30)) 7)) (FuncBody.stmts (fdB (stI (clB (stI pB 30)) 7))) (fdS (stI (clB (stI pB 30)) 32)) 0 [] Value.none Value.none Value.none Value.none none Value.none Value.none 0)) #[])
noncomputable def oz_496 (P : Params) : Obj := (Obj.mk (Value.type "code") none (Data.fields #[(Value.str (ss "line_buffering") 1117), (Value.str (ss "StringIO.line_buffering") 1118), (Value.str (ss "/claim/cut.py") 1119), (Value.int 429 0), (Value.int 1 0), (Value.int 0 0), (Value.int 0 0), (Value.int 3 0), (Value.ref 491), (Value.bool Bool.true), (Value.int 318 0), (Value.ref 492), Value.none, (Value.ref 493), (Value.ref 494), (Value.ref 495), (Value.int 1121 0), (Value.int 429 0), (Value.str (ss "/claim/cut.py") 1122)]) #[])
noncomputable def oz_497 (P : Params) : Obj := (Obj.mk (Value.type "function") none (Data.func (FuncData.mk (ss "line_buffering") (ss "StringIO.line_buffering") (fdA (stI (clB (stI pB 30)) 7)) (FuncBody.stmts (fdB (stI (clB (stI pB 30)) 7))) (fdS (stI (clB (stI pB 30)) 32)) 3 [] Value.none Value.none Value.none (Value.str (ss "io") 676) none (Value.ref 496) Value.none 0)) #[])
noncomputable def oz_498 (P : Params) : Obj := (Obj.mk (Value.type "property") none (Data.fields #[(Value.ref 497), Value.none, Value.none, Value.none, (Value.str (ss "line_buffering") 1124), (Value.bool Bool.false)]) #[])
noncomputable def oz_499 (P : Params) : Obj := (Obj.mk (Value.type "tuple") none (Data.seq #[] 0) #[])
noncomputable def oz_500 (P : Params) : Obj := (Obj.mk Value.none none (Data.fields #[]) #[])
noncomputable def oz_501 (P : Params) : Obj := (Obj.mk (Value.type "tuple") none (Data.seq #[(Value.str (ss "self") 1128)] 0) #[])
noncomputable def oz_502 (P : Params) : Obj := (Obj.mk (Value.type "tuple") none (Data.seq #[] 0) #[])
noncomputable def oz_503 (P : Params) : Obj := (Obj.mk Value.none none (Data.func (FuncData.mk (ss "newlines") (ss "StringIO.newlines") (fdA (stI (clB (stI pB 30)) 8)) (FuncBody.stmts (fdB (stI (clB (stI pB 30)) 8))) (fdS (stI (clB (stI pB 30)) 32)) 0 [] Value.none Value.none Value.none Value.none none Value.none Value.none 0)) #[])
noncomputable def oz_504 (P : Params) : Obj := (Obj.mk (Value.type "code") none (Data.fields #[(Value.str (ss "newlines") 1125), (Value.str (ss "StringIO.newlines") 1126), (Value.str (ss "/claim/cut.py") 1127), (Value.int 433 0), (Value.int 1 0), (Value.int 0 0), (Value.int 0 0), (Value.int 3 0), (Value.ref 499), (Value.bool Bool.true), (Value.int 318 0), (Value.ref 500), Value.none, (Value.ref 501), (Value.ref 502), (Value.ref 503), (Value.int 1129 0), (Value.int 433 0), (Value.str (ss "/claim/cut.py") 1130)]) #[])
noncomputable def oz_505 (P : Params) : Obj := (Obj.mk (Value.type "function") none (Data.func (FuncData.mk (ss "newlines") (ss "StringIO.newlines") (fdA (stI (clB (stI pB 30)) 8)) (FuncBody.stmts (fdB (stI (clB (stI pB 30)) 8))) (fdS (stI (clB (stI pB 30)) 32)) 3 [] Value.none Value.none Value.none (Value.str (ss "io") 676) none (Value.ref 504) Value.none 0)) #[])
noncomputable def oz_506 (P : Params) : Obj := (Obj.mk (Value.type "property") none (Data.fields #[(Value.ref 505), Value.none, Value.none, Value.none, (Value.str (ss "newlines") 1132), (Value.bool Bool.false)]) #[])
noncomputable def oz_507 (P : Params) : Obj := (Obj.mk (Value.type "tuple") none (Data.seq #[] 0) #[])
noncomputable def oz_508 (P : Params) : Obj := (Obj.mk Value.none none (Data.fields #[]) #[])
noncomputable def oz_509 (P : Params) : Obj := (Obj.mk (Value.type "tuple") none (Data.seq #[(Value.str (ss "self") 1136)] 0) #[])
noncomputable def oz_510 (P : Params) : Obj := (Obj.mk (Value.type "tuple") none (Data.seq #[] 0) #[])
noncomputable def oz_511 (P : Params) : Obj := (Obj.mk Value.none none (Data.func (FuncData.mk (ss "encoding") (ss "StringIO.encoding") (fdA (stI (clB (stI pB 30)) 9)) (FuncBody.stmts (fdB (stI (clB (stI pB 30)) 9))) (fdS (stI (clB (stI pB 30)) 32)) 0 [] Value.none Value.none Value.none Value.none none Value.none Value.none 0)) #[])
noncomputable def oz_512 (P : Params) : Obj := (Obj.mk (Value.type "code") none (Data.fields #[(Value.str (ss "encoding") 1133), (Value.str (ss "StringIO.encoding") 1134), (Value.str (ss "/claim/cut.py") 1135), (Value.int 437 0), (Value.int 1 0), (Value.int 0 0), (Value.int 0 0), (Value.int 3 0), (Value.ref 507), (Value.bool Bool.true), (Value.int 318 0), (Value.ref 508), Value.none, (Value.ref 509), (Value.ref 510), (Value.ref 511), (Value.int 1137 0), (Value.int 437 0), (Value.str (ss "/claim/cut.py") 1138)]) #[])
noncomputable def oz_513 (P : Params) : Obj := (Obj.mk (Value.type "function") none (Data.func (FuncData.mk (ss "encoding") (ss "StringIO.encoding") (fdA (stI (clB (stI pB 30)) 9)) (FuncBody.stmts (fdB (stI (clB (stI pB 30)) 9))) (fdS (stI (clB (stI pB 30)) 32)) 3 [] Value.none Value.none Value.none (Value.str (ss "io") 676) none (Value.ref 512) Value.none 0)) #[])
noncomputable def oz_514 (P : Params) : Obj := (Obj.mk (Value.type "property") none (Data.fields #[(Value.ref 513), Value.none, Value.none, Value.none, (Value.str (ss "encoding") 1140), (Value.bool Bool.false)]) #[])
noncomputable def oz_515 (P : Params) : Obj := (Obj.mk (Value.type "tuple") none (Data.seq #[] 0) #[])
noncomputable def oz_516 (P : Params) : Obj := (Obj.mk Value.none none (Data.fields #[]) #[])
noncomputable def oz_517 (P : Params) : Obj := (Obj.mk (Value.type "tuple") none (Data.seq #[(Value.str (ss "self") 1144)] 0) #[])
noncomputable def oz_518 (P : Params) : Obj := (Obj.mk (Value.type "tuple") none (Data.seq #[] 0) #[])
noncomputable def oz_519 (P : Params) : Obj := (Obj.mk Value.none none (Data.func (FuncData.mk (ss "errors") (ss "StringIO.errors") (fdA (stI (clB (stI pB 30)) 10)) (FuncBody.stmts (fdB (stI (clB (stI pB 30)) 10))) (fdS (stI (clB (stI pB 30)) 32)) 0 [] Value.none Value.none Value.none Value.none none Value.none Value.none 0)) #[])
noncomputable def oz_520 (P : Params) : Obj := (Obj.mk (Value.type "code") none (Data.fields #[(Value.str (ss "errors") 1141), (Value.str (ss "StringIO.errors") 1142), (Value.str (ss "/claim/cut.py") 1143), (Value.int 441 0), (Value.int 1 0), (Value.int 0 0), (Value.int 0 0), (Value.int 3 0), (Value.ref 515), (Value.bool Bool.true), (Value.int 318 0), (Value.ref 516), Value.none, (Value.ref 517), (Value.ref 518), (Value.ref 519), (Value.int 1145 0), (Value.int 441 0), (Value.str (ss "/claim/cut.py") 1146)]) #[])
noncomputable def oz_521 (P : Params) : Obj := (Obj.mk (Value.type "function") none (Data.func (FuncData.mk (ss "errors") (ss "StringIO.errors") (fdA (stI (clB (stI pB 30)) 10)) (FuncBody.stmts (fdB (stI (clB (stI pB 30)) 10))) (fdS (stI (clB (stI pB 30)) 32)) 3 [] Value.none Value.none Value.none (Value.str (ss "io") 676) none (Value.ref 520) Value.none 0)) #[])
noncomputable def oz_522 (P : Params) : Obj := (Obj.mk (Value.type "property") none (Data.fields #[(Value.ref 521), Value.none, Value.none, Value.none, (Value.str (ss "errors") 1148), (Value.bool Bool.false)]) #[])
noncomputable def oz_523 (P : Params) : Obj := (Obj.mk (Value.type "tuple") none (Data.seq #[] 0) #[])
noncomputable def oz_524 (P : Params) : Obj := (Obj.mk Value.none none (Data.fields #[]) #[])
noncomputable def oz_525 (P : Params) : Obj := (Obj.mk (Value.type "tuple") none (Data.seq #[(Value.str (ss "self") 1152)] 0) #[])
noncomputable def oz_526 (P : Params) : Obj := (Obj.mk (Value.type "tuple") none (Data.seq #[] 0) #[])
noncomputable def oz_527 (P : Params) : Obj := (Obj.mk Value.none none (Data.func (FuncData.mk (ss "close") (ss "StringIO.close") (fdA (stI (clB (stI pB 30)) 11)) (FuncBody.stmts (fdB (stI (clB (stI pB 30)) 11))) (fdS (stI (clB (stI pB 32)) 9)) 0 [] Value.none Value.none Value.none Value.none none Value.none Value.none 0)) #[])
noncomputable def oz_528 (P : Params) : Obj := (Obj.mk (Value.type "code") none (Data.fields #[(Value.str (ss "close") 1149), (Value.str (ss "StringIO.close") 1150), (Value.str (ss "/claim/cut.py") 1151), (Value.int 445 0), (Value.int 1 0), (Value.int 0 0), (Value.int 0 0), (Value.int 3 0), (Value.ref 523), (Value.bool Bool.true), (Value.int 318 0), (Value.ref 524), Value.none, (Value.ref 525), (Value.ref 526), (Value.ref 527), (Value.int 1153 0), (Value.int 445 0), (Value.str (ss "/claim/cut.py") 1154)]) #[])
noncomputable def oz_529 (P : Params) : Obj := (Obj.mk (Value.type "function") none (Data.func (FuncData.mk (ss "close") (ss "StringIO.close") (fdA (stI (clB (stI pB 30)) 11)) (FuncBody.stmts (fdB (stI (clB (stI pB 30)) 11))) (fdS (stI (clB (stI pB 32)) 9)) 3 [] Value.none Value.none Value.none (Value.str (ss "io") 676) none (Value.ref 528) Value.none 0)) #[])
noncomputable def oz_530 (P : Params) : Obj := (Obj.mk (Value.type "tuple") none (Data.seq #[] 0) #[])
noncomputable def oz_531 (P : Params) : Obj := (Obj.mk Value.none none (Data.fields #[]) #[])
noncomputable def oz_532 (P : Params) : Obj := (Obj.mk (Value.type "tuple") none (Data.seq #[(Value.str (ss "self") 1159)] 0) #[])
noncomputable def oz_533 (P : Params) : Obj := (Obj.mk (Value.type "tuple") none (Data.seq #[] 0) #[])
noncomputable def oz_534 (P : Params) : Obj := (Obj.mk Value.none none (Data.func (FuncData.mk (ss "__enter__") (ss "StringIO.__enter__") (fdA (stI (clB (stI pB 30)) 12)) (FuncBody.stmts (fdB (stI (clB (stI pB 30)) 12))) (fdS (stI (clB (stI pB 32)) 9)) 0 [] Value.none Value.none Value.none Value.none none Value.none Value.none 0)) #[])
noncomputable def oz_535 (P : Params) : Obj := (Obj.mk (Value.type "code") none (Data.fields #[(Value.str (ss "__enter__") 1156), (Value.str (ss "StringIO.__enter__") 1157), (Value.str (ss "/claim/cut.py") 1158), (Value.int 448 0), (Value.int 1 0), (Value.int 0 0), (Value.int 0 0), (Value.int 3 0), (Value.ref 530), (Value.bool Bool.true), (Value.int 318 0), (Value.ref 531), Value.none, (Value.ref 532), (Value.ref 533), (Value.ref 534), (Value.int 1160 0), (Value.int 448 0), (Value.str (ss "/claim/cut.py") 1161)]) #[])
noncomputable def oz_536 (P : Params) : Obj := (Obj.mk (Value.type "function") none (Data.func (FuncData.mk (ss "__enter__") (ss "StringIO.__enter__") (fdA (stI (clB (stI pB 30)) 12)) (FuncBody.stmts (fdB (stI (clB (stI pB 30)) 12))) (fdS (stI (clB (stI pB 32)) 9)) 3 [] Value.none Value.none Value.none (Value.str (ss "io") 676) none (Value.ref 535) Value.none 0)) #[])
noncomputable def oz_537 (P : Params) : Obj := (Obj.mk (Value.type "tuple") none (Data.seq #[] 0) #[])
noncomputable def oz_538 (P : Params) : Obj := (Obj.mk Value.none none (Data.fields #[]) #[])
noncomputable def oz_539 (P : Params) : Obj := (Obj.mk (Value.type "tuple") none (Data.seq #[(Value.str (ss "self") 1166), (Value.str (ss "args") 1167)] 0) #[])
noncomputable def oz_540 (P : Params) : Obj := (Obj.mk (Value.type "tuple") none (Data.seq #[] 0) #[])
noncomputable def oz_541 (P : Params) : Obj := (Obj.mk Value.none none (Data.func (FuncData.mk (ss "__exit__") (ss "StringIO.__exit__") (fdA (stI (clB (stI pB 30)) 13)) (FuncBody.stmts (fdB (stI (clB (stI pB 30)) 13))) (fdS (stI (clB (stI pB 30)) 13)) 0 [] Value.none Value.none Value.none Value.none none Value.none Value.none 0)) #[])
noncomputable def oz_542 (P : Params) : Obj := (Obj.mk (Value.type "code") none (Data.fields #[(Value.str (ss "__exit__") 1163), (Value.str (ss "StringIO.__exit__") 1164), (Value.str (ss "/claim/cut.py") 1165), (Value.int 452 0), (Value.int 1 0), (Value.int 0 0), (Value.int 0 0), (Value.int 7 0), (Value.ref 537), (Value.bool Bool.true), (Value.int 318 0), (Value.ref 538), Value.none, (Value.ref 539), (Value.ref 540), (Value.ref 541), (Value.int 1168 0), (Value.int 452 0), (Value.str (ss "/claim/cut.py") 1169)]) #[])
noncomputable def oz_543 (P : Params) : Obj := (Obj.mk (Value.type "function") none (Data.func (FuncData.mk (ss "__exit__") (ss "StringIO.__exit__") (fdA (stI (clB (stI pB 30)) 13)) (FuncBody.stmts (fdB (stI (clB (stI pB 30)) 13))) (fdS (stI (clB (stI pB 30)) 13)) 3 [] Value.none Value.none Value.none (Value.str (ss "io") 676) none (Value.ref 542) Value.none 0)) #[])
noncomputable def oz_544 (P : Params) : Obj := (Obj.mk (Value.type "tuple") none (Data.seq #[] 0) #[])
noncomputable def oz_545 (P : Params) : Obj := (Obj.mk Value.none none (Data.fields #[]) #[])
noncomputable def oz_546 (P : Params) : Obj := (Obj.mk (Value.type "tuple") none (Data.seq #[(Value.str (ss "self") 1174)] 0) #[])
noncomputable def oz_547 (P : Params) : Obj := (Obj.mk (Value.type "tuple") none (Data.seq #[] 0) #[])
noncomputable def oz_548 (P : Params) : Obj := (Obj.mk Value.none none (Data.func (FuncData.mk (ss "readable") (ss "StringIO.readable") (fdA (stI (clB (stI pB 30)) 14)) (FuncBody.stmts (fdB (stI (clB (stI pB 30)) 14))) (fdS (stI (clB (stI pB 32)) 9)) 0 [] Value.none Value.none Value.none Value.none none Value.none Value.none 0)) #[])
noncomputable def oz_549 (P : Params) : Obj := (Obj.mk (Value.type "code") none (Data.fields #[(Value.str (ss "readable") 1171), (Value.str (ss "StringIO.readable") 1172), (Value.str (ss "/claim/cut.py") 1173), (Value.int 455 0), (Value.int 1 0), (Value.int 0 0), (Value.int 0 0), (Value.int 3 0), (Value.ref 544), (Value.bool Bool.true), (Value.int 318 0), (Value.ref 545), Value.none, (Value.ref 546), (Value.ref 547), (Value.ref 548), (Value.int 1175 0), (Value.int 455 0), (Value.str (ss "/claim/cut.py") 1176)]) #[])
noncomputable def oz_550 (P : Params) : Obj := (Obj.mk (Value.type "function") none (Data.func (FuncData.mk (ss "readable") (ss "StringIO.readable") (fdA (stI (clB (stI pB 30)) 14)) (FuncBody.stmts (fdB (stI (clB (stI pB 30)) 14))) (fdS (stI (clB (stI pB 32)) 9)) 3 [] Value.none Value.none Value.none (Value.str (ss "io") 676) none (Value.ref 549) Value.none 0)) #[])
noncomputable def oz_551 (P : Params) : Obj := (Obj.mk (Value.type "tuple") none (Data.seq #[] 0) #[])
noncomputable def oz_552 (P : Params) : Obj := (Obj.mk Value.none none (Data.fields #[]) #[])
noncomputable def oz_553 (P : Params) : Obj := (Obj.mk (Value.type "tuple") none (Data.seq #[(Value.str (ss "self") 1181)] 0) #[])
noncomputable def oz_554 (P : Params) : Obj := (Obj.mk (Value.type "tuple") none (Data.seq #[] 0) #[])
noncomputable def oz_555 (P : Params) : Obj := (Obj.mk Value.none none (Data.func (FuncData.mk (ss "writable") (ss "StringIO.writable") (fdA (stI (clB (stI pB 30)) 15)) (FuncBody.stmts (fdB (stI (clB (stI pB 30)) 15))) (fdS (stI (clB (stI pB 32)) 9)) 0 [] Value.none Value.none Value.none Value.none none Value.none Value.none 0)) #[])
noncomputable def oz_556 (P : Params) : Obj := (Obj.mk (Value.type "code") none (Data.fields #[(Value.str (ss "writable") 1178), (Value.str (ss "StringIO.writable") 1179), (Value.str (ss "/claim/cut.py") 1180), (Value.int 459 0), (Value.int 1 0), (Value.int 0 0), (Value.int 0 0), (Value.int 3 0), (Value.ref 551), (Value.bool Bool.true), (Value.int 318 0), (Value.ref 552), Value.none, (Value.ref 553), (Value.ref 554), (Value.ref 555), (Value.int 1182 0), (Value.int 459 0), (Value.str (ss "/claim/cut.py") 1183)]) #[])
noncomputable def oz_557 (P : Params) : Obj := (Obj.mk (Value.type "function") none (Data.func (FuncData.mk (ss "writable") (ss "StringIO.writable") (fdA (stI (clB (stI pB 30)) 15)) (FuncBody.stmts (fdB (stI (clB (stI pB 30)) 15))) (fdS (stI (clB (stI pB 32)) 9)) 3 [] Value.none Value.none Value.none (Value.str (ss "io") 676) none (Value.ref 556) Value.none 0)) #[])
noncomputable def oz_558 (P : Params) : Obj := (Obj.mk (Value.type "tuple") none (Data.seq #[] 0) #[])
noncomputable def oz_559 (P : Params) : Obj := (Obj.mk Value.none none (Data.fields #[]) #[])
noncomputable def oz_560 (P : Params) : Obj := (Obj.mk (Value.type "tuple") none (Data.seq #[(Value.str (ss "self") 1188)] 0) #[])
noncomputable def oz_561 (P : Params) : Obj := (Obj.mk (Value.type "tuple") none (Data.seq #[] 0) #[])
noncomputable def oz_562 (P : Params) : Obj := (Obj.mk Value.none none (Data.func (FuncData.mk (ss "seekable") (ss "StringIO.seekable") (fdA (stI (clB (stI pB 30)) 16)) (FuncBody.stmts (fdB (stI (clB (stI pB 30)) 16))) (fdS (stI (clB (stI pB 32)) 9)) 0 [] Value.none Value.none Value.none Value.none none Value.none Value.none 0)) #[])
noncomputable def oz_563 (P : Params) : Obj := (Obj.mk (Value.type "code") none (Data.fields #[(Value.str (ss "seekable") 1185), (Value.str (ss "StringIO.seekable") 1186), (Value.str (ss "/claim/cut.py") 1187), (Value.int 463 0), (Value.int 1 0), (Value.int 0 0), (Value.int 0 0), (Value.int 3 0), (Value.ref 558), (Value.bool Bool.true), (Value.int 318 0), (Value.ref 559), Value.none, (Value.ref 560), (Value.ref 561), (Value.ref 562), (Value.int 1189 0), (Value.int 463 0), (Value.str (ss "/claim/cut.py") 1190)]) #[])
noncomputable def oz_564 (P : Params) : Obj := (Obj.mk (Value.type "function") none (Data.func (FuncData.mk (ss "seekable") (ss "StringIO.seekable") (fdA (stI (clB (stI pB 30)) 16)) (FuncBody.stmts (fdB (stI (clB (stI pB 30)) 16))) (fdS (stI (clB (stI pB 32)) 9)) 3 [] Value.none Value.none Value.none (Value.str (ss "io") 676) none (Value.ref 563) Value.none 0)) #[])
noncomputable def oz_565 (P : Params) : Obj := (Obj.mk (Value.type "tuple") none (Data.seq #[] 0) #[])
noncomputable def oz_566 (P : Params) : Obj := (Obj.mk Value.none none (Data.fields #[]) #[])
noncomputable def oz_567 (P : Params) : Obj := (Obj.mk (Value.type "tuple") none (Data.seq #[(Value.str (ss "self") 1195)] 0) #[])
noncomputable def oz_568 (P : Params) : Obj := (Obj.mk (Value.type "tuple") none (Data.seq #[] 0) #[])
noncomputable def oz_569 (P : Params) : Obj := (Obj.mk Value.none none (Data.func (FuncData.mk (ss "isatty") (ss "StringIO.isatty") (fdA (stI (clB (stI pB 30)) 17)) (FuncBody.stmts (fdB (stI (clB (stI pB 30)) 17))) (fdS (stI (clB (stI pB 32)) 9)) 0 [] Value.none Value.none Value.none Value.none none Value.none Value.none 0)) #[])
noncomputable def oz_570 (P : Params) : Obj := (Obj.mk (Value.type "code") none (Data.fields #[(Value.str (ss "isatty") 1192), (Value.str (ss "StringIO.isatty") 1193), (Value.str (ss "/claim/cut.py") 1194), (Value.int 467 0), (Value.int 1 0), (Value.int 0 0), (Value.int 0 0), (Value.int 3 0), (Value.ref 565), (Value.bool Bool.true), (Value.int 318 0), (Value.ref 566), Value.none, (Value.ref 567), (Value.ref 568), (Value.ref 569), (Value.int 1196 0), (Value.int 467 0), (Value.str (ss "/claim/cut.py") 1197)]) #[])
noncomputable def oz_571 (P : Params) : Obj := (Obj.mk (Value.type "function") none (Data.func (FuncData.mk (ss "isatty") (ss "StringIO.isatty") (fdA (stI (clB (stI pB 30)) 17)) (FuncBody.stmts (fdB (stI (clB (stI pB 30)) 17))) (fdS (stI (clB (stI pB 32)) 9)) 3 [] Value.none Value.none Value.none (Value.str (ss "io") 676) none (Value.ref 570) Value.none 0)) #[])
noncomputable def oz_572 (P : Params) : Obj := (Obj.mk (Value.type "tuple") none (Data.seq #[] 0) #[])
noncomputable def oz_573 (P : Params) : Obj := (Obj.mk Value.none none (Data.fields #[]) #[])
noncomputable def oz_574 (P : Params) : Obj := (Obj.mk (Value.type "tuple") none (Data.seq #[(Value.str (ss "self") 1202)] 0) #[])
noncomputable def oz_575 (P : Params) : Obj := (Obj.mk (Value.type "tuple") none (Data.seq #[] 0) #[])
noncomputable def oz_576 (P : Params) : Obj := (Obj.mk Value.none none (Data.func (FuncData.mk (ss "flush") (ss "StringIO.flush") (fdA (stI (clB (stI pB 30)) 18)) (FuncBody.stmts (fdB (stI (clB (stI pB 30)) 18))) (fdS (stI (clB (stI pB 32)) 9)) 0 [] Value.none Value.none Value.none Value.none none Value.none Value.none 0)) #[])
noncomputable def oz_577 (P : Params) : Obj := (Obj.mk (Value.type "code") none (Data.fields #[(Value.str (ss "flush") 1199), (Value.str (ss "StringIO.flush") 1200), (Value.str (ss "/claim/cut.py") 1201), (Value.int 471 0), (Value.int 1 0), (Value.int 0 0), (Value.int 0 0), (Value.int 3 0), (Value.ref 572), (Value.bool Bool.true), (Value.int 318 0), (Value.ref 573), Value.none, (Value.ref 574), (Value.ref 575), (Value.ref 576), (Value.int 1203 0), (Value.int 471 0), (Value.str (ss "/claim/cut.py") 1204)]) #[])
noncomputable def oz_578 (P : Params) : Obj := (Obj.mk (Value.type "function") none (Data.func (FuncData.mk (ss "flush") (ss "StringIO.flush") (fdA (stI (clB (stI pB 30)) 18)) (FuncBody.stmts (fdB (stI (clB (stI pB 30)) 18))) (fdS (stI (clB (stI pB 32)) 9)) 3 [] Value.none Value.none Value.none (Value.str (ss "io") 676) none (Value.ref 577) Value.none 0)) #[])
noncomputable def oz_579 (P : Params) : Obj := (Obj.mk (Value.type "tuple") none (Data.seq #[] 0) #[])
noncomputable def oz_580 (P : Params) : Obj := (Obj.mk Value.none none (Data.fields #[]) #[])
noncomputable def oz_581 (P : Params) : Obj := (Obj.mk (Value.type "tuple") none (Data.seq #[(Value.str (ss "self") 1209)] 0) #[])
noncomputable def oz_582 (P : Params) : Obj := (Obj.mk (Value.type "tuple") none (Data.seq #[] 0) #[])
noncomputable def oz_583 (P : Params) : Obj := (Obj.mk Value.none none (Data.func (FuncData.mk (ss "fileno") (ss "StringIO.fileno") (fdA (stI (clB (stI pB 30)) 19)) (FuncBody.stmts (fdB (stI (clB (stI pB 30)) 19))) (fdS (stI (clB (stI pB 30)) 19)) 0 [] Value.none Value.none Value.none Value.none none Value.none Value.none 0)) #[])
noncomputable def oz_584 (P : Params) : Obj := (Obj.mk (Value.type "code") none (Data.fields #[(Value.str (ss "fileno") 1206), (Value.str (ss "StringIO.fileno") 1207), (Value.str (ss "/claim/cut.py") 1208), (Value.int 474 0), (Value.int 1 0), (Value.int 0 0), (Value.int 0 0), (Value.int 3 0), (Value.ref 579), (Value.bool Bool.true), (Value.int 318 0), (Value.ref 580), Value.none, (Value.ref 581), (Value.ref 582), (Value.ref 583), (Value.int 1210 0), (Value.int 474 0), (Value.str (ss "/claim/cut.py") 1211)]) #[])
noncomputable def oz_585 (P : Params) : Obj := (Obj.mk (Value.type "function") none (Data.func (FuncData.mk (ss "fileno") (ss "StringIO.fileno") (fdA (stI (clB (stI pB 30)) 19)) (FuncBody.stmts (fdB (stI (clB (stI pB 30)) 19))) (fdS (stI (clB (stI pB 30)) 19)) 3 [] Value.none Value.none Value.none (Value.str (ss "io") 676) none (Value.ref 584) Value.none 0)) #[])
noncomputable def oz_586 (P : Params) : Obj := (Obj.mk (Value.type "tuple") none (Data.seq #[] 0) #[])
noncomputable def oz_587 (P : Params) : Obj := (Obj.mk Value.none none (Data.fields #[]) #[])
noncomputable def oz_588 (P : Params) : Obj := (Obj.mk (Value.type "tuple") none (Data.seq #[(Value.str (ss "self") 1216)] 0) #[])
noncomputable def oz_589 (P : Params) : Obj := (Obj.mk (Value.type "tuple") none (Data.seq #[] 0) #[])
noncomputable def oz_590 (P : Params) : Obj := (Obj.mk Value.none none (Data.func (FuncData.mk (ss "detach") (ss "StringIO.detach") (fdA (stI (clB (stI pB 30)) 20)) (FuncBody.stmts (fdB (stI (clB (stI pB 30)) 20))) (fdS (stI (clB (stI pB 30)) 32)) 0 [] Value.none Value.none Value.none Value.none none Value.none Value.none 0)) #[])
noncomputable def oz_591 (P : Params) : Obj := (Obj.mk (Value.type "code") none (Data.fields #[(Value.str (ss "detach") 1213), (Value.str (ss "StringIO.detach") 1214), (Value.str (ss "/claim/cut.py") 1215), (Value.int 477 0), (Value.int 1 0), (Value.int 0 0), (Value.int 0 0), (Value.int 3 0), (Value.ref 586), (Value.bool Bool.true), (Value.int 318 0), (Value.ref 587), Value.none, (Value.ref 588), (Value.ref 589), (Value.ref 590), (Value.int 1217 0), (Value.int 477 0), (Value.str (ss "/claim/cut.py") 1218)]) #[])
noncomputable def oz_592 (P : Params) : Obj := (Obj.mk (Value.type "function") none (Data.func (FuncData.mk (ss "detach") (ss "StringIO.detach") (fdA (stI (clB (stI pB 30)) 20)) (FuncBody.stmts (fdB (stI (clB (stI pB 30)) 20))) (fdS (stI (clB (stI pB 30)) 32)) 3 [] Value.none Value.none Value.none (Value.str (ss "io") 676) none (Value.ref 591) Value.none 0)) #[])
noncomputable def oz_593 (P : Params) : Obj := (Obj.mk (Value.type "tuple") none (Data.seq #[] 0) #[])
noncomputable def oz_594 (P : Params) : Obj := (Obj.mk Value.none none (Data.fields #[]) #[])
noncomputable def oz_595 (P : Params) : Obj := (Obj.mk (Value.type "tuple") none (Data.seq #[(Value.str (ss "self") 1223)] 0) #[])
noncomputable def oz_596 (P : Params) : Obj := (Obj.mk (Value.type "tuple") none (Data.seq #[] 0) #[])
noncomputable def oz_597 (P : Params) : Obj := (Obj.mk Value.none none (Data.func (FuncData.mk (ss "getvalue") (ss "StringIO.getvalue") (fdA (stI (clB (stI pB 30)) 21)) (FuncBody.stmts (fdB (stI (clB (stI pB 30)) 21))) (fdS (stI (clB (stI pB 30)) 32)) 0 [] Value.none Value.none Value.none Value.none none Value.none Value.none 0)) #[])
noncomputable def oz_598 (P : Params) : Obj := (Obj.mk (Value.type "code") none (Data.fields #[(Value.str (ss "getvalue") 1220), (Value.str (ss "StringIO.getvalue") 1221), (Value.str (ss "/claim/cut.py") 1222), (Value.int 480 0), (Value.int 1 0), (Value.int 0 0), (Value.int 0 0), (Value.int 3 0), (Value.ref 593), (Value.bool Bool.true), (Value.int 318 0), (Value.ref 594), Value.none, (Value.ref 595), (Value.ref 596), (Value.ref 597), (Value.int 1224 0), (Value.int 480 0), (Value.str (ss "/claim/cut.py") 1225)]) #[])
noncomputable def oz_599 (P : Params) : Obj := (Obj.mk (Value.type "function") none (Data.func (FuncData.mk (ss "getvalue") (ss "StringIO.getvalue") (fdA (stI (clB (stI pB 30)) 21)) (FuncBody.stmts (fdB (stI (clB (stI pB 30)) 21))) (fdS (stI (clB (stI pB 30)) 32)) 3 [] Value.none Value.none Value.none (Value.str (ss "io") 676) none (Value.ref 598) Value.none 0)) #[])
noncomputable def oz_600 (P : Params) : Obj := (Obj.mk (Value.type "tuple") none (Data.seq #[] 0) #[])
noncomputable def oz_601 (P : Params) : Obj := (Obj.mk Value.none none (Data.fields #[]) #[])
noncomputable def oz_602 (P : Params) : Obj := (Obj.mk (Value.type "tuple") none (Data.seq #[(Value.str (ss "self") 1230)] 0) #[])
noncomputable def oz_603 (P : Params) : Obj := (Obj.mk (Value.type "tuple") none (Data.seq #[] 0) #[])
noncomputable def oz_604 (P : Params) : Obj := (Obj.mk Value.none none (Data.func (FuncData.mk (ss "tell") (ss "StringIO.tell") (fdA (stI (clB (stI pB 30)) 22)) (FuncBody.stmts (fdB (stI (clB (stI pB 30)) 22))) (fdS (stI (clB (stI pB 32)) 9)) 0 [] Value.none Value.none Value.none Value.none none Value.none Value.none 0)) #[])
noncomputable def oz_605 (P : Params) : Obj := (Obj.mk (Value.type "code") none (Data.fields #[(Value.str (ss "tell") 1227), (Value.str (ss "StringIO.tell") 1228), (Value.str (ss "/claim/cut.py") 1229), (Value.int 483 0), (Value.int 1 0), (Value.int 0 0), (Value.int 0 0), (Value.int 3 0), (Value.ref 600), (Value.bool Bool.true), (Value.int 318 0), (Value.ref 601), Value.none, (Value.ref 602), (Value.ref 603), (Value.ref 604), (Value.int 1231 0), (Value.int 483 0), (Value.str (ss "/claim/cut.py") 1232)]) #[])
noncomputable def oz_606 (P : Params) : Obj := (Obj.mk (Value.type "function") none (Data.func (FuncData.mk (ss "tell") (ss "StringIO.tell") (fdA (stI (clB (stI pB 30)) 22)) (FuncBody.stmts (fdB (stI (clB (stI pB 30)) 22))) (fdS (stI (clB (stI pB 32)) 9)) 3 [] Value.none Value.none Value.none (Value.str (ss "io") 676) none (Value.ref 605) Value.none 0)) #[])
noncomputable def oz_607 (P : Params) : Obj := (Obj.mk (Value.type "tuple") none (Data.seq #[(Value.int 0 1234)] 0) #[])
noncomputable def oz_608 (P : Params) : Obj := (Obj.mk (Value.type "tuple") none (Data.seq #[] 0) #[])
noncomputable def oz_609 (P : Params) : Obj := (Obj.mk Value.none none (Data.fields #[]) #[])
noncomputable def oz_610 (P : Params) : Obj := (Obj.mk (Value.type "tuple") none (Data.seq #[(Value.str (ss "self") 1238), (Value.str (ss "pos") 1239), (Value.str (ss "whence") 1240)] 0) #[])
noncomputable def oz_611 (P : Params) : Obj := (Obj.mk (Value.type "tuple") none (Data.seq #[] 0) #[])
noncomputable def oz_612 (P : Params) : Obj := (Obj.mk Value.none none (Data.func (FuncData.mk (ss "seek") (ss "StringIO.seek") (fdA (stI (clB (stI pB 30)) 23)) (FuncBody.stmts (fdB (stI (clB (stI pB 30)) 23))) (fdS (stI (clB (stI pB 30)) 23)) 0 [] Value.none Value.none Value.none Value.none none Value.none Value.none 0)) #[])
noncomputable def oz_613 (P : Params) : Obj := (Obj.mk (Value.type "code") none (Data.fields #[(Value.str (ss "seek") 1235), (Value.str (ss "StringIO.seek") 1236), (Value.str (ss "/claim/cut.py") 1237), (Value.int 487 0), (Value.int 3 0), (Value.int 3 0), (Value.int 0 0), (Value.int 3 0), (Value.ref 608), (Value.bool Bool.true), (Value.int 318 0), (Value.ref 609), Value.none, (Value.ref 610), (Value.ref 611), (Value.ref 612), (Value.int 1241 0), (Value.int 487 0), (Value.str (ss "/claim/cut.py") 1242)]) #[])
noncomputable def oz_614 (P : Params) : Obj := (Obj.mk (Value.type "function") none (Data.func (FuncData.mk (ss "seek") (ss "StringIO.seek") (fdA (stI (clB (stI pB 30)) 23)) (FuncBody.stmts (fdB (stI (clB (stI pB 30)) 23))) (fdS (stI (clB (stI pB 30)) 23)) 3 [] (Value.ref 607) Value.none Value.none (Value.str (ss "io") 676) none (Value.ref 613) Value.none 0)) #[])
noncomputable def oz_615 (P : Params) : Obj := (Obj.mk (Value.type "tuple") none (Data.seq #[Value.none] 0) #[])
noncomputable def oz_616 (P : Params) : Obj := (Obj.mk (Value.type "tuple") none (Data.seq #[] 0) #[])
noncomputable def oz_617 (P : Params) : Obj := (Obj.mk Value.none none (Data.fields #[]) #[])
noncomputable def oz_618 (P : Params) : Obj := (Obj.mk (Value.type "tuple") none (Data.seq #[(Value.str (ss "self") 1247), (Value.str (ss "pos") 1248)] 0) #[])
noncomputable def oz_619 (P : Params) : Obj := (Obj.mk (Value.type "tuple") none (Data.seq #[] 0) #[])
noncomputable def oz_620 (P : Params) : Obj := (Obj.mk Value.none none (Data.func (FuncData.mk (ss "truncate") (ss "StringIO.truncate") (fdA (stI (clB (stI pB 30)) 24)) (FuncBody.stmts (fdB (stI (clB (stI pB 30)) 24))) (fdS (stI (clB (stI pB 30)) 24)) 0 [] Value.none Value.none Value.none Value.none none Value.none Value.none 0)) #[])
noncomputable def oz_621 (P : Params) : Obj := (Obj.mk (Value.type "code") none (Data.fields #[(Value.str (ss "truncate") 1244), (Value.str (ss "StringIO.truncate") 1245), (Value.str (ss "/claim/cut.py") 1246), (Value.int 504 0), (Value.int 2 0), (Value.int 2 0), (Value.int 0 0), (Value.int 3 0), (Value.ref 616), (Value.bool Bool.true), (Value.int 318 0), (Value.ref 617), Value.none, (Value.ref 618), (Value.ref 619), (Value.ref 620), (Value.int 1249 0), (Value.int 504 0), (Value.str (ss "/claim/cut.py") 1250)]) #[])
noncomputable def oz_622 (P : Params) : Obj := (Obj.mk (Value.type "function") none (Data.func (FuncData.mk (ss "truncate") (ss "StringIO.truncate") (fdA (stI (clB (stI pB 30)) 24)) (FuncBody.stmts (fdB (stI (clB (stI pB 30)) 24))) (fdS (stI (clB (stI pB 30)) 24)) 3 [] (Value.ref 615) Value.none Value.none (Value.str (ss "io") 676) none (Value.ref 621) Value.none 0)) #[])
noncomputable def oz_623 (P : Params) : Obj := (Obj.mk (Value.type "tuple") none (Data.seq #[(Value.int (-1) 1253)] 0) #[])
noncomputable def oz_624 (P : Params) : Obj := (Obj.mk (Value.type "tuple") none (Data.seq #[] 0) #[])
noncomputable def oz_625 (P : Params) : Obj := (Obj.mk Value.none none (Data.fields #[]) #[])
noncomputable def oz_626 (P : Params) : Obj := (Obj.mk (Value.type "tuple") none (Data.seq #[(Value.str (ss "self") 1257), (Value.str (ss "size") 1258), (Value.str (ss "start") 1259), (Value.str (ss "stop") 1260)] 0) #[])
noncomputable def oz_627 (P : Params) : Obj := (Obj.mk (Value.type "tuple") none (Data.seq #[] 0) #[])
noncomputable def oz_628 (P : Params) : Obj := (Obj.mk Value.none none (Data.func (FuncData.mk (ss "read") (ss "StringIO.read") (fdA (stI (clB (stI pB 30)) 25)) (FuncBody.stmts (fdB (stI (clB (stI pB 30)) 25))) (fdS (stI (clB (stI pB 30)) 25)) 0 [] Value.none Value.none Value.none Value.none none Value.none Value.none 0)) #[])
noncomputable def oz_629 (P : Params) : Obj := (Obj.mk (Value.type "code") none (Data.fields #[(Value.str (ss "read") 1254), (Value.str (ss "StringIO.read") 1255), (Value.str (ss "/claim/cut.py") 1256), (Value.int 507 0), (Value.int 2 0), (Value.int 2 0), (Value.int 0 0), (Value.int 3 0), (Value.ref 624), (Value.bool Bool.true), (Value.int 318 0), (Value.ref 625), Value.none, (Value.ref 626), (Value.ref 627), (Value.ref 628), (Value.int 1261 0), (Value.int 507 0), (Value.str (ss "/claim/cut.py") 1262)]) #[])
noncomputable def oz_630 (P : Params) : Obj := (Obj.mk (Value.type "function") none (Data.func (FuncData.mk (ss "read") (ss "StringIO.read") (fdA (stI (clB (stI pB 30)) 25)) (FuncBody.stmts (fdB (stI (clB (stI pB 30)) 25))) (fdS (stI (clB (stI pB 30)) 25)) 3 [] (Value.ref 623) Value.none Value.none (Value.str (ss "io") 676) none (Value.ref 629) Value.none 0)) #[])
noncomputable def oz_631 (P : Params) : Obj := (Obj.mk (Value.type "tuple") none (Data.seq #[(Value.int (-1) 1265)] 0) #[])
noncomputable def oz_632 (P : Params) : Obj := (Obj.mk (Value.type "tuple") none (Data.seq #[] 0) #[])
noncomputable def oz_633 (P : Params) : Obj := (Obj.mk Value.none none (Data.fields #[]) #[])
noncomputable def oz_634 (P : Params) : Obj := (Obj.mk (Value.type "tuple") none (Data.seq #[(Value.str (ss "self") 1269), (Value.str (ss "size") 1270)] 0) #[])
noncomputable def oz_635 (P : Params) : Obj := (Obj.mk (Value.type "tuple") none (Data.seq #[] 0) #[])
noncomputable def oz_636 (P : Params) : Obj := (Obj.mk Value.none none (Data.func (FuncData.mk (ss "readline") (ss "StringIO.readline") (fdA (stI (clB (stI pB 30)) 26)) (FuncBody.stmts (fdB (stI (clB (stI pB 30)) 26))) (fdS (stI (clB (stI pB 30)) 26)) 0 [] Value.none Value.none Value.none Value.none none Value.none Value.none 0)) #[])
noncomputable def oz_637 (P : Params) : Obj := (Obj.mk (Value.type "code") none (Data.fields #[(Value.str (ss "readline") 1266), (Value.str (ss "StringIO.readline") 1267), (Value.str (ss "/claim/cut.py") 1268), (Value.int 521 0), (Value.int 2 0), (Value.int 2 0), (Value.int 0 0), (Value.int 3 0), (Value.ref 632), (Value.bool Bool.true), (Value.int 318 0), (Value.ref 633), Value.none, (Value.ref 634), (Value.ref 635), (Value.ref 636), (Value.int 1271 0), (Value.int 521 0), (Value.str (ss "/claim/cut.py") 1272)]) #[])
noncomputable def oz_638 (P : Params) : Obj := (Obj.mk (Value.type "function") none (Data.func (FuncData.mk (ss "readline") (ss "StringIO.readline") (fdA (stI (clB (stI pB 30)) 26)) (FuncBody.stmts (fdB (stI (clB (stI pB 30)) 26))) (fdS (stI (clB (stI pB 30)) 26)) 3 [] (Value.ref 631) Value.none Value.none (Value.str (ss "io") 676) none (Value.ref 637) Value.none 0)) #[])
noncomputable def oz_639 (P : Params) : Obj := (Obj.mk (Value.type "tuple") none (Data.seq #[(Value.int (-1) 1275)] 0) #[])
noncomputable def oz_640 (P : Params) : Obj := (Obj.mk (Value.type "tuple") none (Data.seq #[] 0) #[])
noncomputable def oz_641 (P : Params) : Obj := (Obj.mk Value.none none (Data.fields #[]) #[])
noncomputable def oz_642 (P : Params) : Obj := (Obj.mk (Value.type "tuple") none (Data.seq #[(Value.str (ss "self") 1279), (Value.str (ss "hint") 1280)] 0) #[])
noncomputable def oz_643 (P : Params) : Obj := (Obj.mk (Value.type "tuple") none (Data.seq #[] 0) #[])
noncomputable def oz_644 (P : Params) : Obj := (Obj.mk Value.none none (Data.func (FuncData.mk (ss "readlines") (ss "StringIO.readlines") (fdA (stI (clB (stI pB 30)) 27)) (FuncBody.stmts (fdB (stI (clB (stI pB 30)) 27))) (fdS (stI (clB (stI pB 30)) 27)) 0 [] Value.none Value.none Value.none Value.none none Value.none Value.none 0)) #[])
noncomputable def oz_645 (P : Params) : Obj := (Obj.mk (Value.type "code") none (Data.fields #[(Value.str (ss "readlines") 1276), (Value.str (ss "StringIO.readlines") 1277), (Value.str (ss "/claim/cut.py") 1278), (Value.int 528 0), (Value.int 2 0), (Value.int 2 0), (Value.int 0 0), (Value.int 3 0), (Value.ref 640), (Value.bool Bool.true), (Value.int 318 0), (Value.ref 641), Value.none, (Value.ref 642), (Value.ref 643), (Value.ref 644), (Value.int 1281 0), (Value.int 528 0), (Value.str (ss "/claim/cut.py") 1282)]) #[])
noncomputable def oz_646 (P : Params) : Obj := (Obj.mk (Value.type "function") none (Data.func (FuncData.mk (ss "readlines") (ss "StringIO.readlines") (fdA (stI (clB (stI pB 30)) 27)) (FuncBody.stmts (fdB (stI (clB (stI pB 30)) 27))) (fdS (stI (clB (stI pB 30)) 27)) 3 [] (Value.ref 639) Value.none Value.none (Value.str (ss "io") 676) none (Value.ref 645) Value.none 0)) #[])
noncomputable def oz_647 (P : Params) : Obj := (Obj.mk (Value.type "tuple") none (Data.seq #[] 0) #[])
noncomputable def oz_648 (P : Params) : Obj := (Obj.mk Value.none none (Data.fields #[]) #[])
noncomputable def oz_649 (P : Params) : Obj := (Obj.mk (Value.type "tuple") none (Data.seq #[(Value.str (ss "self") 1287)] 0) #[])
noncomputable def oz_650 (P : Params) : Obj := (Obj.mk (Value.type "tuple") none (Data.seq #[] 0) #[])
noncomputable def oz_651 (P : Params) : Obj := (Obj.mk Value.none none (Data.func (FuncData.mk (ss "__iter__") (ss "StringIO.__iter__") (fdA (stI (clB (stI pB 30)) 28)) (FuncBody.stmts (fdB (stI (clB (stI pB 30)) 28))) (fdS (stI (clB (stI pB 32)) 9)) 0 [] Value.none Value.none Value.none Value.none none Value.none Value.none 0)) #[])
noncomputable def oz_652 (P : Params) : Obj := (Obj.mk (Value.type "code") none (Data.fields #[(Value.str (ss "__iter__") 1284), (Value.str (ss "StringIO.__iter__") 1285), (Value.str (ss "/claim/cut.py") 1286), (Value.int 531 0), (Value.int 1 0), (Value.int 0 0), (Value.int 0 0), (Value.int 3 0), (Value.ref 647), (Value.bool Bool.true), (Value.int 318 0), (Value.ref 648), Value.none, (Value.ref 649), (Value.ref 650), (Value.ref 651), (Value.int 1288 0), (Value.int 531 0), (Value.str (ss "/claim/cut.py") 1289)]) #[])
noncomputable def oz_653 (P : Params) : Obj := (Obj.mk (Value.type "function") none (Data.func (FuncData.mk (ss "__iter__") (ss "StringIO.__iter__") (fdA (stI (clB (stI pB 30)) 28)) (FuncBody.stmts (fdB (stI (clB (stI pB 30)) 28))) (fdS (stI (clB (stI pB 32)) 9)) 3 [] Value.none Value.none Value.none (Value.str (ss "io") 676) none (Value.ref 652) Value.none 0)) #[])
noncomputable def oz_654 (P : Params) : Obj := (Obj.mk (Value.type "tuple") none (Data.seq #[] 0) #[])
noncomputable def oz_655 (P : Params) : Obj := (Obj.mk Value.none none (Data.fields #[]) #[])
noncomputable def oz_656 (P : Params) : Obj := (Obj.mk (Value.type "tuple") none (Data.seq #[(Value.str (ss "self") 1294), (Value.str (ss "line") 1295)] 0) #[])
noncomputable def oz_657 (P : Params) : Obj := (Obj.mk (Value.type "tuple") none (Data.seq #[] 0) #[])
noncomputable def oz_658 (P : Params) : Obj := (Obj.mk Value.none none (Data.func (FuncData.mk (ss "__next__") (ss "StringIO.__next__") (fdA (stI (clB (stI pB 30)) 29)) (FuncBody.stmts (fdB (stI (clB (stI pB 30)) 29))) (fdS (stI (clB (stI pB 30)) 29)) 0 [] Value.none Value.none Value.none Value.none none Value.none Value.none 0)) #[])
noncomputable def oz_659 (P : Params) : Obj := (Obj.mk (Value.type "code") none (Data.fields #[(Value.str (ss "__next__") 1291), (Value.str (ss "StringIO.__next__") 1292), (Value.str (ss "/claim/cut.py") 1293), (Value.int 535 0), (Value.int 1 0), (Value.int 0 0), (Value.int 0 0), (Value.int 3 0), (Value.ref 654), (Value.bool Bool.true), (Value.int 318 0), (Value.ref 655), Value.none, (Value.ref 656), (Value.ref 657), (Value.ref 658), (Value.int 1296 0), (Value.int 535 0), (Value.str (ss "/claim/cut.py") 1297)]) #[])
noncomputable def oz_660 (P : Params) : Obj := (Obj.mk (Value.type "function") none (Data.func (FuncData.mk (ss "__next__") (ss "StringIO.__next__") (fdA (stI (clB (stI pB 30)) 29)) (FuncBody.stmts (fdB (stI (clB (stI pB 30)) 29))) (fdS (stI (clB (stI pB 30)) 29)) 3 [] Value.none Value.none Value.none (Value.str (ss "io") 676) none (Value.ref 659) Value.none 0)) #[])
noncomputable def oz_661 (P : Params) : Obj := (Obj.mk (Value.type "tuple") none (Data.seq #[] 0) #[])
noncomputable def oz_662 (P : Params) : Obj := (Obj.mk Value.none none (Data.fields #[]) #[])
noncomputable def oz_663 (P : Params) : Obj := (Obj.mk (Value.type "tuple") none (Data.seq #[(Value.str (ss "self") 1302), (Value.str (ss "s") 1303), (Value.str (ss "n") 1304), (Value.str (ss "m") 1305), (Value.str (ss "start") 1306), (Value.str (ss "buf") 1307)] 0) #[])
noncomputable def oz_664 (P : Params) : Obj := (Obj.mk (Value.type "tuple") none (Data.seq #[] 0) #[])
noncomputable def oz_665 (P : Params) : Obj := (Obj.mk Value.none none (Data.func (FuncData.mk (ss "write") (ss "StringIO.write") (fdA (stI (clB (stI pB 30)) 30)) (FuncBody.stmts (fdB (stI (clB (stI pB 30)) 30))) (fdS (stI (clB (stI pB 30)) 30)) 0 [] Value.none Value.none Value.none Value.none none Value.none Value.none 0)) #[])
noncomputable def oz_666 (P : Params) : Obj := (Obj.mk (Value.type "code") none (Data.fields #[(Value.str (ss "write") 1299), (Value.str (ss "StringIO.write") 1300), (Value.str (ss "/claim/cut.py") 1301), (Value.int 542 0), (Value.int 2 0), (Value.int 2 0), (Value.int 0 0), (Value.int 3 0), (Value.ref 661), (Value.bool Bool.true), (Value.int 318 0), (Value.ref 662), Value.none, (Value.ref 663), (Value.ref 664), (Value.ref 665), (Value.int 1308 0), (Value.int 542 0), (Value.str (ss "/claim/cut.py") 1309)]) #[])
noncomputable def oz_667 (P : Params) : Obj := (Obj.mk (Value.type "function") none (Data.func (FuncData.mk (ss "write") (ss "StringIO.write") (fdA (stI (clB (stI pB 30)) 30)) (FuncBody.stmts (fdB (stI (clB (stI pB 30)) 30))) (fdS (stI (clB (stI pB 30)) 30)) 3 [] Value.none Value.none Value.none (Value.str (ss "io") 676) none (Value.ref 666) Value.none 0)) #[])
noncomputable def oz_668 (P : Params) : Obj := (Obj.mk (Value.type "tuple") none (Data.seq #[] 0) #[])
noncomputable def oz_669 (P : Params) : Obj := (Obj.mk Value.none none (Data.fields #[]) #[])
noncomputable def oz_670 (P : Params) : Obj := (Obj.mk (Value.type "tuple") none (Data.seq #[(Value.str (ss "self") 1314), (Value.str (ss "lines") 1315)] 0) #[])
noncomputable def oz_671 (P : Params) : Obj := (Obj.mk (Value.type "tuple") none (Data.seq #[] 0) #[])
noncomputable def oz_672 (P : Params) : Obj := (Obj.mk Value.none none (Data.func (FuncData.mk (ss "writelines") (ss "StringIO.writelines") (fdA (stI (clB (stI pB 30)) 31)) (FuncBody.stmts (fdB (stI (clB (stI pB 30)) 31))) (fdS (stI (clB (stI pB 30)) 31)) 0 [] Value.none Value.none Value.none Value.none none Value.none Value.none 0)) #[])
noncomputable def oz_673 (P : Params) : Obj := (Obj.mk (Value.type "code") none (Data.fields #[(Value.str (ss "writelines") 1311), (Value.str (ss "StringIO.writelines") 1312), (Value.str (ss "/claim/cut.py") 1313), (Value.int 561 0), (Value.int 2 0), (Value.int 2 0), (Value.int 0 0), (Value.int 3 0), (Value.ref 668), (Value.bool Bool.true), (Value.int 318 0), (Value.ref 669), Value.none, (Value.ref 670), (Value.ref 671), (Value.ref 672), (Value.int 1316 0), (Value.int 561 0), (Value.str (ss "/claim/cut.py") 1317)]) #[])
noncomputable def oz_674 (P : Params) : Obj := (Obj.mk (Value.type "function") none (Data.func (FuncData.mk (ss "writelines") (ss "StringIO.writelines") (fdA (stI (clB (stI pB 30)) 31)) (FuncBody.stmts (fdB (stI (clB (stI pB 30)) 31))) (fdS (stI (clB (stI pB 30)) 31)) 3 [] Value.none Value.none Value.none (Value.str (ss "io") 676) none (Value.ref 673) Value.none 0)) #[])
noncomputable def oz_675 (P : Params) : Obj := (Obj.mk (Value.type "tuple") none (Data.seq #[] 0) #[])
noncomputable def oz_676 (P : Params) : Obj := (Obj.mk Value.none none (Data.fields #[]) #[])
noncomputable def oz_677 (P : Params) : Obj := (Obj.mk (Value.type "tuple") none (Data.seq #[(Value.str (ss "self") 1322)] 0) #[])
noncomputable def oz_678 (P : Params) : Obj := (Obj.mk (Value.type "tuple") none (Data.seq #[] 0) #[])
noncomputable def oz_679 (P : Params) : Obj := (Obj.mk Value.none none (Data.func (FuncData.mk (ss "__repr__") (ss "StringIO.__repr__") (fdA (stI (clB (stI pB 30)) 32)) (FuncBody.stmts (fdB (stI (clB (stI pB 30)) 32))) (fdS (stI (clB (stI pB 30)) 32)) 0 [] Value.none Value.none Value.none Value.none none Value.none Value.none 0)) #[])
noncomputable def oz_680 (P : Params) : Obj := (Obj.mk (Value.type "code") none (Data.fields #[(Value.str (ss "__repr__") 1319), (Value.str (ss "StringIO.__repr__") 1320), (Value.str (ss "/claim/cut.py") 1321), (Value.int 564 0), (Value.int 1 0), (Value.int 0 0), (Value.int 0 0), (Value.int 3 0), (Value.ref 675), (Value.bool Bool.true), (Value.int 318 0), (Value.ref 676), Value.none, (Value.ref 677), (Value.ref 678), (Value.ref 679), (Value.int 1323 0), (Value.int 564 0), (Value.str (ss "/claim/cut.py") 1324)]) #[])
noncomputable def oz_681 (P : Params) : Obj := (Obj.mk (Value.type "function") none (Data.func (FuncData.mk (ss "__repr__") (ss "StringIO.__repr__") (fdA (stI (clB (stI pB 30)) 32)) (FuncBody.stmts (fdB (stI (clB (stI pB 30)) 32))) (fdS (stI (clB (stI pB 30)) 32)) 3 [] Value.none Value.none Value.none (Value.str (ss "io") 676) none (Value.ref 680) Value.none 0)) #[])
noncomputable def oz_682 (P : Params) : Obj := (Obj.mk (Value.type "tuple") none (Data.seq #[(Value.str (ss "__buf") 1326), (Value.str (ss "__newline") 1327), (Value.str (ss "__pos") 1328)] 0) #[])
noncomputable def oz_683 (P : Params) : Obj := (Obj.mk (Value.type "dict") none (Data.dict #[(en P "__module__" 1053 (Value.str (ss "_io") 1058)), (en P "__firstlineno__" 1057 (Value.int 361 1056)), (en P "__init__" 1070 (Value.ref 454)), (en P "_StringIO__translated" 1079 (Value.ref 461)), (en P "_StringIO__check" 1086 (Value.ref 468)), (en P "_StringIO__check_dot" 1093 (Value.ref 475)), (en P "_StringIO__line" 1108 (Value.ref 482)), (en P "closed" 1116 (Value.ref 490)), (en P "line_buffering" 1124 (Value.ref 498)), (en P "newlines" 1132 (Value.ref 506)), (en P "encoding" 1140 (Value.ref 514)), (en P "errors" 1148 (Value.ref 522)), (en P "close" 1155 (Value.ref 529)), (en P "__enter__" 1162 (Value.ref 536)), (en P "__exit__" 1170 (Value.ref 543)), (en P "readable" 1177 (Value.ref 550)), (en P "writable" 1184 (Value.ref 557)), (en P "seekable" 1191 (Value.ref 564)), (en P "isatty" 1198 (Value.ref 571)), (en P "flush" 1205 (Value.ref 578)), (en P "fileno" 1212 (Value.ref 585)), (en P "detach" 1219 (Value.ref 592)), (en P "getvalue" 1226 (Value.ref 599)), (en P "tell" 1233 (Value.ref 606)), (en P "seek" 1243 (Value.ref 614)), (en P "truncate" 1251 (Value.ref 622)), (en P "read" 1263 (Value.ref 630)), (en P "readline" 1273 (Value.ref 638)), (en P "readlines" 1283 (Value.ref 646)), (en P "__iter__" 1290 (Value.ref 653)), (en P "__next__" 1298 (Value.ref 660)), (en P "write" 1310 (Value.ref 667)), (en P "writelines" 1318 (Value.ref 674)), (en P "__repr__" 1325 (Value.ref 681)), (en P "__static_attributes__" 1329 (Value.ref 682)), (en P "__doc__" 1330 Value.none)] 2) #[])
noncomputable def oz_684 (P : Params) : Obj := (Obj.mk (Value.type "type") none (Data.cls (ClassData.mk (ss "StringIO") [(Value.ref 207)] [(Value.ref 684), (Value.ref 207), (Value.ref 180), (Value.type "object")] 683 (ss "StringIO") Bool.true [] [] Bool.false none Bool.false)) #[(some (Value.ref 440)), none, (some (Value.str (ss "StringIO") 1046)), (some (Value.str (ss "StringIO") 1054)), (some Value.none), (some (Value.bool Bool.true))])
noncomputable def oz_685 (P : Params) : Obj := (Obj.mk (Value.type "super") none (Data.fields #[(Value.ref 684), (Value.ref 684), (Value.ref 684)]) #[])
noncomputable def oz_686 (P : Params) : Obj := (Obj.mk (Value.type "builtin_function_or_method") none (Data.fields #[(Value.builtin "object.__init_subclass__"), (Value.ref 684)]) #[])
noncomputable def oz_687 (P : Params) : Obj := (Obj.mk (Value.type "tuple") none (Data.seq #[] 0) #[])
noncomputable def oz_688 (P : Params) : Obj := (Obj.mk (Value.type "builtin_function_or_method") none (Data.fields #[(Value.builtin "type.__prepare__"), (Value.type "type")]) #[])
noncomputable def oz_689 (P : Params) : Obj := (Obj.mk (Value.type "dict") none (Data.dict #[(en P "__module__" 1342 (Value.str (ss "cpy313.shlex") 1333)), (en P "__qualname__" 1344 (Value.str (ss "shlex") 1343)), (en P "__firstlineno__" 1346 (Value.int 567 1345)), (en P "__init__" 1358 (Value.ref 701)), (en P "punctuation_chars" 1366 (Value.ref 709)), (en P "push_token" 1374 (Value.ref 716)), (en P "push_source" 1383 (Value.ref 724)), (en P "pop_source" 1390 (Value.ref 731)), (en P "get_token" 1402 (Value.ref 738)), (en P "read_token" 1413 (Value.ref 745)), (en P "sourcehook" 1421 (Value.ref 752)), (en P "error_leader" 1430 (Value.ref 760)), (en P "__iter__" 1437 (Value.ref 767)), (en P "__next__" 1445 (Value.ref 774)), (en P "__static_attributes__" 1466 (Value.ref 775))] 15) #[])
noncomputable def oz_690 (P : Params) : Obj := (Obj.mk (Value.type "tuple") none (Data.seq #[] 0) #[])
noncomputable def oz_691 (P : Params) : Obj := (Obj.mk Value.none none (Data.fields #[(Value.int 569 0), (Value.int 4 0), (Value.ref 700), (Value.int 611 0), (Value.int 4 0), (Value.ref 707), (Value.int 614 0), (Value.int 4 0), (Value.ref 715), (Value.int 619 0), (Value.int 4 0), (Value.ref 723), (Value.int 632 0), (Value.int 4 0), (Value.ref 730), (Value.int 639 0), (Value.int 4 0), (Value.ref 737), (Value.int 666 0), (Value.int 4 0), (Value.ref 744), (Value.int 803 0), (Value.int 4 0), (Value.ref 751), (Value.int 810 0), (Value.int 4 0), (Value.ref 759), (Value.int 813 0), (Value.int 4 0), (Value.ref 766), (Value.int 816 0), (Value.int 4 0), (Value.ref 773)]) #[])
noncomputable def oz_692 (P : Params) : Obj := (Obj.mk (Value.type "code") none (Data.fields #[(Value.str (ss "shlex") 1337), (Value.str (ss "shlex") 1338), (Value.str (ss "/claim/cut.py") 1339), (Value.int 567 0), (Value.int 0 0), (Value.int 0 0), (Value.int 0 0), (Value.int 0 0), (Value.ref 690), (Value.bool Bool.false), (Value.int 318 0), (Value.ref 691), Value.none, Value.none, Value.none, Value.none, (Value.int 1340 0), (Value.int 567 0), (Value.str (ss "/claim/cut.py") 1341)]) #[])
noncomputable def oz_693 (P : Params) : Obj := (Obj.mk (Value.type "frame") none Data.plain #[(some (Value.ref 692)), (some (Value.ref 3)), (some (Value.ref 689)), none, (some (Value.str (ss "cpy313.shlex") 1333)), none, (some (Value.ref 0))])
noncomputable def oz_694 (P : Params) : Obj := (Obj.mk (Value.type "tuple") none (Data.seq #[Value.none, Value.none, (Value.bool Bool.false), (Value.bool Bool.false)] 0) #[])
noncomputable def oz_695 (P : Params) : Obj := (Obj.mk (Value.type "tuple") none (Data.seq #[] 0) #[])
noncomputable def oz_696 (P : Params) : Obj := (Obj.mk Value.none none (Data.fields #[]) #[])
noncomputable def oz_697 (P : Params) : Obj := (Obj.mk (Value.type "tuple") none (Data.seq #[(Value.str (ss "self") 1350), (Value.str (ss "instream") 1351), (Value.str (ss "infile") 1352), (Value.str (ss "posix") 1353), (Value.str (ss "punctuation_chars") 1354), (Value.str (ss "t") 1355)] 0) #[])
noncomputable def oz_698 (P : Params) : Obj := (Obj.mk (Value.type "tuple") none (Data.seq #[] 0) #[])
noncomputable def oz_699 (P : Params) : Obj := (Obj.mk Value.none none (Data.func (FuncData.mk (ss "__init__") (ss "shlex.__init__") (fdA (stI (clB (stI pB 32)) 0)) (FuncBody.stmts (fdB (stI (clB (stI pB 32)) 0))) (fdS (stI (clB (stI pB 32)) 0)) 0 [] Value.none Value.none Value.none Value.none none Value.none Value.none 0)) #[])
noncomputable def oz_700 (P : Params) : Obj := (Obj.mk (Value.type "code") none (Data.fields #[(Value.str (ss "__init__") 1347), (Value.str (ss "shlex.__init__") 1348), (Value.str (ss "/claim/cut.py") 1349), (Value.int 569 0), (Value.int 5 0), (Value.int 0 0), (Value.int 0 0), (Value.int 3 0), (Value.ref 695), (Value.bool Bool.true), (Value.int 318 0), (Value.ref 696), Value.none, (Value.ref 697), (Value.ref 698), (Value.ref 699), (Value.int 1356 0), (Value.int 569 0), (Value.str (ss "/claim/cut.py") 1357)]) #[])
noncomputable def oz_701 (P : Params) : Obj := (Obj.mk (Value.type "function") none (Data.func (FuncData.mk (ss "__init__") (ss "shlex.__init__") (fdA (stI (clB (stI pB 32)) 0)) (FuncBody.stmts (fdB (stI (clB (stI pB 32)) 0))) (fdS (stI (clB (stI pB 32)) 0)) 3 [] (Value.ref 694) Value.none Value.none (Value.str (ss "cpy313.shlex") 1333) none (Value.ref 700) Value.none 0)) #[])
noncomputable def oz_702 (P : Params) : Obj := (Obj.mk (Value.type "tuple") none (Data.seq #[] 0) #[])
noncomputable def oz_703 (P : Params) : Obj := (Obj.mk Value.none none (Data.fields #[]) #[])
noncomputable def oz_704 (P : Params) : Obj := (Obj.mk (Value.type "tuple") none (Data.seq #[(Value.str (ss "self") 1362)] 0) #[])
noncomputable def oz_705 (P : Params) : Obj := (Obj.mk (Value.type "tuple") none (Data.seq #[] 0) #[])
noncomputable def oz_706 (P : Params) : Obj := (Obj.mk Value.none none (Data.func (FuncData.mk (ss "punctuation_chars") (ss "shlex.punctuation_chars") (fdA (stI (clB (stI pB 32)) 1)) (FuncBody.stmts (fdB (stI (clB (stI pB 32)) 1))) (fdS (stI (clB (stI pB 32)) 9)) 0 [] Value.none Value.none Value.none Value.none none Value.none Value.none 0)) #[])
noncomputable def oz_707 (P : Params) : Obj := (Obj.mk (Value.type "code") none (Data.fields #[(Value.str (ss "punctuation_chars") 1359), (Value.str (ss "shlex.punctuation_chars") 1360), (Value.str (ss "/claim/cut.py") 1361), (Value.int 610 0), (Value.int 1 0), (Value.int 0 0), (Value.int 0 0), (Value.int 3 0), (Value.ref 702), (Value.bool Bool.true), (Value.int 318 0), (Value.ref 703), Value.none, (Value.ref 704), (Value.ref 705), (Value.ref 706), (Value.int 1363 0), (Value.int 610 0), (Value.str (ss "/claim/cut.py") 1364)]) #[])
noncomputable def oz_708 (P : Params) : Obj := (Obj.mk (Value.type "function") none (Data.func (FuncData.mk (ss "punctuation_chars") (ss "shlex.punctuation_chars") (fdA (stI (clB (stI pB 32)) 1)) (FuncBody.stmts (fdB (stI (clB (stI pB 32)) 1))) (fdS (stI (clB (stI pB 32)) 9)) 3 [] Value.none Value.none Value.none (Value.str (ss "cpy313.shlex") 1333) none (Value.ref 707) Value.none 0)) #[])
noncomputable def oz_709 (P : Params) : Obj := (Obj.mk (Value.type "property") none (Data.fields #[(Value.ref 708), Value.none, Value.none, Value.none, (Value.str (ss "punctuation_chars") 1366), (Value.bool Bool.false)]) #[])
noncomputable def oz_710 (P : Params) : Obj := (Obj.mk (Value.type "tuple") none (Data.seq #[] 0) #[])
noncomputable def oz_711 (P : Params) : Obj := (Obj.mk Value.none none (Data.fields #[]) #[])
noncomputable def oz_712 (P : Params) : Obj := (Obj.mk (Value.type "tuple") none (Data.seq #[(Value.str (ss "self") 1370), (Value.str (ss "tok") 1371)] 0) #[])
noncomputable def oz_713 (P : Params) : Obj := (Obj.mk (Value.type "tuple") none (Data.seq #[] 0) #[])
noncomputable def oz_714 (P : Params) : Obj := (Obj.mk Value.none none (Data.func (FuncData.mk (ss "push_token") (ss "shlex.push_token") (fdA (stI (clB (stI pB 32)) 2)) (FuncBody.stmts (fdB (stI (clB (stI pB 32)) 2))) (fdS (stI (clB (stI pB 32)) 2)) 0 [] Value.none Value.none Value.none Value.none none Value.none Value.none 0)) #[])
noncomputable def oz_715 (P : Params) : Obj := (Obj.mk (Value.type "code") none (Data.fields #[(Value.str (ss "push_token") 1367), (Value.str (ss "shlex.push_token") 1368), (Value.str (ss "/claim/cut.py") 1369), (Value.int 614 0), (Value.int 2 0), (Value.int 0 0), (Value.int 0 0), (Value.int 3 0), (Value.ref 710), (Value.bool Bool.true), (Value.int 318 0), (Value.ref 711), Value.none, (Value.ref 712), (Value.ref 713), (Value.ref 714), (Value.int 1372 0), (Value.int 614 0), (Value.str (ss "/claim/cut.py") 1373)]) #[])
noncomputable def oz_716 (P : Params) : Obj := (Obj.mk (Value.type "function") none (Data.func (FuncData.mk (ss "push_token") (ss "shlex.push_token") (fdA (stI (clB (stI pB 32)) 2)) (FuncBody.stmts (fdB (stI (clB (stI pB 32)) 2))) (fdS (stI (clB (stI pB 32)) 2)) 3 [] Value.none Value.none Value.none (Value.str (ss "cpy313.shlex") 1333) none (Value.ref 715) Value.none 0)) #[])
noncomputable def oz_717 (P : Params) : Obj := (Obj.mk (Value.type "tuple") none (Data.seq #[Value.none] 0) #[])
noncomputable def oz_718 (P : Params) : Obj := (Obj.mk (Value.type "tuple") none (Data.seq #[] 0) #[])
noncomputable def oz_719 (P : Params) : Obj := (Obj.mk Value.none none (Data.fields #[]) #[])
noncomputable def oz_720 (P : Params) : Obj := (Obj.mk (Value.type "tuple") none (Data.seq #[(Value.str (ss "self") 1378), (Value.str (ss "newstream") 1379), (Value.str (ss "newfile") 1380)] 0) #[])
noncomputable def oz_721 (P : Params) : Obj := (Obj.mk (Value.type "tuple") none (Data.seq #[] 0) #[])
noncomputable def oz_722 (P : Params) : Obj := (Obj.mk Value.none none (Data.func (FuncData.mk (ss "push_source") (ss "shlex.push_source") (fdA (stI (clB (stI pB 32)) 3)) (FuncBody.stmts (fdB (stI (clB (stI pB 32)) 3))) (fdS (stI (clB (stI pB 32)) 3)) 0 [] Value.none Value.none Value.none Value.none none Value.none Value.none 0)) #[])
noncomputable def oz_723 (P : Params) : Obj := (Obj.mk (Value.type "code") none (Data.fields #[(Value.str (ss "push_source") 1375), (Value.str (ss "shlex.push_source") 1376), (Value.str (ss "/claim/cut.py") 1377), (Value.int 619 0), (Value.int 3 0), (Value.int 0 0), (Value.int 0 0), (Value.int 3 0), (Value.ref 718), (Value.bool Bool.true), (Value.int 318 0), (Value.ref 719), Value.none, (Value.ref 720), (Value.ref 721), (Value.ref 722), (Value.int 1381 0), (Value.int 619 0), (Value.str (ss "/claim/cut.py") 1382)]) #[])
noncomputable def oz_724 (P : Params) : Obj := (Obj.mk (Value.type "function") none (Data.func (FuncData.mk (ss "push_source") (ss "shlex.push_source") (fdA (stI (clB (stI pB 32)) 3)) (FuncBody.stmts (fdB (stI (clB (stI pB 32)) 3))) (fdS (stI (clB (stI pB 32)) 3)) 3 [] (Value.ref 717) Value.none Value.none (Value.str (ss "cpy313.shlex") 1333) none (Value.ref 723) Value.none 0)) #[])
noncomputable def oz_725 (P : Params) : Obj := (Obj.mk (Value.type "tuple") none (Data.seq #[] 0) #[])
noncomputable def oz_726 (P : Params) : Obj := (Obj.mk Value.none none (Data.fields #[]) #[])
noncomputable def oz_727 (P : Params) : Obj := (Obj.mk (Value.type "tuple") none (Data.seq #[(Value.str (ss "self") 1387)] 0) #[])
noncomputable def oz_728 (P : Params) : Obj := (Obj.mk (Value.type "tuple") none (Data.seq #[] 0) #[])
noncomputable def oz_729 (P : Params) : Obj := (Obj.mk Value.none none (Data.func (FuncData.mk (ss "pop_source") (ss "shlex.pop_source") (fdA (stI (clB (stI pB 32)) 4)) (FuncBody.stmts (fdB (stI (clB (stI pB 32)) 4))) (fdS (stI (clB (stI pB 32)) 4)) 0 [] Value.none Value.none Value.none Value.none none Value.none Value.none 0)) #[])
noncomputable def oz_730 (P : Params) : Obj := (Obj.mk (Value.type "code") none (Data.fields #[(Value.str (ss "pop_source") 1384), (Value.str (ss "shlex.pop_source") 1385), (Value.str (ss "/claim/cut.py") 1386), (Value.int 632 0), (Value.int 1 0), (Value.int 0 0), (Value.int 0 0), (Value.int 3 0), (Value.ref 725), (Value.bool Bool.true), (Value.int 318 0), (Value.ref 726), Value.none, (Value.ref 727), (Value.ref 728), (Value.ref 729), (Value.int 1388 0), (Value.int 632 0), (Value.str (ss "/claim/cut.py") 1389)]) #[])
noncomputable def oz_731 (P : Params) : Obj := (Obj.mk (Value.type "function") none (Data.func (FuncData.mk (ss "pop_source") (ss "shlex.pop_source") (fdA (stI (clB (stI pB 32)) 4)) (FuncBody.stmts (fdB (stI (clB (stI pB 32)) 4))) (fdS (stI (clB (stI pB 32)) 4)) 3 [] Value.none Value.none Value.none (Value.str (ss "cpy313.shlex") 1333) none (Value.ref 730) Value.none 0)) #[])
noncomputable def oz_732 (P : Params) : Obj := (Obj.mk (Value.type "tuple") none (Data.seq #[] 0) #[])
noncomputable def oz_733 (P : Params) : Obj := (Obj.mk Value.none none (Data.fields #[]) #[])
noncomputable def oz_734 (P : Params) : Obj := (Obj.mk (Value.type "tuple") none (Data.seq #[(Value.str (ss "self") 1394), (Value.str (ss "tok") 1395), (Value.str (ss "raw") 1396), (Value.str (ss "spec") 1397), (Value.str (ss "newfile") 1398), (Value.str (ss "newstream") 1399)] 0) #[])
noncomputable def oz_735 (P : Params) : Obj := (Obj.mk (Value.type "tuple") none (Data.seq #[] 0) #[])
noncomputable def oz_736 (P : Params) : Obj := (Obj.mk Value.none none (Data.func (FuncData.mk (ss "get_token") (ss "shlex.get_token") (fdA (stI (clB (stI pB 32)) 5)) (FuncBody.stmts (fdB (stI (clB (stI pB 32)) 5))) (fdS (stI (clB (stI pB 32)) 5)) 0 [] Value.none Value.none Value.none Value.none none Value.none Value.none 0)) #[])
noncomputable def oz_737 (P : Params) : Obj := (Obj.mk (Value.type "code") none (Data.fields #[(Value.str (ss "get_token") 1391), (Value.str (ss "shlex.get_token") 1392), (Value.str (ss "/claim/cut.py") 1393), (Value.int 639 0), (Value.int 1 0), (Value.int 0 0), (Value.int 0 0), (Value.int 3 0), (Value.ref 732), (Value.bool Bool.true), (Value.int 318 0), (Value.ref 733), Value.none, (Value.ref 734), (Value.ref 735), (Value.ref 736), (Value.int 1400 0), (Value.int 639 0), (Value.str (ss "/claim/cut.py") 1401)]) #[])
noncomputable def oz_738 (P : Params) : Obj := (Obj.mk (Value.type "function") none (Data.func (FuncData.mk (ss "get_token") (ss "shlex.get_token") (fdA (stI (clB (stI pB 32)) 5)) (FuncBody.stmts (fdB (stI (clB (stI pB 32)) 5))) (fdS (stI (clB (stI pB 32)) 5)) 3 [] Value.none Value.none Value.none (Value.str (ss "cpy313.shlex") 1333) none (Value.ref 737) Value.none 0)) #[])
noncomputable def oz_739 (P : Params) : Obj := (Obj.mk (Value.type "tuple") none (Data.seq #[] 0) #[])
noncomputable def oz_740 (P : Params) : Obj := (Obj.mk Value.none none (Data.fields #[]) #[])
noncomputable def oz_741 (P : Params) : Obj := (Obj.mk (Value.type "tuple") none (Data.seq #[(Value.str (ss "self") 1406), (Value.str (ss "quoted") 1407), (Value.str (ss "escapedstate") 1408), (Value.str (ss "nextchar") 1409), (Value.str (ss "result") 1410)] 0) #[])
noncomputable def oz_742 (P : Params) : Obj := (Obj.mk (Value.type "tuple") none (Data.seq #[] 0) #[])
noncomputable def oz_743 (P : Params) : Obj := (Obj.mk Value.none none (Data.func (FuncData.mk (ss "read_token") (ss "shlex.read_token") (fdA (stI (clB (stI pB 32)) 6)) (FuncBody.stmts (fdB (stI (clB (stI pB 32)) 6))) (fdS (stI (clB (stI pB 32)) 6)) 0 [] Value.none Value.none Value.none Value.none none Value.none Value.none 0)) #[])
noncomputable def oz_744 (P : Params) : Obj := (Obj.mk (Value.type "code") none (Data.fields #[(Value.str (ss "read_token") 1403), (Value.str (ss "shlex.read_token") 1404), (Value.str (ss "/claim/cut.py") 1405), (Value.int 666 0), (Value.int 1 0), (Value.int 0 0), (Value.int 0 0), (Value.int 3 0), (Value.ref 739), (Value.bool Bool.true), (Value.int 318 0), (Value.ref 740), Value.none, (Value.ref 741), (Value.ref 742), (Value.ref 743), (Value.int 1411 0), (Value.int 666 0), (Value.str (ss "/claim/cut.py") 1412)]) #[])
noncomputable def oz_745 (P : Params) : Obj := (Obj.mk (Value.type "function") none (Data.func (FuncData.mk (ss "read_token") (ss "shlex.read_token") (fdA (stI (clB (stI pB 32)) 6)) (FuncBody.stmts (fdB (stI (clB (stI pB 32)) 6))) (fdS (stI (clB (stI pB 32)) 6)) 3 [] Value.none Value.none Value.none (Value.str (ss "cpy313.shlex") 1333) none (Value.ref 744) Value.none 0)) #[])
noncomputable def oz_746 (P : Params) : Obj := (Obj.mk (Value.type "tuple") none (Data.seq #[] 0) #[])
noncomputable def oz_747 (P : Params) : Obj := (Obj.mk Value.none none (Data.fields #[]) #[])
noncomputable def oz_748 (P : Params) : Obj := (Obj.mk (Value.type "tuple") none (Data.seq #[(Value.str (ss "self") 1417), (Value.str (ss "newfile") 1418)] 0) #[])
noncomputable def oz_749 (P : Params) : Obj := (Obj.mk (Value.type "tuple") none (Data.seq #[] 0) #[])
noncomputable def oz_750 (P : Params) : Obj := (Obj.mk Value.none none (Data.func (FuncData.mk (ss "sourcehook") (ss "shlex.sourcehook") (fdA (stI (clB (stI pB 32)) 7)) (FuncBody.stmts (fdB (stI (clB (stI pB 32)) 7))) (fdS (stI (clB (stI pB 32)) 7)) 0 [] Value.none Value.none Value.none Value.none none Value.none Value.none 0)) #[])
noncomputable def oz_751 (P : Params) : Obj := (Obj.mk (Value.type "code") none (Data.fields #[(Value.str (ss "sourcehook") 1414), (Value.str (ss "shlex.sourcehook") 1415), (Value.str (ss "/claim/cut.py") 1416), (Value.int 803 0), (Value.int 2 0), (Value.int 0 0), (Value.int 0 0), (Value.int 3 0), (Value.ref 746), (Value.bool Bool.true), (Value.int 318 0), (Value.ref 747), Value.none, (Value.ref 748), (Value.ref 749), (Value.ref 750), (Value.int 1419 0), (Value.int 803 0), (Value.str (ss "/claim/cut.py") 1420)]) #[])
noncomputable def oz_752 (P : Params) : Obj := (Obj.mk (Value.type "function") none (Data.func (FuncData.mk (ss "sourcehook") (ss "shlex.sourcehook") (fdA (stI (clB (stI pB 32)) 7)) (FuncBody.stmts (fdB (stI (clB (stI pB 32)) 7))) (fdS (stI (clB (stI pB 32)) 7)) 3 [] Value.none Value.none Value.none (Value.str (ss "cpy313.shlex") 1333) none (Value.ref 751) Value.none 0)) #[])
noncomputable def oz_753 (P : Params) : Obj := (Obj.mk (Value.type "tuple") none (Data.seq #[Value.none, Value.none] 0) #[])
noncomputable def oz_754 (P : Params) : Obj := (Obj.mk (Value.type "tuple") none (Data.seq #[] 0) #[])
noncomputable def oz_755 (P : Params) : Obj := (Obj.mk Value.none none (Data.fields #[]) #[])
noncomputable def oz_756 (P : Params) : Obj := (Obj.mk (Value.type "tuple") none (Data.seq #[(Value.str (ss "self") 1425), (Value.str (ss "infile") 1426), (Value.str (ss "lineno") 1427)] 0) #[])
noncomputable def oz_757 (P : Params) : Obj := (Obj.mk (Value.type "tuple") none (Data.seq #[] 0) #[])
noncomputable def oz_758 (P : Params) : Obj := (Obj.mk Value.none none (Data.func (FuncData.mk (ss "error_leader") (ss "shlex.error_leader") (fdA (stI (clB (stI pB 32)) 8)) (FuncBody.stmts (fdB (stI (clB (stI pB 32)) 8))) (fdS (stI (clB (stI pB 32)) 8)) 0 [] Value.none Value.none Value.none Value.none none Value.none Value.none 0)) #[])
noncomputable def oz_759 (P : Params) : Obj := (Obj.mk (Value.type "code") none (Data.fields #[(Value.str (ss "error_leader") 1422), (Value.str (ss "shlex.error_leader") 1423), (Value.str (ss "/claim/cut.py") 1424), (Value.int 810 0), (Value.int 3 0), (Value.int 0 0), (Value.int 0 0), (Value.int 3 0), (Value.ref 754), (Value.bool Bool.true), (Value.int 318 0), (Value.ref 755), Value.none, (Value.ref 756), (Value.ref 757), (Value.ref 758), (Value.int 1428 0), (Value.int 810 0), (Value.str (ss "/claim/cut.py") 1429)]) #[])
noncomputable def oz_760 (P : Params) : Obj := (Obj.mk (Value.type "function") none (Data.func (FuncData.mk (ss "error_leader") (ss "shlex.error_leader") (fdA (stI (clB (stI pB 32)) 8)) (FuncBody.stmts (fdB (stI (clB (stI pB 32)) 8))) (fdS (stI (clB (stI pB 32)) 8)) 3 [] (Value.ref 753) Value.none Value.none (Value.str (ss "cpy313.shlex") 1333) none (Value.ref 759) Value.none 0)) #[])
noncomputable def oz_761 (P : Params) : Obj := (Obj.mk (Value.type "tuple") none (Data.seq #[] 0) #[])
noncomputable def oz_762 (P : Params) : Obj := (Obj.mk Value.none none (Data.fields #[]) #[])
noncomputable def oz_763 (P : Params) : Obj := (Obj.mk (Value.type "tuple") none (Data.seq #[(Value.str (ss "self") 1434)] 0) #[])
noncomputable def oz_764 (P : Params) : Obj := (Obj.mk (Value.type "tuple") none (Data.seq #[] 0) #[])
noncomputable def oz_765 (P : Params) : Obj := (Obj.mk Value.none none (Data.func (FuncData.mk (ss "__iter__") (ss "shlex.__iter__") (fdA (stI (clB (stI pB 32)) 9)) (FuncBody.stmts (fdB (stI (clB (stI pB 32)) 9))) (fdS (stI (clB (stI pB 32)) 9)) 0 [] Value.none Value.none Value.none Value.none none Value.none Value.none 0)) #[])
noncomputable def oz_766 (P : Params) : Obj := (Obj.mk (Value.type "code") none (Data.fields #[(Value.str (ss "__iter__") 1431), (Value.str (ss "shlex.__iter__") 1432), (Value.str (ss "/claim/cut.py") 1433), (Value.int 813 0), (Value.int 1 0), (Value.int 0 0), (Value.int 0 0), (Value.int 3 0), (Value.ref 761), (Value.bool Bool.true), (Value.int 318 0), (Value.ref 762), Value.none, (Value.ref 763), (Value.ref 764), (Value.ref 765), (Value.int 1435 0), (Value.int 813 0), (Value.str (ss "/claim/cut.py") 1436)]) #[])
noncomputable def oz_767 (P : Params) : Obj := (Obj.mk (Value.type "function") none (Data.func (FuncData.mk (ss "__iter__") (ss "shlex.__iter__") (fdA (stI (clB (stI pB 32)) 9)) (FuncBody.stmts (fdB (stI (clB (stI pB 32)) 9))) (fdS (stI (clB (stI pB 32)) 9)) 3 [] Value.none Value.none Value.none (Value.str (ss "cpy313.shlex") 1333) none (Value.ref 766) Value.none 0)) #[])
noncomputable def oz_768 (P : Params) : Obj := (Obj.mk (Value.type "tuple") none (Data.seq #[] 0) #[])
noncomputable def oz_769 (P : Params) : Obj := (Obj.mk Value.none none (Data.fields #[]) #[])
noncomputable def oz_770 (P : Params) : Obj := (Obj.mk (Value.type "tuple") none (Data.seq #[(Value.str (ss "self") 1441), (Value.str (ss "token") 1442)] 0) #[])
noncomputable def oz_771 (P : Params) : Obj := (Obj.mk (Value.type "tuple") none (Data.seq #[] 0) #[])
noncomputable def oz_772 (P : Params) : Obj := (Obj.mk Value.none none (Data.func (FuncData.mk (ss "__next__") (ss "shlex.__next__") (fdA (stI (clB (stI pB 32)) 10)) (FuncBody.stmts (fdB (stI (clB (stI pB 32)) 10))) (fdS (stI (clB (stI pB 32)) 10)) 0 [] Value.none Value.none Value.none Value.none none Value.none Value.none 0)) #[])
noncomputable def oz_773 (P : Params) : Obj := (Obj.mk (Value.type "code") none (Data.fields #[(Value.str (ss "__next__") 1438), (Value.str (ss "shlex.__next__") 1439), (Value.str (ss "/claim/cut.py") 1440), (Value.int 816 0), (Value.int 1 0), (Value.int 0 0), (Value.int 0 0), (Value.int 3 0), (Value.ref 768), (Value.bool Bool.true), (Value.int 318 0), (Value.ref 769), Value.none, (Value.ref 770), (Value.ref 771), (Value.ref 772), (Value.int 1443 0), (Value.int 816 0), (Value.str (ss "/claim/cut.py") 1444)]) #[])
noncomputable def oz_774 (P : Params) : Obj := (Obj.mk (Value.type "function") none (Data.func (FuncData.mk (ss "__next__") (ss "shlex.__next__") (fdA (stI (clB (stI pB 32)) 10)) (FuncBody.stmts (fdB (stI (clB (stI pB 32)) 10))) (fdS (stI (clB (stI pB 32)) 10)) 3 [] Value.none Value.none Value.none (Value.str (ss "cpy313.shlex") 1333) none (Value.ref 773) Value.none 0)) #[])
noncomputable def oz_775 (P : Params) : Obj := (Obj.mk (Value.type "tuple") none (Data.seq #[(Value.str (ss "_punctuation_chars") 1446), (Value.str (ss "_pushback_chars") 1447), (Value.str (ss "commenters") 1448), (Value.str (ss "debug") 1449), (Value.str (ss "eof") 1450), (Value.str (ss "escape") 1451), (Value.str (ss "escapedquotes") 1452), (Value.str (ss "filestack") 1453), (Value.str (ss "infile") 1454), (Value.str (ss "instream") 1455), (Value.str (ss "lineno") 1456), (Value.str (ss "posix") 1457), (Value.str (ss "pushback") 1458), (Value.str (ss "quotes") 1459), (Value.str (ss "source") 1460), (Value.str (ss "state") 1461), (Value.str (ss "token") 1462), (Value.str (ss "whitespace") 1463), (Value.str (ss "whitespace_split") 1464), (Value.str (ss "wordchars") 1465)] 0) #[])
noncomputable def oz_776 (P : Params) : Obj := (Obj.mk (Value.type "dict") none (Data.dict #[(en P "__module__" 1342 (Value.str (ss "cpy313.shlex") 1333)), (en P "__firstlineno__" 1346 (Value.int 567 1345)), (en P "__init__" 1358 (Value.ref 701)), (en P "punctuation_chars" 1366 (Value.ref 709)), (en P "push_token" 1374 (Value.ref 716)), (en P "push_source" 1383 (Value.ref 724)), (en P "pop_source" 1390 (Value.ref 731)), (en P "get_token" 1402 (Value.ref 738)), (en P "read_token" 1413 (Value.ref 745)), (en P "sourcehook" 1421 (Value.ref 752)), (en P "error_leader" 1430 (Value.ref 760)), (en P "__iter__" 1437 (Value.ref 767)), (en P "__next__" 1445 (Value.ref 774)), (en P "__static_attributes__" 1466 (Value.ref 775)), (en P "__dict__" 1468 (Value.ref 778)), (en P "__weakref__" 1470 (Value.ref 779)), (en P "__doc__" 1471 Value.none)] 4) #[])
noncomputable def oz_777 (P : Params) : Obj := (Obj.mk (Value.type "type") none (Data.cls (ClassData.mk (ss "shlex") [(Value.type "object")] [(Value.ref 777), (Value.type "object")] 776 (ss "shlex") Bool.true [] [] Bool.false none Bool.false)) #[none, none, (some (Value.str (ss "shlex") 1335)), (some (Value.str (ss "shlex") 1343)), (some (Value.builtin "object.__new__")), (some (Value.bool Bool.true))])
noncomputable def oz_778 (P : Params) : Obj := (Obj.mk (Value.type "getset_descriptor") none (Data.fields #[(Value.str (ss "__dict__") 1467), (Value.ref 777), (Value.builtin "function.__dict__"), (Value.builtin "function.__dict__#set")]) #[])
noncomputable def oz_779 (P : Params) : Obj := (Obj.mk (Value.type "getset_descriptor") none (Data.fields #[(Value.str (ss "__weakref__") 1469), (Value.ref 777), (Value.builtin "ExceptionGroup.__weakref__"), Value.none]) #[])
noncomputable def oz_780 (P : Params) : Obj := (Obj.mk (Value.type "super") none (Data.fields #[(Value.ref 777), (Value.ref 777), (Value.ref 777)]) #[])
noncomputable def oz_781 (P : Params) : Obj := (Obj.mk (Value.type "builtin_function_or_method") none (Data.fields #[(Value.builtin "object.__init_subclass__"), (Value.ref 777)]) #[])
noncomputable def oz_782 (P : Params) : Obj := (Obj.mk (Value.type "tuple") none (Data.seq #[(Value.bool Bool.false), (Value.bool Bool.true)] 0) #[])
noncomputable def oz_783 (P : Params) : Obj := (Obj.mk (Value.type "tuple") none (Data.seq #[] 0) #[])
noncomputable def oz_784 (P : Params) : Obj := (Obj.mk Value.none none (Data.fields #[]) #[])
noncomputable def oz_785 (P : Params) : Obj := (Obj.mk (Value.type "tuple") none (Data.seq #[(Value.str (ss "s") 1477), (Value.str (ss "comments") 1478), (Value.str (ss "posix") 1479), (Value.str (ss "lex") 1480)] 0) #[])
noncomputable def oz_786 (P : Params) : Obj := (Obj.mk (Value.type "tuple") none (Data.seq #[] 0) #[])
noncomputable def oz_787 (P : Params) : Obj := (Obj.mk Value.none none (Data.func (FuncData.mk (ss "split") (ss "split") (fdA (stI pB 33)) (FuncBody.stmts (fdB (stI pB 33))) (fdS (stI pB 33)) 0 [] Value.none Value.none Value.none Value.none none Value.none Value.none 0)) #[])
noncomputable def oz_788 (P : Params) : Obj := (Obj.mk (Value.type "code") none (Data.fields #[(Value.str (ss "split") 1474), (Value.str (ss "split") 1475), (Value.str (ss "/claim/cut.py") 1476), (Value.int 821 0), (Value.int 3 0), (Value.int 0 0), (Value.int 0 0), (Value.int 3 0), (Value.ref 783), (Value.bool Bool.true), (Value.int 318 0), (Value.ref 784), Value.none, (Value.ref 785), (Value.ref 786), (Value.ref 787), (Value.int 1481 0), (Value.int 821 0), (Value.str (ss "/claim/cut.py") 1482)]) #[])
noncomputable def oz_789 (P : Params) : Obj := (Obj.mk (Value.type "function") none (Data.func (FuncData.mk (ss "split") (ss "split") (fdA (stI pB 33)) (FuncBody.stmts (fdB (stI pB 33))) (fdS (stI pB 33)) 3 [] (Value.ref 782) Value.none Value.none (Value.str (ss "cpy313.shlex") 1333) none (Value.ref 788) Value.none 0)) #[])
noncomputable def oz_790 (P : Params) : Obj := (Obj.mk (Value.type "tuple") none (Data.seq #[] 0) #[])
noncomputable def oz_791 (P : Params) : Obj := (Obj.mk Value.none none (Data.fields #[]) #[])
noncomputable def oz_792 (P : Params) : Obj := (Obj.mk (Value.type "tuple") none (Data.seq #[(Value.str (ss "split_command") 1487)] 0) #[])
noncomputable def oz_793 (P : Params) : Obj := (Obj.mk (Value.type "tuple") none (Data.seq #[] 0) #[])
noncomputable def oz_794 (P : Params) : Obj := (Obj.mk Value.none none (Data.func (FuncData.mk (ss "join") (ss "join") (fdA (stI pB 34)) (FuncBody.stmts (fdB (stI pB 34))) (fdS (stI pB 34)) 0 [] Value.none Value.none Value.none Value.none none Value.none Value.none 0)) #[])
noncomputable def oz_795 (P : Params) : Obj := (Obj.mk (Value.type "code") none (Data.fields #[(Value.str (ss "join") 1484), (Value.str (ss "join") 1485), (Value.str (ss "/claim/cut.py") 1486), (Value.int 829 0), (Value.int 1 0), (Value.int 0 0), (Value.int 0 0), (Value.int 3 0), (Value.ref 790), (Value.bool Bool.true), (Value.int 318 0), (Value.ref 791), Value.none, (Value.ref 792), (Value.ref 793), (Value.ref 794), (Value.int 1488 0), (Value.int 829 0), (Value.str (ss "/claim/cut.py") 1489)]) #[])
noncomputable def oz_796 (P : Params) : Obj := (Obj.mk (Value.type "function") none (Data.func (FuncData.mk (ss "join") (ss "join") (fdA (stI pB 34)) (FuncBody.stmts (fdB (stI pB 34))) (fdS (stI pB 34)) 3 [] Value.none Value.none Value.none (Value.str (ss "cpy313.shlex") 1333) none (Value.ref 795) Value.none 0)) #[])
noncomputable def oz_797 (P : Params) : Obj := (Obj.mk (Value.type "builtin_function_or_method") none (Data.fields #[(Value.builtin "re.Pattern.search"), (Value.ref 136)]) #[])
noncomputable def oz_798 (P : Params) : Obj := (Obj.mk (Value.type "tuple") none (Data.seq #[] 0) #[])
noncomputable def oz_799 (P : Params) : Obj := (Obj.mk Value.none none (Data.fields #[]) #[])
noncomputable def oz_800 (P : Params) : Obj := (Obj.mk (Value.type "tuple") none (Data.seq #[(Value.str (ss "s") 1497)] 0) #[])
noncomputable def oz_801 (P : Params) : Obj := (Obj.mk (Value.type "tuple") none (Data.seq #[] 0) #[])
noncomputable def oz_802 (P : Params) : Obj := (Obj.mk Value.none none (Data.func (FuncData.mk (ss "quote") (ss "quote") (fdA (stI pB 37)) (FuncBody.stmts (fdB (stI pB 37))) (fdS (stI pB 37)) 0 [] Value.none Value.none Value.none Value.none none Value.none Value.none 0)) #[])
noncomputable def oz_803 (P : Params) : Obj := (Obj.mk (Value.type "code") none (Data.fields #[(Value.str (ss "quote") 1494), (Value.str (ss "quote") 1495), (Value.str (ss "/claim/cut.py") 1496), (Value.int 833 0), (Value.int 1 0), (Value.int 0 0), (Value.int 0 0), (Value.int 3 0), (Value.ref 798), (Value.bool Bool.true), (Value.int 318 0), (Value.ref 799), Value.none, (Value.ref 800), (Value.ref 801), (Value.ref 802), (Value.int 1498 0), (Value.int 833 0), (Value.str (ss "/claim/cut.py") 1499)]) #[])
noncomputable def oz_804 (P : Params) : Obj := (Obj.mk (Value.type "function") none (Data.func (FuncData.mk (ss "quote") (ss "quote") (fdA (stI pB 37)) (FuncBody.stmts (fdB (stI pB 37))) (fdS (stI pB 37)) 3 [] Value.none Value.none Value.none (Value.str (ss "cpy313.shlex") 1333) none (Value.ref 803) Value.none 0)) #[])
noncomputable def oz_805 (P : Params) : Obj := (Obj.mk (Value.type "tuple") none (Data.seq #[] 0) #[])
noncomputable def oz_806 (P : Params) : Obj := (Obj.mk Value.none none (Data.fields #[]) #[])
noncomputable def oz_807 (P : Params) : Obj := (Obj.mk Value.none none (Data.func (FuncData.mk (ss "_law_figure") (ss "_law_figure") (fdA (stI pB 39)) (FuncBody.stmts (fdB (stI pB 39))) (fdS (stI pB 39)) 0 [] Value.none Value.none Value.none Value.none none Value.none Value.none 0)) #[])
noncomputable def oz_808 (P : Params) : Obj := (Obj.mk (Value.type "code") none (Data.fields #[(Value.str (ss "_law_figure") 1503), (Value.str (ss "_law_figure") 1504), (Value.str (ss "/claim/cut.py") 1505), (Value.int 840 0), (Value.int 1 0), (Value.int 0 0), (Value.int 0 0), (Value.int 3 0), (Value.ref 805), (Value.bool Bool.true), (Value.int 318 0), (Value.ref 806), Value.none, Value.none, Value.none, (Value.ref 807), (Value.int 1506 0), (Value.int 840 0), (Value.str (ss "/claim/cut.py") 1507)]) #[])
noncomputable def oz_809 (P : Params) : Obj := (Obj.mk (Value.type "function") none (Data.func (FuncData.mk (ss "_law_figure") (ss "_law_figure") (fdA (stI pB 39)) (FuncBody.stmts (fdB (stI pB 39))) (fdS (stI pB 39)) 3 [] Value.none Value.none Value.none (Value.str (ss "law_ku0029_01") 1501) none (Value.ref 808) Value.none 0)) #[])
noncomputable def oz_810 (P : Params) : Obj := (Obj.mk (Value.type "tuple") none (Data.seq #[] 0) #[])
noncomputable def oz_811 (P : Params) : Obj := (Obj.mk Value.none none (Data.fields #[]) #[])
noncomputable def oz_812 (P : Params) : Obj := (Obj.mk Value.none none (Data.func (FuncData.mk (ss "_law_read") (ss "_law_read") (fdA (stI pB 40)) (FuncBody.stmts (fdB (stI pB 40))) (fdS (stI pB 40)) 0 [] Value.none Value.none Value.none Value.none none Value.none Value.none 0)) #[])
noncomputable def oz_813 (P : Params) : Obj := (Obj.mk (Value.type "code") none (Data.fields #[(Value.str (ss "_law_read") 1509), (Value.str (ss "_law_read") 1510), (Value.str (ss "/claim/cut.py") 1511), (Value.int 847 0), (Value.int 1 0), (Value.int 0 0), (Value.int 0 0), (Value.int 3 0), (Value.ref 810), (Value.bool Bool.true), (Value.int 318 0), (Value.ref 811), Value.none, Value.none, Value.none, (Value.ref 812), (Value.int 1512 0), (Value.int 847 0), (Value.str (ss "/claim/cut.py") 1513)]) #[])
noncomputable def oz_814 (P : Params) : Obj := (Obj.mk (Value.type "function") none (Data.func (FuncData.mk (ss "_law_read") (ss "_law_read") (fdA (stI pB 40)) (FuncBody.stmts (fdB (stI pB 40))) (fdS (stI pB 40)) 3 [] Value.none Value.none Value.none (Value.str (ss "law_ku0029_01") 1501) none (Value.ref 813) Value.none 0)) #[])
noncomputable def oz_815 (P : Params) : Obj := (Obj.mk (Value.type "tuple") none (Data.seq #[] 0) #[])
noncomputable def oz_816 (P : Params) : Obj := (Obj.mk Value.none none (Data.fields #[]) #[])
noncomputable def oz_817 (P : Params) : Obj := (Obj.mk Value.none none (Data.func (FuncData.mk (ss "law") (ss "law") (fdA (stI pB 41)) (FuncBody.stmts (fdB (stI pB 41))) (fdS (stI pB 41)) 0 [] Value.none Value.none Value.none Value.none none Value.none Value.none 0)) #[])
noncomputable def oz_818 (P : Params) : Obj := (Obj.mk (Value.type "code") none (Data.fields #[(Value.str (ss "law") 1515), (Value.str (ss "law") 1516), (Value.str (ss "/claim/cut.py") 1517), (Value.int 856 0), (Value.int 1 0), (Value.int 0 0), (Value.int 0 0), (Value.int 3 0), (Value.ref 815), (Value.bool Bool.true), (Value.int 318 0), (Value.ref 816), Value.none, Value.none, Value.none, (Value.ref 817), (Value.int 1518 0), (Value.int 856 0), (Value.str (ss "/claim/cut.py") 1519)]) #[])
noncomputable def oz_819 (P : Params) : Obj := (Obj.mk (Value.type "function") none (Data.func (FuncData.mk (ss "law") (ss "law") (fdA (stI pB 41)) (FuncBody.stmts (fdB (stI pB 41))) (fdS (stI pB 41)) 3 [] Value.none Value.none Value.none (Value.str (ss "law_ku0029_01") 1501) none (Value.ref 818) Value.none 0)) #[])
noncomputable def tz (P : Params) : BT := (nd (o0_0 P) (nd (o0_1 P) (nd (oz_3 P) (nd (o0_7 P) (nd (o0_15 P) (nd (o0_31 P) (nd (of_63 P) (nd (oh_127 P) (nd (oh_255 P) (nd (oz_511 P) nl nl) (nd (oz_767 P) nl nl)) (nd (oh_383 P) (nd (oz_639 P) nl nl) nl)) (nd (oh_191 P) (nd (oh_319 P) (nd (oz_575 P) nl nl) nl) (nd (oz_447 P) (nd (oz_703 P) nl nl) nl))) (nd (of_95 P) (nd (oh_159 P) (nd (oh_287 P) (nd (oz_543 P) nl nl) (nd (oz_799 P) nl nl)) (nd (oh_415 P) (nd (oz_671 P) nl nl) nl)) (nd (oh_223 P) (nd (oh_351 P) (nd (oz_607 P) nl nl) nl) (nd (oz_479 P) (nd (oz_735 P) nl nl) nl)))) (nd (of_47 P) (nd (of_79 P) (nd (oh_143 P) (nd (oh_271 P) (nd (oz_527 P) nl nl) (nd (oz_783 P) nl nl)) (nd (oh_399 P) (nd (oz_655 P) nl nl) nl)) (nd (oz_207 P) (nd (oh_335 P) (nd (oz_591 P) nl nl) nl) (nd (oz_463 P) (nd (oz_719 P) nl nl) nl))) (nd (of_111 P) (nd (oh_175 P) (nd (oh_303 P) (nd (oz_559 P) nl nl) (nd (oz_815 P) nl nl)) (nd (oh_431 P) (nd (oz_687 P) nl nl) nl)) (nd (oh_239 P) (nd (oh_367 P) (nd (oz_623 P) nl nl) nl) (nd (oz_495 P) (nd (oz_751 P) nl nl) nl))))) (nd (o0_23 P) (nd (of_39 P) (nd (of_71 P) (nd (oh_135 P) (nd (oh_263 P) (nd (oz_519 P) nl nl) (nd (oz_775 P) nl nl)) (nd (oh_391 P) (nd (oz_647 P) nl nl) nl)) (nd (oh_199 P) (nd (oh_327 P) (nd (oz_583 P) nl nl) nl) (nd (oz_455 P) (nd (oz_711 P) nl nl) nl))) (nd (of_103 P) (nd (oh_167 P) (nd (oh_295 P) (nd (oz_551 P) nl nl) (nd (oz_807 P) nl nl)) (nd (oh_423 P) (nd (oz_679 P) nl nl) nl)) (nd (oh_231 P) (nd (oh_359 P) (nd (oz_615 P) nl nl) nl) (nd (oz_487 P) (nd (oz_743 P) nl nl) nl)))) (nd (of_55 P) (nd (of_87 P) (nd (oh_151 P) (nd (oh_279 P) (nd (oz_535 P) nl nl) (nd (oz_791 P) nl nl)) (nd (oh_407 P) (nd (oz_663 P) nl nl) nl)) (nd (oh_215 P) (nd (oh_343 P) (nd (oz_599 P) nl nl) nl) (nd (oz_471 P) (nd (oz_727 P) nl nl) nl))) (nd (oh_119 P) (nd (oh_183 P) (nd (oh_311 P) (nd (oz_567 P) nl nl) nl) (nd (oh_439 P) (nd (oz_695 P) nl nl) nl)) (nd (oh_247 P) (nd (oh_375 P) (nd (oz_631 P) nl nl) nl) (nd (oz_503 P) (nd (oz_759 P) nl nl) nl)))))) (nd (o0_11 P) (nd (o0_19 P) (nd (oz_35 P) (nd (of_67 P) (nd (oh_131 P) (nd (oh_259 P) (nd (oz_515 P) nl nl) (nd (oz_771 P) nl nl)) (nd (oh_387 P) (nd (oz_643 P) nl nl) nl)) (nd (oh_195 P) (nd (oh_323 P) (nd (oz_579 P) nl nl) nl) (nd (oz_451 P) (nd (oz_707 P) nl nl) nl))) (nd (of_99 P) (nd (oh_163 P) (nd (oh_291 P) (nd (oz_547 P) nl nl) (nd (oz_803 P) nl nl)) (nd (oh_419 P) (nd (oz_675 P) nl nl) nl)) (nd (oh_227 P) (nd (oh_355 P) (nd (oz_611 P) nl nl) nl) (nd (oz_483 P) (nd (oz_739 P) nl nl) nl)))) (nd (of_51 P) (nd (of_83 P) (nd (oh_147 P) (nd (oh_275 P) (nd (oz_531 P) nl nl) (nd (oz_787 P) nl nl)) (nd (oh_403 P) (nd (oz_659 P) nl nl) nl)) (nd (oh_211 P) (nd (oh_339 P) (nd (oz_595 P) nl nl) nl) (nd (oz_467 P) (nd (oz_723 P) nl nl) nl))) (nd (og_115 P) (nd (oh_179 P) (nd (oh_307 P) (nd (oz_563 P) nl nl) (nd (oz_819 P) nl nl)) (nd (oh_435 P) (nd (oz_691 P) nl nl) nl)) (nd (oh_243 P) (nd (oh_371 P) (nd (oz_627 P) nl nl) nl) (nd (oz_499 P) (nd (oz_755 P) nl nl) nl))))) (nd (o0_27 P) (nd (of_43 P) (nd (of_75 P) (nd (oh_139 P) (nd (oh_267 P) (nd (oz_523 P) nl nl) (nd (oz_779 P) nl nl)) (nd (oh_395 P) (nd (oz_651 P) nl nl) nl)) (nd (oh_203 P) (nd (oh_331 P) (nd (oz_587 P) nl nl) nl) (nd (oz_459 P) (nd (oz_715 P) nl nl) nl))) (nd (of_107 P) (nd (oh_171 P) (nd (oh_299 P) (nd (oz_555 P) nl nl) (nd (oz_811 P) nl nl)) (nd (oh_427 P) (nd (oz_683 P) nl nl) nl)) (nd (oh_235 P) (nd (oh_363 P) (nd (oz_619 P) nl nl) nl) (nd (oz_491 P) (nd (oz_747 P) nl nl) nl)))) (nd (of_59 P) (nd (of_91 P) (nd (oh_155 P) (nd (oh_283 P) (nd (oz_539 P) nl nl) (nd (oz_795 P) nl nl)) (nd (oh_411 P) (nd (oz_667 P) nl nl) nl)) (nd (oh_219 P) (nd (oh_347 P) (nd (oz_603 P) nl nl) nl) (nd (oz_475 P) (nd (oz_731 P) nl nl) nl))) (nd (oh_123 P) (nd (oh_187 P) (nd (oh_315 P) (nd (oz_571 P) nl nl) nl) (nd (oz_443 P) (nd (oz_699 P) nl nl) nl)) (nd (oh_251 P) (nd (oh_379 P) (nd (oz_635 P) nl nl) nl) (nd (oz_507 P) (nd (oz_763 P) nl nl) nl))))))) (nd (o0_5 P) (nd (o0_9 P) (nd (o0_17 P) (nd (o0_33 P) (nd (of_65 P) (nd (oh_129 P) (nd (oh_257 P) (nd (oz_513 P) nl nl) (nd (oz_769 P) nl nl)) (nd (oh_385 P) (nd (oz_641 P) nl nl) nl)) (nd (oh_193 P) (nd (oh_321 P) (nd (oz_577 P) nl nl) nl) (nd (oz_449 P) (nd (oz_705 P) nl nl) nl))) (nd (of_97 P) (nd (oh_161 P) (nd (oh_289 P) (nd (oz_545 P) nl nl) (nd (oz_801 P) nl nl)) (nd (oh_417 P) (nd (oz_673 P) nl nl) nl)) (nd (oh_225 P) (nd (oh_353 P) (nd (oz_609 P) nl nl) nl) (nd (oz_481 P) (nd (oz_737 P) nl nl) nl)))) (nd (of_49 P) (nd (of_81 P) (nd (oh_145 P) (nd (oh_273 P) (nd (oz_529 P) nl nl) (nd (oz_785 P) nl nl)) (nd (oh_401 P) (nd (oz_657 P) nl nl) nl)) (nd (oh_209 P) (nd (oh_337 P) (nd (oz_593 P) nl nl) nl) (nd (oz_465 P) (nd (oz_721 P) nl nl) nl))) (nd (og_113 P) (nd (oh_177 P) (nd (oh_305 P) (nd (oz_561 P) nl nl) (nd (oz_817 P) nl nl)) (nd (oh_433 P) (nd (oz_689 P) nl nl) nl)) (nd (oh_241 P) (nd (oh_369 P) (nd (oz_625 P) nl nl) nl) (nd (oz_497 P) (nd (oz_753 P) nl nl) nl))))) (nd (o0_25 P) (nd (of_41 P) (nd (of_73 P) (nd (oh_137 P) (nd (oh_265 P) (nd (oz_521 P) nl nl) (nd (oz_777 P) nl nl)) (nd (oh_393 P) (nd (oz_649 P) nl nl) nl)) (nd (oh_201 P) (nd (oh_329 P) (nd (oz_585 P) nl nl) nl) (nd (oz_457 P) (nd (oz_713 P) nl nl) nl))) (nd (of_105 P) (nd (oh_169 P) (nd (oh_297 P) (nd (oz_553 P) nl nl) (nd (oz_809 P) nl nl)) (nd (oh_425 P) (nd (oz_681 P) nl nl) nl)) (nd (oh_233 P) (nd (oh_361 P) (nd (oz_617 P) nl nl) nl) (nd (oz_489 P) (nd (oz_745 P) nl nl) nl)))) (nd (of_57 P) (nd (of_89 P) (nd (oh_153 P) (nd (oh_281 P) (nd (oz_537 P) nl nl) (nd (oz_793 P) nl nl)) (nd (oh_409 P) (nd (oz_665 P) nl nl) nl)) (nd (oh_217 P) (nd (oh_345 P) (nd (oz_601 P) nl nl) nl) (nd (oz_473 P) (nd (oz_729 P) nl nl) nl))) (nd (oh_121 P) (nd (oh_185 P) (nd (oh_313 P) (nd (oz_569 P) nl nl) nl) (nd (oz_441 P) (nd (oz_697 P) nl nl) nl)) (nd (oh_249 P) (nd (oh_377 P) (nd (oz_633 P) nl nl) nl) (nd (oz_505 P) (nd (oz_761 P) nl nl) nl)))))) (nd (o0_13 P) (nd (o0_21 P) (nd (oa_37 P) (nd (of_69 P) (nd (oh_133 P) (nd (oh_261 P) (nd (oz_517 P) nl nl) (nd (oz_773 P) nl nl)) (nd (oh_389 P) (nd (oz_645 P) nl nl) nl)) (nd (oh_197 P) (nd (oh_325 P) (nd (oz_581 P) nl nl) nl) (nd (oz_453 P) (nd (oz_709 P) nl nl) nl))) (nd (of_101 P) (nd (oh_165 P) (nd (oh_293 P) (nd (oz_549 P) nl nl) (nd (oz_805 P) nl nl)) (nd (oh_421 P) (nd (oz_677 P) nl nl) nl)) (nd (oh_229 P) (nd (oh_357 P) (nd (oz_613 P) nl nl) nl) (nd (oz_485 P) (nd (oz_741 P) nl nl) nl)))) (nd (of_53 P) (nd (of_85 P) (nd (oh_149 P) (nd (oh_277 P) (nd (oz_533 P) nl nl) (nd (oz_789 P) nl nl)) (nd (oh_405 P) (nd (oz_661 P) nl nl) nl)) (nd (oh_213 P) (nd (oh_341 P) (nd (oz_597 P) nl nl) nl) (nd (oz_469 P) (nd (oz_725 P) nl nl) nl))) (nd (og_117 P) (nd (oh_181 P) (nd (oh_309 P) (nd (oz_565 P) nl nl) nl) (nd (oh_437 P) (nd (oz_693 P) nl nl) nl)) (nd (oh_245 P) (nd (oh_373 P) (nd (oz_629 P) nl nl) nl) (nd (oz_501 P) (nd (oz_757 P) nl nl) nl))))) (nd (o0_29 P) (nd (of_45 P) (nd (of_77 P) (nd (oh_141 P) (nd (oh_269 P) (nd (oz_525 P) nl nl) (nd (oz_781 P) nl nl)) (nd (oh_397 P) (nd (oz_653 P) nl nl) nl)) (nd (oh_205 P) (nd (oh_333 P) (nd (oz_589 P) nl nl) nl) (nd (oz_461 P) (nd (oz_717 P) nl nl) nl))) (nd (of_109 P) (nd (oh_173 P) (nd (oh_301 P) (nd (oz_557 P) nl nl) (nd (oz_813 P) nl nl)) (nd (oh_429 P) (nd (oz_685 P) nl nl) nl)) (nd (oh_237 P) (nd (oh_365 P) (nd (oz_621 P) nl nl) nl) (nd (oz_493 P) (nd (oz_749 P) nl nl) nl)))) (nd (of_61 P) (nd (of_93 P) (nd (oh_157 P) (nd (oh_285 P) (nd (oz_541 P) nl nl) (nd (oz_797 P) nl nl)) (nd (oh_413 P) (nd (oz_669 P) nl nl) nl)) (nd (oh_221 P) (nd (oh_349 P) (nd (oz_605 P) nl nl) nl) (nd (oz_477 P) (nd (oz_733 P) nl nl) nl))) (nd (oh_125 P) (nd (oh_189 P) (nd (oh_317 P) (nd (oz_573 P) nl nl) nl) (nd (oz_445 P) (nd (oz_701 P) nl nl) nl)) (nd (oh_253 P) (nd (oh_381 P) (nd (oz_637 P) nl nl) nl) (nd (oz_509 P) (nd (oz_765 P) nl nl) nl)))))))) (nd (oh_2 P) (nd (o0_4 P) (nd (o0_8 P) (nd (o0_16 P) (nd (o0_32 P) (nd (of_64 P) (nd (oh_128 P) (nd (oh_256 P) (nd (oz_512 P) nl nl) (nd (oz_768 P) nl nl)) (nd (oh_384 P) (nd (oz_640 P) nl nl) nl)) (nd (oh_192 P) (nd (oh_320 P) (nd (oz_576 P) nl nl) nl) (nd (oz_448 P) (nd (oz_704 P) nl nl) nl))) (nd (of_96 P) (nd (oh_160 P) (nd (oh_288 P) (nd (oz_544 P) nl nl) (nd (oz_800 P) nl nl)) (nd (oh_416 P) (nd (oz_672 P) nl nl) nl)) (nd (oh_224 P) (nd (oh_352 P) (nd (oz_608 P) nl nl) nl) (nd (oz_480 P) (nd (oz_736 P) nl nl) nl)))) (nd (of_48 P) (nd (of_80 P) (nd (oh_144 P) (nd (oh_272 P) (nd (oz_528 P) nl nl) (nd (oz_784 P) nl nl)) (nd (oh_400 P) (nd (oz_656 P) nl nl) nl)) (nd (oh_208 P) (nd (oh_336 P) (nd (oz_592 P) nl nl) nl) (nd (oz_464 P) (nd (oz_720 P) nl nl) nl))) (nd (of_112 P) (nd (oh_176 P) (nd (oh_304 P) (nd (oz_560 P) nl nl) (nd (oz_816 P) nl nl)) (nd (oh_432 P) (nd (oz_688 P) nl nl) nl)) (nd (oh_240 P) (nd (oh_368 P) (nd (oz_624 P) nl nl) nl) (nd (oz_496 P) (nd (oz_752 P) nl nl) nl))))) (nd (o0_24 P) (nd (of_40 P) (nd (of_72 P) (nd (oh_136 P) (nd (oh_264 P) (nd (oz_520 P) nl nl) (nd (oz_776 P) nl nl)) (nd (oh_392 P) (nd (oz_648 P) nl nl) nl)) (nd (oh_200 P) (nd (oh_328 P) (nd (oz_584 P) nl nl) nl) (nd (oz_456 P) (nd (oz_712 P) nl nl) nl))) (nd (of_104 P) (nd (oh_168 P) (nd (oh_296 P) (nd (oz_552 P) nl nl) (nd (oz_808 P) nl nl)) (nd (oh_424 P) (nd (oz_680 P) nl nl) nl)) (nd (oh_232 P) (nd (oh_360 P) (nd (oz_616 P) nl nl) nl) (nd (oz_488 P) (nd (oz_744 P) nl nl) nl)))) (nd (of_56 P) (nd (of_88 P) (nd (oh_152 P) (nd (oh_280 P) (nd (oz_536 P) nl nl) (nd (oz_792 P) nl nl)) (nd (oh_408 P) (nd (oz_664 P) nl nl) nl)) (nd (oh_216 P) (nd (oh_344 P) (nd (oz_600 P) nl nl) nl) (nd (oz_472 P) (nd (oz_728 P) nl nl) nl))) (nd (oh_120 P) (nd (oh_184 P) (nd (oh_312 P) (nd (oz_568 P) nl nl) nl) (nd (oz_440 P) (nd (oz_696 P) nl nl) nl)) (nd (oh_248 P) (nd (oh_376 P) (nd (oz_632 P) nl nl) nl) (nd (oz_504 P) (nd (oz_760 P) nl nl) nl)))))) (nd (o0_12 P) (nd (o0_20 P) (nd (oa_36 P) (nd (of_68 P) (nd (oh_132 P) (nd (oh_260 P) (nd (oz_516 P) nl nl) (nd (oz_772 P) nl nl)) (nd (oh_388 P) (nd (oz_644 P) nl nl) nl)) (nd (oh_196 P) (nd (oh_324 P) (nd (oz_580 P) nl nl) nl) (nd (oz_452 P) (nd (oz_708 P) nl nl) nl))) (nd (of_100 P) (nd (oh_164 P) (nd (oh_292 P) (nd (oz_548 P) nl nl) (nd (oz_804 P) nl nl)) (nd (oh_420 P) (nd (oz_676 P) nl nl) nl)) (nd (oh_228 P) (nd (oh_356 P) (nd (oz_612 P) nl nl) nl) (nd (oz_484 P) (nd (oz_740 P) nl nl) nl)))) (nd (of_52 P) (nd (of_84 P) (nd (oh_148 P) (nd (oh_276 P) (nd (oz_532 P) nl nl) (nd (oz_788 P) nl nl)) (nd (oh_404 P) (nd (oz_660 P) nl nl) nl)) (nd (oh_212 P) (nd (oh_340 P) (nd (oz_596 P) nl nl) nl) (nd (oz_468 P) (nd (oz_724 P) nl nl) nl))) (nd (og_116 P) (nd (oh_180 P) (nd (oh_308 P) (nd (oz_564 P) nl nl) nl) (nd (oh_436 P) (nd (oz_692 P) nl nl) nl)) (nd (oh_244 P) (nd (oh_372 P) (nd (oz_628 P) nl nl) nl) (nd (oz_500 P) (nd (oz_756 P) nl nl) nl))))) (nd (o0_28 P) (nd (of_44 P) (nd (of_76 P) (nd (oh_140 P) (nd (oh_268 P) (nd (oz_524 P) nl nl) (nd (oz_780 P) nl nl)) (nd (oh_396 P) (nd (oz_652 P) nl nl) nl)) (nd (oh_204 P) (nd (oh_332 P) (nd (oz_588 P) nl nl) nl) (nd (oz_460 P) (nd (oz_716 P) nl nl) nl))) (nd (of_108 P) (nd (oh_172 P) (nd (oh_300 P) (nd (oz_556 P) nl nl) (nd (oz_812 P) nl nl)) (nd (oh_428 P) (nd (oz_684 P) nl nl) nl)) (nd (oh_236 P) (nd (oh_364 P) (nd (oz_620 P) nl nl) nl) (nd (oz_492 P) (nd (oz_748 P) nl nl) nl)))) (nd (of_60 P) (nd (of_92 P) (nd (oh_156 P) (nd (oh_284 P) (nd (oz_540 P) nl nl) (nd (oz_796 P) nl nl)) (nd (oh_412 P) (nd (oz_668 P) nl nl) nl)) (nd (oh_220 P) (nd (oh_348 P) (nd (oz_604 P) nl nl) nl) (nd (oz_476 P) (nd (oz_732 P) nl nl) nl))) (nd (oh_124 P) (nd (oh_188 P) (nd (oh_316 P) (nd (oz_572 P) nl nl) nl) (nd (oz_444 P) (nd (oz_700 P) nl nl) nl)) (nd (oh_252 P) (nd (oh_380 P) (nd (oz_636 P) nl nl) nl) (nd (oz_508 P) (nd (oz_764 P) nl nl) nl))))))) (nd (o0_6 P) (nd (o0_10 P) (nd (o0_18 P) (nd (oa_34 P) (nd (of_66 P) (nd (oh_130 P) (nd (oh_258 P) (nd (oz_514 P) nl nl) (nd (oz_770 P) nl nl)) (nd (oh_386 P) (nd (oz_642 P) nl nl) nl)) (nd (oh_194 P) (nd (oh_322 P) (nd (oz_578 P) nl nl) nl) (nd (oz_450 P) (nd (oz_706 P) nl nl) nl))) (nd (of_98 P) (nd (oh_162 P) (nd (oh_290 P) (nd (oz_546 P) nl nl) (nd (oz_802 P) nl nl)) (nd (oh_418 P) (nd (oz_674 P) nl nl) nl)) (nd (oh_226 P) (nd (oh_354 P) (nd (oz_610 P) nl nl) nl) (nd (oz_482 P) (nd (oz_738 P) nl nl) nl)))) (nd (of_50 P) (nd (of_82 P) (nd (oh_146 P) (nd (oh_274 P) (nd (oz_530 P) nl nl) (nd (oz_786 P) nl nl)) (nd (oh_402 P) (nd (oz_658 P) nl nl) nl)) (nd (oh_210 P) (nd (oh_338 P) (nd (oz_594 P) nl nl) nl) (nd (oz_466 P) (nd (oz_722 P) nl nl) nl))) (nd (og_114 P) (nd (oh_178 P) (nd (oh_306 P) (nd (oz_562 P) nl nl) (nd (oz_818 P) nl nl)) (nd (oh_434 P) (nd (oz_690 P) nl nl) nl)) (nd (oh_242 P) (nd (oh_370 P) (nd (oz_626 P) nl nl) nl) (nd (oz_498 P) (nd (oz_754 P) nl nl) nl))))) (nd (o0_26 P) (nd (of_42 P) (nd (of_74 P) (nd (oh_138 P) (nd (oh_266 P) (nd (oz_522 P) nl nl) (nd (oz_778 P) nl nl)) (nd (oh_394 P) (nd (oz_650 P) nl nl) nl)) (nd (oh_202 P) (nd (oh_330 P) (nd (oz_586 P) nl nl) nl) (nd (oz_458 P) (nd (oz_714 P) nl nl) nl))) (nd (of_106 P) (nd (oh_170 P) (nd (oh_298 P) (nd (oz_554 P) nl nl) (nd (oz_810 P) nl nl)) (nd (oh_426 P) (nd (oz_682 P) nl nl) nl)) (nd (oh_234 P) (nd (oh_362 P) (nd (oz_618 P) nl nl) nl) (nd (oz_490 P) (nd (oz_746 P) nl nl) nl)))) (nd (of_58 P) (nd (of_90 P) (nd (oh_154 P) (nd (oh_282 P) (nd (oz_538 P) nl nl) (nd (oz_794 P) nl nl)) (nd (oh_410 P) (nd (oz_666 P) nl nl) nl)) (nd (oh_218 P) (nd (oh_346 P) (nd (oz_602 P) nl nl) nl) (nd (oz_474 P) (nd (oz_730 P) nl nl) nl))) (nd (oh_122 P) (nd (oh_186 P) (nd (oh_314 P) (nd (oz_570 P) nl nl) nl) (nd (oz_442 P) (nd (oz_698 P) nl nl) nl)) (nd (oh_250 P) (nd (oh_378 P) (nd (oz_634 P) nl nl) nl) (nd (oz_506 P) (nd (oz_762 P) nl nl) nl)))))) (nd (o0_14 P) (nd (o0_22 P) (nd (of_38 P) (nd (of_70 P) (nd (oh_134 P) (nd (oh_262 P) (nd (oz_518 P) nl nl) (nd (oz_774 P) nl nl)) (nd (oh_390 P) (nd (oz_646 P) nl nl) nl)) (nd (oh_198 P) (nd (oh_326 P) (nd (oz_582 P) nl nl) nl) (nd (oz_454 P) (nd (oz_710 P) nl nl) nl))) (nd (of_102 P) (nd (oh_166 P) (nd (oh_294 P) (nd (oz_550 P) nl nl) (nd (oz_806 P) nl nl)) (nd (oh_422 P) (nd (oz_678 P) nl nl) nl)) (nd (oh_230 P) (nd (oh_358 P) (nd (oz_614 P) nl nl) nl) (nd (oz_486 P) (nd (oz_742 P) nl nl) nl)))) (nd (of_54 P) (nd (of_86 P) (nd (oh_150 P) (nd (oh_278 P) (nd (oz_534 P) nl nl) (nd (oz_790 P) nl nl)) (nd (oh_406 P) (nd (oz_662 P) nl nl) nl)) (nd (oh_214 P) (nd (oh_342 P) (nd (oz_598 P) nl nl) nl) (nd (oz_470 P) (nd (oz_726 P) nl nl) nl))) (nd (oh_118 P) (nd (oh_182 P) (nd (oh_310 P) (nd (oz_566 P) nl nl) nl) (nd (oh_438 P) (nd (oz_694 P) nl nl) nl)) (nd (oh_246 P) (nd (oh_374 P) (nd (oz_630 P) nl nl) nl) (nd (oz_502 P) (nd (oz_758 P) nl nl) nl))))) (nd (o0_30 P) (nd (of_46 P) (nd (of_78 P) (nd (oh_142 P) (nd (oh_270 P) (nd (oz_526 P) nl nl) (nd (oz_782 P) nl nl)) (nd (oh_398 P) (nd (oz_654 P) nl nl) nl)) (nd (oh_206 P) (nd (oh_334 P) (nd (oz_590 P) nl nl) nl) (nd (oz_462 P) (nd (oz_718 P) nl nl) nl))) (nd (of_110 P) (nd (oh_174 P) (nd (oh_302 P) (nd (oz_558 P) nl nl) (nd (oz_814 P) nl nl)) (nd (oh_430 P) (nd (oz_686 P) nl nl) nl)) (nd (oh_238 P) (nd (oh_366 P) (nd (oz_622 P) nl nl) nl) (nd (oz_494 P) (nd (oz_750 P) nl nl) nl)))) (nd (of_62 P) (nd (of_94 P) (nd (oh_158 P) (nd (oh_286 P) (nd (oz_542 P) nl nl) (nd (oz_798 P) nl nl)) (nd (oh_414 P) (nd (oz_670 P) nl nl) nl)) (nd (oh_222 P) (nd (oh_350 P) (nd (oz_606 P) nl nl) nl) (nd (oz_478 P) (nd (oz_734 P) nl nl) nl))) (nd (oh_126 P) (nd (oh_190 P) (nd (oh_318 P) (nd (oz_574 P) nl nl) nl) (nd (oz_446 P) (nd (oz_702 P) nl nl) nl)) (nd (oh_254 P) (nd (oh_382 P) (nd (oz_638 P) nl nl) nl) (nd (oz_510 P) (nd (oz_766 P) nl nl) nl)))))))))
noncomputable def lz (P : Params) : List Obj := [o0_0 P, o0_1 P, oh_2 P, oz_3 P, o0_4 P, o0_5 P, o0_6 P, o0_7 P, o0_8 P, o0_9 P, o0_10 P, o0_11 P, o0_12 P, o0_13 P, o0_14 P, o0_15 P, o0_16 P, o0_17 P, o0_18 P, o0_19 P, o0_20 P, o0_21 P, o0_22 P, o0_23 P, o0_24 P, o0_25 P, o0_26 P, o0_27 P, o0_28 P, o0_29 P, o0_30 P, o0_31 P, o0_32 P, o0_33 P, oa_34 P, oz_35 P, oa_36 P, oa_37 P, of_38 P, of_39 P, of_40 P, of_41 P, of_42 P, of_43 P, of_44 P, of_45 P, of_46 P, of_47 P, of_48 P, of_49 P, of_50 P, of_51 P, of_52 P, of_53 P, of_54 P, of_55 P, of_56 P, of_57 P, of_58 P, of_59 P, of_60 P, of_61 P, of_62 P, of_63 P, of_64 P, of_65 P, of_66 P, of_67 P, of_68 P, of_69 P, of_70 P, of_71 P, of_72 P, of_73 P, of_74 P, of_75 P, of_76 P, of_77 P, of_78 P, of_79 P, of_80 P, of_81 P, of_82 P, of_83 P, of_84 P, of_85 P, of_86 P, of_87 P, of_88 P, of_89 P, of_90 P, of_91 P, of_92 P, of_93 P, of_94 P, of_95 P, of_96 P, of_97 P, of_98 P, of_99 P, of_100 P, of_101 P, of_102 P, of_103 P, of_104 P, of_105 P, of_106 P, of_107 P, of_108 P, of_109 P, of_110 P, of_111 P, of_112 P, og_113 P, og_114 P, og_115 P, og_116 P, og_117 P, oh_118 P, oh_119 P, oh_120 P, oh_121 P, oh_122 P, oh_123 P, oh_124 P, oh_125 P, oh_126 P, oh_127 P, oh_128 P, oh_129 P, oh_130 P, oh_131 P, oh_132 P, oh_133 P, oh_134 P, oh_135 P, oh_136 P, oh_137 P, oh_138 P, oh_139 P, oh_140 P, oh_141 P, oh_142 P, oh_143 P, oh_144 P, oh_145 P, oh_146 P, oh_147 P, oh_148 P, oh_149 P, oh_150 P, oh_151 P, oh_152 P, oh_153 P, oh_154 P, oh_155 P, oh_156 P, oh_157 P, oh_158 P, oh_159 P, oh_160 P, oh_161 P, oh_162 P, oh_163 P, oh_164 P, oh_165 P, oh_166 P, oh_167 P, oh_168 P, oh_169 P, oh_170 P, oh_171 P, oh_172 P, oh_173 P, oh_174 P, oh_175 P, oh_176 P, oh_177 P, oh_178 P, oh_179 P, oh_180 P, oh_181 P, oh_182 P, oh_183 P, oh_184 P, oh_185 P, oh_186 P, oh_187 P, oh_188 P, oh_189 P, oh_190 P, oh_191 P, oh_192 P, oh_193 P, oh_194 P, oh_195 P, oh_196 P, oh_197 P, oh_198 P, oh_199 P, oh_200 P, oh_201 P, oh_202 P, oh_203 P, oh_204 P, oh_205 P, oh_206 P, oz_207 P, oh_208 P, oh_209 P, oh_210 P, oh_211 P, oh_212 P, oh_213 P, oh_214 P, oh_215 P, oh_216 P, oh_217 P, oh_218 P, oh_219 P, oh_220 P, oh_221 P, oh_222 P, oh_223 P, oh_224 P, oh_225 P, oh_226 P, oh_227 P, oh_228 P, oh_229 P, oh_230 P, oh_231 P, oh_232 P, oh_233 P, oh_234 P, oh_235 P, oh_236 P, oh_237 P, oh_238 P, oh_239 P, oh_240 P, oh_241 P, oh_242 P, oh_243 P, oh_244 P, oh_245 P, oh_246 P, oh_247 P, oh_248 P, oh_249 P, oh_250 P, oh_251 P, oh_252 P, oh_253 P, oh_254 P, oh_255 P, oh_256 P, oh_257 P, oh_258 P, oh_259 P, oh_260 P, oh_261 P, oh_262 P, oh_263 P, oh_264 P, oh_265 P, oh_266 P, oh_267 P, oh_268 P, oh_269 P, oh_270 P, oh_271 P, oh_272 P, oh_273 P, oh_274 P, oh_275 P, oh_276 P, oh_277 P, oh_278 P, oh_279 P, oh_280 P, oh_281 P, oh_282 P, oh_283 P, oh_284 P, oh_285 P, oh_286 P, oh_287 P, oh_288 P, oh_289 P, oh_290 P, oh_291 P, oh_292 P, oh_293 P, oh_294 P, oh_295 P, oh_296 P, oh_297 P, oh_298 P, oh_299 P, oh_300 P, oh_301 P, oh_302 P, oh_303 P, oh_304 P, oh_305 P, oh_306 P, oh_307 P, oh_308 P, oh_309 P, oh_310 P, oh_311 P, oh_312 P, oh_313 P, oh_314 P, oh_315 P, oh_316 P, oh_317 P, oh_318 P, oh_319 P, oh_320 P, oh_321 P, oh_322 P, oh_323 P, oh_324 P, oh_325 P, oh_326 P, oh_327 P, oh_328 P, oh_329 P, oh_330 P, oh_331 P, oh_332 P, oh_333 P, oh_334 P, oh_335 P, oh_336 P, oh_337 P, oh_338 P, oh_339 P, oh_340 P, oh_341 P, oh_342 P, oh_343 P, oh_344 P, oh_345 P, oh_346 P, oh_347 P, oh_348 P, oh_349 P, oh_350 P, oh_351 P, oh_352 P, oh_353 P, oh_354 P, oh_355 P, oh_356 P, oh_357 P, oh_358 P, oh_359 P, oh_360 P, oh_361 P, oh_362 P, oh_363 P, oh_364 P, oh_365 P, oh_366 P, oh_367 P, oh_368 P, oh_369 P, oh_370 P, oh_371 P, oh_372 P, oh_373 P, oh_374 P, oh_375 P, oh_376 P, oh_377 P, oh_378 P, oh_379 P, oh_380 P, oh_381 P, oh_382 P, oh_383 P, oh_384 P, oh_385 P, oh_386 P, oh_387 P, oh_388 P, oh_389 P, oh_390 P, oh_391 P, oh_392 P, oh_393 P, oh_394 P, oh_395 P, oh_396 P, oh_397 P, oh_398 P, oh_399 P, oh_400 P, oh_401 P, oh_402 P, oh_403 P, oh_404 P, oh_405 P, oh_406 P, oh_407 P, oh_408 P, oh_409 P, oh_410 P, oh_411 P, oh_412 P, oh_413 P, oh_414 P, oh_415 P, oh_416 P, oh_417 P, oh_418 P, oh_419 P, oh_420 P, oh_421 P, oh_422 P, oh_423 P, oh_424 P, oh_425 P, oh_426 P, oh_427 P, oh_428 P, oh_429 P, oh_430 P, oh_431 P, oh_432 P, oh_433 P, oh_434 P, oh_435 P, oh_436 P, oh_437 P, oh_438 P, oh_439 P, oz_440 P, oz_441 P, oz_442 P, oz_443 P, oz_444 P, oz_445 P, oz_446 P, oz_447 P, oz_448 P, oz_449 P, oz_450 P, oz_451 P, oz_452 P, oz_453 P, oz_454 P, oz_455 P, oz_456 P, oz_457 P, oz_458 P, oz_459 P, oz_460 P, oz_461 P, oz_462 P, oz_463 P, oz_464 P, oz_465 P, oz_466 P, oz_467 P, oz_468 P, oz_469 P, oz_470 P, oz_471 P, oz_472 P, oz_473 P, oz_474 P, oz_475 P, oz_476 P, oz_477 P, oz_478 P, oz_479 P, oz_480 P, oz_481 P, oz_482 P, oz_483 P, oz_484 P, oz_485 P, oz_486 P, oz_487 P, oz_488 P, oz_489 P, oz_490 P, oz_491 P, oz_492 P, oz_493 P, oz_494 P, oz_495 P, oz_496 P, oz_497 P, oz_498 P, oz_499 P, oz_500 P, oz_501 P, oz_502 P, oz_503 P, oz_504 P, oz_505 P, oz_506 P, oz_507 P, oz_508 P, oz_509 P, oz_510 P, oz_511 P, oz_512 P, oz_513 P, oz_514 P, oz_515 P, oz_516 P, oz_517 P, oz_518 P, oz_519 P, oz_520 P, oz_521 P, oz_522 P, oz_523 P, oz_524 P, oz_525 P, oz_526 P, oz_527 P, oz_528 P, oz_529 P, oz_530 P, oz_531 P, oz_532 P, oz_533 P, oz_534 P, oz_535 P, oz_536 P, oz_537 P, oz_538 P, oz_539 P, oz_540 P, oz_541 P, oz_542 P, oz_543 P, oz_544 P, oz_545 P, oz_546 P, oz_547 P, oz_548 P, oz_549 P, oz_550 P, oz_551 P, oz_552 P, oz_553 P, oz_554 P, oz_555 P, oz_556 P, oz_557 P, oz_558 P, oz_559 P, oz_560 P, oz_561 P, oz_562 P, oz_563 P, oz_564 P, oz_565 P, oz_566 P, oz_567 P, oz_568 P, oz_569 P, oz_570 P, oz_571 P, oz_572 P, oz_573 P, oz_574 P, oz_575 P, oz_576 P, oz_577 P, oz_578 P, oz_579 P, oz_580 P, oz_581 P, oz_582 P, oz_583 P, oz_584 P, oz_585 P, oz_586 P, oz_587 P, oz_588 P, oz_589 P, oz_590 P, oz_591 P, oz_592 P, oz_593 P, oz_594 P, oz_595 P, oz_596 P, oz_597 P, oz_598 P, oz_599 P, oz_600 P, oz_601 P, oz_602 P, oz_603 P, oz_604 P, oz_605 P, oz_606 P, oz_607 P, oz_608 P, oz_609 P, oz_610 P, oz_611 P, oz_612 P, oz_613 P, oz_614 P, oz_615 P, oz_616 P, oz_617 P, oz_618 P, oz_619 P, oz_620 P, oz_621 P, oz_622 P, oz_623 P, oz_624 P, oz_625 P, oz_626 P, oz_627 P, oz_628 P, oz_629 P, oz_630 P, oz_631 P, oz_632 P, oz_633 P, oz_634 P, oz_635 P, oz_636 P, oz_637 P, oz_638 P, oz_639 P, oz_640 P, oz_641 P, oz_642 P, oz_643 P, oz_644 P, oz_645 P, oz_646 P, oz_647 P, oz_648 P, oz_649 P, oz_650 P, oz_651 P, oz_652 P, oz_653 P, oz_654 P, oz_655 P, oz_656 P, oz_657 P, oz_658 P, oz_659 P, oz_660 P, oz_661 P, oz_662 P, oz_663 P, oz_664 P, oz_665 P, oz_666 P, oz_667 P, oz_668 P, oz_669 P, oz_670 P, oz_671 P, oz_672 P, oz_673 P, oz_674 P, oz_675 P, oz_676 P, oz_677 P, oz_678 P, oz_679 P, oz_680 P, oz_681 P, oz_682 P, oz_683 P, oz_684 P, oz_685 P, oz_686 P, oz_687 P, oz_688 P, oz_689 P, oz_690 P, oz_691 P, oz_692 P, oz_693 P, oz_694 P, oz_695 P, oz_696 P, oz_697 P, oz_698 P, oz_699 P, oz_700 P, oz_701 P, oz_702 P, oz_703 P, oz_704 P, oz_705 P, oz_706 P, oz_707 P, oz_708 P, oz_709 P, oz_710 P, oz_711 P, oz_712 P, oz_713 P, oz_714 P, oz_715 P, oz_716 P, oz_717 P, oz_718 P, oz_719 P, oz_720 P, oz_721 P, oz_722 P, oz_723 P, oz_724 P, oz_725 P, oz_726 P, oz_727 P, oz_728 P, oz_729 P, oz_730 P, oz_731 P, oz_732 P, oz_733 P, oz_734 P, oz_735 P, oz_736 P, oz_737 P, oz_738 P, oz_739 P, oz_740 P, oz_741 P, oz_742 P, oz_743 P, oz_744 P, oz_745 P, oz_746 P, oz_747 P, oz_748 P, oz_749 P, oz_750 P, oz_751 P, oz_752 P, oz_753 P, oz_754 P, oz_755 P, oz_756 P, oz_757 P, oz_758 P, oz_759 P, oz_760 P, oz_761 P, oz_762 P, oz_763 P, oz_764 P, oz_765 P, oz_766 P, oz_767 P, oz_768 P, oz_769 P, oz_770 P, oz_771 P, oz_772 P, oz_773 P, oz_774 P, oz_775 P, oz_776 P, oz_777 P, oz_778 P, oz_779 P, oz_780 P, oz_781 P, oz_782 P, oz_783 P, oz_784 P, oz_785 P, oz_786 P, oz_787 P, oz_788 P, oz_789 P, oz_790 P, oz_791 P, oz_792 P, oz_793 P, oz_794 P, oz_795 P, oz_796 P, oz_797 P, oz_798 P, oz_799 P, oz_800 P, oz_801 P, oz_802 P, oz_803 P, oz_804 P, oz_805 P, oz_806 P, oz_807 P, oz_808 P, oz_809 P, oz_810 P, oz_811 P, oz_812 P, oz_813 P, oz_814 P, oz_815 P, oz_816 P, oz_817 P, oz_818 P, oz_819 P]
/-- the top's run over a heap that is a tree -/
noncomputable def topT (st : SharedT → Thread → Option (SharedT × Thread)) (n₀ : Nat) (ann : Option Value) (n : Nat) : SharedT → Thread → Option SharedT :=
  Nat.rec (fun _ _ => none) (fun _ ih s t => match through t with
    | true => some s
    | false => match stepOk n₀ ann t with
      | false => none
      | true => match st s t with
        | some (s', t') => ih s' t'
        | none => none) n
theorem topT_of {tb : String → Option Builtin} {p : Program} {w : World} {n₀ : Nat} {ann : Option Value} : ∀ {n : Nat} {s s' : SharedT} {t : Thread}, topT (stepT (denote tb) p w) n₀ ann n s t = some s' → topRun tb p w n₀ ann n s.abs t = some s'.abs
  | 0, _, _, _, h => by cases h
  | n + 1, s, s', t, h => by
    have h : (match through t with
      | true => some s
      | false => match stepOk n₀ ann t with
        | false => none
        | true => match stepT (denote tb) p w s t with
          | some (s', t') => topT (stepT (denote tb) p w) n₀ ann n s' t'
          | none => none) = some s' := h
    unfold topRun
    cases ht : through t with
    | true => rw [ht] at h; exact congrArg some (congrArg SharedT.abs (Option.some.inj h))
    | false =>
      rw [ht] at h
      cases hk : stepOk n₀ ann t with
      | false => rw [hk] at h; cases h
      | true =>
        rw [hk] at h
        cases hs : stepT (denote tb) p w s t with
        | none => rw [hs] at h; cases h
        | some r => obtain ⟨s₂, t₂⟩ := r; rw [hs] at h; dsimp only; rw [stepT_spec hs]; exact topT_of h

noncomputable abbrev lf0 : Life := Life.mk [] [] [] 0 [] [] Bool.false #[] [] 0 Bool.false Bool.false Bool.false 0 [2000, 10, 10] Bool.false 0 Bool.true [] [] 0 Bool.false
noncomputable abbrev dr0 : Drawn := Drawn.mk 0 0 0 0
noncomputable abbrev q0 : Pos := ⟨0, 0, 0, 0⟩
noncomputable abbrev ann0 : Option Value := some (.ref 6)
noncomputable abbrev sT0 (w : World) (os : OsState) : SharedT := ⟨t0 w.params, 34, lf0, Array.mk [], dr0, 318, os⟩
noncomputable abbrev sTa (w : World) (os : OsState) : SharedT := ⟨ta w.params, 38, lf0, Array.mk [], dr0, 324, os⟩
noncomputable abbrev sTf (w : World) (os : OsState) : SharedT := ⟨tf w.params, 113, lf0, Array.mk [], dr0, 462, os⟩
noncomputable abbrev sTg (w : World) (os : OsState) : SharedT := ⟨tg w.params, 118, lf0, Array.mk [], dr0, 608, os⟩
noncomputable abbrev sTh (w : World) (os : OsState) : SharedT := ⟨th w.params, 440, lf0, Array.mk [], dr0, 1046, os⟩
noncomputable abbrev H0 (P : Params) : Heap := absHeap (t0 P) 34 lf0
noncomputable def env0 : Env := { scope := pw.main.scope, locals := mainNs, globals := mainNs, cells := [], code := .ref 36, frame := some 37 }
noncomputable def bI : List Stmt := behindTheImports pw
noncomputable abbrev cI : Code := .body bI env0
noncomputable def bA : List Stmt := bI.take 15
noncomputable def bB : List Stmt := (bI.drop 15).take 1
noncomputable def bC : List Stmt := (bI.drop 15).drop 1
noncomputable def bD : List Stmt := bC.take 12
noncomputable def bE : List Stmt := bC.drop 12
theorem bI_eq : bI = bA ++ (bB ++ bC) := by unfold bA bB bC; rw [List.take_append_drop, List.take_append_drop]
theorem bC_eq : bC = bD ++ bE := by unfold bD bE; rw [List.take_append_drop]
noncomputable abbrev posf : Pos := ⟨93, 0, 93, 8⟩
noncomputable abbrev posg : Pos := ⟨94, 0, 94, 18⟩
noncomputable abbrev posh : Pos := ⟨191, 0, 360, 17⟩

theorem open_h (w : World) : (fencedOpening treeTable pw w 13160).map (fun s => (s.heap, s.gens, s.drawn, s.toks)) = some (H0 w.params, Array.mk [], dr0, 318) := by
  unfold fencedOpening
  rw [PySem.W.Fast.te10274390034422433532, PySem.W.Fast.te14289696077712309145, PySem.W.Fast.te14364793385576792824]
  kernel_rfl
theorem size_h (w : World) : ((H0 w.params).isNs mainGlobals && (Array.mk ([] : List GenState)).size == 0, (H0 w.params).objs.size, (H0 w.params).nsMap mainGlobals "__annotations__") = (true, 34, ann0) := by kernel_rfl
theorem pre_h (w : World) : (fun os => topGo treeTable pw w 34 ann0 12 (sT0 w os).abs (topStub pw)) = fun os => some ((sTa w os).abs, (⟨denote treeTable cI, cI, q0, [topFrame q0]⟩ : Thread)) := by
  rw [PySem.W.Fast.te15667345088766844465, PySem.W.Fast.te11892475500146522536, PySem.W.Fast.te14364793385576792824]
  kernel_rfl
theorem block_h (w : World) : (fun os => segRun treeTable pw w 34 ann0 1 1 (sTa w os).abs (blockOf bI env0 cI q0 [topFrame q0])) = fun os => some (Flow.next, (sTa w os).abs, cI, q0) := by kernel_rfl
theorem pA_h (w : World) : (fun os => segRunT treeTable pw w 34 ann0 1 900 (sTa w os) (piecesOf bA env0 cI q0 [topFrame q0])) = fun os => some (Flow.next, sTf w os, cI, posf) := by
  unfold piecesOf
  rw [PySem.W.Fast.te10110043849684766642, PySem.W.Fast.te12563942051412417395, PySem.W.Fast.te14364793385576792824]
  kernel_rfl
theorem pB_h : ∀ (w : World), (fun os => segRunT treeTable pw w 34 ann0 1 1300 (sTf w os) (piecesOf bB env0 cI posf [topFrame q0])) = fun os => some (Flow.next, sTg w os, cI, posg) := by
  unfold piecesOf
  rw [PySem.W.Fast.te10110043849684766642, PySem.W.Fast.te12563942051412417395, PySem.W.Fast.te14364793385576792824]
  refine byRow2 "comprehension-iter-twice" (byRow2 "special-get-raises" (fun w => ?a) fun w => ?b) (byRow2 "special-get-raises" (fun w => ?c) fun w => ?d)
  case a => kernel_rfl
  case b => kernel_rfl
  case c => kernel_rfl
  case d => kernel_rfl
/-- the run from the start, by the run from the cut -/
theorem run_h (w : World) (os : OsState) {M : Nat} {r : Shared} (h : topRun treeTable pw w 34 ann0 M (sTg w os).abs (restOf bC env0 cI posg [topFrame q0]) = some r) :
    topRun treeTable pw w 34 ann0 (12 + (1 + (900 + (1300 + M)))) ⟨H0 w.params, Array.mk [], dr0, 318, os⟩ (topStub pw) = some r := by
  refine go_top (s := (sT0 w os).abs) (congrFun (pre_h w) os) (piece_block (congrFun (block_h w) os) ?_)
  rw [bI_eq]
  refine piece_app (segRun_of (congrFun (pA_h w) os)) ?_
  exact piece_app (segRun_of (congrFun (pB_h w) os)) h
noncomputable abbrev sTz (w : World) (os : OsState) : SharedT := ⟨tz w.params, 820, lf0, Array.mk [], dr0, 1521, os⟩
noncomputable abbrev H1 (P : Params) : Heap := ⟨⟨lz P⟩, lf0⟩
noncomputable abbrev sZ (w : World) (os : OsState) : Shared := ⟨H1 w.params, Array.mk [], dr0, 1521, os⟩
theorem H1_eq (P : Params) : absHeap (tz P) 820 lf0 = H1 P := by kernel_rfl
theorem pD_h (w : World) : (fun os => segRunT treeTable pw w 34 ann0 1 4000 (sTg w os) (piecesOf bD env0 cI posg [topFrame q0])) = fun os => some (Flow.next, sTh w os, cI, posh) := by
  unfold piecesOf
  rw [PySem.W.Fast.te10110043849684766642, PySem.W.Fast.te12563942051412417395, PySem.W.Fast.te14364793385576792824]
  kernel_rfl
theorem pE_h (w : World) : (fun os => topT (stepT (denote treeTable) pw w) 34 ann0 5000 (sTh w os) (restOf bE env0 cI posh [topFrame q0])) = fun os => some (sTz w os) := by
  unfold restOf
  rw [PySem.W.Fast.te10156331382660048174, PySem.W.Fast.te11892475500146522536, PySem.W.Fast.te12563942051412417395, PySem.W.Fast.te14364793385576792824]
  kernel_rfl
theorem run_all (w : World) (os : OsState) : topRun treeTable pw w 34 ann0 (12 + (1 + (900 + (1300 + (4000 + 5000))))) ⟨H0 w.params, Array.mk [], dr0, 318, os⟩ (topStub pw) = some (sZ w os) := by
  refine run_h w os ?_
  rw [bC_eq]
  refine piece_app (segRun_of (congrFun (pD_h w) os)) ((topT_of (congrFun (pE_h w) os)).trans ?_)
  show some (⟨absHeap (tz w.params) 820 lf0, Array.mk [], dr0, 1521, os⟩ : Shared) = some ⟨H1 w.params, Array.mk [], dr0, 1521, os⟩
  rw [H1_eq]
end
section
open PyProof.Rows PySem PySem.Calls PySem.W
noncomputable abbrev LO : List Str := [Str.ofString "join_path", Str.ofString "twin_re_1_fnmatch", Str.ofString "_special_chars_map",
      Str.ofString "twin_re_1_shlex", Str.ofString "UnsupportedOperation", Str.ofString "IOBase",
      Str.ofString "BufferedIOBase", Str.ofString "TextIOBase", Str.ofString "BytesIO", Str.ofString "StringIO",
      Str.ofString "shlex", Str.ofString "split", Str.ofString "join_shlex", Str.ofString "_find_\x75nsafe"]
noncomputable def vw : Program := { pw with main := { pw.main with body := [stI pB 0, stI pB 1, stI pB 2, stI pB 4, stI pB 5, stI pB 6, stI pB 7, stI pB 9, stI pB 10, stI pB 11, stI pB 12, stI pB 14, stI pB 15, stI pB 17, stI pB 18, stI pB 20, stI pB 21, stI pB 23, stI pB 24, stI pB 25, stI pB 26, stI pB 27, stI pB 28, stI pB 29, stI pB 30, stI pB 32, stI pB 34, stI pB 35, stI pB 36, stI pB 37, stI pB 39, stI pB 40, stI pB 41] } }
noncomputable abbrev RW : RowW := OpenRow.toRowW PySem.Challenge.rw_ku0029_01.row
noncomputable abbrev mods : List Str := importedModules pw.main.body
noncomputable abbrev Xt : Shared → Bool := fun s => xlAt vw [] s && recOk (RowW.records RW) s
theorem look_0 (w : World) (os : OsState) : (staticsOk mods (H0 w.params) (H1 w.params) && namesBound pw (H1 w.params) && gensDone (sZ w os) && laidKept (H0 w.params) (H1 w.params)) = true := by kernel_rfl
theorem look_1 (w : World) (os : OsState) : seen ((recsOf vw).map (·.name)) (ownsOf vw) [] { sZ w os with gens := #[] } = expectedOf vw := by
  rw [PySem.W.Fast.te5160383126252970620]
  kernel_rfl
theorem look_2 (w : World) (os : OsState) : (sZ w os).heap.bltView = bltViewBooted := by kernel_rfl
theorem look_3 (w : World) (os : OsState) : ((sZ w os).heap.keysOk (looseW vw LO) ((recsOf vw).map (·.name)) ((litsOf vw).map (·.1)) ((clssOf vw (looseW vw LO)).map (·.name)) && (sZ w os).heap.accountedOkI mods && (sZ w os).heap.isNs mainGlobals && (sZ w os).heap.isNs builtinsNs && tablesOk vw (sZ w os).heap && Xt (sZ w os) && (if true then (sZ w os).gens.size == 0 else !leftWithCleanup (sZ w os).gens)) = true := by
  rw [PySem.W.Fast.te10880121769531294198, PySem.W.Fast.te14722251495701143533, PySem.W.Fast.te10994771534591457954]
  kernel_rfl
theorem look_4 (w : World) (os : OsState) : tabsOk vw (sZ w os) = true := by
  rw [PySem.W.Fast.te479339242167458305]
  kernel_rfl
theorem look_5 (w : World) (os : OsState) : pinSeenD vw (drecsOf vw) (sZ w os) = pinGoodD (drecsOf vw) := by
  rw [PySem.W.Fast.te16090120013241838585]
  kernel_rfl
theorem look_6 (w : World) (os : OsState) : plainSeenE vw (looseW vw LO) (sZ w os) = plainGoodE vw (looseW vw LO) := by
  rw [PySem.W.Fast.te2386780881361962483]
  kernel_rfl
theorem look_7 (w : World) (os : OsState) : plainSeenD vw LO (sZ w os) = plainGoodD vw LO := by
  rw [PySem.W.Fast.te11698064438423848299]
  kernel_rfl
theorem look_8 (w : World) (os : OsState) : wideSeen vw (sZ w os) = wideGood vw := by
  rw [PySem.W.Fast.te7317090234206586261]
  kernel_rfl
theorem look_9 (w : World) (os : OsState) : clsSeenW vw LO (sZ w os) = clsGoodW vw LO := by
  rw [PySem.W.Fast.te7369524293546568484]
  kernel_rfl
theorem left_of {α : Type} {Yf : Shared → α} {Ya : World → α} (y : ∀ w : World, (fun os => Yf (sZ w os)) = fun _ => Ya w) : LeftO pw vw LO Xt Yf Ya 13160 := by
  refine LeftO.of_pieces (H₀ := H0) (H₁ := H1) (gs₀ := Array.mk []) (gs₁ := Array.mk []) (d₀ := dr0) (d₁ := dr0) (k₀ := 318) (k₁ := 1521) (m₀ := 34) (ann := ann0) (M := 12 + (1 + (900 + (1300 + (4000 + 5000))))) open_h size_h run_all (by decide +kernel) (fun w => funext fun os => ?_)
  refine looks_pair (look_0 w os) (looks_pair ?_ (congrFun (y w) os))
  unfold openSeen openGood
  exact looks_pair (look_1 w os) (looks_pair (look_2 w os) (looks_pair (look_3 w os) (looks_pair (look_4 w os) (looks_pair (look_5 w os) (looks_pair (look_6 w os) (looks_pair (look_7 w os) (looks_pair (look_8 w os) (look_9 w os))))))))
end
section
open PyProof.Rows PySem PySem.Calls PySem.W
theorem said_1 : sreFenced pw.main = true := by rw [PySem.W.Fast.te11788848310118352699]; kernel_rfl
theorem said_2 : ((moduleNames pw.main.body).isEmpty || lookedIntoSs (moduleNames pw.main.body) pw.main.body) = true := by rw [PySem.W.Fast.te12862048085361865435, PySem.W.Fast.te9807087744658564304]; kernel_rfl
theorem said_3 : namesResolve pw = true := by rw [PySem.W.Fast.te8377067652309620493]; kernel_rfl
theorem said_5 : (namesMeet pw pw.main.body fun _ n => attrL n) = true := by rw [PySem.W.Fast.te17119622794617984870, PySem.W.Fast.te17868728402115742887]; kernel_rfl
theorem ro_1 : readsOut pw pw.main.body "vars" = false := by rw [PySem.W.Fast.te13343964577679436407]; kernel_rfl
theorem ro_2 : readsOut pw pw.main.body "dir" = false := by rw [PySem.W.Fast.te13343964577679436407]; kernel_rfl
theorem ro_3 : readsOut pw pw.main.body "locals" = false := by rw [PySem.W.Fast.te13343964577679436407]; kernel_rfl
theorem bare_h : (["vars", "dir", "locals"] : List Str).filter (readsOut pw pw.main.body) = [] := by
  simp only [List.filter_cons, List.filter_nil, ro_1, ro_2, ro_3, Bool.false_eq_true, if_false]
theorem strict_h : (!(importedModules pw.main.body).all cThrough.contains) = false := by kernel_rfl
theorem said_6 : noRoadLSs { strict := false, foot := none, bare := [] } pw.main.body = true := by rw [PySem.W.Fast.te8326940854005059898]; kernel_rfl
theorem said_7 : noRoadLSs { strict := !(importedModules pw.main.body).all cThrough.contains, foot := none, bare := (["vars", "dir", "locals"] : List Str).filter (readsOut pw pw.main.body) } pw.main.body = true := by
  rw [bare_h, strict_h]; exact said_6
theorem looks_h : looksOpen pw = true := by
  unfold looksOpen
  repeat' (with_reducible refine look_both ?_ ?_)
  · exact said_1
  · exact said_2
  · exact said_3
  · rw [PySem.W.Fast.te18344453789297297638]; kernel_rfl
  · exact said_7
  · exact said_5
theorem part_h : OpenRow.partSaid (OpenLaw.row PySem.Challenge.rw_ku0029_01) = true := by
  unfold OpenRow.partSaid
  repeat' (with_reducible refine look_both ?_ ?_)
  · exact looks_h
  all_goals (try rw [PySem.W.Fast.te18344453789297297638])
  all_goals kernel_rfl
theorem row_h : OpenRow.wellSaid (OpenLaw.row PySem.Challenge.rw_ku0029_01) = true := by
  unfold OpenRow.wellSaid
  repeat' (with_reducible refine look_both ?_ ?_)
  · exact part_h
  all_goals (try rw [PySem.W.Fast.te18344453789297297638])
  all_goals kernel_rfl
theorem said_h : PySem.Challenge.rw_ku0029_01.wellSaid = true := by
  unfold OpenLaw.wellSaid
  repeat' (with_reducible refine look_both ?_ ?_)
  · exact row_h
  all_goals (try rw [PySem.W.Fast.te10501279942588096481])
  all_goals (try rw [PySem.W.Fast.te8179353310426384613])
  all_goals (try rw [PySem.W.Fast.te8326940854005059898])
  all_goals (try rw [PySem.W.Fast.te9558739934217749035])
  all_goals (try rw [PySem.W.Fast.te16286561074155671207])
  all_goals (try rw [PySem.W.Fast.te17119622794617984870])
  all_goals (try unfold OpenLaw.reads)
  all_goals (try rw [PySem.W.Fast.te13343964577679436407])
  all_goals kernel_rfl
end
section
open PyProof.Rows PySem PySem.Calls PySem.W
noncomputable def tget (P : Params) (a : Addr) : Option Obj := match Nat.blt a 820 with
  | true => (match (tz P).get a with
    | some o => alive o
    | none => (absHeap (tz P) 820 lf0).get? a)
  | false => none
theorem tget_eq (P : Params) (a : Addr) : (H1 P).get? a = tget P a := by
  rw [← H1_eq]
  unfold tget
  cases h : Nat.blt a 820 with
  | true =>
    cases e : (tz P).get a with
    | some o => exact abs_get (Nat.blt_eq.mp h) e
    | none => rfl
  | false => exact abs_get_none (fun q => by rw [Nat.blt_eq.mpr q] at h; cases h)
theorem y_km {K : Params → Frag} {as : List Addr} {e : ∀ P, as = (K P).map (·.1)} {ts : List Addr} (w : World)
    (h : (as.map (tget w.params), ts.map (tget w.params)) = ((K w.params).map fun p => some p.2, ts.map fun _ => some (tabObj #[]))) :
    (fun os => Hook.obs (kmHook K as e ts) (sZ w os)) = fun _ => Hook.val (kmHook K as e ts) w := by
  funext os
  show (as.map (H1 w.params).get?, ts.map (H1 w.params).get?) = _
  rw [show (H1 w.params).get? = tget w.params from funext (tget_eq w.params)]
  exact h
local macro_rules | `(tactic| o_law) => `(tactic| (refine holds_law said_h fun said => ?_))
local macro_rules | `(tactic| o_head $H) => do
  let (hl, hw, hc) := (Lean.mkIdent `hl, Lean.mkIdent `hw, Lean.mkIdent `hc)
  `(tactic| (
    refine holds_open (q := vw) (loose := LO) (Xt := Xt) (XP := XL vw []) (Yf := Hook.obs $H) (Ya := Hook.val $H) (YP := Hook.says $H) (N := 13160) ?$hl (Hook.of $H) (Hook.keeps $H) (fun s e => xl_of s (Bool.and_eq_true_iff.mp e).1) XL.keeps (by rfl) (by rfl) (by rfl) (fun s e => recFacts_of (Bool.and_eq_true_iff.mp e).2) (by rfl) (by assumption) (by decide +kernel) ⟨rfl, rfl, rfl, rfl, rfl, by decide +kernel⟩ ?$hw ?$hc
    (next => exact left_of (fun w => y_km w (by kernel_rfl)))
    all_goals (rename_i said; clear said)))
open_top hd for PySem.Challenge.rw_ku0029_01
end
section
open PyProof.Rows PySem PySem.Calls PySem.W
theorem reg : (PySem.Challenge.rw_ku0029_01 = PySem.Challenge.rw_ku0029_01) ∧ (hd.heap_1 = hd.heap_1) := by
  k_fill
  exact ⟨rfl, rfl⟩

/-- from h to h' nothing but N₁ is changed; N₂ stands in h', of N₁'s addresses or new -/
structure Touch (h h' : Heap) (N₁ N₂ : List (Addr × Obj)) : Prop where
  keep : ∀ b o, h.get? b = some o → (∀ p ∈ N₁, p.1 ≠ b) → h'.get? b = some o
  now : ∀ p ∈ N₂, h'.get? p.1 = some p.2 ∧ (h.get? p.1 = none ∨ ∃ q ∈ N₁, q.1 = p.1)

section
variable {prog : Program} {w : World} {A A₀ : Around} {E : Value → Shared → Prop} {s : Shared} {K : Frag} {L : Addr} {h₀ base : Heap} {m mg mb : Str → Option Value} {N₁ news : List (Addr × Obj)} {p : Program} {loose : List Str} {mean : ExcName → Option Value}

theorem touch_mk {h g h' : Heap} {L' : Addr} {m' : Str → Option Value} {news' N₂ : List (Addr × Obj)} (hg : ∀ b o, h.get? b = some o → (∀ p ∈ N₁, p.1 ≠ b) → g.get? b = some o)
    (F' : Fr g L' h' m') (N' : News g L' h' news') (hs : ∀ p ∈ N₂, p ∈ news') : Touch h h' N₁ N₂ := by
  refine ⟨fun b o e hn => F'.keep b o (hg b o e hn), fun p hp => ⟨(N' p (hs p hp)).1, ?_⟩⟩
  by_cases hq : ∃ q ∈ N₁, q.1 = p.1
  · exact .inr hq
  · refine .inl ?_
    cases e : h.get? p.1 with
    | none => rfl
    | some o =>
      have := hg p.1 o e fun q hq' e' => hq ⟨q, hq', e'⟩
      rw [(N' p (hs p hp)).2.2] at this
      cases this

theorem code_defT {env : Env} {outer : List Env} {R : Result → Shared → Prop} {name qual : Str} {params : Arguments} {body : List Stmt} {scope : Scope} {dV kV doc pm cdv ct oc : Value} {an od : Option Addr} {osl : Array (Option Value)} {f : Addr} {args : Args} {binds : List (Str × Value)}
    (B : Below A₀ base outer h₀) (F : Fr h₀ L s.heap m) (X₀ : K.In h₀) (N : News h₀ L s.heap N₁) (T : Top p loose mean mg mb h₀) (hA : A.frames = some (env :: outer)) (hf : env.frame = some L) (hke : env.scope.kind = .function)
    (ho : K.lookup f = some ⟨oc, od, .func (fnOf name qual params body scope dV kV doc pm an cdv ct), osl⟩) (hcd : codeIn K cdv qual = true) (hroom : A.depth < recursionLimit)
    (hbind : BindsTo s (fnOf name qual params body scope dV kV doc pm an cdv ct) args binds) (hloc : ∀ y ∈ binds, scope.names.lookup y.1 = some .local)
    (h : ∀ g L' h₁, (∀ b o, s.heap.get? b = some o → (∀ p ∈ N₁, p.1 ≠ b) → g.get? b = some o) → Fr g L' h₁ (fun y => binds.reverse.lookup y) → News g L' h₁ N₁ → Below A base (env :: outer) g → K.In g → Top p loose mean mg mb g → (∀ p ∈ N₁, p.1 < L') →
      wpAny (model prog w) (A.deeper (envOf qual scope L' f cdv)) (execs body (envOf qual scope L' f cdv))
        (fun fl s' => LeaveK h₀ L m g R (match fl with | .ret v => v | _ => .none) s')
        (fun e s' => wpAny (model prog w) (A.deeper (envOf qual scope L' f cdv)) (leaving (envOf qual scope L' f cdv) e) (fun _ s'' => R (.error e) s'') (fun e' s'' => R (.error e') s'') s')
        { s with heap := h₁, toks := s.toks + binds.length })
    (hco : scope.isCoroutine = false) (hgen : scope.isGenerator = false) (hk : scope.kind = .function)
    (hcell : ∀ x ∈ scope.names, x.2 ≠ .cell) : codeAny (model prog w) A (.call (.ref f) args) R s := by
  obtain ⟨FG, BG, st, lv⟩ := groundX (R := R) B F N hA hf hke
  refine codeAny_call_def (fd := fnOf name qual params body scope dV kV doc pm an cdv ct) (body := body) (binds := binds) hroom ((X₀.keeps F.keep) _ _ ho) rfl (T.nolimit.keeps F.keep) (codeRec_of (X₀.keeps F.keep) hcd) rfl hbind hcell hloc (fun h₁ hns hk₁ => ?_) hco hgen hk
  refine wpAny_mono (h (hideAll s.heap (N₁.map (·.1))) s.heap.objs.size h₁ (fun b o e hn => hideAll_get _ e fun hb => ?_) ⟨hns, fun b o e => hk₁ b o (of_hideAll _ e), Nat.le_of_eq (hideAll_size _ _)⟩
    (fun p hp => ⟨hk₁ _ _ (N p hp).1, Nat.ne_of_lt (Heap.lt_size (N p hp).1), hideAll_none _ (List.mem_map_of_mem hp)⟩) BG (X₀.keeps fun b o e => st b o e) (T.keeps fun b o e => st b o e) (fun p hp => Heap.lt_size (N p hp).1)) (fun fl s' hl => lv _ _ hl) fun _ _ y => y
  obtain ⟨p, hp, e'⟩ := List.mem_map.mp hb
  exact hn p hp e'

/-- what a call that touches N₁ alone leaves to its caller -/
theorem touch_back {h' : Heap} {N₂ rest : List (Addr × Obj)} (F : Fr h₀ L s.heap m) (N : News h₀ L s.heap news) (hs : ∀ p ∈ N₁, p ∈ news) (hr : ∀ p ∈ rest, p ∈ news ∧ ∀ q ∈ N₁, q.1 ≠ p.1)
    (t : Touch s.heap h' N₁ N₂) : Fr h₀ L h' m ∧ News h₀ L h' (N₂ ++ rest) := by
  obtain ⟨oL, es, ep, hL, hLd, hLk, hLf⟩ := F.ns
  have hh : ∀ b o, h₀.get? b = some o → h'.get? b = some o := fun b o e => t.keep b o (F.keep b o e) fun q hq e' => by
    have := (N q (hs q hq)).2.2; rw [e', e] at this; cases this
  refine ⟨⟨⟨oL, es, ep, t.keep L oL hL fun q hq => (N q (hs q hq)).2.1, hLd, hLk, hLf⟩, hh, F.above⟩, fun p hp => ?_⟩
  rcases List.mem_append.mp hp with hp | hp
  · obtain ⟨h1, h2⟩ := t.now p hp
    refine ⟨h1, fun e => ?_, ?_⟩
    · rcases h2 with h2 | ⟨q, hq, e'⟩
      · rw [e, hL] at h2; cases h2
      · exact (N q (hs q hq)).2.1 (e'.trans e)
    · rcases h2 with h2 | ⟨q, hq, e'⟩
      · cases e : h₀.get? p.1 with
        | none => rfl
        | some o => rw [F.keep _ _ e] at h2; cases h2
      · rw [← e']; exact (N q (hs q hq)).2.2
  · obtain ⟨h1, h2⟩ := hr p hp
    exact ⟨t.keep p.1 p.2 (N p h1).1 h2, (N p h1).2⟩

inductive Upds : List (Addr × Obj × Obj) → List (Addr × Obj) → List (Addr × Obj) → Prop
  | nil {l} : Upds [] l l
  | cons {d o o' r l l₁ l₂} : Upd d o o' l l₁ → Upds r l₁ l₂ → Upds ((d, o, o') :: r) l l₂
theorem upd_mem {d : Addr} {o o' : Obj} {l l' : List (Addr × Obj)} (U : Upd d o o' l l') : ∀ p ∈ l', p = (d, o') ∨ (p ∈ l ∧ d ≠ p.1) := by
  induction U with
  | head h =>
    intro p hp
    rcases List.mem_cons.mp hp with rfl | hp
    · exact .inl rfl
    · exact .inr ⟨.tail _ hp, fun e => h p hp e.symm⟩
  | tail h _ ih =>
    intro p hp
    rcases List.mem_cons.mp hp with rfl | hp
    · exact .inr ⟨.head _, fun e => h e.symm⟩
    · rcases ih p hp with h1 | ⟨h1, h2⟩
      · exact .inl h1
      · exact .inr ⟨.tail _ h1, h2⟩
theorem upds_mem {ch : List (Addr × Obj × Obj)} {l l' : List (Addr × Obj)} (U : Upds ch l l') : ∀ p ∈ l', (∃ c ∈ ch, p = (c.1, c.2.2)) ∨ (p ∈ l ∧ ∀ c ∈ ch, c.1 ≠ p.1) := by
  induction U with
  | nil => exact fun p hp => .inr ⟨hp, fun c hc => nomatch hc⟩
  | cons u _ ih =>
    intro p hp
    rcases ih p hp with ⟨c, hc, e⟩ | ⟨h1, h2⟩
    · exact .inl ⟨c, .tail _ hc, e⟩
    · rcases upd_mem u p h1 with e | ⟨h3, h4⟩
      · exact .inl ⟨_, .head _, e⟩
      · refine .inr ⟨h3, fun c hc => ?_⟩
        rcases List.mem_cons.mp hc with rfl | hc
        · exact h4
        · exact h2 c hc
theorem touch_upds {h' : Heap} {C news' : List (Addr × Obj)} {ch : List (Addr × Obj × Obj)} (F : Fr h₀ L s.heap m) (N : News h₀ L s.heap news) (hC : ∀ p ∈ C, p ∈ news) (hc : ∀ c ∈ ch, (c.1, c.2.1) ∈ news)
    (t : Touch s.heap h' (C ++ ch.map fun c => (c.1, c.2.1)) (C ++ ch.map fun c => (c.1, c.2.2))) (U : Upds ch news news') : Fr h₀ L h' m ∧ News h₀ L h' news' := by
  have hs : ∀ p ∈ C ++ ch.map (fun c => (c.1, c.2.1)), p ∈ news := fun p hp => by
    rcases List.mem_append.mp hp with hp | hp
    · exact hC p hp
    · obtain ⟨c, hc', rfl⟩ := List.mem_map.mp hp
      exact hc c hc'
  refine ⟨(touch_back (rest := []) F N hs (fun p hp => nomatch hp) t).1, fun p hp => ?_⟩
  have back := (touch_back (rest := []) F N hs (fun p hp => nomatch hp) t).2
  rcases upds_mem U p hp with ⟨c, hc', rfl⟩ | ⟨h1, h2⟩
  · exact back _ (List.mem_append.mpr (.inl (List.mem_append.mpr (.inr (List.mem_map.mpr ⟨c, hc', rfl⟩)))))
  · by_cases hq : ∃ q ∈ C, q.1 = p.1
    · obtain ⟨q, hq, e⟩ := hq
      have e1 := (N q (hC q hq)).1
      have e2 := (N p h1).1
      rw [e, e2] at e1
      have : q = p := Prod.ext e (Option.some.inj e1).symm
      subst this
      exact back _ (List.mem_append.mpr (.inl (List.mem_append.mpr (.inl hq))))
    · refine ⟨t.keep p.1 p.2 (N p h1).1 fun q hq' => ?_, (N p h1).2⟩
      rcases List.mem_append.mp hq' with hq' | hq'
      · exact fun e => hq ⟨q, hq', e⟩
      · obtain ⟨c, hc', rfl⟩ := List.mem_map.mp hq'
        exact h2 c hc'
theorem upto_of {h g h' : Heap} (hg : ∀ b o, h.get? b = some o → (∀ p ∈ N₁, p.1 ≠ b) → g.get? b = some o) (U : g.UpToSlots h') : ∀ b o, h.get? b = some o → (∀ q ∈ N₁, q.1 ≠ b) → (∀ vs, o.data ≠ .fields vs) → ∃ sl, h'.get? b = some { o with slots := sl } :=
  fun b o e hn hv => U b o (hg b o e hn) hv
theorem touch_use {h' : Heap} {C : List (Addr × Obj)} {ch : List (Addr × Obj × Obj)} (F : Fr h₀ L s.heap m) (N : News h₀ L s.heap news) (hC : ∀ p ∈ C, p ∈ news) (hc : ∀ c ∈ ch, (c.1, c.2.1) ∈ news)
    (t : Touch s.heap h' (C ++ ch.map fun c => (c.1, c.2.1)) (C ++ ch.map fun c => (c.1, c.2.2))) : Fr h₀ L h' m ∧ ∀ news', Upds ch news news' → News h₀ L h' news' :=
  ⟨(touch_back (rest := []) F N (fun p hp => by
    rcases List.mem_append.mp hp with hp | hp
    · exact hC p hp
    · obtain ⟨c, hc', rfl⟩ := List.mem_map.mp hp
      exact hc c hc') (fun p hp => nomatch hp) t).1, fun _ U => (touch_upds F N hC hc t U).2⟩
theorem touch_in {C : List (Addr × Obj)} {ch : List (Addr × Obj × Obj)} (N : News h₀ L s.heap news) (hC : ∀ p ∈ C, p ∈ news) (hc : ∀ c ∈ ch, (c.1, c.2.1) ∈ news) : News h₀ L s.heap (C ++ ch.map fun c => (c.1, c.2.1)) := fun p hp => by
  rcases List.mem_append.mp hp with hp | hp
  · exact N p (hC p hp)
  · obtain ⟨c, hc', rfl⟩ := List.mem_map.mp hp
    exact N _ (hc c hc')
end
end
section
open PyProof.Rows PySem PySem.Calls PySem.StrLaws PySem.W
noncomputable abbrev S (l : List Nat) : Str := ⟨l.toArray⟩
theorem S_cat (a b : List Nat) : S a ++ S b = S (a ++ b) := by
  show (⟨a.toArray ++ b.toArray⟩ : Str) = _
  simp [S]
theorem of_S (x : Str) : x = S x.cps.toList := by cases x; rfl
theorem sp_S : Str.ofString " " = S [32] := by decide +kernel
theorem slice_nat (x : Str) {a b : Nat} (hab : a ≤ b) (hb : b ≤ x.length) : Txt.slice x (some (a : Int)) (some (b : Int)) = S ((x.cps.toList.drop a).take (b - a)) := sliceText_nat x hab hb
theorem slice_to_neg (x : Str) (h : 1 ≤ x.length) : Txt.slice x none (some (-1)) = S (x.cps.toList.take (x.length - 1)) := by
  have := sliceText_to_neg (x := x) (j := -1) (by omega) (by omega)
  refine Eq.trans this ?_
  have e : (-1 + (x.length : Int) - 0).toNat = x.length - 1 := by omega
  rw [e]; rfl
theorem read_pure (x : Str) (p c : Nat) (hc : x.cps.toList[p]? = some c) (q : Int) (hq : q = (p : Int) + 1) : Txt.slice (Txt.slice x (some (p : Int)) (some q) ++ Str.ofString " ") none (some (-1)) = S [c] := by
  obtain ⟨hl, he⟩ := List.getElem?_eq_some_iff.mp hc
  have hl' : p + 1 ≤ x.length := Nat.succ_le_of_lt (by simpa [Str.length] using hl)
  have e1 : q = ((p + 1 : Nat) : Int) := by omega
  rw [e1, slice_nat x (Nat.le_succ p) hl', sp_S, S_cat]
  have e2 : (x.cps.toList.drop p).take (p + 1 - p) = [c] := by
    rw [Nat.add_sub_cancel_left, List.drop_eq_getElem_cons hl, List.take_succ_cons, List.take_zero, he]
  rw [e2, slice_to_neg _ (by simp [Str.length])]
  rfl
theorem ws_S : Str.ofString " \t\r\n" = S [32, 9, 13, 10] := by decide +kernel
theorem q_S : Str.ofString "'\"" = S [39, 34] := by decide +kernel
theorem esc_S : Str.ofString "\\" = S [92] := by decide +kernel
theorem nil_S : Str.ofString "" = S [] := by decide +kernel
theorem nl_S : Str.ofString "\n" = S [10] := by decide +kernel
section
variable {prog : Program} {w : World} {A : Around} {E : Value → Shared → Prop} {s : Shared}
theorem in_lit {x y : Str} {t u : Tok} (b : Bool) {Q : Value → Shared → Prop} (e : (!(Builtin.Str.occurrences x y 0 x.length 1).isEmpty) = b) (h : Q (.bool b) s) :
    wpAny (model prog w) A (compareOp .In (.str y u) (.str x t)) Q E s := PyProof.Rows.in_str (by rw [e]; exact h)
theorem in_chr {x : Str} {c : Nat} {t u : Tok} (b : Bool) {Q : Value → Shared → Prop} (e : decide (c ∈ x.cps.toList) = b) (h : Q (.bool b) s) :
    wpAny (model prog w) A (compareOp .In (.str (S [c]) u) (.str x t)) Q E s := in_lit b ((StrLaws.found_one x c).trans e) h
theorem notin_chr {x : Str} {c : Nat} {t u : Tok} (b : Bool) {Q : Value → Shared → Prop} (e : decide (c ∈ x.cps.toList) = b) (h : Q (.bool (!b)) s) :
    wpAny (model prog w) A (compareOp .NotIn (.str (S [c]) u) (.str x t)) Q E s := PyProof.Rows.notIn_str (by rw [show (!(Builtin.Str.occurrences x (S [c]) 0 x.length 1).isEmpty) = b from (StrLaws.found_one x c).trans e]; exact h)
theorem truthy_S {c : Nat} {l : List Nat} {t : Tok} {Q : Bool → Shared → Prop} (hl : l.length ≤ 100000) (h : ∀ k, Q true { s with toks := k }) : wpAny (model prog w) A (PySem.truthy (.str (S (c :: l)) t)) Q E s :=
  KXt.truthy (b := true) (by simp [Str.length, bne_iff_ne]; omega) (by simp [Str.length]; omega) h
theorem truthy_S0 {t : Tok} {Q : Bool → Shared → Prop} (h : ∀ k, Q false { s with toks := k }) : wpAny (model prog w) A (PySem.truthy (.str (S []) t)) Q E s :=
  KXt.truthy (b := false) (by simp [Str.length]) (by simp [Str.length]) h
end
theorem eq_lit {prog : Program} {w : World} {A : Around} {E : Value → Shared → Prop} {s : Shared} {x y : Str} {t u : Tok} (b : Bool) {Q : Value → Shared → Prop} (e : (x == y) = b) (h : Q (.bool b) s) :
    wpAny (model prog w) A (compareOp .Eq (.str x t) (.str y u)) Q E s := PyProof.Rows.eq_str (by rw [e]; exact h)
noncomputable def Ap (a b : Nat) : Prop := a ≠ b
theorem Ap.ne {a b : Nat} (h : Ap a b) : a ≠ b := h
theorem Ap.en {a b : Nat} (h : Ap a b) : b ≠ a := fun e => h e.symm
theorem Ap.mk {a b : Nat} (h : a ≠ b) : Ap a b := h
noncomputable def okc (c : Nat) : Prop := c ≠ 32 ∧ c ≠ 9 ∧ c ≠ 13 ∧ c ≠ 10 ∧ c ≠ 39 ∧ c ≠ 34 ∧ c ≠ 92
theorem okc_ws {c : Nat} (h : okc c) : decide (c ∈ (Str.ofString " \t\r\n").cps.toList) = false := by
  rw [ws_S]; unfold okc at h; simp; omega
theorem okc_q {c : Nat} (h : okc c) : decide (c ∈ (Str.ofString "'\"").cps.toList) = false := by
  rw [q_S]; unfold okc at h; simp; omega
theorem okc_esc {c : Nat} (h : okc c) : decide (c ∈ (Str.ofString "\\").cps.toList) = false := by
  rw [esc_S]; unfold okc at h; simp; omega
theorem nil_in (c : Nat) : decide (c ∈ (Str.ofString "").cps.toList) = false := by
  rw [nil_S]; simp
theorem S_len (l : List Nat) : (S l).length = l.length := by simp [Str.length]
theorem S_cons_ne (c : Nat) (l : List Nat) : (S (c :: l) == S []) = false := by
  rw [beq_eq_false_iff_ne]
  intro e
  have := congrArg (fun x : Str => x.cps.toList) e
  simp at this
theorem okc_nl {c : Nat} (h : okc c) : (S [c] == Str.ofString "\n") = false := by
  rw [nl_S, beq_eq_false_iff_ne]
  intro e
  have := congrArg (fun x : Str => x.cps.toList) e
  simp at this
  unfold okc at h
  omega
theorem S_ne {c d : Nat} (h : c ≠ d) : (S [c] == S [d]) = false := by
  rw [beq_eq_false_iff_ne]
  intro e
  have := congrArg (fun x : Str => x.cps.toList) e
  simp at this
  exact h this
end
local macro_rules | `(tactic| k_room) => `(tactic| k_extra "k_room")
local macro_rules | `(tactic| k_units) => `(tactic| k_extra "k_units")
local macro_rules | `(tactic| k_ne) => `(tactic| k_extra "k_ne")
local macro_rules | `(tactic| ktr_unf) => `(tactic| k_extra "ktr_unf")
local macro_rules | `(tactic| ktr_rel) => `(tactic| k_extra "ktr_rel")
local macro_rules | `(tactic| tb_rel) => `(tactic| k_extra "tb_rel")
local macro_rules | `(tactic| k_steps) => `(tactic| k_extra "k_steps")
local macro_rules | `(tactic| x_close) => `(tactic| k_extra "x_close")
local macro_rules | `(tactic| k_all) => `(tactic| k_extra "k_all")
local macro_rules | `(tactic| walk_at $s:str) => `(tactic| k_extra $s)
section
open PyProof.Rows PySem PySem.Calls PySem.W
theorem ln_KuDeque_0 : True := by
  k_with_none
  trivial
/-- a deque without a bound -/
noncomputable abbrev dq (n : Int) (l : List Value) : Obj := { cls := .type "collections.deque", data := .fields (#[.none, .int n 0] ++ l.toArray) }
theorem plainAttrs_dq : PlainAttrs "collections.deque" :=
  ⟨⟨"collections.deque.__getattribute__", by rw [typeLookup_type, builtinLookup_eq_fast]; kernel_rfl, by decide +kernel⟩, by rw [typeLookup_type, builtinLookup_eq_fast]; kernel_rfl⟩
theorem noBool_dq : typeLookup (.type "collections.deque") "__bool__" = pure none := by rw [typeLookup_type, builtinLookup_eq_fast]; kernel_rfl
theorem slot_dq_len : Slot "collections.deque" "__len__" "collections.deque.__len__" :=
  .of (owner := "collections.deque") (n := "__len__") (by rw [typeLookup_type, builtinLookup_eq_fast]; kernel_rfl) (by decide +kernel) (by decide +kernel) (by decide +kernel)
    (by first | exact .inl (by decide +kernel) | exact .inr (by decide +kernel)) (by rw [isSubtype_type]; kernel_rfl)
theorem slot_dq_popleft : Slot "collections.deque" "popleft" "collections.deque.popleft" :=
  .of (owner := "collections.deque") (n := "popleft") (by rw [typeLookup_type, builtinLookup_eq_fast]; kernel_rfl) (by decide +kernel) (by decide +kernel) (by decide +kernel)
    (by first | exact .inl (by decide +kernel) | exact .inr (by decide +kernel)) (by rw [isSubtype_type]; kernel_rfl)
theorem slot_dq_appendleft : Slot "collections.deque" "appendleft" "collections.deque.appendleft" :=
  .of (owner := "collections.deque") (n := "appendleft") (by rw [typeLookup_type, builtinLookup_eq_fast]; kernel_rfl) (by decide +kernel) (by decide +kernel) (by decide +kernel)
    (by first | exact .inl (by decide +kernel) | exact .inr (by decide +kernel)) (by rw [isSubtype_type]; kernel_rfl)
theorem type_dq_popleft : typeOf (.builtin "collections.deque.popleft") = pure (.type "method_descriptor") := by show builtinType _ = _; rw [builtinType_eq_fast]; kernel_rfl
theorem type_dq_appendleft : typeOf (.builtin "collections.deque.appendleft") = pure (.type "method_descriptor") := by show builtinType _ = _; rw [builtinType_eq_fast]; kernel_rfl
theorem entry_dq_len : entryFor table "collections.deque.__len__" = some Builtin.«collections.deque.__len__» := entryFor_of_tree (by kernel_rfl)
theorem entry_dq_popleft : entryFor table "collections.deque.popleft" = some Builtin.«collections.deque.popleft» := entryFor_of_tree (by kernel_rfl)
theorem entry_dq_appendleft : entryFor table "collections.deque.appendleft" = some Builtin.«collections.deque.appendleft» := entryFor_of_tree (by kernel_rfl)
theorem args_dq_len (a : Value) : argsOk "collections.deque.__len__" ⟨[a], []⟩ := by unfold argsOk; kernel_rfl
theorem args_dq_popleft (a : Value) : argsOk "collections.deque.popleft" ⟨[a], []⟩ := by unfold argsOk; kernel_rfl
theorem args_dq_appendleft (a b : Value) : argsOk "collections.deque.appendleft" ⟨[a, b], []⟩ := by unfold argsOk; kernel_rfl
section
variable {prog : Program} {w : World} {A : Around} {E : Value → Shared → Prop} {s : Shared} {D L : Addr} {n : Int} {l : List Value} {h₀ : Heap} {m : Str → Option Value} {news news' : List (Addr × Obj)}
theorem len_body_dq {Q : Value → Shared → Prop} (hl : s.heap.get? D = some (dq n l)) (hfit : (l.length : Int) < 2 ^ 62) (h : Q (.int l.length (s.toks + 1)) { s with toks := s.toks + 1 + 1 }) :
    wpAny (model prog w) A (Builtin.«len» ⟨[.ref D], []⟩) (fun fin s' => ∃ r, fin = .done (.ret r) ∧ Q r s') E s := by
  have hT : s.TypeIs (.ref D) "collections.deque" := ⟨_, hl, rfl⟩
  unfold Builtin.«len»
  refine wpAny_bind (m := oneArg "len" _) (wpAny_pure ?_)
  refine wpAny_bind (m := callSpecial? (.ref D) (Str.ofString "__len__")) (wpAny_callSpecial?_slot (name := Str.ofString "__len__") hT slot_dq_len
    (wpAny_call_entry slot_dq_len hT entry_dq_len ?_ (args_dq_len _)))
  show wpAny _ _ (do retInt (← (do return (← Builtin.Deque.size (.ref D)) : Sem Nat))) _ _ s
  unfold Builtin.Deque.size fieldsOf
  refine wpAny_bind (wpAny_bind (wpAny_bind (wpAny_bind (wpAny_load hl ?_))))
  refine wpAny_pure (wpAny_pure ?_)
  refine wpAny_pure ?_
  have e : (#[Value.none, Value.int n 0] ++ l.toArray).size - 2 = l.length := by simp
  rw [e]
  refine wpAny_bind (wpAny_mkInt (wpAny_pure ⟨_, rfl, ?_⟩))
  refine wpAny_bind (wpAny_holding (wpAny_pure ?_))
  refine wpAny_bind (wpAny_letGo ?_)
  show wpAny _ _ (if ((l.length : Nat) : Int) < 0 then _ else _) _ _ _
  rw [if_neg (by omega)]
  show wpAny _ _ (if ((l.length : Nat) : Int) ≥ 2 ^ 63 then _ else _) _ _ _
  rw [if_neg (by omega)]
  exact wpAny_bind (wpAny_mkInt (wpAny_pure ⟨_, rfl, h⟩))
theorem truthy_dq0 {Q : Bool → Shared → Prop} (hl : s.heap.get? D = some (dq n l)) (hfit : (l.length : Int) < 2 ^ 62)
    (h : Q (!l.isEmpty) { s with toks := s.toks + 1 + 1 }) : wpAny (model prog w) A (truthy (.ref D)) Q E s := by
  have hT : s.TypeIs (.ref D) "collections.deque" := ⟨_, hl, rfl⟩
  have hne : ((l.length : Int) != 0) = !l.isEmpty := by
    cases l with
    | nil => rfl
    | cons a l => simp [bne_iff_ne]; omega
  have key : wpAny (model prog w) A (runValue (.builtin "len" ⟨[.ref D], []⟩)) (fun r s' => r = .int l.length (s.toks + 1) ∧ Q (!l.isEmpty) s') E s := by
    refine wpAny_runValue (codeAny_builtin entry_len ?_)
    rw [Around.under_plainId plain_len _]
    exact wpAny_mono (len_body_dq (Q := fun r s' => r = .int l.length (s.toks + 1) ∧ Q (!l.isEmpty) s') hl hfit ⟨rfl, h⟩)
      (fun fin s' h' => by obtain ⟨r, rfl, hq⟩ := h'; exact hq) fun _ _ e => e
  unfold truthy
  first
    | refine wpAny_bind (wpAny_callSpecial?_none (name := Str.ofString "__bool__") hT noBool_dq ?_)
    | refine wpAny_bind (wpAny_pure (wpAny_bind (wpAny_callSpecial?_none (name := Str.ofString "__bool__") hT noBool_dq ?_)))
  first
    | refine wpAny_bind (wpAny_specialOf (name := Str.ofString "__len__") hT slot_dq_len.lookup ?_)
    | refine wpAny_bind (wpAny_pure (wpAny_bind (wpAny_specialOf (name := Str.ofString "__len__") hT slot_dq_len.lookup ?_)))
  first
    | exact wpAny_bind (wpAny_mono key (fun r s' h' => by obtain ⟨rfl, hq⟩ := h'; exact wpAny_pure (hne ▸ hq)) fun _ _ e => e)
    | exact wpAny_bind (wpAny_pure (wpAny_bind (wpAny_mono key (fun r s' h' => by obtain ⟨rfl, hq⟩ := h'; exact wpAny_pure (hne ▸ hq)) fun _ _ e => e)))
theorem truthy_dq {Q : Bool → Shared → Prop} (b : Bool) (N : News h₀ L s.heap news) (hm : (D, dq n l) ∈ news) (hfit : l.length ≤ 100000) (e : (!l.isEmpty) = b)
    (h : ∀ k, Q b { s with toks := k }) : wpAny (model prog w) A (truthy (.ref D)) Q E s := truthy_dq0 (N _ hm).1 (by omega) (by rw [e]; exact h _)
theorem method_dq {name : Str} {id : String} {pl : Sem Bool} {Q : Value × List Value → Shared → Prop} (N : News h₀ L s.heap news) (hm : (D, dq n l) ∈ news) (slot : Slot "collections.deque" name id) (hty : typeOf (.builtin id) = pure (.type "method_descriptor"))
    (h : Q (.builtin id, [.ref D]) s) : wpAny (model prog w) A (getMethod (.ref D) name pl) Q E s :=
  getMethod_builtin ⟨_, (N _ hm).1, rfl⟩ plainAttrs_dq slot hty (fun a e => by cases e; exact ⟨_, (N _ hm).1, rfl⟩) h
theorem ext_dq (n : Int) (l : List Value) : (#[Value.none, Value.int n 0] ++ l.toArray).extract 2 (#[Value.none, Value.int n 0] ++ l.toArray).size = l.toArray := by
  apply Array.ext'; simp
theorem map_dq (f : Array Value → Array Value) (l' : List Value) (e : f l.toArray = l'.toArray) : (Obj.mapFields fun vs => #[vs.getD 0 Value.none, rawInt (n + 1)] ++ f (vs.extract 2 vs.size)) (dq n l) = dq (n + 1) l' := by
  show ({ cls := .type "collections.deque", data := .fields (#[(#[Value.none, Value.int n 0] ++ l.toArray).getD 0 Value.none, rawInt (n + 1)] ++ f ((#[Value.none, Value.int n 0] ++ l.toArray).extract 2 (#[Value.none, Value.int n 0] ++ l.toArray).size)) } : Obj) = _
  rw [ext_dq, e]
  have : (#[Value.none, Value.int n 0] ++ l.toArray).getD 0 Value.none = Value.none := by simp [Array.getD]
  rw [this]
  rfl
theorem change_dq {Q : Unit → Shared → Prop} (f : Array Value → Array Value) (l' : List Value) (F : Fr h₀ L s.heap m) (N : News h₀ L s.heap news) (U : Upd D (dq n l) (dq (n + 1) l') news news') (e : f l.toArray = l'.toArray) (hz : l'.length ≤ 100000)
    (h : ∀ h', Fr h₀ L h' m → News h₀ L h' news' → Q () { s with heap := h' }) : wpAny (model prog w) A (Builtin.Deque.change (.ref D) f) Q E s := by
  obtain ⟨pre, post, rfl, rfl, a, b⟩ := U.split
  have hl : s.heap.get? D = some (dq n l) := (N (D, dq n l) (List.mem_append.mpr (.inr (.head _)))).1
  obtain ⟨F', N'⟩ := news_upd F N a b (map_dq f l' e) rfl
  unfold Builtin.Deque.change Builtin.Deque.state
  refine wpAny_bind (wpAny_bind (wpAny_field hl rfl (x := .int n 0) (by simp) (wpAny_pure ?_)))
  exact wpAny_updateFields hl rfl (h _ F' N') (by
    have e2 : (f ((#[Value.none, Value.int n 0] ++ l.toArray).extract 2 (#[Value.none, Value.int n 0] ++ l.toArray).size)).size = l'.length := by rw [ext_dq, e, List.size_toArray]
    show (#[(#[Value.none, Value.int n 0] ++ l.toArray).getD 0 Value.none, rawInt (n + 1)] ++ f ((#[Value.none, Value.int n 0] ++ l.toArray).extract 2 (#[Value.none, Value.int n 0] ++ l.toArray).size)).size ≤ _
    rw [Array.size_append, e2, sizeLine_eq]
    simp only [List.size_toArray, List.length_cons, List.length_nil]
    omega)
theorem popleft_dq {x : Value} {Q : Value → Shared → Prop} (F : Fr h₀ L s.heap m) (N : News h₀ L s.heap news) (U : Upd D (dq n (x :: l)) (dq (n + 1) l) news news') (hz : l.length ≤ 100000)
    (h : ∀ h', Fr h₀ L h' m → News h₀ L h' news' → Q x { s with heap := h' }) : wpAny (model prog w) A (call (.builtin "collections.deque.popleft") [.ref D]) Q E s := by
  have hl : s.heap.get? D = some (dq n (x :: l)) := by
    obtain ⟨pre, post, rfl, rfl, a, b⟩ := U.split
    exact (N (D, dq n (x :: l)) (List.mem_append.mpr (.inr (.head _)))).1
  refine wpAny_call (codeAny_call_builtin slot_dq_popleft.plain entry_dq_popleft (slot_dq_popleft.check _ _ _ _ _ _ _ _ ⟨_, hl, rfl⟩ (args_dq_popleft _) ?_))
  unfold Builtin.«collections.deque.popleft»
  refine wpAny_bind (m := selfOnly _ _) (wpAny_pure ?_)
  unfold Builtin.Deque.items
  refine wpAny_bind (wpAny_bind (wpAny_fieldsOf hl rfl (wpAny_pure ?_)))
  rw [ext_dq]
  show wpAny _ _ (do Builtin.Deque.change (.ref D) (·.eraseIdxIfInBounds 0); ret x) _ _ s
  exact wpAny_bind (change_dq _ l F N U (by simp [Array.eraseIdxIfInBounds]) hz fun h' F' N' => wpAny_pure (h h' F' N'))
theorem appendleft_dq {x : Value} {Q : Value → Shared → Prop} (F : Fr h₀ L s.heap m) (N : News h₀ L s.heap news) (U : Upd D (dq n l) (dq (n + 1) (x :: l)) news news') (hz : (x :: l).length ≤ 100000)
    (h : ∀ h', Fr h₀ L h' m → News h₀ L h' news' → Q .none { s with heap := h' }) : wpAny (model prog w) A (call (.builtin "collections.deque.appendleft") [.ref D, x]) Q E s := by
  have hl : s.heap.get? D = some (dq n l) := by
    obtain ⟨pre, post, rfl, rfl, a, b⟩ := U.split
    exact (N (D, dq n l) (List.mem_append.mpr (.inr (.head _)))).1
  refine wpAny_call (codeAny_call_builtin slot_dq_appendleft.plain entry_dq_appendleft (slot_dq_appendleft.check _ _ _ _ _ _ _ _ ⟨_, hl, rfl⟩ (args_dq_appendleft _ _) ?_))
  unfold Builtin.«collections.deque.appendleft»
  refine wpAny_bind (m := selfAndOne _ _) (wpAny_pure ?_)
  show wpAny _ _ (do Builtin.Deque.pushLeft (.ref D) x; ret .none) _ _ s
  unfold Builtin.Deque.pushLeft
  refine wpAny_bind (wpAny_bind (change_dq _ (x :: l) F N U (by simp) hz fun h' F' N' => ?_))
  have hl' : h'.get? D = some (dq (n + 1) (x :: l)) := by
    obtain ⟨pre, post, rfl, rfl, a, b⟩ := U.split
    exact (N' (D, dq (n + 1) (x :: l)) (List.mem_append.mpr (.inr (.head _)))).1
  unfold Builtin.Deque.maxlen
  refine wpAny_bind (wpAny_bind (wpAny_field (x := .none) hl' rfl (by simp) (wpAny_pure ?_)))
  exact wpAny_pure (wpAny_pure (h h' F' N'))
end
end
section
open PyProof.Rows PySem PySem.Calls PySem.W
theorem ln_KuRead_1 : True := by
  k_with_none
  k_with "k_room" => (((try simp only [depth_mark, depth_under_make, depth_under_kw, depth_in1, depth_deeper, depth_caller]); (try dsimp only [ktrTop]); omega))
  k_with "k_units" => (((try simp only [units_in1, units_deeper, Around.mark_units, units_caller]); (try dsimp only [ktrTop]); omega))
  k_with "k_ne" => ((refine neN ?_; (try dsimp only); first | exact Ap.ne (by assumption) | exact Ap.en (by assumption) | omega))
  k_with "ktr_unf" => ((
      refine' code_defT ?zk1 ?zk2 ?zk3 ?zk4 ?zk5 ?zkA ?zkF ?zkK ?zk6 ?zk7 ?zk8 ?zk9k ?zkB ?_ ?zc2 ?zc3 ?zc4 ?zc5
      case zkA => exact rfl
      case zkF => first | assumption | exact rfl
      case zkK => first | assumption | exact rfl
      case zk1 => k_asm
      case zk2 => k_asm
      case zk3 => k_asm
      case zk4 => k_asm
      case zk5 => k_asm
      case zk6 => k_is
      case zk7 => k_is
      case zk8 => k_room
      case zk9k => first | exact BindsTo.of_eq rfl | exact binds_K (by k_in) rfl (by k_is) rfl rfl rfl
      case zc5 => decide
      case zkB => exact locs rfl
      case zc2 => exact rfl
      case zc3 => exact rfl
      case zc4 => exact rfl
      intro g'k L'k h'k hg'k F'k N'k B'k X'k T'k l1k
      (try k_lt l1k)
      (try dsimp only)
      (try k_lift B'k)
      (try k_fold)))
  trivial
noncomputable abbrev kE (w : World) (n : Str) (t : Tok) (v : Value) : DictEntry := ⟨PyData.keyHash w.params n, .str n t, v⟩
noncomputable abbrev ioD (w : World) (t1 t2 t3 t4 t5 : Tok) (x : Str) (p : Int) (t6 : Tok) : Obj := dictOf [kE w (Str.ofString "_StringIO__newline") t1 (.str (Str.ofString "\n") t4), kE w (Str.ofString "_StringIO__buf") t2 (.str x t5), kE w (Str.ofString "_StringIO__pos") t3 (.int p t6)] 3
noncomputable abbrev lexD (w : World) (kt vt : Nat → Tok) (a pb fs : Addr) (W cm : Str) (ws : Bool) (st tok : Value) : Obj := dictOf [
  kE w (Str.ofString "instream") (kt 0) (.ref a), kE w (Str.ofString "infile") (kt 1) .none, kE w (Str.ofString "posix") (kt 2) (.bool true), kE w (Str.ofString "eof") (kt 3) .none,
  kE w (Str.ofString "commenters") (kt 4) (.str cm (vt 4)), kE w (Str.ofString "wordchars") (kt 5) (.str W (vt 5)), kE w (Str.ofString "whitespace") (kt 6) (.str (Str.ofString " \t\r\n") (vt 6)), kE w (Str.ofString "whitespace_split") (kt 7) (.bool ws),
  kE w (Str.ofString "quotes") (kt 8) (.str (Str.ofString "'\"") (vt 8)), kE w (Str.ofString "escape") (kt 9) (.str (Str.ofString "\\") (vt 9)), kE w (Str.ofString "escapedquotes") (kt 10) (.str (Str.ofString "\"") (vt 10)),
  kE w (Str.ofString "state") (kt 11) st, kE w (Str.ofString "pushback") (kt 12) (.ref pb), kE w (Str.ofString "lineno") (kt 13) (.int 1 (vt 13)), kE w (Str.ofString "debug") (kt 14) (.int 0 (vt 14)),
  kE w (Str.ofString "token") (kt 15) tok, kE w (Str.ofString "filestack") (kt 16) (.ref fs), kE w (Str.ofString "source") (kt 17) .none, kE w (Str.ofString "_punctuation_chars") (kt 18) (.str (Str.ofString "") (vt 18))] 19
set_option maxHeartbeats 4000000 in
theorem read_spec {PG : Program} {LS : List Str} (w : World) (mean : ExcName → Option Value) (mg mb : Str → Option Value) (dp un : Nat) (gd : Option (List Code)) (hh : Option Value) (env : Env) (outer : List Env) (A₀ : Around) (base h₀ : Heap) (L : Addr) (m : Str → Option Value) (s : Shared) (Q : Value → Shared → Prop) (E : Value → Shared → Prop)
   (B : Below A₀ base outer h₀) (F : Fr h₀ L s.heap m) (X : (hd.heap_1 w.params).In h₀) (T : Top PG LS mean mg mb h₀) (hf : env.frame = some L) (hk : env.scope.kind = .function) (hdp : dp + 10 < recursionLimit) (hu : un + 80 < cLine)
   (x : Str) (p c : Nat) (t t1 t2 t3 t4 t5 t6 : Tok) (hx : x.length ≤ 2000) (hc : x.cps.toList[p]? = some c) (a d : Addr) (had : Ap a d)
   (hret : ∀ t (p' : Int) t6' h' tk', p' = (p : Int) + 1 → Touch s.heap h' [(a, instObj 684 d), (d, ioD w t1 t2 t3 t4 t5 x p t6)] [(a, instObj 684 d), (d, ioD w t1 t2 t3 t4 t5 x p' t6')] → Q (.str (S [c]) t) {s with heap := h', toks := tk'})
   (N : News h₀ L s.heap [(a, instObj 684 d), (d, ioD w t1 t2 t3 t4 t5 x p t6)])  :
   wpAny (model PySem.Challenge.pw_ku0029_01 w) (⟨hh, dp, some (env :: outer), gd, un⟩ : Around) (call (.ref 630) [.ref a, .int 1 t]) Q E s := by
  refine wpAny_call ?_
  ktr_unf
  have hq2 : p < x.length := by have := (List.getElem?_eq_some_iff.mp hc).1; simpa [Str.length] using this
  have hq0 : (0 : Int) ≤ (p : Int) := by omega
  have hq1 : (p : Int) < (x.length : Int) := by omega
  k_steps
  all_goals (rw [read_pure x p c hc _ (by omega)])
  all_goals (refine hret _ _ _ _ _ ?_ (touch_mk (by assumption) (by assumption) (by assumption) (fun _ hq => hq)))
  all_goals omega

set_option maxHeartbeats 4000000 in
theorem read_eof {PG : Program} {LS : List Str} (w : World) (mean : ExcName → Option Value) (mg mb : Str → Option Value) (dp un : Nat) (gd : Option (List Code)) (hh : Option Value) (env : Env) (outer : List Env) (A₀ : Around) (base h₀ : Heap) (L : Addr) (m : Str → Option Value) (s : Shared) (Q : Value → Shared → Prop) (E : Value → Shared → Prop)
   (B : Below A₀ base outer h₀) (F : Fr h₀ L s.heap m) (X : (hd.heap_1 w.params).In h₀) (T : Top PG LS mean mg mb h₀) (hf : env.frame = some L) (hk : env.scope.kind = .function) (hdp : dp + 10 < recursionLimit) (hu : un + 80 < cLine)
   (x : Str) (p : Nat) (t t1 t2 t3 t4 t5 t6 : Tok) (hx : x.length ≤ 2000) (hc : x.cps.toList[p]? = none) (a d : Addr) (had : Ap a d)
   (hret : ∀ t h' tk', Touch s.heap h' [(a, instObj 684 d), (d, ioD w t1 t2 t3 t4 t5 x p t6)] [(a, instObj 684 d), (d, ioD w t1 t2 t3 t4 t5 x p t6)] → Q (.str (Str.ofString "") t) {s with heap := h', toks := tk'})
   (N : News h₀ L s.heap [(a, instObj 684 d), (d, ioD w t1 t2 t3 t4 t5 x p t6)])  :
   wpAny (model PySem.Challenge.pw_ku0029_01 w) (⟨hh, dp, some (env :: outer), gd, un⟩ : Around) (call (.ref 630) [.ref a, .int 1 t]) Q E s := by
  refine wpAny_call ?_
  ktr_unf
  have hq2 : x.length ≤ p := by have := List.getElem?_eq_none_iff.mp hc; simpa [Str.length] using this
  have hq0 : (0 : Int) ≤ (p : Int) := by omega
  have hq1 : (x.length : Int) ≤ (p : Int) := by omega
  k_steps
  all_goals (exact hret _ _ _ (touch_mk (by assumption) (by assumption) (by assumption) (fun _ hq => hq)))

theorem use_read {PG : Program} {LS : List Str} {w : World} {mean : ExcName → Option Value} {mg mb : Str → Option Value} {dp un : Nat} {gd : Option (List Code)} {hh : Option Value} {env : Env} {outer : List Env} {A₀ : Around} {base h₀ : Heap} {L : Addr} {m : Str → Option Value} {s : Shared} {Q : Value → Shared → Prop} {E : Value → Shared → Prop}
   (B : Below A₀ base outer h₀) (F : Fr h₀ L s.heap m) (X : (hd.heap_1 w.params).In h₀) (T : Top PG LS mean mg mb h₀) (hf : env.frame = some L) (hk : env.scope.kind = .function) (hdp : dp + 10 < recursionLimit) (hu : un + 80 < cLine)
   {x : Str} {p c : Nat} {t t1 t2 t3 t4 t5 t6 : Tok} {a d : Addr} (hx : x.length ≤ 2000) (hc : x.cps.toList[p]? = some c) (had : Ap a d) {news : List (Addr × Obj)}
   (N : News h₀ L s.heap news) (h1 : (a, instObj 684 d) ∈ news) (h2 : (d, ioD w t1 t2 t3 t4 t5 x p t6) ∈ news)
   (k : ∀ t t6' h' tk', Fr h₀ L h' m → (∀ news', Upd d (ioD w t1 t2 t3 t4 t5 x p t6) (ioD w t1 t2 t3 t4 t5 x ((p + 1 : Nat) : Int) t6') news news' → News h₀ L h' news') → Q (.str (S [c]) t) {s with heap := h', toks := tk'}) :
   wpAny (model PySem.Challenge.pw_ku0029_01 w) (⟨hh, dp, some (env :: outer), gd, un⟩ : Around) (call (.ref 630) [.ref a, .int 1 t]) Q E s := by
  refine read_spec w mean mg mb dp un gd hh env outer A₀ base h₀ L m s Q E B F X T hf hk hdp hu x p c t t1 t2 t3 t4 t5 t6 hx hc a d had ?_ fun q hq => ?_
  · intro t p' t6' h' tk' hp' ht
    have e : p' = ((p + 1 : Nat) : Int) := by omega
    subst e
    have hb (news') (U : Upd d (ioD w t1 t2 t3 t4 t5 x p t6) (ioD w t1 t2 t3 t4 t5 x ((p + 1 : Nat) : Int) t6') news news') := touch_upds (C := [(a, instObj 684 d)]) (ch := [(d, ioD w t1 t2 t3 t4 t5 x p t6, ioD w t1 t2 t3 t4 t5 x ((p + 1 : Nat) : Int) t6')]) F N (fun q hq => by rw [List.mem_singleton.mp hq]; exact h1) (fun q hq => by rw [List.mem_singleton.mp hq]; exact h2) ht (.cons U .nil)
    have hs : ∀ q ∈ [(a, instObj 684 d), (d, ioD w t1 t2 t3 t4 t5 x p t6)], q ∈ news := fun q hq => by
      rcases List.mem_cons.mp hq with rfl | hq
      · exact h1
      · rw [List.mem_singleton.mp hq]; exact h2
    exact k t t6' h' tk' (touch_back (rest := []) F N hs (fun q hq => nomatch hq) ht).1 fun news' U => (hb news' U).2
  · rcases List.mem_cons.mp hq with rfl | hq
    · exact N _ h1
    · rw [List.mem_singleton.mp hq]; exact N _ h2

theorem use_read_eof {PG : Program} {LS : List Str} {w : World} {mean : ExcName → Option Value} {mg mb : Str → Option Value} {dp un : Nat} {gd : Option (List Code)} {hh : Option Value} {env : Env} {outer : List Env} {A₀ : Around} {base h₀ : Heap} {L : Addr} {m : Str → Option Value} {s : Shared} {Q : Value → Shared → Prop} {E : Value → Shared → Prop}
   (B : Below A₀ base outer h₀) (F : Fr h₀ L s.heap m) (X : (hd.heap_1 w.params).In h₀) (T : Top PG LS mean mg mb h₀) (hf : env.frame = some L) (hk : env.scope.kind = .function) (hdp : dp + 10 < recursionLimit) (hu : un + 80 < cLine)
   {x : Str} {p : Nat} {t t1 t2 t3 t4 t5 t6 : Tok} {a d : Addr} (hx : x.length ≤ 2000) (hc : x.cps.toList[p]? = none) (had : Ap a d) {news : List (Addr × Obj)}
   (N : News h₀ L s.heap news) (h1 : (a, instObj 684 d) ∈ news) (h2 : (d, ioD w t1 t2 t3 t4 t5 x p t6) ∈ news)
   (k : ∀ t h' tk', Fr h₀ L h' m → News h₀ L h' news → Q (.str (Str.ofString "") t) {s with heap := h', toks := tk'}) :
   wpAny (model PySem.Challenge.pw_ku0029_01 w) (⟨hh, dp, some (env :: outer), gd, un⟩ : Around) (call (.ref 630) [.ref a, .int 1 t]) Q E s := by
  refine read_eof w mean mg mb dp un gd hh env outer A₀ base h₀ L m s Q E B F X T hf hk hdp hu x p t t1 t2 t3 t4 t5 t6 hx hc a d had ?_ fun q hq => ?_
  · intro t h' tk' ht
    have hs : ∀ q ∈ [(a, instObj 684 d), (d, ioD w t1 t2 t3 t4 t5 x p t6)], q ∈ news := fun q hq => by
      rcases List.mem_cons.mp hq with rfl | hq
      · exact h1
      · rw [List.mem_singleton.mp hq]; exact h2
    have hF := (touch_back (rest := []) F N hs (fun q hq => nomatch hq) ht).1
    exact k t h' tk' hF (touch_upds (C := [(a, instObj 684 d), (d, ioD w t1 t2 t3 t4 t5 x p t6)]) (ch := []) F N hs (fun q hq => nomatch hq) (by simpa using ht) .nil).2
  · rcases List.mem_cons.mp hq with rfl | hq
    · exact N _ h1
    · rw [List.mem_singleton.mp hq]; exact N _ h2

noncomputable def Hold (P : Prop) : Prop := P
theorem Hold.of {P : Prop} (h : Hold P) : P := h
theorem Hold.mk {P : Prop} (h : P) : Hold P := h
end
section
open PyProof.Rows PySem PySem.Calls PySem.W
theorem ln_KuTok_1 : True := by
  k_with_none
  k_with "k_steps" => (repeat' (first | (k_unfold; (try dsimp only)) | (k_end; wrow_close) | ((with_reducible show wpAny _ _ (exec _ _) _ _ _); k_fold) | walk1 | (dsimp only; walk1) | (leave1; walk_say "STEP leave1"; try dsimp only) | fail "no step"))
  k_with "k_room" => (((try simp only [depth_mark, depth_under_make, depth_under_kw, depth_in1, depth_deeper, depth_caller]); (try dsimp only [ktrTop]); omega))
  k_with "k_units" => (((try simp only [units_in1, units_deeper, Around.mark_units, units_caller]); (try dsimp only [ktrTop]); omega))
  k_with "k_ne" => ((refine neN ?_; (try dsimp only); first | exact Ap.ne (by assumption) | exact Ap.en (by assumption) | omega))
  k_with "ktr_unf" => ((
      refine' code_defT ?zk1 ?zk2 ?zk3 ?zk4 ?zk5 ?zkA ?zkF ?zkK ?zk6 ?zk7 ?zk8 ?zk9k ?zkB ?_ ?zc2 ?zc3 ?zc4 ?zc5
      case zkA => exact rfl
      case zkF => first | assumption | exact rfl
      case zkK => first | assumption | exact rfl
      case zk1 => k_asm
      case zk2 => k_asm
      case zk3 => k_asm
      case zk4 => k_asm
      case zk5 => k_asm
      case zk6 => k_is
      case zk7 => k_is
      case zk8 => k_room
      case zk9k => first | exact BindsTo.of_eq rfl | exact binds_K (by k_in) rfl (by k_is) rfl rfl rfl
      case zc5 => decide
      case zkB => exact locs rfl
      case zc2 => exact rfl
      case zc3 => exact rfl
      case zc4 => exact rfl
      intro g'k L'k h'k hg'k F'k N'k B'k X'k T'k l1k
      (try k_lt l1k)
      (try dsimp only)
      (try k_lift B'k)
      (try k_fold)))
  trivial
noncomputable def stV (post : List Nat) (t : Tok) : Value := match post with | [] => .none | _ :: _ => .str (Str.ofString " ") t
noncomputable def adv (post : List Nat) : Nat := match post with | [] => 0 | _ :: _ => 1
theorem ln_KuTok_2 : True := by
  k_with "compareOp In str str" => (first
      | (refine' in_lit true ?ze ?_; (case ze => decide +kernel))
      | (refine' in_lit false ?ze ?_; (case ze => decide +kernel))
      | (with_unfolding_all refine' in_chr false ?ze ?_; (case ze => first | exact okc_ws (by assumption) | exact okc_q (by assumption) | exact okc_esc (by assumption) | exact nil_in _ | exact decide_eq_false (by assumption)))
      | (with_unfolding_all refine' in_chr _ rfl ?_))
  k_with "compareOp NotIn str str" => (first
      | (with_unfolding_all refine' notin_chr false ?ze ?_; (case ze => exact nil_in _); try dsimp only [Bool.not_false]))
  k_with "compareOp Eq str str" => (first
      | (refine' eq_lit true ?ze ?_; (case ze => decide +kernel))
      | (refine' eq_lit false ?ze ?_; (case ze => decide +kernel))
      | (refine' eq_lit false ?ze ?_; (case ze => first | exact okc_nl (by assumption) | (rw [nil_S]; exact S_cons_ne _ _))))
  k_with "truthy str" => (first
      | (refine' truthy_S ?ze ?_; (case ze => first | omega | (simp only [List.length_cons, List.length_nil]; omega)); intro _)
      | (refine truthy_S0 ?_; intro _))
  k_with "inplaceOp Add str str" => ((refine' SBL.iadd ?_ ?ze; (case ze => ((try simp only [S_len, List.length_cons, List.length_nil, List.length_take]); rw [sizeLine_eq]; omega)); intro _ _ _))
  k_with "exec While" => (((with_reducible show wpAny _ _ (exec (Stmt.While _ _ _ _) _) _ _ _); refine Hold.of ?_))
  k_with "call ref" => ((k_here; (with_reducible show wpAny _ _ (call (Value.ref 630) _) _ _ _); k_dflt (first
      | (refine' use_read ?zB ?zF ?zX ?zT ?zhf ?zhk ?zhdp ?zhu ?zhx ?zhc ?zhad ?zN ?zh1 ?zh2 ?_; (case zB => k_asm); (case zF => k_asm); (case zX => k_asm); (case zT => k_asm); (case zhf => exact rfl); (case zhk => exact rfl); (case zhdp => k_room); (case zhu => k_units); (case zhx => assumption); (case zhc => assumption); (case zhad => first | assumption | exact Ap.mk (by k_ne)); (case zN => k_asm); (case zh1 => k_mem); (case zh2 => k_mem); k_whole; intro t9k t69k h9k tk9k F9k hN9k; (have N9k := hN9k _ (by k_upd)); clear hN9k; (try dsimp only); (try k_fold))
      | (refine' use_read_eof ?zB ?zF ?zX ?zT ?zhf ?zhk ?zhdp ?zhu ?zhx ?zhc ?zhad ?zN ?zh1 ?zh2 ?_; (case zB => k_asm); (case zF => k_asm); (case zX => k_asm); (case zT => k_asm); (case zhf => exact rfl); (case zhk => exact rfl); (case zhdp => k_room); (case zhu => k_units); (case zhx => assumption); (case zhc => assumption); (case zhad => first | assumption | exact Ap.mk (by k_ne)); (case zN => k_asm); (case zh1 => k_mem); (case zh2 => k_mem); k_whole; intro t9k h9k tk9k F9k N9k; (try dsimp only); (try k_fold)))))
  trivial
set_option maxHeartbeats 4000000 in
theorem rt_spec {PG : Program} {LS : List Str} (w : World) (mean : ExcName → Option Value) (mg mb : Str → Option Value) (dp un : Nat) (gd : Option (List Code)) (hh : Option Value) (env : Env) (outer : List Env) (A₀ : Around) (base h₀ : Heap) (L : Addr) (m : Str → Option Value) (s : Shared) (Q : Value → Shared → Prop) (E : Value → Shared → Prop)
   (B : Below A₀ base outer h₀) (F : Fr h₀ L s.heap m) (X : (hd.heap_1 w.params).In h₀) (T : Top PG LS mean mg mb h₀) (hf : env.frame = some L) (hk : env.scope.kind = .function) (hdp : dp + 20 < recursionLimit) (hu : un + 200 < cLine)
   (x W : Str) (pre : List Nat) (w0 : Nat) (hW : ¬ w0 ∈ W.cps.toList) (wr post : List Nat) (kt vt : Nat → Tok) (t1 t2 t3 t4 t5 t6 t7 t8 : Tok) (hx : x.length ≤ 2000) (hwl : (w0 :: wr).length ≤ 200) (hwr : wr.length ≤ 199) (hl : x.cps.toList = pre ++ ((w0 :: wr) ++ post)) (hok : ∀ c ∈ w0 :: wr, okc c) (hpost : post = [] ∨ ∃ more, post = 32 :: more) (la ld a d pb fs : Addr) (ne_la_ld : Ap la ld) (ne_la_a : Ap la a) (ne_la_d : Ap la d) (ne_ld_a : Ap ld a) (ne_ld_d : Ap ld d) (ne_a_d : Ap a d)
   (hret : ∀ t t6' t7' t8' h' tk', Touch s.heap h' [(la, instObj 777 ld), (a, instObj 684 d), (ld, lexD w kt vt a pb fs W (Str.ofString "") true (.str (Str.ofString " ") t7) (.str (Str.ofString "") t8)), (d, ioD w t1 t2 t3 t4 t5 x (pre.length : Nat) t6)] [(la, instObj 777 ld), (a, instObj 684 d), (ld, lexD w kt vt a pb fs W (Str.ofString "") true (stV post t7') (.str (Str.ofString "") t8')), (d, ioD w t1 t2 t3 t4 t5 x (pre.length + (w0 :: wr).length + adv post : Nat) t6')] → Q (.str (S (w0 :: wr)) t) {s with heap := h', toks := tk'})
   (N : News h₀ L s.heap [(la, instObj 777 ld), (a, instObj 684 d), (ld, lexD w kt vt a pb fs W (Str.ofString "") true (.str (Str.ofString " ") t7) (.str (Str.ofString "") t8)), (d, ioD w t1 t2 t3 t4 t5 x (pre.length : Nat) t6)])  :
   wpAny (model PySem.Challenge.pw_ku0029_01 w) (⟨hh, dp, some (env :: outer), gd, un⟩ : Around) (call (.ref 745) [.ref la]) Q E s := by
  refine wpAny_call ?_
  ktr_unf
  k_steps
  refine Hold.mk (ksw_while (σ := Nat × Tok × Tok × Tok × Str × Str) (fun c => [(la, instObj 777 ld), (a, instObj 684 d), (ld, lexD w kt vt a pb fs W (Str.ofString "") true (.str c.2.2.2.2.1 c.2.1) (.str c.2.2.2.2.2 c.2.2.1)), (d, ioD w t1 t2 t3 t4 t5 x (pre.length + c.1 : Nat) c.2.2.2.1)]) (fun _ => [(Str.ofString "self", Value.ref la), (Str.ofString "quoted", Value.bool false)]) (fun _ => True) [Str.ofString "nextchar", Str.ofString "escapedstate"] (fun c => c.1 ≤ (w0 :: wr).length ∧ c.2.2.2.2.1 = (if c.1 = 0 then Str.ofString " " else Str.ofString "a") ∧ c.2.2.2.2.2 = S ((w0 :: wr).take c.1)) (fun c => (w0 :: wr).length - c.1) (0, t7, t8, t6, Str.ofString " ", Str.ofString "") (by assumption) ?N trivial ?hk ?hp ?turn)
  case N => simpa using (by assumption)
  case hk => kst_all
  case hp => exact ⟨Nat.zero_le _, rfl, nil_S⟩
  intro c u h9 tk9 _ hP F9 N9
  obtain ⟨k, q1, q2, q3, st, tx⟩ := c
  obtain ⟨hP, hst, htx⟩ := hP
  dsimp only at hP hst htx N9
  rcases Nat.lt_or_ge k (w0 :: wr).length with hlt | hge
  · have hoc := hok (w0 :: wr)[k] (List.getElem_mem hlt)
    have hc : x.cps.toList[pre.length + k]? = some (w0 :: wr)[k] := by
      rw [hl, List.getElem?_append_right (Nat.le_add_right _ _), Nat.add_sub_cancel_left, List.getElem?_append_left hlt]; exact List.getElem?_eq_getElem hlt
    have hcw : k = 0 → (w0 :: wr)[k] = w0 := fun h => by subst h; rfl
    have hnx : S ((w0 :: wr).take k) ++ S [(w0 :: wr)[k]] = S ((w0 :: wr).take (k + 1)) := by rw [S_cat, List.take_succ_eq_append_getElem hlt]
    generalize (w0 :: wr)[k] = cc at hoc hc hcw hnx
    rcases Nat.eq_zero_or_pos k with hk0 | hkp
    · rw [if_pos hk0] at hst
      subst hst
      have hccW : ¬ cc ∈ W.cps.toList := by rw [hcw hk0]; exact hW
      have hnx' : S [cc] = S ((w0 :: wr).take (k + 1)) := by rw [← hnx, S_cat, hk0, List.take_zero]; rfl
      generalize hR : KswPost _ _ _ _ _ _ _ _ _ _ _ _ = R
      clear N F X T B
      k_steps
      all_goals subst hR
      all_goals (show KswEnd _ _ _ _ _ _ _ _ _ _ _ _)
      all_goals (refine ksw_end (k + 1, _, _, _, _, _) (by assumption) (by assumption) (List.forall_mem_cons.mpr ⟨by k_mem, List.forall_mem_cons.mpr ⟨by k_mem, List.forall_mem_cons.mpr ⟨by k_mem, List.forall_mem_cons.mpr ⟨by k_mem, List.forall_mem_nil _⟩⟩⟩⟩) trivial (by kst_all) (by intro z h2 h3; (simp only [List.forall_mem_cons, List.not_mem_nil, false_implies, implies_true, and_true, ne_eq] at h2); (simp only [List.contains_cons, List.contains_nil, Bool.or_false, Bool.or_eq_false_iff, beq_eq_false_iff_ne, ne_eq] at h3); (simp [kstB, h2, h3]; done)) ⟨hlt, (if_neg (Nat.succ_ne_zero k)).symm, ?_⟩ (Nat.sub_lt_sub_left hlt (Nat.lt_succ_self k)))
      all_goals exact hnx'
    · rw [if_neg (by omega)] at hst
      subst hst
      have hsz : tx.length ≤ 200 := by rw [htx, S_len, List.length_take]; omega
      generalize hR : KswPost _ _ _ _ _ _ _ _ _ _ _ _ = R
      clear N F X T B
      k_steps
      all_goals subst hR
      all_goals (show KswEnd _ _ _ _ _ _ _ _ _ _ _ _)
      all_goals (refine ksw_end (k + 1, _, _, _, _, _) (by assumption) (by assumption) (List.forall_mem_cons.mpr ⟨by k_mem, List.forall_mem_cons.mpr ⟨by k_mem, List.forall_mem_cons.mpr ⟨by k_mem, List.forall_mem_cons.mpr ⟨by k_mem, List.forall_mem_nil _⟩⟩⟩⟩) trivial (by kst_all) (by intro z h2 h3; (simp only [List.forall_mem_cons, List.not_mem_nil, false_implies, implies_true, and_true, ne_eq] at h2); (simp only [List.contains_cons, List.contains_nil, Bool.or_false, Bool.or_eq_false_iff, beq_eq_false_iff_ne, ne_eq] at h3); (simp [kstB, h2, h3]; done)) ⟨hlt, (if_neg (Nat.succ_ne_zero k)).symm, ?_⟩ (Nat.sub_lt_sub_left hlt (Nat.lt_succ_self k)))
      all_goals (rw [htx]; exact hnx)
  · obtain rfl : k = (w0 :: wr).length := Nat.le_antisymm hP hge
    rw [if_neg (by rw [List.length_cons]; omega)] at hst
    rw [List.take_length] at htx
    subst hst htx
    rcases hpost with hpost | ⟨more, hpost⟩
    · have hc : x.cps.toList[pre.length + (w0 :: wr).length]? = none := by
        rw [hl, hpost]; simp
      generalize hR : KswPost _ _ _ _ _ _ _ _ _ _ _ _ = R
      k_steps
      subst hR
      all_goals dsimp only [KswPost]
      k_steps
      subst hpost
      all_goals (exact hret _ _ 0 _ _ _ (touch_mk (by assumption) (by assumption) (by assumption) (List.forall_mem_cons.mpr ⟨by k_mem, List.forall_mem_cons.mpr ⟨by k_mem, List.forall_mem_cons.mpr ⟨by k_mem, List.forall_mem_cons.mpr ⟨by k_mem, List.forall_mem_nil _⟩⟩⟩⟩)))
    · have hc : x.cps.toList[pre.length + (w0 :: wr).length]? = some 32 := by
        rw [hl, hpost, List.getElem?_append_right (Nat.le_add_right _ _), Nat.add_sub_cancel_left, List.getElem?_append_right (Nat.le_refl _), Nat.sub_self]; rfl
      generalize hR : KswPost _ _ _ _ _ _ _ _ _ _ _ _ = R
      k_steps
      subst hR
      all_goals dsimp only [KswPost]
      k_steps
      subst hpost
      all_goals (exact hret _ _ _ _ _ _ (touch_mk (by assumption) (by assumption) (by assumption) (List.forall_mem_cons.mpr ⟨by k_mem, List.forall_mem_cons.mpr ⟨by k_mem, List.forall_mem_cons.mpr ⟨by k_mem, List.forall_mem_cons.mpr ⟨by k_mem, List.forall_mem_nil _⟩⟩⟩⟩)))

set_option maxHeartbeats 4000000 in
theorem rt_end {PG : Program} {LS : List Str} (w : World) (mean : ExcName → Option Value) (mg mb : Str → Option Value) (dp un : Nat) (gd : Option (List Code)) (hh : Option Value) (env : Env) (outer : List Env) (A₀ : Around) (base h₀ : Heap) (L : Addr) (m : Str → Option Value) (s : Shared) (Q : Value → Shared → Prop) (E : Value → Shared → Prop)
   (B : Below A₀ base outer h₀) (F : Fr h₀ L s.heap m) (X : (hd.heap_1 w.params).In h₀) (T : Top PG LS mean mg mb h₀) (hf : env.frame = some L) (hk : env.scope.kind = .function) (hdp : dp + 20 < recursionLimit) (hu : un + 200 < cLine)
   (x W cm : Str) (ws : Bool) (st : Value) (p : Nat) (kt vt : Nat → Tok) (t1 t2 t3 t4 t5 t6 t8 : Tok) (hx : x.length ≤ 2000) (hc : x.cps.toList[p]? = none) (hst : st = .none ∨ ∃ t7, st = .str (Str.ofString " ") t7) (la ld a d pb fs : Addr) (ne_la_ld : Ap la ld) (ne_la_a : Ap la a) (ne_la_d : Ap la d) (ne_ld_a : Ap ld a) (ne_ld_d : Ap ld d) (ne_a_d : Ap a d)
   (hret : ∀ t8' h' tk', Touch s.heap h' [(la, instObj 777 ld), (a, instObj 684 d), (d, ioD w t1 t2 t3 t4 t5 x (p : Nat) t6), (ld, lexD w kt vt a pb fs W cm ws st (.str (Str.ofString "") t8))] [(la, instObj 777 ld), (a, instObj 684 d), (d, ioD w t1 t2 t3 t4 t5 x (p : Nat) t6), (ld, lexD w kt vt a pb fs W cm ws .none (.str (Str.ofString "") t8'))] → Q .none {s with heap := h', toks := tk'})
   (N : News h₀ L s.heap [(la, instObj 777 ld), (a, instObj 684 d), (d, ioD w t1 t2 t3 t4 t5 x (p : Nat) t6), (ld, lexD w kt vt a pb fs W cm ws st (.str (Str.ofString "") t8))])  :
   wpAny (model PySem.Challenge.pw_ku0029_01 w) (⟨hh, dp, some (env :: outer), gd, un⟩ : Around) (call (.ref 745) [.ref la]) Q E s := by
  refine wpAny_call ?_
  ktr_unf
  rcases hst with rfl | ⟨t7, rfl⟩
  · k_steps
    refine Hold.mk (ksw_while (σ := Unit) (fun _ => [(la, instObj 777 ld), (a, instObj 684 d), (d, ioD w t1 t2 t3 t4 t5 x (p : Nat) t6), (ld, lexD w kt vt a pb fs W cm ws .none (.str (Str.ofString "") t8))]) (fun _ => [(Str.ofString "self", Value.ref la), (Str.ofString "quoted", Value.bool false)]) (fun _ => True) [Str.ofString "nextchar", Str.ofString "escapedstate"] (fun _ => True) (fun _ => 0) () (by assumption) ?Na trivial ?hka trivial ?turna)
    case Na => assumption
    case hka => kst_all
    intro c u h9 tk9 _ hP F9 N9
    generalize hR : KswPost _ _ _ _ _ _ _ _ _ _ _ _ = R
    k_steps
    subst hR
    all_goals dsimp only [KswPost]
    k_steps
    all_goals (exact hret _ _ _ (touch_mk (by assumption) (by assumption) (by assumption) (List.forall_mem_cons.mpr ⟨by k_mem, List.forall_mem_cons.mpr ⟨by k_mem, List.forall_mem_cons.mpr ⟨by k_mem, List.forall_mem_cons.mpr ⟨by k_mem, List.forall_mem_nil _⟩⟩⟩⟩)))
  · k_steps
    refine Hold.mk (ksw_while (σ := Unit) (fun _ => [(la, instObj 777 ld), (a, instObj 684 d), (d, ioD w t1 t2 t3 t4 t5 x (p : Nat) t6), (ld, lexD w kt vt a pb fs W cm ws (.str (Str.ofString " ") t7) (.str (Str.ofString "") t8))]) (fun _ => [(Str.ofString "self", Value.ref la), (Str.ofString "quoted", Value.bool false)]) (fun _ => True) [Str.ofString "nextchar", Str.ofString "escapedstate"] (fun _ => True) (fun _ => 0) () (by assumption) ?Nb trivial ?hkb trivial ?turnb)
    case Nb => assumption
    case hkb => kst_all
    intro c u h9 tk9 _ hP F9 N9
    generalize hR : KswPost _ _ _ _ _ _ _ _ _ _ _ _ = R
    k_steps
    subst hR
    all_goals dsimp only [KswPost]
    k_steps
    all_goals (exact hret _ _ _ (touch_mk (by assumption) (by assumption) (by assumption) (List.forall_mem_cons.mpr ⟨by k_mem, List.forall_mem_cons.mpr ⟨by k_mem, List.forall_mem_cons.mpr ⟨by k_mem, List.forall_mem_cons.mpr ⟨by k_mem, List.forall_mem_nil _⟩⟩⟩⟩)))
end
section
open PyProof.Rows PySem PySem.Calls PySem.W
theorem ln_KuUse_1 : True := by
  k_with_none
  k_with "k_room" => (((try simp only [depth_mark, depth_under_make, depth_under_kw, depth_in1, depth_deeper, depth_caller]); (try dsimp only [ktrTop]); omega))
  k_with "k_units" => (((try simp only [units_in1, units_deeper, Around.mark_units, units_caller]); (try dsimp only [ktrTop]); omega))
  k_with "k_ne" => ((refine neN ?_; (try dsimp only); first | exact Ap.ne (by assumption) | exact Ap.en (by assumption) | omega))
  k_with "ktr_unf" => ((
      refine' code_defT ?zk1 ?zk2 ?zk3 ?zk4 ?zk5 ?zkA ?zkF ?zkK ?zk6 ?zk7 ?zk8 ?zk9k ?zkB ?_ ?zc2 ?zc3 ?zc4 ?zc5
      case zkA => exact rfl
      case zkF => first | assumption | exact rfl
      case zkK => first | assumption | exact rfl
      case zk1 => k_asm
      case zk2 => k_asm
      case zk3 => k_asm
      case zk4 => k_asm
      case zk5 => k_asm
      case zk6 => k_is
      case zk7 => k_is
      case zk8 => k_room
      case zk9k => first | exact BindsTo.of_eq rfl | exact binds_K (by k_in) rfl (by k_is) rfl rfl rfl
      case zc5 => decide
      case zkB => exact locs rfl
      case zc2 => exact rfl
      case zc3 => exact rfl
      case zc4 => exact rfl
      intro g'k L'k h'k hg'k F'k N'k B'k X'k T'k l1k
      (try k_lt l1k)
      (try dsimp only)
      (try k_lift B'k)
      (try k_fold)))
  trivial
theorem use_rt {PG : Program} {LS : List Str} {w : World} {mean : ExcName → Option Value} {mg mb : Str → Option Value} {dp un : Nat} {gd : Option (List Code)} {hh : Option Value} {env : Env} {outer : List Env} {A₀ : Around} {base h₀ : Heap} {L : Addr} {m : Str → Option Value} {s : Shared} {Q : Value → Shared → Prop} {E : Value → Shared → Prop}
   (B : Below A₀ base outer h₀) (F : Fr h₀ L s.heap m) (X : (hd.heap_1 w.params).In h₀) (T : Top PG LS mean mg mb h₀) (hf : env.frame = some L) (hk : env.scope.kind = .function) (hdp : dp + 20 < recursionLimit) (hu : un + 200 < cLine)
   {x W : Str} {pre : List Nat} {w0 : Nat} {wr post : List Nat} {kt vt : Nat → Tok} {t1 t2 t3 t4 t5 t6 t7 t8 : Tok} {la ld a d pb fs : Addr} (hx : x.length ≤ 2000) (hwl : (w0 :: wr).length ≤ 200) (hwr : wr.length ≤ 199) (hW : ¬ w0 ∈ W.cps.toList) (hl : x.cps.toList = pre ++ ((w0 :: wr) ++ post)) (hok : ∀ c ∈ w0 :: wr, okc c) (hpost : post = [] ∨ ∃ more, post = 32 :: more) (ne_la_ld : Ap la ld) (ne_la_a : Ap la a) (ne_la_d : Ap la d) (ne_ld_a : Ap ld a) (ne_ld_d : Ap ld d) (ne_a_d : Ap a d) {news : List (Addr × Obj)} (N : News h₀ L s.heap news) (hC : ∀ pq ∈ ([(la, instObj 777 ld), (a, instObj 684 d)] : List (Addr × Obj)), pq ∈ news) (hch : ∀ pq ∈ ([(ld, lexD w kt vt a pb fs W (Str.ofString "") true (.str (Str.ofString " ") t7) (.str (Str.ofString "") t8)), (d, ioD w t1 t2 t3 t4 t5 x (pre.length : Nat) t6)] : List (Addr × Obj)), pq ∈ news)
   (k : ∀ t t6' t7' t8' h' tk', Fr h₀ L h' m → (∀ news', Upds [(ld, lexD w kt vt a pb fs W (Str.ofString "") true (.str (Str.ofString " ") t7) (.str (Str.ofString "") t8), lexD w kt vt a pb fs W (Str.ofString "") true (stV post t7') (.str (Str.ofString "") t8')), (d, ioD w t1 t2 t3 t4 t5 x (pre.length : Nat) t6, ioD w t1 t2 t3 t4 t5 x (pre.length + (w0 :: wr).length + adv post : Nat) t6')] news news' → News h₀ L h' news') → Q (.str (S (w0 :: wr)) t) {s with heap := h', toks := tk'}) :
   wpAny (model PySem.Challenge.pw_ku0029_01 w) (⟨hh, dp, some (env :: outer), gd, un⟩ : Around) (call (.ref 745) [.ref la]) Q E s := by
  refine rt_spec w mean mg mb dp un gd hh env outer A₀ base h₀ L m s Q E B F X T hf hk hdp hu x W pre w0 hW wr post kt vt t1 t2 t3 t4 t5 t6 t7 t8 hx hwl hwr hl hok hpost la ld a d pb fs ne_la_ld ne_la_a ne_la_d ne_ld_a ne_ld_d ne_a_d ?_ (touch_in (C := [(la, instObj 777 ld), (a, instObj 684 d)]) (ch := [(ld, lexD w kt vt a pb fs W (Str.ofString "") true (.str (Str.ofString " ") t7) (.str (Str.ofString "") t8), lexD w kt vt a pb fs W (Str.ofString "") true (.str (Str.ofString " ") t7) (.str (Str.ofString "") t8)), (d, ioD w t1 t2 t3 t4 t5 x (pre.length : Nat) t6, ioD w t1 t2 t3 t4 t5 x (pre.length : Nat) t6)]) N hC (by intro c hc'; exact hch (c.1, c.2.1) (by simpa using List.mem_map_of_mem (f := fun c : Addr × Obj × Obj => (c.1, c.2.1)) hc')))
  intro t t6' t7' t8' h' tk' ht
  have hq := touch_use (C := [(la, instObj 777 ld), (a, instObj 684 d)]) (ch := [(ld, lexD w kt vt a pb fs W (Str.ofString "") true (.str (Str.ofString " ") t7) (.str (Str.ofString "") t8), lexD w kt vt a pb fs W (Str.ofString "") true (stV post t7') (.str (Str.ofString "") t8')), (d, ioD w t1 t2 t3 t4 t5 x (pre.length : Nat) t6, ioD w t1 t2 t3 t4 t5 x (pre.length + (w0 :: wr).length + adv post : Nat) t6')]) F N hC (by intro c hc'; exact hch (c.1, c.2.1) (by simpa using List.mem_map_of_mem (f := fun c : Addr × Obj × Obj => (c.1, c.2.1)) hc')) ht
  exact k t t6' t7' t8' h' tk' hq.1 hq.2
theorem use_rt_end {PG : Program} {LS : List Str} {w : World} {mean : ExcName → Option Value} {mg mb : Str → Option Value} {dp un : Nat} {gd : Option (List Code)} {hh : Option Value} {env : Env} {outer : List Env} {A₀ : Around} {base h₀ : Heap} {L : Addr} {m : Str → Option Value} {s : Shared} {Q : Value → Shared → Prop} {E : Value → Shared → Prop}
   (B : Below A₀ base outer h₀) (F : Fr h₀ L s.heap m) (X : (hd.heap_1 w.params).In h₀) (T : Top PG LS mean mg mb h₀) (hf : env.frame = some L) (hk : env.scope.kind = .function) (hdp : dp + 20 < recursionLimit) (hu : un + 200 < cLine)
   {x W cm : Str} {ws : Bool} {st : Value} {p : Nat} {kt vt : Nat → Tok} {t1 t2 t3 t4 t5 t6 t8 : Tok} {la ld a d pb fs : Addr} (hx : x.length ≤ 2000) (hc : x.cps.toList[p]? = none) (hst : st = .none ∨ ∃ t7, st = .str (Str.ofString " ") t7) (ne_la_ld : Ap la ld) (ne_la_a : Ap la a) (ne_la_d : Ap la d) (ne_ld_a : Ap ld a) (ne_ld_d : Ap ld d) (ne_a_d : Ap a d) {news : List (Addr × Obj)} (N : News h₀ L s.heap news) (hC : ∀ pq ∈ ([(la, instObj 777 ld), (a, instObj 684 d), (d, ioD w t1 t2 t3 t4 t5 x (p : Nat) t6)] : List (Addr × Obj)), pq ∈ news) (hch : ∀ pq ∈ ([(ld, lexD w kt vt a pb fs W cm ws st (.str (Str.ofString "") t8))] : List (Addr × Obj)), pq ∈ news)
   (k : ∀ t8' h' tk', Fr h₀ L h' m → (∀ news', Upds [(ld, lexD w kt vt a pb fs W cm ws st (.str (Str.ofString "") t8), lexD w kt vt a pb fs W cm ws .none (.str (Str.ofString "") t8'))] news news' → News h₀ L h' news') → Q (.none) {s with heap := h', toks := tk'}) :
   wpAny (model PySem.Challenge.pw_ku0029_01 w) (⟨hh, dp, some (env :: outer), gd, un⟩ : Around) (call (.ref 745) [.ref la]) Q E s := by
  refine rt_end w mean mg mb dp un gd hh env outer A₀ base h₀ L m s Q E B F X T hf hk hdp hu x W cm ws st p kt vt t1 t2 t3 t4 t5 t6 t8 hx hc hst la ld a d pb fs ne_la_ld ne_la_a ne_la_d ne_ld_a ne_ld_d ne_a_d ?_ (touch_in (C := [(la, instObj 777 ld), (a, instObj 684 d), (d, ioD w t1 t2 t3 t4 t5 x (p : Nat) t6)]) (ch := [(ld, lexD w kt vt a pb fs W cm ws st (.str (Str.ofString "") t8), lexD w kt vt a pb fs W cm ws st (.str (Str.ofString "") t8))]) N hC (by intro c hc'; exact hch (c.1, c.2.1) (by simpa using List.mem_map_of_mem (f := fun c : Addr × Obj × Obj => (c.1, c.2.1)) hc')))
  intro t8' h' tk' ht
  have hq := touch_use (C := [(la, instObj 777 ld), (a, instObj 684 d), (d, ioD w t1 t2 t3 t4 t5 x (p : Nat) t6)]) (ch := [(ld, lexD w kt vt a pb fs W cm ws st (.str (Str.ofString "") t8), lexD w kt vt a pb fs W cm ws .none (.str (Str.ofString "") t8'))]) F N hC (by intro c hc'; exact hch (c.1, c.2.1) (by simpa using List.mem_map_of_mem (f := fun c : Addr × Obj × Obj => (c.1, c.2.1)) hc')) ht
  exact k t8' h' tk' hq.1 hq.2
end
section
open PyProof.Rows PySem PySem.Calls PySem.W
theorem ln_KuNext_1 : True := by
  k_with_none
  k_with "k_room" => (((try simp only [depth_mark, depth_under_make, depth_under_kw, depth_in1, depth_deeper, depth_caller]); (try dsimp only [ktrTop]); omega))
  k_with "k_units" => (((try simp only [units_in1, units_deeper, Around.mark_units, units_caller]); (try dsimp only [ktrTop]); omega))
  k_with "k_ne" => ((refine neN ?_; (try dsimp only); first | exact Ap.ne (by assumption) | exact Ap.en (by assumption) | omega))
  k_with "ktr_unf" => ((
      refine' code_defT ?zk1 ?zk2 ?zk3 ?zk4 ?zk5 ?zkA ?zkF ?zkK ?zk6 ?zk7 ?zk8 ?zk9k ?zkB ?_ ?zc2 ?zc3 ?zc4 ?zc5
      case zkA => exact rfl
      case zkF => first | assumption | exact rfl
      case zkK => first | assumption | exact rfl
      case zk1 => k_asm
      case zk2 => k_asm
      case zk3 => k_asm
      case zk4 => k_asm
      case zk5 => k_asm
      case zk6 => k_is
      case zk7 => k_is
      case zk8 => k_room
      case zk9k => first | exact BindsTo.of_eq rfl | exact binds_K (by k_in) rfl (by k_is) rfl rfl rfl
      case zc5 => decide
      case zkB => exact locs rfl
      case zc2 => exact rfl
      case zc3 => exact rfl
      case zc4 => exact rfl
      intro g'k L'k h'k hg'k F'k N'k B'k X'k T'k l1k
      (try k_lt l1k)
      (try dsimp only)
      (try k_lift B'k)
      (try k_fold)))
  k_with "ktr_rel" => (first | exact List.forall_mem_nil _ | (refine' List.forall_mem_cons.mpr ⟨?za, ?zb⟩; (case za => k_mem); (case zb => ktr_rel)))
  k_with "tb_rel" => (first | exact Upds.nil | (refine' Upds.cons ?za ?zb; (case za => k_upd); (case zb => tb_rel)))
  k_with "compareOp In str str" => (first
      | (refine' in_lit true ?ze ?_; (case ze => decide +kernel))
      | (refine' in_lit false ?ze ?_; (case ze => decide +kernel))
      | (with_unfolding_all refine' in_chr false ?ze ?_; (case ze => first | exact okc_ws (by assumption) | exact okc_q (by assumption) | exact okc_esc (by assumption) | exact nil_in _ | exact decide_eq_false (by assumption)))
      | (with_unfolding_all refine' in_chr _ rfl ?_))
  k_with "compareOp NotIn str str" => (first
      | (with_unfolding_all refine' notin_chr false ?ze ?_; (case ze => exact nil_in _); try dsimp only [Bool.not_false]))
  k_with "compareOp Eq str str" => (first
      | (refine' eq_lit true ?ze ?_; (case ze => decide +kernel))
      | (refine' eq_lit false ?ze ?_; (case ze => decide +kernel))
      | (refine' eq_lit false ?ze ?_; (case ze => first | exact okc_nl (by assumption) | (rw [nil_S]; exact S_cons_ne _ _))))
  k_with "truthy str" => (first
      | (refine' truthy_S ?ze ?_; (case ze => first | omega | (simp only [List.length_cons, List.length_nil]; omega)); intro _)
      | (refine truthy_S0 ?_; intro _))
  k_with "inplaceOp Add str str" => ((refine' SBL.iadd ?_ ?ze; (case ze => ((try simp only [S_len, List.length_cons, List.length_nil, List.length_take]); rw [sizeLine_eq]; omega)); intro _ _ _))
  k_with "truthy ref" => ((k_here; k_dflt (refine' truthy_dq _ ?zN ?zhm ?zz rfl ?_; (case zN => k_asm); (case zhm => k_mem); (case zz => first | (simp only [List.length_cons, List.length_nil]; omega) | omega); k_whole; intro _)))
  k_with "getMethod ref" => ((k_here; k_dflt (first
      | ((with_reducible show wpAny _ _ (getMethod (Value.ref _) (PySem.Str.ofString "popleft") _) _ _ _); refine' method_dq ?zN ?zm slot_dq_popleft type_dq_popleft ?_; (case zN => k_asm); (case zm => k_mem); k_whole)
      | ((with_reducible show wpAny _ _ (getMethod (Value.ref _) (PySem.Str.ofString "appendleft") _) _ _ _); refine' method_dq ?zN ?zm slot_dq_appendleft type_dq_appendleft ?_; (case zN => k_asm); (case zm => k_mem); k_whole))))
  k_with "call builtin:collections.deque.popleft" => ((k_here; k_dflt (refine' popleft_dq ?zF ?zN ?zU ?zz ?_; (case zF => k_asm); (case zN => k_asm); (case zU => k_upd); (case zz => first | (simp only [List.length_cons, List.length_nil]; omega) | omega); k_whole; intro h9k F9k N9k)))
  k_with "call builtin:collections.deque.appendleft" => ((k_here; k_dflt (refine' appendleft_dq ?zF ?zN ?zU ?zz ?_; (case zF => k_asm); (case zN => k_asm); (case zU => k_upd); (case zz => first | (simp only [List.length_cons, List.length_nil]; omega) | omega); k_whole; intro h9k F9k N9k)))
  k_with "call ref" => ((k_here; (with_reducible show wpAny _ _ (call (Value.ref 745) _) _ _ _); k_dflt (first
      | (refine' use_rt ?zB ?zF ?zX ?zT ?zhf ?zhk ?zhdp ?zhu ?zhx ?zhwl ?zhwr ?zhW ?zhl ?zhok ?zhpost ?zne_la_ld ?zne_la_a ?zne_la_d ?zne_ld_a ?zne_ld_d ?zne_a_d ?zN ?zhC ?zhch ?_; (case zB => k_asm); (case zF => k_asm); (case zX => k_asm); (case zT => k_asm); (case zhf => exact rfl); (case zhk => exact rfl); (case zhdp => k_room); (case zhu => k_units); (case zhx => assumption); (case zhl => assumption); (case zhwl => assumption); (case zhwr => assumption); (case zhW => assumption); (case zhok => assumption); (case zhpost => assumption); (case zN => k_asm); (case zhC => ktr_rel); (case zhch => ktr_rel); (case zne_la_ld => first | assumption | exact Ap.mk (by k_ne)); (case zne_la_a => first | assumption | exact Ap.mk (by k_ne)); (case zne_la_d => first | assumption | exact Ap.mk (by k_ne)); (case zne_ld_a => first | assumption | exact Ap.mk (by k_ne)); (case zne_ld_d => first | assumption | exact Ap.mk (by k_ne)); (case zne_a_d => first | assumption | exact Ap.mk (by k_ne)); k_whole; intro t9k t69k t79k t89k h9k tk9k F9k hN9k; (have N9k := hN9k _ (by tb_rel)); clear hN9k; (try dsimp only); (try k_fold))
      | (refine' use_rt_end ?zB ?zF ?zX ?zT ?zhf ?zhk ?zhdp ?zhu ?zhx ?zhc ?zhst ?zne_la_ld ?zne_la_a ?zne_la_d ?zne_ld_a ?zne_ld_d ?zne_a_d ?zN ?zhC ?zhch ?_; (case zB => k_asm); (case zF => k_asm); (case zX => k_asm); (case zT => k_asm); (case zhf => exact rfl); (case zhk => exact rfl); (case zhdp => k_room); (case zhu => k_units); (case zhx => assumption); (case zhc => assumption); (case zhst => assumption); (case zN => k_asm); (case zhC => ktr_rel); (case zhch => ktr_rel); (case zne_la_ld => first | assumption | exact Ap.mk (by k_ne)); (case zne_la_a => first | assumption | exact Ap.mk (by k_ne)); (case zne_la_d => first | assumption | exact Ap.mk (by k_ne)); (case zne_ld_a => first | assumption | exact Ap.mk (by k_ne)); (case zne_ld_d => first | assumption | exact Ap.mk (by k_ne)); (case zne_a_d => first | assumption | exact Ap.mk (by k_ne)); k_whole; intro t89k h9k tk9k F9k hN9k; (have N9k := hN9k _ (by tb_rel)); clear hN9k; (try dsimp only); (try k_fold)))))
  trivial
set_option maxHeartbeats 4000000 in
theorem nx_word {PG : Program} {LS : List Str} (w : World) (mean : ExcName → Option Value) (mg mb : Str → Option Value) (dp un : Nat) (gd : Option (List Code)) (hh : Option Value) (env : Env) (outer : List Env) (A₀ : Around) (base h₀ : Heap) (L : Addr) (m : Str → Option Value) (s : Shared) (Q : Value → Shared → Prop) (E : Value → Shared → Prop)
   (B : Below A₀ base outer h₀) (F : Fr h₀ L s.heap m) (X : (hd.heap_1 w.params).In h₀) (T : Top PG LS mean mg mb h₀) (hf : env.frame = some L) (hk : env.scope.kind = .function) (hdp : dp + 30 < recursionLimit) (hu : un + 300 < cLine)
   (x W : Str) (pre : List Nat) (w0 : Nat) (hW : ¬ w0 ∈ W.cps.toList) (wr post : List Nat) (kt vt : Nat → Tok) (t1 t2 t3 t4 t5 t6 t7 t8 : Tok) (n1 n2 : Int) (hx : x.length ≤ 2000) (hwl : (w0 :: wr).length ≤ 200) (hwr : wr.length ≤ 199) (hl : x.cps.toList = pre ++ ((w0 :: wr) ++ post)) (hok : ∀ c ∈ w0 :: wr, okc c) (hpost : post = [] ∨ ∃ more, post = 32 :: more) (la ld a d pb fs : Addr) (ne_la_ld : Ap la ld) (ne_la_a : Ap la a) (ne_la_d : Ap la d) (ne_la_pb : Ap la pb) (ne_la_fs : Ap la fs) (ne_ld_a : Ap ld a) (ne_ld_d : Ap ld d) (ne_ld_pb : Ap ld pb) (ne_ld_fs : Ap ld fs) (ne_a_d : Ap a d) (ne_a_pb : Ap a pb) (ne_a_fs : Ap a fs) (ne_d_pb : Ap d pb) (ne_d_fs : Ap d fs) (ne_pb_fs : Ap pb fs)
   (hret : ∀ t t6' t7' t8' h' tk', Touch s.heap h' [(la, instObj 777 ld), (a, instObj 684 d), (pb, dq n1 []), (fs, dq n2 []), (ld, lexD w kt vt a pb fs W (Str.ofString "") true (.str (Str.ofString " ") t7) (.str (Str.ofString "") t8)), (d, ioD w t1 t2 t3 t4 t5 x (pre.length : Nat) t6)] [(la, instObj 777 ld), (a, instObj 684 d), (pb, dq n1 []), (fs, dq n2 []), (ld, lexD w kt vt a pb fs W (Str.ofString "") true (stV post t7') (.str (Str.ofString "") t8')), (d, ioD w t1 t2 t3 t4 t5 x (pre.length + (w0 :: wr).length + adv post : Nat) t6')] → Q (.str (S (w0 :: wr)) t) {s with heap := h', toks := tk'})
   (N : News h₀ L s.heap [(la, instObj 777 ld), (a, instObj 684 d), (pb, dq n1 []), (fs, dq n2 []), (ld, lexD w kt vt a pb fs W (Str.ofString "") true (.str (Str.ofString " ") t7) (.str (Str.ofString "") t8)), (d, ioD w t1 t2 t3 t4 t5 x (pre.length : Nat) t6)])  :
   wpAny (model PySem.Challenge.pw_ku0029_01 w) (⟨hh, dp, some (env :: outer), gd, un⟩ : Around) (call (.ref 774) [.ref la]) Q E s := by
  refine wpAny_call ?_
  ktr_unf
  k_steps
  all_goals (exact hret _ _ _ _ _ _ (touch_mk (by assumption) (by assumption) (by assumption) (List.forall_mem_cons.mpr ⟨by k_mem, (List.forall_mem_cons.mpr ⟨by k_mem, (List.forall_mem_cons.mpr ⟨by k_mem, (List.forall_mem_cons.mpr ⟨by k_mem, (List.forall_mem_cons.mpr ⟨by k_mem, (List.forall_mem_cons.mpr ⟨by k_mem, List.forall_mem_nil _⟩)⟩)⟩)⟩)⟩)⟩)))
end
section
open PyProof.Rows PySem PySem.Calls PySem.W
theorem ln_KuNe_1 : True := by
  k_with_none
  k_with "k_room" => (((try simp only [depth_mark, depth_under_make, depth_under_kw, depth_in1, depth_deeper, depth_caller]); (try dsimp only [ktrTop]); omega))
  k_with "k_units" => (((try simp only [units_in1, units_deeper, Around.mark_units, units_caller]); (try dsimp only [ktrTop]); omega))
  k_with "k_ne" => ((refine neN ?_; (try dsimp only); first | exact Ap.ne (by assumption) | exact Ap.en (by assumption) | omega))
  k_with "ktr_unf" => ((
      refine' code_defT ?zk1 ?zk2 ?zk3 ?zk4 ?zk5 ?zkA ?zkF ?zkK ?zk6 ?zk7 ?zk8 ?zk9k ?zkB ?_ ?zc2 ?zc3 ?zc4 ?zc5
      case zkA => exact rfl
      case zkF => first | assumption | exact rfl
      case zkK => first | assumption | exact rfl
      case zk1 => k_asm
      case zk2 => k_asm
      case zk3 => k_asm
      case zk4 => k_asm
      case zk5 => k_asm
      case zk6 => k_is
      case zk7 => k_is
      case zk8 => k_room
      case zk9k => first | exact BindsTo.of_eq rfl | exact binds_K (by k_in) rfl (by k_is) rfl rfl rfl
      case zc5 => decide
      case zkB => exact locs rfl
      case zc2 => exact rfl
      case zc3 => exact rfl
      case zc4 => exact rfl
      intro g'k L'k h'k hg'k F'k N'k B'k X'k T'k l1k
      (try k_lt l1k)
      (try dsimp only)
      (try k_lift B'k)
      (try k_fold)))
  k_with "ktr_rel" => (first | exact List.forall_mem_nil _ | (refine' List.forall_mem_cons.mpr ⟨?za, ?zb⟩; (case za => k_mem); (case zb => ktr_rel)))
  k_with "tb_rel" => (first | exact Upds.nil | (refine' Upds.cons ?za ?zb; (case za => k_upd); (case zb => tb_rel)))
  k_with "compareOp In str str" => (first
      | (refine' in_lit true ?ze ?_; (case ze => decide +kernel))
      | (refine' in_lit false ?ze ?_; (case ze => decide +kernel))
      | (with_unfolding_all refine' in_chr false ?ze ?_; (case ze => first | exact okc_ws (by assumption) | exact okc_q (by assumption) | exact okc_esc (by assumption) | exact nil_in _ | exact decide_eq_false (by assumption)))
      | (with_unfolding_all refine' in_chr _ rfl ?_))
  k_with "compareOp NotIn str str" => (first
      | (with_unfolding_all refine' notin_chr false ?ze ?_; (case ze => exact nil_in _); try dsimp only [Bool.not_false]))
  k_with "compareOp Eq str str" => (first
      | (refine' eq_lit true ?ze ?_; (case ze => decide +kernel))
      | (refine' eq_lit false ?ze ?_; (case ze => decide +kernel))
      | (refine' eq_lit false ?ze ?_; (case ze => first | exact okc_nl (by assumption) | (rw [nil_S]; exact S_cons_ne _ _))))
  k_with "truthy str" => (first
      | (refine' truthy_S ?ze ?_; (case ze => first | omega | (simp only [List.length_cons, List.length_nil]; omega)); intro _)
      | (refine truthy_S0 ?_; intro _))
  k_with "inplaceOp Add str str" => ((refine' SBL.iadd ?_ ?ze; (case ze => ((try simp only [S_len, List.length_cons, List.length_nil, List.length_take]); rw [sizeLine_eq]; omega)); intro _ _ _))
  k_with "truthy ref" => ((k_here; k_dflt (refine' truthy_dq _ ?zN ?zhm ?zz rfl ?_; (case zN => k_asm); (case zhm => k_mem); (case zz => first | (simp only [List.length_cons, List.length_nil]; omega) | omega); k_whole; intro _)))
  k_with "getMethod ref" => ((k_here; k_dflt (first
      | ((with_reducible show wpAny _ _ (getMethod (Value.ref _) (PySem.Str.ofString "popleft") _) _ _ _); refine' method_dq ?zN ?zm slot_dq_popleft type_dq_popleft ?_; (case zN => k_asm); (case zm => k_mem); k_whole)
      | ((with_reducible show wpAny _ _ (getMethod (Value.ref _) (PySem.Str.ofString "appendleft") _) _ _ _); refine' method_dq ?zN ?zm slot_dq_appendleft type_dq_appendleft ?_; (case zN => k_asm); (case zm => k_mem); k_whole))))
  k_with "call builtin:collections.deque.popleft" => ((k_here; k_dflt (refine' popleft_dq ?zF ?zN ?zU ?zz ?_; (case zF => k_asm); (case zN => k_asm); (case zU => k_upd); (case zz => first | (simp only [List.length_cons, List.length_nil]; omega) | omega); k_whole; intro h9k F9k N9k)))
  k_with "call builtin:collections.deque.appendleft" => ((k_here; k_dflt (refine' appendleft_dq ?zF ?zN ?zU ?zz ?_; (case zF => k_asm); (case zN => k_asm); (case zU => k_upd); (case zz => first | (simp only [List.length_cons, List.length_nil]; omega) | omega); k_whole; intro h9k F9k N9k)))
  k_with "call ref" => ((k_here; (with_reducible show wpAny _ _ (call (Value.ref 745) _) _ _ _); k_dflt (first
      | (refine' use_rt ?zB ?zF ?zX ?zT ?zhf ?zhk ?zhdp ?zhu ?zhx ?zhwl ?zhwr ?zhW ?zhl ?zhok ?zhpost ?zne_la_ld ?zne_la_a ?zne_la_d ?zne_ld_a ?zne_ld_d ?zne_a_d ?zN ?zhC ?zhch ?_; (case zB => k_asm); (case zF => k_asm); (case zX => k_asm); (case zT => k_asm); (case zhf => exact rfl); (case zhk => exact rfl); (case zhdp => k_room); (case zhu => k_units); (case zhx => assumption); (case zhl => assumption); (case zhwl => assumption); (case zhwr => assumption); (case zhW => assumption); (case zhok => assumption); (case zhpost => assumption); (case zN => k_asm); (case zhC => ktr_rel); (case zhch => ktr_rel); (case zne_la_ld => first | assumption | exact Ap.mk (by k_ne)); (case zne_la_a => first | assumption | exact Ap.mk (by k_ne)); (case zne_la_d => first | assumption | exact Ap.mk (by k_ne)); (case zne_ld_a => first | assumption | exact Ap.mk (by k_ne)); (case zne_ld_d => first | assumption | exact Ap.mk (by k_ne)); (case zne_a_d => first | assumption | exact Ap.mk (by k_ne)); k_whole; intro t9k t69k t79k t89k h9k tk9k F9k hN9k; (have N9k := hN9k _ (by tb_rel)); clear hN9k; (try dsimp only); (try k_fold))
      | (refine' use_rt_end ?zB ?zF ?zX ?zT ?zhf ?zhk ?zhdp ?zhu ?zhx ?zhc ?zhst ?zne_la_ld ?zne_la_a ?zne_la_d ?zne_ld_a ?zne_ld_d ?zne_a_d ?zN ?zhC ?zhch ?_; (case zB => k_asm); (case zF => k_asm); (case zX => k_asm); (case zT => k_asm); (case zhf => exact rfl); (case zhk => exact rfl); (case zhdp => k_room); (case zhu => k_units); (case zhx => assumption); (case zhc => assumption); (case zhst => assumption); (case zN => k_asm); (case zhC => ktr_rel); (case zhch => ktr_rel); (case zne_la_ld => first | assumption | exact Ap.mk (by k_ne)); (case zne_la_a => first | assumption | exact Ap.mk (by k_ne)); (case zne_la_d => first | assumption | exact Ap.mk (by k_ne)); (case zne_ld_a => first | assumption | exact Ap.mk (by k_ne)); (case zne_ld_d => first | assumption | exact Ap.mk (by k_ne)); (case zne_a_d => first | assumption | exact Ap.mk (by k_ne)); k_whole; intro t89k h9k tk9k F9k hN9k; (have N9k := hN9k _ (by tb_rel)); clear hN9k; (try dsimp only); (try k_fold)))))
  trivial
set_option maxHeartbeats 4000000 in
theorem nx_end {PG : Program} {LS : List Str} (w : World) (mean : ExcName → Option Value) (mg mb : Str → Option Value) (dp un : Nat) (gd : Option (List Code))  (env : Env) (outer : List Env) (A₀ : Around) (base h₀ : Heap) (L : Addr) (m : Str → Option Value) (s : Shared) (Q : Value → Shared → Prop) (E : Value → Shared → Prop)
   (B : Below A₀ base outer h₀) (F : Fr h₀ L s.heap m) (X : (hd.heap_1 w.params).In h₀) (T : Top PG LS mean mg mb h₀) (hf : env.frame = some L) (hk : env.scope.kind = .function) (hdp : dp + 30 < recursionLimit) (hu : un + 300 < cLine)
   (x W cm : Str) (ws : Bool) (st : Value) (p : Nat) (kt vt : Nat → Tok) (t1 t2 t3 t4 t5 t6 t8 : Tok) (n1 n2 : Int) (hx : x.length ≤ 2000) (hc : x.cps.toList[p]? = none) (hst : st = .none ∨ ∃ t7, st = .str (Str.ofString " ") t7) (la ld a d pb fs so : Addr) (ob : Obj) (ne_la_ld : Ap la ld) (ne_la_a : Ap la a) (ne_la_d : Ap la d) (ne_la_pb : Ap la pb) (ne_la_fs : Ap la fs) (ne_la_so : Ap la so) (ne_ld_a : Ap ld a) (ne_ld_d : Ap ld d) (ne_ld_pb : Ap ld pb) (ne_ld_fs : Ap ld fs) (ne_ld_so : Ap ld so) (ne_a_d : Ap a d) (ne_a_pb : Ap a pb) (ne_a_fs : Ap a fs) (ne_a_so : Ap a so) (ne_d_pb : Ap d pb) (ne_d_fs : Ap d fs) (ne_d_so : Ap d so) (ne_pb_fs : Ap pb fs) (ne_pb_so : Ap pb so) (ne_fs_so : Ap fs so)
   (hE : ∀ e t vs t8' h' tk', RaisedK base (env :: outer) e (.type "StopIteration") t vs [(la, instObj 777 ld), (a, instObj 684 d), (d, ioD w t1 t2 t3 t4 t5 x (p : Nat) t6), (pb, dq n1 []), (fs, dq n2 []), (so, ob), (ld, lexD w kt vt a pb fs W cm ws .none (.str (Str.ofString "") t8'))] h' → (∀ b o, s.heap.get? b = some o → (∀ q ∈ ([(la, instObj 777 ld), (a, instObj 684 d), (d, ioD w t1 t2 t3 t4 t5 x (p : Nat) t6), (pb, dq n1 []), (fs, dq n2 []), (so, ob), (ld, lexD w kt vt a pb fs W cm ws st (.str (Str.ofString "") t8))] : List (Addr × Obj)), q.1 ≠ b) → (∀ vs, o.data ≠ .fields vs) → ∃ sl, h'.get? b = some { o with slots := sl }) → E (.ref e) {s with heap := h', toks := tk'})
   (N : News h₀ L s.heap [(la, instObj 777 ld), (a, instObj 684 d), (d, ioD w t1 t2 t3 t4 t5 x (p : Nat) t6), (pb, dq n1 []), (fs, dq n2 []), (so, ob), (ld, lexD w kt vt a pb fs W cm ws st (.str (Str.ofString "") t8))])  :
   wpAny (model PySem.Challenge.pw_ku0029_01 w) (⟨none, dp, some (env :: outer), gd, un⟩ : Around) (call (.ref 774) [.ref la]) (fun _ _ => False) E s := by
  refine wpAny_call ?_
  ktr_unf
  k_steps
  all_goals (exact hE _ _ _ _ _ _ (by assumption) (upto_of (by assumption) (by assumption)))
end
section
open PyProof.Rows PySem PySem.Calls PySem.W
theorem ln_KuGt_1 : True := by
  k_with_none
  k_with "k_room" => (((try simp only [depth_mark, depth_under_make, depth_under_kw, depth_in1, depth_deeper, depth_caller]); (try dsimp only [ktrTop]); omega))
  k_with "k_units" => (((try simp only [units_in1, units_deeper, Around.mark_units, units_caller]); (try dsimp only [ktrTop]); omega))
  k_with "k_ne" => ((refine neN ?_; (try dsimp only); first | exact Ap.ne (by assumption) | exact Ap.en (by assumption) | omega))
  k_with "ktr_unf" => ((
      refine' code_defT ?zk1 ?zk2 ?zk3 ?zk4 ?zk5 ?zkA ?zkF ?zkK ?zk6 ?zk7 ?zk8 ?zk9k ?zkB ?_ ?zc2 ?zc3 ?zc4 ?zc5
      case zkA => exact rfl
      case zkF => first | assumption | exact rfl
      case zkK => first | assumption | exact rfl
      case zk1 => k_asm
      case zk2 => k_asm
      case zk3 => k_asm
      case zk4 => k_asm
      case zk5 => k_asm
      case zk6 => k_is
      case zk7 => k_is
      case zk8 => k_room
      case zk9k => first | exact BindsTo.of_eq rfl | exact binds_K (by k_in) rfl (by k_is) rfl rfl rfl
      case zc5 => decide
      case zkB => exact locs rfl
      case zc2 => exact rfl
      case zc3 => exact rfl
      case zc4 => exact rfl
      intro g'k L'k h'k hg'k F'k N'k B'k X'k T'k l1k
      (try k_lt l1k)
      (try dsimp only)
      (try k_lift B'k)
      (try k_fold)))
  k_with "ktr_rel" => (first | exact List.forall_mem_nil _ | (refine' List.forall_mem_cons.mpr ⟨?za, ?zb⟩; (case za => k_mem); (case zb => ktr_rel)))
  k_with "tb_rel" => (first | exact Upds.nil | (refine' Upds.cons ?za ?zb; (case za => k_upd); (case zb => tb_rel)))
  k_with "truthy ref" => ((k_here; k_dflt (first | (refine' truthy_dq true ?zN ?zhm ?zz ?ze ?_; (case zN => k_asm); (case zhm => k_mem); (case ze => exact rfl); (case zz => first | (simp only [List.length_cons, List.length_nil]; omega) | omega); k_whole; intro _) | (refine' truthy_dq false ?zN ?zhm ?zz ?ze ?_; (case zN => k_asm); (case zhm => k_mem); (case ze => exact rfl); (case zz => first | (simp only [List.length_cons, List.length_nil]; omega) | omega); k_whole; intro _))))
  k_with "getMethod ref" => ((k_here; k_dflt (first
      | ((with_reducible show wpAny _ _ (getMethod (Value.ref _) (PySem.Str.ofString "popleft") _) _ _ _); refine' method_dq ?zN ?zm slot_dq_popleft type_dq_popleft ?_; (case zN => k_asm); (case zm => k_mem); k_whole)
      | ((with_reducible show wpAny _ _ (getMethod (Value.ref _) (PySem.Str.ofString "appendleft") _) _ _ _); refine' method_dq ?zN ?zm slot_dq_appendleft type_dq_appendleft ?_; (case zN => k_asm); (case zm => k_mem); k_whole))))
  k_with "call builtin:collections.deque.popleft" => ((k_here; k_dflt (refine' popleft_dq ?zF ?zN ?zU ?zz ?_; (case zF => k_asm); (case zN => k_asm); (case zU => k_upd); (case zz => first | (simp only [List.length_cons, List.length_nil]; omega) | omega); k_whole; intro h9k F9k N9k)))
  k_with "call builtin:collections.deque.appendleft" => ((k_here; k_dflt (refine' appendleft_dq ?zF ?zN ?zU ?zz ?_; (case zF => k_asm); (case zN => k_asm); (case zU => k_upd); (case zz => first | (simp only [List.length_cons, List.length_nil]; omega) | omega); k_whole; intro h9k F9k N9k)))
  trivial
set_option maxHeartbeats 4000000 in
theorem gt_pop {PG : Program} {LS : List Str} (w : World) (mean : ExcName → Option Value) (mg mb : Str → Option Value) (dp un : Nat) (gd : Option (List Code)) (hh : Option Value) (env : Env) (outer : List Env) (A₀ : Around) (base h₀ : Heap) (L : Addr) (m : Str → Option Value) (s : Shared) (Q : Value → Shared → Prop) (E : Value → Shared → Prop)
   (B : Below A₀ base outer h₀) (F : Fr h₀ L s.heap m) (X : (hd.heap_1 w.params).In h₀) (T : Top PG LS mean mg mb h₀) (hf : env.frame = some L) (hk : env.scope.kind = .function) (hdp : dp + 20 < recursionLimit) (hu : un + 200 < cLine)
   (W cm : Str) (ws : Bool) (st tok : Value) (kt vt : Nat → Tok) (n1 : Int) (v : Value) (rest : List Value) (hrest : rest.length ≤ 1000) (la ld a pb fs : Addr) (ne_la_ld : Ap la ld) (ne_la_pb : Ap la pb) (ne_ld_pb : Ap ld pb)
   (hret : ∀ h' tk', Touch s.heap h' [(la, instObj 777 ld), (ld, lexD w kt vt a pb fs W cm ws st tok), (pb, dq n1 (v :: rest))] [(la, instObj 777 ld), (ld, lexD w kt vt a pb fs W cm ws st tok), (pb, dq (n1 + 1) rest)] → Q v {s with heap := h', toks := tk'})
   (N : News h₀ L s.heap [(la, instObj 777 ld), (ld, lexD w kt vt a pb fs W cm ws st tok), (pb, dq n1 (v :: rest))])  :
   wpAny (model PySem.Challenge.pw_ku0029_01 w) (⟨hh, dp, some (env :: outer), gd, un⟩ : Around) (call (.ref 738) [.ref la]) Q E s := by
  refine wpAny_call ?_
  ktr_unf
  k_steps
  all_goals (exact hret _ _ (touch_mk (by assumption) (by assumption) (by assumption) (List.forall_mem_cons.mpr ⟨by k_mem, (List.forall_mem_cons.mpr ⟨by k_mem, (List.forall_mem_cons.mpr ⟨by k_mem, List.forall_mem_nil _⟩)⟩)⟩)))

set_option maxHeartbeats 4000000 in
theorem pu_spec {PG : Program} {LS : List Str} (w : World) (mean : ExcName → Option Value) (mg mb : Str → Option Value) (dp un : Nat) (gd : Option (List Code)) (hh : Option Value) (env : Env) (outer : List Env) (A₀ : Around) (base h₀ : Heap) (L : Addr) (m : Str → Option Value) (s : Shared) (Q : Value → Shared → Prop) (E : Value → Shared → Prop)
   (B : Below A₀ base outer h₀) (F : Fr h₀ L s.heap m) (X : (hd.heap_1 w.params).In h₀) (T : Top PG LS mean mg mb h₀) (hf : env.frame = some L) (hk : env.scope.kind = .function) (hdp : dp + 20 < recursionLimit) (hu : un + 200 < cLine)
   (W cm : Str) (ws : Bool) (st tok : Value) (kt vt : Nat → Tok) (n1 : Int) (v : Str) (tv : Tok) (rest : List Value) (hrest : rest.length ≤ 1000) (la ld a pb fs : Addr) (ne_la_ld : Ap la ld) (ne_la_pb : Ap la pb) (ne_ld_pb : Ap ld pb)
   (hret : ∀ h' tk', Touch s.heap h' [(la, instObj 777 ld), (ld, lexD w kt vt a pb fs W cm ws st tok), (pb, dq n1 rest)] [(la, instObj 777 ld), (ld, lexD w kt vt a pb fs W cm ws st tok), (pb, dq (n1 + 1) (.str v tv :: rest))] → Q .none {s with heap := h', toks := tk'})
   (N : News h₀ L s.heap [(la, instObj 777 ld), (ld, lexD w kt vt a pb fs W cm ws st tok), (pb, dq n1 rest)])  :
   wpAny (model PySem.Challenge.pw_ku0029_01 w) (⟨hh, dp, some (env :: outer), gd, un⟩ : Around) (call (.ref 716) [.ref la, .str v tv]) Q E s := by
  refine wpAny_call ?_
  ktr_unf
  k_steps
  all_goals (exact hret _ _ (touch_mk (by assumption) (by assumption) (by assumption) (List.forall_mem_cons.mpr ⟨by k_mem, (List.forall_mem_cons.mpr ⟨by k_mem, (List.forall_mem_cons.mpr ⟨by k_mem, List.forall_mem_nil _⟩)⟩)⟩)))

theorem ln_KuGt_2 : True := by
  k_with "compareOp In str str" => (first
      | (refine' in_lit true ?ze ?_; (case ze => decide +kernel))
      | (refine' in_lit false ?ze ?_; (case ze => decide +kernel))
      | (with_unfolding_all refine' in_chr false ?ze ?_; (case ze => first | exact okc_ws (by assumption) | exact okc_q (by assumption) | exact okc_esc (by assumption) | exact nil_in _ | exact decide_eq_false (by assumption)))
      | (with_unfolding_all refine' in_chr _ rfl ?_))
  k_with "compareOp NotIn str str" => (first
      | (with_unfolding_all refine' notin_chr false ?ze ?_; (case ze => exact nil_in _); try dsimp only [Bool.not_false]))
  k_with "compareOp Eq str str" => (first
      | (refine' eq_lit true ?ze ?_; (case ze => decide +kernel))
      | (refine' eq_lit false ?ze ?_; (case ze => decide +kernel))
      | (refine' eq_lit false ?ze ?_; (case ze => first | exact okc_nl (by assumption) | (rw [nil_S]; exact S_cons_ne _ _))))
  k_with "truthy str" => (first
      | (refine' truthy_S ?ze ?_; (case ze => first | omega | (simp only [List.length_cons, List.length_nil]; omega)); intro _)
      | (refine truthy_S0 ?_; intro _))
  k_with "inplaceOp Add str str" => ((refine' SBL.iadd ?_ ?ze; (case ze => ((try simp only [S_len, List.length_cons, List.length_nil, List.length_take]); rw [sizeLine_eq]; omega)); intro _ _ _))
  k_with "call ref" => ((k_here; (with_reducible show wpAny _ _ (call (Value.ref 745) _) _ _ _); k_dflt (first
      | (refine' use_rt ?zB ?zF ?zX ?zT ?zhf ?zhk ?zhdp ?zhu ?zhx ?zhwl ?zhwr ?zhW ?zhl ?zhok ?zhpost ?zne_la_ld ?zne_la_a ?zne_la_d ?zne_ld_a ?zne_ld_d ?zne_a_d ?zN ?zhC ?zhch ?_; (case zB => k_asm); (case zF => k_asm); (case zX => k_asm); (case zT => k_asm); (case zhf => exact rfl); (case zhk => exact rfl); (case zhdp => k_room); (case zhu => k_units); (case zhx => assumption); (case zhl => assumption); (case zhwl => assumption); (case zhwr => assumption); (case zhW => assumption); (case zhok => assumption); (case zhpost => assumption); (case zN => k_asm); (case zhC => ktr_rel); (case zhch => ktr_rel); (case zne_la_ld => first | assumption | exact Ap.mk (by k_ne)); (case zne_la_a => first | assumption | exact Ap.mk (by k_ne)); (case zne_la_d => first | assumption | exact Ap.mk (by k_ne)); (case zne_ld_a => first | assumption | exact Ap.mk (by k_ne)); (case zne_ld_d => first | assumption | exact Ap.mk (by k_ne)); (case zne_a_d => first | assumption | exact Ap.mk (by k_ne)); k_whole; intro t9k t69k t79k t89k h9k tk9k F9k hN9k; (have N9k := hN9k _ (by tb_rel)); clear hN9k; (try dsimp only); (try k_fold))
      | (refine' use_rt_end ?zB ?zF ?zX ?zT ?zhf ?zhk ?zhdp ?zhu ?zhx ?zhc ?zhst ?zne_la_ld ?zne_la_a ?zne_la_d ?zne_ld_a ?zne_ld_d ?zne_a_d ?zN ?zhC ?zhch ?_; (case zB => k_asm); (case zF => k_asm); (case zX => k_asm); (case zT => k_asm); (case zhf => exact rfl); (case zhk => exact rfl); (case zhdp => k_room); (case zhu => k_units); (case zhx => assumption); (case zhc => assumption); (case zhst => assumption); (case zN => k_asm); (case zhC => ktr_rel); (case zhch => ktr_rel); (case zne_la_ld => first | assumption | exact Ap.mk (by k_ne)); (case zne_la_a => first | assumption | exact Ap.mk (by k_ne)); (case zne_la_d => first | assumption | exact Ap.mk (by k_ne)); (case zne_ld_a => first | assumption | exact Ap.mk (by k_ne)); (case zne_ld_d => first | assumption | exact Ap.mk (by k_ne)); (case zne_a_d => first | assumption | exact Ap.mk (by k_ne)); k_whole; intro t89k h9k tk9k F9k hN9k; (have N9k := hN9k _ (by tb_rel)); clear hN9k; (try dsimp only); (try k_fold)))))
  trivial
set_option maxHeartbeats 4000000 in
theorem gt_end {PG : Program} {LS : List Str} (w : World) (mean : ExcName → Option Value) (mg mb : Str → Option Value) (dp un : Nat) (gd : Option (List Code)) (hh : Option Value) (env : Env) (outer : List Env) (A₀ : Around) (base h₀ : Heap) (L : Addr) (m : Str → Option Value) (s : Shared) (Q : Value → Shared → Prop) (E : Value → Shared → Prop)
   (B : Below A₀ base outer h₀) (F : Fr h₀ L s.heap m) (X : (hd.heap_1 w.params).In h₀) (T : Top PG LS mean mg mb h₀) (hf : env.frame = some L) (hk : env.scope.kind = .function) (hdp : dp + 30 < recursionLimit) (hu : un + 300 < cLine)
   (x W cm : Str) (ws : Bool) (st : Value) (p : Nat) (kt vt : Nat → Tok) (t1 t2 t3 t4 t5 t6 t8 : Tok) (n1 n2 : Int) (hx : x.length ≤ 2000) (hc : x.cps.toList[p]? = none) (hst : st = .none ∨ ∃ t7, st = .str (Str.ofString " ") t7) (la ld a d pb fs : Addr) (ne_la_ld : Ap la ld) (ne_la_a : Ap la a) (ne_la_d : Ap la d) (ne_la_pb : Ap la pb) (ne_la_fs : Ap la fs) (ne_ld_a : Ap ld a) (ne_ld_d : Ap ld d) (ne_ld_pb : Ap ld pb) (ne_ld_fs : Ap ld fs) (ne_a_d : Ap a d) (ne_a_pb : Ap a pb) (ne_a_fs : Ap a fs) (ne_d_pb : Ap d pb) (ne_d_fs : Ap d fs) (ne_pb_fs : Ap pb fs)
   (hret : ∀ t8' h' tk', Touch s.heap h' [(la, instObj 777 ld), (a, instObj 684 d), (d, ioD w t1 t2 t3 t4 t5 x (p : Nat) t6), (pb, dq n1 []), (fs, dq n2 []), (ld, lexD w kt vt a pb fs W cm ws st (.str (Str.ofString "") t8))] [(la, instObj 777 ld), (a, instObj 684 d), (d, ioD w t1 t2 t3 t4 t5 x (p : Nat) t6), (pb, dq n1 []), (fs, dq n2 []), (ld, lexD w kt vt a pb fs W cm ws .none (.str (Str.ofString "") t8'))] → Q .none {s with heap := h', toks := tk'})
   (N : News h₀ L s.heap [(la, instObj 777 ld), (a, instObj 684 d), (d, ioD w t1 t2 t3 t4 t5 x (p : Nat) t6), (pb, dq n1 []), (fs, dq n2 []), (ld, lexD w kt vt a pb fs W cm ws st (.str (Str.ofString "") t8))])  :
   wpAny (model PySem.Challenge.pw_ku0029_01 w) (⟨hh, dp, some (env :: outer), gd, un⟩ : Around) (call (.ref 738) [.ref la]) Q E s := by
  refine wpAny_call ?_
  ktr_unf
  k_steps
  all_goals (exact hret _ _ _ (touch_mk (by assumption) (by assumption) (by assumption) (List.forall_mem_cons.mpr ⟨by k_mem, (List.forall_mem_cons.mpr ⟨by k_mem, (List.forall_mem_cons.mpr ⟨by k_mem, (List.forall_mem_cons.mpr ⟨by k_mem, (List.forall_mem_cons.mpr ⟨by k_mem, (List.forall_mem_cons.mpr ⟨by k_mem, List.forall_mem_nil _⟩)⟩)⟩)⟩)⟩)⟩)))
end
section
open PyProof.Rows PySem PySem.Calls PySem.W PySem.W.X
theorem ln_KuNew_1 : True := by
  k_with_none
  k_with "x_close" => ((refine ⟨_, _, rfl, by assumption, rfl⟩))
  trivial
set_option maxHeartbeats 4000000 in
theorem new684 (w : World) (A : Around) (s : Shared) (E : Value → Shared → Prop) (X : (hd.heap_1 w.params).In s.heap) :
    wpAny (model PySem.Challenge.pw_ku0029_01 w) A (call (.builtin "object.__new__") [.ref 684]) (fun v s' => ∃ x dx, v = .ref x ∧ Mem s.heap s'.heap [] [(x, instObj 684 dx), (dx, emptyDict)] ∧ s' = { s with heap := s'.heap, toks := s'.toks }) E s := by
  obtain ⟨h, g, d, t, os⟩ := s
  x_run
end
section
open PyProof.Rows PySem PySem.Calls PySem.W PySem.W.X
/-- what __new__ must hand back for __init__ to go on -/
noncomputable def NewBack (M : Model) (A' : Around) (K : Frag) (C fI : Addr) (rest : List Value) (R : Result → Shared → Prop) (obj : Value) (s₂ : Shared) : Prop :=
  ∃ x dx, obj = .ref x ∧ K.In s₂.heap ∧ s₂.heap.get? x = some (instObj C dx) ∧ codeAny M A' (.call (.ref fI) ⟨.ref x :: rest, []⟩) (InitBack x R) s₂
theorem made_none {K : Frag} {M : Model} {h : Heap} {C : Addr} {oc : Value} {od : Option Addr} {cd : ClassData} {sl : Array (Option Value)} {c : Value} {l : List Value} (X : K.In h) (ho : K.lookup C = some ⟨oc, od, .cls cd, sl⟩) (hm : cd.mro = c :: l) (hs : (sl.toList[4]?).join = some .none) :
    Looks M h (Bind.madeBy (.ref C)) none := by
  have hc : clsIn K C = some cd := by unfold clsIn; rw [ho]
  have hmro : Looks M h (mroOf (.ref C)) cd.mro := (looks_clsIn X hc).andThen .now
  intro A Q E s k q
  unfold Bind.madeBy
  refine wpAny_bind (hmro A _ E s k ?_)
  rw [hm, List.forIn_cons]
  refine wpAny_bind (wpAny_bind (wpAny_bind (wpAny_bind (wpAny_loadPart (k _ _ (X _ _ ho)) (wpAny_pure ?_)))))
  dsimp only
  rw [← Array.getElem?_toList, hs]
  exact wpAny_pure (wpAny_pure (wpAny_pure q))
section
variable {prog : Program} {w : World} {A : Around} {K : Frag} {C fI : Addr} {R : Result → Shared → Prop} {s : Shared}
theorem make_new {rest : List Value} {oc : Value} {od : Option Addr} {cd : ClassData} {sl : Array (Option Value)} {c : Value} {l : List Value} (X : K.In s.heap)
    (ho : K.lookup C = some ⟨oc, od, .cls cd, sl⟩) (hmr : cd.mro = c :: l) (hs : (sl.toList[4]?).join = some .none)
    (e7 : specialIn K (.ref C) "__call__" = some (some (.builtin "type.__call__"))) (e8 : instIn K (.ref C) (.type "type") = some true) (e5 : mroIn K C (.ref C) = some true)
    (hi : findIn K (.ref C) "__init__" = some (some (.ref fI))) (hf : typeIn K (.ref fI) = some (.type "function"))
    (h : wpAny (model prog w) (A.under (.builtin "type.__call__" ⟨.ref C :: rest, []⟩)) (getAttr (.ref C) "__new__") (fun nw s₁ => wpAny (model prog w) (A.under (.builtin "type.__call__" ⟨.ref C :: rest, []⟩)) (call nw (.ref C :: rest) []) (NewBack (model prog w) (A.under (.builtin "type.__call__" ⟨.ref C :: rest, []⟩)) K C fI rest R) (fun e s' => R (.error e) s') s₁) (fun e s' => R (.error e) s') s) :
    codeAny (model prog w) A (.call (.ref C) ⟨rest, []⟩) R s := by
  have made := made_none (M := model prog w) X ho hmr hs
  have hC := X _ _ ho
  have call : Looks (model prog w) s.heap (specialOf (.ref C) "__call__") (some (.builtin "type.__call__")) := looks_specialIn X e7
  have typ : Looks (model prog w) s.heap (isInstance (.ref C) (.type "type")) true := looks_instIn X e8
  refine codeAny_of_tree ?_
  show wpAny _ _ (callAny (.ref C) _) _ _ _
  refine nd_load hC ?_
  show wpAny _ _ (callAny.viaDunder (.ref C) _) _ _ _
  unfold callAny.viaDunder
  refine wpAny_bind (call.at ?_)
  dsimp only
  rw [tc_bind]
  refine wpAny_bind (wpAny_pure (wpAny_bind (wpAny_pure ?_)))
  refine wpAny_pure (a := Fin.again (.call (.builtin "type.__call__") ⟨.ref C :: rest, []⟩)) (And.intro rfl ?_)
  refine codeAny_call_builtin_at (Code.quiet_builtin _ (by decide +kernel)) entry_typeCall (check_slot tc_kind tc_split typ (tc_args _ _ _) ?_)
  unfold Builtin.«type.__call__»
  have hc : clsIn K C = some cd := by unfold clsIn; rw [ho]
  have hm : Looks (model prog w) s.heap (mroOf (.ref C)) cd.mro := (looks_clsIn X hc).andThen .now
  have e4 : cd.mro.isEmpty = false := by rw [hmr]; rfl
  have self : Looks (model prog w) s.heap (isSubtype (.ref C) (.ref C)) true := looks_mroIn X e5
  repeat (first | simp only [e4, Bool.false_eq_true, if_false] | ((fail_if_success (with_reducible show wpAny _ _ (getAttr _ _ _) _ _ _)); lk))
  refine wpAny_mono h (fun nw s₁ h₁ => ?_) (fun _ _ z => z)
  refine wpAny_bind (wpAny_holding (wpAny_mono h₁ (fun obj s₂ h₂ => ?_) fun _ _ z => z))
  obtain ⟨x, dx, rfl, X2, hx, hq⟩ := h₂
  have t1 : Looks (model prog w) s₂.heap (typeOf (.ref x)) (.ref C) := (Looks.ld hx).andThen .now
  have s1 : Looks (model prog w) s₂.heap (isSubtype (.ref C) (.ref C)) true := looks_mroIn X2 e5
  have i1 : Looks (model prog w) s₂.heap (typeLookup (.ref C) "__init__") (some (.ref fI)) := looks_findIn X2 hi
  have b1 : Looks (model prog w) s₂.heap (bindSpecial (.ref fI) (.ref x)) (.ref fI, [.ref x]) := bind_fn X2 _ hf
  clear made hC call typ hm self X
  unfold isInstance callSpecial? specialOf
  repeat (first | with_reducible refine wpAny_call ?_ | lk)
  refine codeAny_mono hq fun r s' z => ?_
  rcases r with e | (v | _ | _ | _) <;> first | exact z | exact z.elim | skip
  obtain ⟨rfl, z⟩ := z
  exact wpAny_pure (wpAny_pure z)
theorem new684_K {h₀ : Heap} {L : Addr} {m : Str → Option Value} {news : List (Addr × Obj)} {E : Value → Shared → Prop} {Q : Value → Shared → Prop} (F : Fr h₀ L s.heap m) (X₀ : (hd.heap_1 w.params).In h₀) (N : News h₀ L s.heap news)
    (k : ∀ x dx h' tk', Fr h₀ L h' m → News h₀ L h' ((x, instObj 684 dx) :: (dx, emptyDict) :: news) → Ap x dx → (∀ p ∈ news, Ap p.1 x) → (∀ p ∈ news, Ap p.1 dx) → Q (.ref x) { s with heap := h', toks := tk' }) :
    wpAny (model PySem.Challenge.pw_ku0029_01 w) A (call (.builtin "object.__new__") [.ref 684]) Q E s := by
  refine wpAny_mono (new684 w A s E (X₀.keeps F.keep)) (fun v s' hv => ?_) fun _ _ z => z
  obtain ⟨x, dx, rfl, M, e⟩ := hv
  rw [e]
  have hx := M.nw (x, instObj 684 dx) (.head _)
  have hdx := M.nw (dx, emptyDict) (.tail _ (.head _))
  have keep : ∀ b o, s.heap.get? b = some o → s'.heap.get? b = some o := fun b o q => M.keep b o q (by show (hasCls o || true) = true; rw [Bool.or_true])
  obtain ⟨oL, es, ep, hL, hr⟩ := F.ns
  have hne : ∀ {b : Addr} {o : Obj} {y : Addr}, s.heap.get? b = some o → s.heap.get? y = none → b ≠ y := fun q q' e => by rw [e, q'] at q; cases q
  refine k x dx s'.heap s'.toks ⟨⟨oL, es, ep, keep _ _ hL, hr⟩, fun b o q => keep b o (F.keep b o q), F.above⟩ (fun p hp => ?_) ?_ (fun p hp => hne (N p hp).1 hx.2) (fun p hp => hne (N p hp).1 hdx.2)
  · rcases List.mem_cons.mp hp with rfl | hp
    · refine ⟨hx.1, (hne hL hx.2).symm, ?_⟩
      cases q : h₀.get? x with
      | none => rfl
      | some o => have := F.keep _ _ q; rw [hx.2] at this; cases this
    · rcases List.mem_cons.mp hp with rfl | hp
      · refine ⟨hdx.1, (hne hL hdx.2).symm, ?_⟩
        cases q : h₀.get? dx with
        | none => rfl
        | some o => have := F.keep _ _ q; rw [hdx.2] at this; cases this
      · exact ⟨keep _ _ (N p hp).1, (N p hp).2⟩
  · have := M.ne 0 1 x dx _ _ rfl rfl rfl
    exact this
end
theorem ln_KuMake_1 : True := by
  k_with_none
  k_with "x_close" => ((refine ⟨_, _, rfl, by assumption, rfl⟩))
  trivial
set_option maxHeartbeats 4000000 in
theorem newdq (w : World) (A : Around) (s : Shared) (E : Value → Shared → Prop) (X : (hd.heap_1 w.params).In s.heap) :
    wpAny (model PySem.Challenge.pw_ku0029_01 w) A (call (.type "collections.deque") []) (fun v s' => ∃ x n, v = .ref x ∧ Mem s.heap s'.heap [] [(x, dq n [])] ∧ s' = { s with heap := s'.heap, toks := s'.toks }) E s := by
  obtain ⟨h, g, d, t, os⟩ := s
  x_run
theorem newdq_K {w : World} {A : Around} {s : Shared} {h₀ : Heap} {L : Addr} {m : Str → Option Value} {news : List (Addr × Obj)} {E : Value → Shared → Prop} {Q : Value → Shared → Prop} (F : Fr h₀ L s.heap m) (X₀ : (hd.heap_1 w.params).In h₀) (N : News h₀ L s.heap news)
    (k : ∀ x n h' tk', Fr h₀ L h' m → News h₀ L h' ((x, dq n []) :: news) → (∀ p ∈ news, Ap p.1 x) → Q (.ref x) { s with heap := h', toks := tk' }) :
    wpAny (model PySem.Challenge.pw_ku0029_01 w) A (call (.type "collections.deque") []) Q E s := by
  refine wpAny_mono (newdq w A s E (X₀.keeps F.keep)) (fun v s' hv => ?_) fun _ _ z => z
  obtain ⟨x, n, rfl, M, e⟩ := hv
  rw [e]
  have hx := M.nw (x, dq n []) (.head _)
  have keep : ∀ b o, s.heap.get? b = some o → s'.heap.get? b = some o := fun b o q => M.keep b o q (by show (hasCls o || true) = true; rw [Bool.or_true])
  obtain ⟨oL, es, ep, hL, hr⟩ := F.ns
  have hne : ∀ {b : Addr} {o : Obj} {y : Addr}, s.heap.get? b = some o → s.heap.get? y = none → b ≠ y := fun q q' e => by rw [e, q'] at q; cases q
  refine k x n s'.heap s'.toks ⟨⟨oL, es, ep, keep _ _ hL, hr⟩, fun b o q => keep b o (F.keep b o q), F.above⟩ (fun p hp => ?_) (fun p hp => hne (N p hp).1 hx.2)
  rcases List.mem_cons.mp hp with rfl | hp
  · refine ⟨hx.1, (hne hL hx.2).symm, ?_⟩
    cases q : h₀.get? x with
    | none => rfl
    | some o => have := F.keep _ _ q; rw [hx.2] at this; cases this
  · exact ⟨keep _ _ (N p hp).1, (N p hp).2⟩
/-- the pairs of a written list, one by one -/
noncomputable def AllAp (x : Addr) : List (Addr × Obj) → Prop
  | [] => True
  | p :: r => Ap p.1 x ∧ AllAp x r
theorem allAp_of {x : Addr} : ∀ {l : List (Addr × Obj)}, (∀ p ∈ l, Ap p.1 x) → AllAp x l
  | [], _ => trivial
  | p :: _, h => ⟨h p (.head _), allAp_of fun q hq => h q (.tail _ hq)⟩
end
section
open PyProof.Rows PySem PySem.Calls PySem.W
theorem ln_KuList_1 : True := by
  k_with_none
  k_with "k_room" => (((try simp only [depth_mark, depth_under_make, depth_under_kw, depth_in1, depth_deeper, depth_caller]); (try dsimp only [ktrTop]); omega))
  k_with "k_units" => (((try simp only [units_in1, units_deeper, Around.mark_units, units_caller]); (try dsimp only [ktrTop]); omega))
  k_with "k_ne" => ((refine neN ?_; (try dsimp only); first | exact Ap.ne (by assumption) | exact Ap.en (by assumption) | omega))
  k_with "ktr_unf" => ((
      refine' code_defT ?zk1 ?zk2 ?zk3 ?zk4 ?zk5 ?zkA ?zkF ?zkK ?zk6 ?zk7 ?zk8 ?zk9k ?zkB ?_ ?zc2 ?zc3 ?zc4 ?zc5
      case zkA => exact rfl
      case zkF => first | assumption | exact rfl
      case zkK => first | assumption | exact rfl
      case zk1 => k_asm
      case zk2 => k_asm
      case zk3 => k_asm
      case zk4 => k_asm
      case zk5 => k_asm
      case zk6 => k_is
      case zk7 => k_is
      case zk8 => k_room
      case zk9k => first | exact BindsTo.of_eq rfl | exact binds_K (by k_in) rfl (by k_is) rfl rfl rfl
      case zc5 => decide
      case zkB => exact locs rfl
      case zc2 => exact rfl
      case zc3 => exact rfl
      case zc4 => exact rfl
      intro g'k L'k h'k hg'k F'k N'k B'k X'k T'k l1k
      (try k_lt l1k)
      (try dsimp only)
      (try k_lift B'k)
      (try k_fold)))
  trivial
noncomputable def jsp : List (List Nat) → List Nat
  | [] => []
  | [u] => u
  | u :: v :: r => u ++ 32 :: jsp (v :: r)
noncomputable def postOf : List (List Nat) → List Nat
  | [] => []
  | v :: r => 32 :: jsp (v :: r)
theorem jsp_cons (u : List Nat) (r : List (List Nat)) : jsp (u :: r) = u ++ postOf r := by
  cases r with
  | nil => simp [jsp, postOf]
  | cons v r => rfl
theorem postOf_or (r : List (List Nat)) : postOf r = [] ∨ ∃ more, postOf r = 32 :: more := by
  cases r with
  | nil => exact .inl rfl
  | cons v r => exact .inr ⟨_, rfl⟩
noncomputable def WordOk (W : Str) (u : List Nat) : Prop := ∃ w0 wr, u = w0 :: wr ∧ ¬ w0 ∈ W.cps.toList ∧ wr.length ≤ 199 ∧ ∀ c ∈ w0 :: wr, okc c
inductive StrsAre : List Value → List (List Nat) → Prop
  | nil : StrsAre [] []
  | cons {u us vs} (t : Tok) : StrsAre vs us → StrsAre (.str (S u) t :: vs) (u :: us)
theorem turn_word {PG : Program} {LS : List Str} (w : World) (mean : ExcName → Option Value) (mg mb : Str → Option Value) (dp un : Nat) (gd : Option (List Code))  (env : Env) (outer : List Env) (A₀ : Around) (base h₀ : Heap) (L : Addr) (m : Str → Option Value) 
   (B : Below A₀ base outer h₀)  (X : (hd.heap_1 w.params).In h₀) (T : Top PG LS mean mg mb h₀) (hf : env.frame = some L) (hk : env.scope.kind = .function) (hdp : dp + 30 < recursionLimit) (hu : un + 300 < cLine) (x W : Str) (kt vt : Nat → Tok) (t1 t2 t3 t4 t5 : Tok) (n1 n2 : Int) (hx : x.length ≤ 2000) (la ld a d pb fs so : Addr) (ne_la_ld : Ap la ld) (ne_la_a : Ap la a) (ne_la_d : Ap la d) (ne_la_pb : Ap la pb) (ne_la_fs : Ap la fs) (ne_la_so : Ap la so) (ne_ld_a : Ap ld a) (ne_ld_d : Ap ld d) (ne_ld_pb : Ap ld pb) (ne_ld_fs : Ap ld fs) (ne_ld_so : Ap ld so) (ne_a_d : Ap a d) (ne_a_pb : Ap a pb) (ne_a_fs : Ap a fs) (ne_a_so : Ap a so) (ne_d_pb : Ap d pb) (ne_d_fs : Ap d fs) (ne_d_so : Ap d so) (ne_pb_fs : Ap pb fs) (ne_pb_so : Ap pb so) (ne_fs_so : Ap fs so) (A1 : Around) (hA1 : A1.in1 = ⟨none, dp, some (env :: outer), gd, un⟩)
    (rem : List (List Nat)) (w0 : Nat) (wr pre : List Nat) (acc : List Value) (nS : Nat) (s : Shared) (t6 t7 t8 : Tok) (R : Result → Shared → Prop) (hW : ¬ w0 ∈ W.cps.toList) (hwr : wr.length ≤ 199) (hoc : ∀ c ∈ w0 :: wr, okc c)
    (hl : x.cps.toList = pre ++ ((w0 :: wr) ++ postOf rem)) (F : Fr h₀ L s.heap m) (N : News h₀ L s.heap ((so, listOf acc.toArray nS) :: [(la, instObj 777 ld), (a, instObj 684 d), (pb, dq n1 []), (fs, dq n2 []), (ld, lexD w kt vt a pb fs W (Str.ofString "") true (.str (Str.ofString " ") t7) (.str (Str.ofString "") t8)), (d, ioD w t1 t2 t3 t4 t5 x (pre.length : Nat) t6)])) (hlen : acc.length ≤ 1000)
    (k : ∀ t t6' t7' t8' h2 tk2, Fr h₀ L h2 m → News h₀ L h2 ((so, listOf (acc ++ [Value.str (S (w0 :: wr)) t]).toArray (nS + 1)) :: [(la, instObj 777 ld), (a, instObj 684 d), (pb, dq n1 []), (fs, dq n2 []), (ld, lexD w kt vt a pb fs W (Str.ofString "") true (stV (postOf rem) t7') (.str (Str.ofString "") t8')), (d, ioD w t1 t2 t3 t4 t5 x (pre.length + (w0 :: wr).length + adv (postOf rem) : Nat) t6')]) →
      (∀ b o, s.heap.get? b = some o → (∀ q ∈ ([la, ld, a, d, pb, fs, so] : List Addr), q ≠ b) → h2.get? b = some o) →
      codeAny (model PySem.Challenge.pw_ku0029_01 w) A1 (.builtin "list.extend.loop" ⟨[.ref so, .ref la, .none], []⟩) R { s with heap := h2, toks := tk2 }) :
    codeAny (model PySem.Challenge.pw_ku0029_01 w) A1 (.builtin "list.extend.loop" ⟨[.ref so, .ref la, .none], []⟩) R s := by
  have N0 : News h₀ L s.heap [(la, instObj 777 ld), (a, instObj 684 d), (pb, dq n1 []), (fs, dq n2 []), (ld, lexD w kt vt a pb fs W (Str.ofString "") true (.str (Str.ofString " ") t7) (.str (Str.ofString "") t8)), (d, ioD w t1 t2 t3 t4 t5 x (pre.length : Nat) t6)] := fun p hp => N p (.tail _ hp)
  have I : InstAt s.heap la _ 777 _ := InstAt.of_news N0 (by k_mem) (by k_mem : (ld, lexD w kt vt a pb fs W (Str.ofString "") true (.str (Str.ofString " ") t7) (.str (Str.ofString "") t8)) ∈ _)
  refine codeAny_builtin PySem.F.entry_extend_loop ?_
  rw [Around.under_plainId PySem.F.plain_extend_loop _, hA1]
  show wpAny _ _ (pyNext (.ref la) >>= _) _ _ s
  refine wpAny_bind (owit_next (K := hd.heap_1 w.params) (f := 774) F X I (by k_is) (by k_is) ?_)
  refine nx_word w mean mg mb dp un gd none env outer A₀ base h₀ L m s _ _ B F X T hf hk hdp hu x W pre w0 hW wr (postOf rem) kt vt t1 t2 t3 t4 t5 t6 t7 t8 n1 n2 hx (by rw [List.length_cons]; omega) hwr hl hoc (postOf_or rem) la ld a d pb fs ne_la_ld ne_la_a ne_la_d ne_la_pb ne_la_fs ne_ld_a ne_ld_d ne_ld_pb ne_ld_fs ne_a_d ne_a_pb ne_a_fs ne_d_pb ne_d_fs ne_pb_fs (fun t t6' t7' t8' h1 tk1 ht => ?_) N0
  have hb := touch_back (news := [(la, instObj 777 ld), (a, instObj 684 d), (pb, dq n1 []), (fs, dq n2 []), (ld, lexD w kt vt a pb fs W (Str.ofString "") true (.str (Str.ofString " ") t7) (.str (Str.ofString "") t8)), (d, ioD w t1 t2 t3 t4 t5 x (pre.length : Nat) t6)]) (rest := []) F N0 (fun p hp => hp) (fun p hp => nomatch hp) ht
  have hso : h1.get? so = some (listOf acc.toArray nS) := ht.keep so _ (N _ (.head _)).1 (by
    intro p hp
    simp only [List.mem_cons, List.not_mem_nil, or_false] at hp
    rcases hp with rfl | rfl | rfl | rfl | rfl | rfl
    · exact ne_la_so.ne
    · exact ne_a_so.ne
    · exact ne_pb_so.ne
    · exact ne_fs_so.ne
    · exact ne_ld_so.ne
    · exact ne_d_so.ne)
  have zso := N (so, listOf acc.toArray nS) (.head _)
  show wpAny _ _ (updateSeq so (·.push _) >>= _) _ _ _
  refine wpAny_bind (wpAny_updateSeq (by exact hso) rfl (wpAny_pure ⟨plainId_quiet PySem.F.plain_extend_loop _, ?_⟩) (hz := by rw [List.size_toArray, sizeLine_eq]; omega) (_hz' := by rw [Array.size_push, List.size_toArray, sizeLine_eq]; omega))
  have hsb : Heap.SameBut so h1 (h1.update so (Obj.mapSeq (·.push (.str (S (w0 :: wr)) t)))) := Heap.SameBut.update ..
  refine k t t6' t7' t8' _ tk1 (hb.1.change hsb zso.2.1 zso.2.2) (fun p hp => ?_) (fun b o e hn => ?_)
  · rcases List.mem_cons.mp hp with rfl | hp
    · refine ⟨?_, zso.2.1, zso.2.2⟩
      have q := PySem.IsL.update (show PySem.IsL h1 so acc.toArray nS from hso) (·.push (.str (S (w0 :: wr)) t))
      rw [if_neg (by simp)] at q
      refine Eq.trans q ?_
      simp
    · have z := hb.2 p (List.mem_append.mpr (.inl hp))
      have hne : p.1 ≠ so := by
        simp only [List.mem_cons, List.not_mem_nil, or_false] at hp
        rcases hp with rfl | rfl | rfl | rfl | rfl | rfl
        · exact ne_la_so.ne
        · exact ne_a_so.ne
        · exact ne_pb_so.ne
        · exact ne_fs_so.ne
        · exact ne_ld_so.ne
        · exact ne_d_so.ne
      exact ⟨(hsb.2 _ hne).trans z.1, z.2⟩
  · have hbso : b ≠ so := fun e' => hn so (by simp) e'.symm
    refine (hsb.2 b hbso).trans (ht.keep b o e fun p hp => ?_)
    simp only [List.mem_cons, List.not_mem_nil, or_false] at hp
    rcases hp with rfl | rfl | rfl | rfl | rfl | rfl
    · exact hn la (by simp)
    · exact hn a (by simp)
    · exact hn pb (by simp)
    · exact hn fs (by simp)
    · exact hn ld (by simp)
    · exact hn d (by simp)
theorem turn_end {PG : Program} {LS : List Str} (w : World) (mean : ExcName → Option Value) (mg mb : Str → Option Value) (dp un : Nat) (gd : Option (List Code))  (env : Env) (outer : List Env) (A₀ : Around) (base h₀ : Heap) (L : Addr) (m : Str → Option Value) 
   (B : Below A₀ base outer h₀)  (X : (hd.heap_1 w.params).In h₀) (T : Top PG LS mean mg mb h₀) (hf : env.frame = some L) (hk : env.scope.kind = .function) (hdp : dp + 30 < recursionLimit) (hu : un + 300 < cLine) (x W : Str) (kt vt : Nat → Tok) (t1 t2 t3 t4 t5 : Tok) (n1 n2 : Int) (hx : x.length ≤ 2000) (la ld a d pb fs so : Addr) (ne_la_ld : Ap la ld) (ne_la_a : Ap la a) (ne_la_d : Ap la d) (ne_la_pb : Ap la pb) (ne_la_fs : Ap la fs) (ne_la_so : Ap la so) (ne_ld_a : Ap ld a) (ne_ld_d : Ap ld d) (ne_ld_pb : Ap ld pb) (ne_ld_fs : Ap ld fs) (ne_ld_so : Ap ld so) (ne_a_d : Ap a d) (ne_a_pb : Ap a pb) (ne_a_fs : Ap a fs) (ne_a_so : Ap a so) (ne_d_pb : Ap d pb) (ne_d_fs : Ap d fs) (ne_d_so : Ap d so) (ne_pb_fs : Ap pb fs) (ne_pb_so : Ap pb so) (ne_fs_so : Ap fs so) (A1 : Around) (hA1 : A1.in1 = ⟨none, dp, some (env :: outer), gd, un⟩)
    (p : Nat) (acc : List Value) (nS : Nat) (s : Shared) (t6 t8 : Tok) (R : Result → Shared → Prop) (hc : x.cps.toList[p]? = none) (F : Fr h₀ L s.heap m) (N : News h₀ L s.heap ((so, listOf acc.toArray nS) :: [(la, instObj 777 ld), (a, instObj 684 d), (pb, dq n1 []), (fs, dq n2 []), (ld, lexD w kt vt a pb fs W (Str.ofString "") true .none (.str (Str.ofString "") t8)), (d, ioD w t1 t2 t3 t4 t5 x (p : Nat) t6)]))
    (k : ∀ h' tk', (∀ b o, base.get? b = some o → h'.get? b = some o) → (∀ b o, s.heap.get? b = some o → (∀ q ∈ ([la, ld, a, d, pb, fs, so] : List Addr), q ≠ b) → (∀ vs, o.data ≠ .fields vs) → ∃ sl, h'.get? b = some { o with slots := sl }) → h'.get? so = some (listOf acc.toArray nS) → R (.ok (.ret .none)) { s with heap := h', toks := tk' }) :
    codeAny (model PySem.Challenge.pw_ku0029_01 w) A1 (.builtin "list.extend.loop" ⟨[.ref so, .ref la, .none], []⟩) R s := by
  have I : InstAt s.heap la _ 777 _ := InstAt.of_news N (by k_mem) (by k_mem : (ld, lexD w kt vt a pb fs W (Str.ofString "") true .none (.str (Str.ofString "") t8)) ∈ _)
  refine codeAny_builtin PySem.F.entry_extend_loop ?_
  rw [Around.under_plainId PySem.F.plain_extend_loop _, hA1]
  show wpAny _ _ (pyNext (.ref la) >>= _) _ _ s
  refine wpAny_bind (owit_next (K := hd.heap_1 w.params) (f := 774) F X I (by k_is) (by k_is) ?_)
  refine wpAny_mono (nx_end w mean mg mb dp un gd env outer A₀ base h₀ L m s (fun _ _ => False) _ B F X T hf hk hdp hu x W (Str.ofString "") true .none p kt vt t1 t2 t3 t4 t5 t6 t8 n1 n2 hx hc (.inl rfl) la ld a d pb fs so (listOf acc.toArray nS) ne_la_ld ne_la_a ne_la_d ne_la_pb ne_la_fs ne_la_so ne_ld_a ne_ld_d ne_ld_pb ne_ld_fs ne_ld_so ne_a_d ne_a_pb ne_a_fs ne_a_so ne_d_pb ne_d_fs ne_d_so ne_pb_fs ne_pb_so ne_fs_so (fun e t vs t8' h' tk' RK U => ?_) (fun q hq => N q ?_)) (fun v s' hv => hv.elim) (fun _ _ z => z)
  · obtain ⟨⟨B', hB, hl, hfl, _⟩, _⟩ := RK
    have hf' := flyingW_base hB hfl
    obtain ⟨ob, hob, hobc⟩ := hf'.there
    have hT : ({ s with heap := h', toks := tk' } : Shared).TypeIs (.ref e) "StopIteration" := (show ∃ o, h'.get? e = some o ∧ o.cls = .type "StopIteration" from ⟨ob, hob, hobc⟩)
    unfold OwitStop
    have hsub : isSubtype (.type "StopIteration") (.type "StopIteration") = pure true := by first | rfl | kernel_rfl
    refine wpAny_isInstance hT hsub ?_
    rw [if_pos rfl]
    refine wpAny_pure (k h' tk' (fun b o q => hf'.1 b o q) (fun b o q hn hv => U b o q (fun z hz => ?_) hv) (hfl.1 _ _ (hl (so, listOf acc.toArray nS) (by k_mem)).1))
    simp only [List.mem_cons, List.not_mem_nil, or_false] at hz
    rcases hz with rfl | rfl | rfl | rfl | rfl | rfl | rfl
    · exact hn la (by simp)
    · exact hn a (by simp)
    · exact hn d (by simp)
    · exact hn pb (by simp)
    · exact hn fs (by simp)
    · exact hn so (by simp)
    · exact hn ld (by simp)
  · simp only [List.mem_cons, List.not_mem_nil, or_false] at hq ⊢
    rcases hq with h | h | h | h | h | h | h <;> simp [h]
theorem ext_loop {PG : Program} {LS : List Str} (w : World) (mean : ExcName → Option Value) (mg mb : Str → Option Value) (dp un : Nat) (gd : Option (List Code))  (env : Env) (outer : List Env) (A₀ : Around) (base h₀ : Heap) (L : Addr) (m : Str → Option Value) 
   (B : Below A₀ base outer h₀)  (X : (hd.heap_1 w.params).In h₀) (T : Top PG LS mean mg mb h₀) (hf : env.frame = some L) (hk : env.scope.kind = .function) (hdp : dp + 30 < recursionLimit) (hu : un + 300 < cLine) (x W : Str) (kt vt : Nat → Tok) (t1 t2 t3 t4 t5 : Tok) (n1 n2 : Int) (hx : x.length ≤ 2000) (la ld a d pb fs so : Addr) (ne_la_ld : Ap la ld) (ne_la_a : Ap la a) (ne_la_d : Ap la d) (ne_la_pb : Ap la pb) (ne_la_fs : Ap la fs) (ne_la_so : Ap la so) (ne_ld_a : Ap ld a) (ne_ld_d : Ap ld d) (ne_ld_pb : Ap ld pb) (ne_ld_fs : Ap ld fs) (ne_ld_so : Ap ld so) (ne_a_d : Ap a d) (ne_a_pb : Ap a pb) (ne_a_fs : Ap a fs) (ne_a_so : Ap a so) (ne_d_pb : Ap d pb) (ne_d_fs : Ap d fs) (ne_d_so : Ap d so) (ne_pb_fs : Ap pb fs) (ne_pb_so : Ap pb so) (ne_fs_so : Ap fs so) (A1 : Around) (hA1 : A1.in1 = ⟨none, dp, some (env :: outer), gd, un⟩) :
    ∀ (rem : List (List Nat)) (wd pre : List Nat) (acc : List Value) (nS : Nat) (s : Shared) (t6 t7 t8 : Tok) (R : Result → Shared → Prop), (∀ u ∈ wd :: rem, WordOk W u) → x.cps.toList = pre ++ jsp (wd :: rem) →
      Fr h₀ L s.heap m → News h₀ L s.heap ((so, listOf acc.toArray nS) :: [(la, instObj 777 ld), (a, instObj 684 d), (pb, dq n1 []), (fs, dq n2 []), (ld, lexD w kt vt a pb fs W (Str.ofString "") true (.str (Str.ofString " ") t7) (.str (Str.ofString "") t8)), (d, ioD w t1 t2 t3 t4 t5 x (pre.length : Nat) t6)]) → acc.length + (rem.length + 1) ≤ 1000 →
      (∀ vals n h' tk', StrsAre vals (wd :: rem) → (∀ b o, base.get? b = some o → h'.get? b = some o) → (∀ b o, s.heap.get? b = some o → (∀ q ∈ ([la, ld, a, d, pb, fs, so] : List Addr), q ≠ b) → (∀ vs, o.data ≠ .fields vs) → ∃ sl, h'.get? b = some { o with slots := sl }) → h'.get? so = some (listOf (acc ++ vals).toArray n) → R (.ok (.ret .none)) { s with heap := h', toks := tk' }) →
      codeAny (model PySem.Challenge.pw_ku0029_01 w) A1 (.builtin "list.extend.loop" ⟨[.ref so, .ref la, .none], []⟩) R s := by
  intro rem
  induction rem with
  | nil =>
    intro wd pre acc nS s t6 t7 t8 R hok hl F N hlen hR
    obtain ⟨w0, wr, rfl, hW, hwr, hoc⟩ := hok wd (.head _)
    refine turn_word w mean mg mb dp un gd env outer A₀ base h₀ L m B X T hf hk hdp hu x W kt vt t1 t2 t3 t4 t5 n1 n2 hx la ld a d pb fs so ne_la_ld ne_la_a ne_la_d ne_la_pb ne_la_fs ne_la_so ne_ld_a ne_ld_d ne_ld_pb ne_ld_fs ne_ld_so ne_a_d ne_a_pb ne_a_fs ne_a_so ne_d_pb ne_d_fs ne_d_so ne_pb_fs ne_pb_so ne_fs_so A1 hA1 [] w0 wr pre acc nS s t6 t7 t8 R hW hwr hoc (by rw [hl, jsp_cons]) F N (by omega) fun t t6' t7' t8' h2 tk2 F2 N2 k2 => ?_
    refine turn_end w mean mg mb dp un gd env outer A₀ base h₀ L m B X T hf hk hdp hu x W kt vt t1 t2 t3 t4 t5 n1 n2 hx la ld a d pb fs so ne_la_ld ne_la_a ne_la_d ne_la_pb ne_la_fs ne_la_so ne_ld_a ne_ld_d ne_ld_pb ne_ld_fs ne_ld_so ne_a_d ne_a_pb ne_a_fs ne_a_so ne_d_pb ne_d_fs ne_d_so ne_pb_fs ne_pb_so ne_fs_so A1 hA1 (pre.length + (w0 :: wr).length + 0) _ _ _ t6' t8' R ?_ F2 N2 fun h3 tk3 c1 c2 c3 => ?_
    · rw [hl, jsp_cons]; simp [postOf]
    · exact hR [.str (S (w0 :: wr)) t] _ h3 tk3 (.cons t .nil) c1 (fun b o q hn hv => c2 b o (k2 b o q hn) hn hv) c3
  | cons v rem ih =>
    intro wd pre acc nS s t6 t7 t8 R hok hl F N hlen hR
    obtain ⟨w0, wr, rfl, hW, hwr, hoc⟩ := hok wd (.head _)
    refine turn_word w mean mg mb dp un gd env outer A₀ base h₀ L m B X T hf hk hdp hu x W kt vt t1 t2 t3 t4 t5 n1 n2 hx la ld a d pb fs so ne_la_ld ne_la_a ne_la_d ne_la_pb ne_la_fs ne_la_so ne_ld_a ne_ld_d ne_ld_pb ne_ld_fs ne_ld_so ne_a_d ne_a_pb ne_a_fs ne_a_so ne_d_pb ne_d_fs ne_d_so ne_pb_fs ne_pb_so ne_fs_so A1 hA1 (v :: rem) w0 wr pre acc nS s t6 t7 t8 R hW hwr hoc (by rw [hl, jsp_cons]) F N (by omega) fun t t6' t7' t8' h2 tk2 F2 N2 k2 => ?_
    have hpl : (pre ++ ((w0 :: wr) ++ [32])).length = pre.length + (w0 :: wr).length + adv (postOf (v :: rem)) := by simp [postOf, adv]; omega
    refine ih v (pre ++ ((w0 :: wr) ++ [32])) (acc ++ [Value.str (S (w0 :: wr)) t]) (nS + 1) _ t6' t7' t8' R (fun u hu' => hok u (.tail _ hu')) ?_ F2 ?_ ?_ fun vals n h3 tk3 hs c1 c2 c3 => ?_
    · rw [hl, jsp_cons]; simp [postOf]
    · rw [hpl]; exact N2
    · rw [List.length_append]; simp only [List.length_cons, List.length_nil] at hlen ⊢; omega
    · exact hR (.str (S (w0 :: wr)) t :: vals) n h3 tk3 (.cons t hs) c1 (fun b o q hn hv => c2 b o (k2 b o q hn) hn hv) (by rw [List.append_assoc] at c3; exact c3)
end
section
open PyProof.Rows PySem PySem.Calls PySem.W
theorem ln_KuList2_1 : True := by
  k_with_none
  k_with "k_room" => (((try simp only [depth_mark, depth_under_make, depth_under_kw, depth_in1, depth_deeper, depth_caller]); (try dsimp only [ktrTop]); omega))
  k_with "k_units" => (((try simp only [units_in1, units_deeper, Around.mark_units, units_caller]); (try dsimp only [ktrTop]); omega))
  k_with "k_ne" => ((refine neN ?_; (try dsimp only); first | exact Ap.ne (by assumption) | exact Ap.en (by assumption) | omega))
  k_with "ktr_unf" => ((
      refine' code_defT ?zk1 ?zk2 ?zk3 ?zk4 ?zk5 ?zkA ?zkF ?zkK ?zk6 ?zk7 ?zk8 ?zk9k ?zkB ?_ ?zc2 ?zc3 ?zc4 ?zc5
      case zkA => exact rfl
      case zkF => first | assumption | exact rfl
      case zkK => first | assumption | exact rfl
      case zk1 => k_asm
      case zk2 => k_asm
      case zk3 => k_asm
      case zk4 => k_asm
      case zk5 => k_asm
      case zk6 => k_is
      case zk7 => k_is
      case zk8 => k_room
      case zk9k => first | exact BindsTo.of_eq rfl | exact binds_K (by k_in) rfl (by k_is) rfl rfl rfl
      case zc5 => decide
      case zkB => exact locs rfl
      case zc2 => exact rfl
      case zc3 => exact rfl
      case zc4 => exact rfl
      intro g'k L'k h'k hg'k F'k N'k B'k X'k T'k l1k
      (try k_lt l1k)
      (try dsimp only)
      (try k_lift B'k)
      (try k_fold)))
  trivial
set_option maxHeartbeats 4000000 in
theorem it_spec {PG : Program} {LS : List Str} (w : World) (mean : ExcName → Option Value) (mg mb : Str → Option Value) (dp un : Nat) (gd : Option (List Code)) (hh : Option Value) (env : Env) (outer : List Env) (A₀ : Around) (base h₀ : Heap) (L : Addr) (m : Str → Option Value) (s : Shared) (Q : Value → Shared → Prop) (E : Value → Shared → Prop)
   (B : Below A₀ base outer h₀) (F : Fr h₀ L s.heap m) (X : (hd.heap_1 w.params).In h₀) (T : Top PG LS mean mg mb h₀) (hf : env.frame = some L) (hk : env.scope.kind = .function) (hdp : dp + 10 < recursionLimit) (hu : un + 80 < cLine)
   (la : Addr) (hret : ∀ h' tk', Touch s.heap h' [] [] → Q (.ref la) {s with heap := h', toks := tk'})
   (N : News h₀ L s.heap [])  :
   wpAny (model PySem.Challenge.pw_ku0029_01 w) (⟨hh, dp, some (env :: outer), gd, un⟩ : Around) (call (.ref 767) [.ref la]) Q E s := by
  refine wpAny_call ?_
  ktr_unf
  k_steps
  all_goals (exact hret _ _ (touch_mk (by assumption) (by assumption) (by assumption) (fun _ hq => nomatch hq)))


theorem upd_so {h h₀ : Heap} {L so : Addr} {m : Str → Option Value} {its : Array Value} {n : Nat} {rest : List (Addr × Obj)} (F : Fr h₀ L h m) (N : News h₀ L h ((so, listOf its n) :: rest)) (hap : ∀ p ∈ rest, p.1 ≠ so) (f : Array Value → Array Value) (its' : Array Value) (n' : Nat) (e : Obj.mapSeq f (listOf its n) = listOf its' n') :
    Fr h₀ L (h.update so (Obj.mapSeq f)) m ∧ News h₀ L (h.update so (Obj.mapSeq f)) ((so, listOf its' n') :: rest) ∧ (∀ b o, b ≠ so → h.get? b = some o → (h.update so (Obj.mapSeq f)).get? b = some o) := by
  have q := news_upd (pre := []) (post := rest) F N (fun p hp => nomatch hp) hap e rfl
  exact ⟨q.1, q.2, fun b o hb ho => (Heap.get?_update_ne _ _ _ _ hb).trans ho⟩
theorem list_lex {PG : Program} {LS : List Str} (w : World) (mean : ExcName → Option Value) (mg mb : Str → Option Value) (dp un : Nat) (gd : Option (List Code))  (env : Env) (outer : List Env) (A₀ : Around) (base h₀ : Heap) (L : Addr) (m : Str → Option Value) 
   (B : Below A₀ base outer h₀)  (X : (hd.heap_1 w.params).In h₀) (T : Top PG LS mean mg mb h₀) (hf : env.frame = some L) (hk : env.scope.kind = .function) (hdp : dp + 30 < recursionLimit) (hu : un + 302 < cLine) (x W : Str) (kt vt : Nat → Tok) (t1 t2 t3 t4 t5 : Tok) (n1 n2 : Int) (hx : x.length ≤ 2000) (la ld a d pb fs : Addr) (ne_la_ld : Ap la ld) (ne_la_a : Ap la a) (ne_la_d : Ap la d) (ne_la_pb : Ap la pb) (ne_la_fs : Ap la fs) (ne_ld_a : Ap ld a) (ne_ld_d : Ap ld d) (ne_ld_pb : Ap ld pb) (ne_ld_fs : Ap ld fs) (ne_a_d : Ap a d) (ne_a_pb : Ap a pb) (ne_a_fs : Ap a fs) (ne_d_pb : Ap d pb) (ne_d_fs : Ap d fs) (ne_pb_fs : Ap pb fs) (wd : List Nat) (rem : List (List Nat)) (s : Shared) (t6 t7 t8 : Tok) (Q : Value → Shared → Prop) (E : Value → Shared → Prop) (hok : ∀ u ∈ wd :: rem, WordOk W u) (hl : x.cps.toList = jsp (wd :: rem))
    (F : Fr h₀ L s.heap m) (N : News h₀ L s.heap [(la, instObj 777 ld), (a, instObj 684 d), (pb, dq n1 []), (fs, dq n2 []), (ld, lexD w kt vt a pb fs W (Str.ofString "") true (.str (Str.ofString " ") t7) (.str (Str.ofString "") t8)), (d, ioD w t1 t2 t3 t4 t5 x (0 : Nat) t6)]) (hlen : rem.length + 1 ≤ 1000)
    (hQ : ∀ so vals n h' tk', StrsAre vals (wd :: rem) → (∀ b o, base.get? b = some o → h'.get? b = some o) → (∀ b o, s.heap.get? b = some o → (∀ q ∈ ([la, ld, a, d, pb, fs] : List Addr), q ≠ b) → (∀ vs, o.data ≠ .fields vs) → ∃ sl, h'.get? b = some { o with slots := sl }) → h'.get? so = some (listOf vals.toArray n) → s.heap.get? so = none → Q (.ref so) { s with heap := h', toks := tk' }) :
    wpAny (model PySem.Challenge.pw_ku0029_01 w) (⟨none, dp, some (env :: outer), gd, un⟩ : Around) (call (.type "list") [.ref la]) Q E s := by
  have hso : s.heap.get? s.heap.objs.size = none := Heap.get?_none_of_le (Nat.le_refl _)
  have apart : ∀ p ∈ ([(la, instObj 777 ld), (a, instObj 684 d), (pb, dq n1 []), (fs, dq n2 []), (ld, lexD w kt vt a pb fs W (Str.ofString "") true (.str (Str.ofString " ") t7) (.str (Str.ofString "") t8)), (d, ioD w t1 t2 t3 t4 t5 x (0 : Nat) t6)] : List (Addr × Obj)), p.1 ≠ s.heap.objs.size := fun p hp => Nat.ne_of_lt (Heap.lt_size (N p hp).1)
  refine callType_codes (Q₁ := fun obj s₁ => obj = .ref s.heap.objs.size ∧ s₁ = { s with heap := s.heap.push (listOf #[] 0) }) PySem.F.called_list (PySem.F.typeCall_list_1 _) PySem.F.entry_list_init
    (code_list_new _ ⟨rfl, rfl⟩) fun obj s₁ h₁ => ?_
  obtain ⟨rfl, rfl⟩ := h₁
  generalize hS : s.heap.objs.size = so at hso apart
  have F1 : Fr h₀ L (s.heap.push (listOf #[] 0)) m := F.push _
  have N1 : News h₀ L (s.heap.push (listOf #[] 0)) ((so, listOf #[] 0) :: [(la, instObj 777 ld), (a, instObj 684 d), (pb, dq n1 []), (fs, dq n2 []), (ld, lexD w kt vt a pb fs W (Str.ofString "") true (.str (Str.ofString " ") t7) (.str (Str.ofString "") t8)), (d, ioD w t1 t2 t3 t4 t5 x (0 : Nat) t6)]) := hS ▸ News.push F N _ rfl
  have hS1 : (s.heap.push (listOf #[] 0)).get? so = some (listOf #[] 0) := (N1 _ (.head _)).1
  refine ⟨⟨_, hS1, rfl⟩, PySem.F.args_list_init_2 _ _, ?_⟩
  show wpAny _ _ (do let old ← Builtin.List.listItems (.ref so); Builtin.List.listUpdate (.ref so) (fun _ => #[]); letGo old.toList.reverse; Builtin.List.listExtendWith (.ref so) (.ref la) .none) _ _ _
  refine wpAny_bind ?_
  unfold Builtin.List.listItems
  refine wpAny_bind (wpAny_seqItems hS1 rfl (wpAny_pure ?_))
  show wpAny _ _ (updateSeq so (fun _ => #[]) >>= fun _ => letGo (#[] : Array Value).toList.reverse >>= fun _ => Builtin.List.listExtendWith (.ref so) (.ref la) .none) _ _ _
  refine wpAny_bind (wpAny_updateSeq hS1 rfl ?_)
  obtain ⟨F2, N2, k2⟩ := upd_so F1 N1 apart (fun _ => #[]) #[] 0 rfl
  refine wpAny_bind (wpAny_letGo ?_)
  generalize (s.heap.push (listOf #[] 0)).update so (Obj.mapSeq fun _ => #[]) = hA at F2 N2 k2
  have I : ∀ hB, News h₀ L hB ((so, listOf #[] 0) :: [(la, instObj 777 ld), (a, instObj 684 d), (pb, dq n1 []), (fs, dq n2 []), (ld, lexD w kt vt a pb fs W (Str.ofString "") true (.str (Str.ofString " ") t7) (.str (Str.ofString "") t8)), (d, ioD w t1 t2 t3 t4 t5 x (0 : Nat) t6)]) → InstAt hB la _ 777 _ := fun hB NB => InstAt.of_news NB (by k_mem) (by k_mem : (ld, lexD w kt vt a pb fs W (Str.ofString "") true (.str (Str.ofString " ") t7) (.str (Str.ofString "") t8)) ∈ _)
  unfold Builtin.List.listExtendWith
  refine wpAny_bind ((I hA N2).type.here ?_)
  have q1 : Builtin.List.listSameRef (.ref so) (.ref la) = false := by
    show (so == la) = false
    exact beq_eq_false_iff_ne.mpr (apart (la, instObj 777 ld) (by k_mem)).symm
  have q2 : (Value.ref 777 == Value.type "list") = false := by decide
  have q3 : (Value.ref 777 == Value.type "tuple") = false := by decide
  simp only [q1, q2, q3, Bool.or_false, Bool.false_eq_true, if_false]
  refine wpAny_bind (owit_iter (K := hd.heap_1 w.params) (f := 767) F2 X (I hA N2) (by k_is) (by k_is) ?_)
  refine it_spec w mean mg mb dp (un + 2) gd none env outer A₀ base h₀ L m _ _ _ B F2 X T hf hk (by omega) (by omega) la (fun h3 tk3 ht3 => ?_) News.nil
  have b3 := touch_back (N₁ := []) (N₂ := []) (news := (so, listOf #[] 0) :: [(la, instObj 777 ld), (a, instObj 684 d), (pb, dq n1 []), (fs, dq n2 []), (ld, lexD w kt vt a pb fs W (Str.ofString "") true (.str (Str.ofString " ") t7) (.str (Str.ofString "") t8)), (d, ioD w t1 t2 t3 t4 t5 x (0 : Nat) t6)]) (rest := (so, listOf #[] 0) :: [(la, instObj 777 ld), (a, instObj 684 d), (pb, dq n1 []), (fs, dq n2 []), (ld, lexD w kt vt a pb fs W (Str.ofString "") true (.str (Str.ofString " ") t7) (.str (Str.ofString "") t8)), (d, ioD w t1 t2 t3 t4 t5 x (0 : Nat) t6)]) F2 N2 (fun p hp => nomatch hp) (fun p hp => ⟨hp, fun q hq => nomatch hq⟩) ht3
  have F3 := b3.1
  have N3 : News h₀ L h3 ((so, listOf #[] 0) :: [(la, instObj 777 ld), (a, instObj 684 d), (pb, dq n1 []), (fs, dq n2 []), (ld, lexD w kt vt a pb fs W (Str.ofString "") true (.str (Str.ofString " ") t7) (.str (Str.ofString "") t8)), (d, ioD w t1 t2 t3 t4 t5 x (0 : Nat) t6)]) := b3.2
  have k3 : ∀ b o, hA.get? b = some o → h3.get? b = some o := fun b o e => ht3.keep b o e (fun q (hq : q ∈ []) => nomatch hq)
  refine owit_it (K := hd.heap_1 w.params) (g := .ref 774) F3 X (I h3 N3) (by k_is) ?_
  refine wpAny_bind (wpAny_holding ?_)
  unfold Builtin.List.listLengthHint
  refine wpAny_bind (wpAny_bind ((I h3 N3).type.here ((looks_findIn (X.keeps F3.keep) (by k_is : findIn (hd.heap_1 w.params) (.ref 777) "__len__" = some none)).here ?_)))
  refine wpAny_bind (wpAny_bind ((I h3 N3).type.here ((looks_findIn (X.keeps F3.keep) (by k_is : findIn (hd.heap_1 w.params) (.ref 777) "__length_hint__" = some none)).here ?_)))
  refine wpAny_pure ?_
  simp only [Bool.true_or, if_true]
  refine wpAny_bind (wpAny_rule ?_)
  refine wpAny_bind ?_
  show wpAny _ _ (updateSeq so (·.push .none) >>= fun _ => updateSeq so (·.pop)) _ _ _
  have hS3 : h3.get? so = some (listOf #[] 0) := (N3 _ (.head _)).1
  refine wpAny_bind (wpAny_updateSeq (by exact hS3) rfl ?_)
  obtain ⟨F4, N4, k4⟩ := upd_so F3 N3 apart (·.push .none) #[.none] 1 rfl
  generalize h3.update so (Obj.mapSeq (·.push .none)) = h4 at F4 N4 k4
  have hS4 : h4.get? so = some (listOf #[.none] 1) := (N4 _ (.head _)).1
  refine wpAny_updateSeq (by exact hS4) rfl ?_
  obtain ⟨F5, N5, k5⟩ := upd_so F4 N4 apart (·.pop) #[] 2 rfl
  generalize h4.update so (Obj.mapSeq (·.pop)) = h5 at F5 N5 k5
  refine wpAny_pure ⟨plainId_quiet PySem.F.plain_extend_loop _, ?_⟩
  refine ext_loop w mean mg mb dp (un + 2) gd env outer A₀ base h₀ L m B X T hf hk hdp (by omega) x W kt vt t1 t2 t3 t4 t5 n1 n2 hx la ld a d pb fs so ne_la_ld ne_la_a ne_la_d ne_la_pb ne_la_fs (Ap.mk (apart (la, _) (by k_mem))) ne_ld_a ne_ld_d ne_ld_pb ne_ld_fs (Ap.mk (apart (ld, _) (by k_mem))) ne_a_d ne_a_pb ne_a_fs (Ap.mk (apart (a, _) (by k_mem))) ne_d_pb ne_d_fs (Ap.mk (apart (d, _) (by k_mem))) ne_pb_fs (Ap.mk (apart (pb, _) (by k_mem))) (Ap.mk (apart (fs, _) (by k_mem))) (⟨none, dp, some (env :: outer), gd, un⟩ : Around).in1 rfl rem wd [] [] 2 _ t6 t7 t8 _ hok hl F5 N5 (by simpa using hlen) fun vals n h' tk' hs c1 c2 c3 => ?_
  have bne : ∀ b o, s.heap.get? b = some o → b ≠ so := fun b o e hb => by
    rw [hb, hso] at e; cases e
  refine ⟨rfl, hQ so vals n h' tk' hs c1 (fun b o e hn hv => c2 b o ?_ ?_ hv) (by simpa using c3) hso⟩
  · exact k5 b o (bne b o e) (k4 b o (bne b o e) (k3 b o (k2 b o (bne b o e) (Heap.get?_push_of_some _ e))))
  · intro q hq
    rcases List.mem_append.mp (show q ∈ [la, ld, a, d, pb, fs] ++ [so] from hq) with h | h
    · exact hn q h
    · rw [List.mem_singleton.mp h]; exact (bne b o e).symm
end
section
open PyProof.Rows PySem PySem.Builtin PySem.Builtin.Re PySem.Calls PySem.W PySem.W.X
theorem ln_KuRe_0 : True := by
  k_with_none
  trivial
noncomputable def patCode : Array Nat := #[14, 17, 4, 1, 1, 21, 9, 0, 604043296, 1, 0, 0, 0, 0, 0, 8, 4, 0, 13, 14, 21, 9, 0, 604043296, 1, 0, 0, 0, 0, 0, 8, 4, 0, 1]
noncomputable def missed (x : Str) : Bool := match ((Sre.forSearch patCode x.cps 0 (min (0 : Int).toNat x.cps.size) (min ((2 : Int) ^ 63 - 1).toNat x.cps.size) false).runFor reTurnSteps).outcome with
  | some .failed => true
  | _ => false
/-- the word of place k and figure f -/
noncomputable def wordL (k f : Nat) : List Nat := 47 :: 97 :: 46 :: 98 :: 47 :: (97 + k) :: (48 + f) :: (if k % 2 = 0 then [46, 112, 121] else [46, 120])
theorem missed_all : ∀ k : Fin 11, ∀ f : Fin 3, missed (S (wordL k.val f.val)) = true := by decide +kernel
theorem of_missed {x : Str} (h : missed x = true) : ((Sre.forSearch patCode x.cps 0 (min (0 : Int).toNat x.cps.size) (min ((2 : Int) ^ 63 - 1).toNat x.cps.size) false).runFor reTurnSteps).outcome = some .failed := by
  unfold missed at h
  split at h
  · assumption
  · cases h
section
variable {prog : Program} {w : World} {A : Around} {s : Shared} {E : Value → Shared → Prop}
theorem run_end {m : Sre.M} {Q : Option Sre.M → Shared → Prop} (h : (m.runFor reTurnSteps).outcome = some .failed) (hQ : Q none s) : wpAny (model prog w) A (reRunToEnd m) Q E s := by
  unfold reRunToEnd
  have e : reDrive (2 ^ 64) m = pure (m.runFor reTurnSteps) := by
    show reDrive (18446744073709551615 + 1) m = _
    unfold reDrive
    simp [h]
  rw [e]
  refine wpAny_bind (wpAny_pure ?_)
  refine wpAny_bind ?_
  refine PySem.wpAny_forIn_list _ (fun _ _ s' => s' = s) _ ?_ ?_ _ _ rfl
  · intro x rest b s' hs
    subst hs
    split
    · exact wpAny_bind (wpAny_rule (wpAny_pure rfl))
    · exact wpAny_pure rfl
  · intro b s' hs
    subst hs
    rw [h]
    exact wpAny_pure hQ
theorem slot_search : Slot "re.Pattern" "search" "re.Pattern.search" :=
  .of (owner := "re.Pattern") (n := "search") (by rw [typeLookup_type, builtinLookup_eq_fast]; kernel_rfl) (by decide +kernel) (by decide +kernel) (by decide +kernel)
    (by first | exact .inl (by decide +kernel) | exact .inr (by decide +kernel)) (by rw [isSubtype_type]; kernel_rfl)
theorem entry_search : entryFor table "re.Pattern.search" = some Builtin.«re.Pattern.search» := entryFor_of_tree (by kernel_rfl)
theorem args_search (a b : Value) : argsOk "re.Pattern.search" ⟨[a, b], []⟩ := by unfold argsOk; kernel_rfl
noncomputable def tgt (pa : Addr) (x : Str) (t : Tok) : ReTarget := { pattern := .ref pa, string := .str x t, code := patCode, text := x.cps, kind := 0, groups := 0, pos := min (0 : Int).toNat x.cps.size, lim := min ((2 : Int) ^ 63 - 1).toNat x.cps.size }
theorem code_eq : Array.map (fun x : Int => x.toNat) (Array.map reRawOf ((some (Array.map (fun n : Nat => Value.int (n : Int) 0) patCode)).getD #[])) = patCode := by
  show Array.map _ (Array.map _ (Array.map _ patCode)) = patCode
  rw [Array.map_map, Array.map_map]
  exact Array.map_id' patCode
theorem target_ok {x : Str} {t t1 t2 : Tok} {pa : Addr} {ps v0 : Value} {Q : ReTarget → Shared → Prop} (hp : s.heap.get? pa = some { cls := .type "re.Pattern", data := .fields #[ps, v0, .int 0 t1, .none, .none, .ref 135, .int 0 t2] })
    (hc : s.heap.get? 135 = some { cls := .type "tuple", data := .seq (patCode.map fun n : Nat => Value.int (n : Int) 0) }) (hQ : Q (tgt pa x t) s) :
    wpAny (model prog w) A (reTarget "re.Pattern.search" "search" ⟨[.ref pa, .str x t], []⟩) Q E s := by
  have hT : s.TypeIs (.ref pa) "re.Pattern" := ⟨_, hp, rfl⟩
  obtain ⟨h, g, d, tk, os⟩ := s
  dsimp only at hp hc hQ
  unfold reTarget reNamed
  repeat (any_goals (first | assumption | wp_step))
  rw [code_eq]
  exact hQ
theorem search_body {x : Str} {t t1 t2 : Tok} {pa : Addr} {ps v0 : Value} {R : Fin → Shared → Prop} (hp : s.heap.get? pa = some { cls := .type "re.Pattern", data := .fields #[ps, v0, .int 0 t1, .none, .none, .ref 135, .int 0 t2] })
    (hc : s.heap.get? 135 = some { cls := .type "tuple", data := .seq (patCode.map fun n : Nat => Value.int (n : Int) 0) }) (hx : missed x = true) (hQ : R (.done (.ret .none)) s) :
    wpAny (model prog w) A (Builtin.«re.Pattern.search» ⟨[.ref pa, .str x t], []⟩) R E s := by
  unfold Builtin.«re.Pattern.search»
  refine wpAny_bind (target_ok hp hc ?_)
  unfold reAnswer
  refine wpAny_bind (run_end (of_missed hx) ?_)
  exact wpAny_pure hQ
set_option maxHeartbeats 4000000 in
theorem check_search {x : Str} {t t1 t2 : Tok} {pa : Addr} {ps v0 : Value} {Q : Unit → Shared → Prop} (hp : s.heap.get? pa = some { cls := .type "re.Pattern", data := .fields #[ps, v0, .int 0 t1, .none, .none, .ref 135, .int 0 t2] }) (h : Q () s) : wpAny (model prog w) A (checkBoundCall "re.Pattern.search" ⟨[.ref pa, .str x t], []⟩) Q E s := by
  have hT : s.TypeIs (.ref pa) "re.Pattern" := ⟨_, hp, rfl⟩
  obtain ⟨hh, g, d, tt, os⟩ := s
  dsimp only at hp h
  have h1 : isSubtype (.type "re.Pattern") (.type "module") = pure false := by rw [isSubtype_type]; kernel_rfl
  have h2 : isSubtype (.type "re.Pattern") (.type "type") = pure false := by rw [isSubtype_type]; kernel_rfl
  unfold checkBoundCall
  repeat (any_goals (first | assumption | wp_step))
end
set_option maxHeartbeats 4000000 in
theorem nofind_one (w : World) (A : Around) (s : Shared) (E : Value → Shared → Prop) (X : (hd.heap_1 w.params).In s.heap) (t : Tok) {x : Str} (hx : missed x = true) :
    wpAny (model PySem.Challenge.pw_ku0029_01 w) A (call (.ref 797) [.str x t]) (fun v s' => v = .none ∧ s' = { s with toks := s'.toks }) E s := by
  have y : s.heap.get? 797 = some { cls := .type "builtin_function_or_method", data := .fields #[.builtin "re.Pattern.search", .ref 136] } := X _ _ (by k_is)
  have hp : s.heap.get? 136 = some { cls := .type "re.Pattern", data := .fields #[.str (Str.ofString "[^\\w@%+=:,./-]") 637, .int 256 674, .int 0 0, .none, .none, .ref 135, .int 0 0] } := X _ _ (by k_is)
  have hc : s.heap.get? 135 = some { cls := .type "tuple", data := .seq #[.int 14 0, .int 17 0, .int 4 0, .int 1 0, .int 1 0, .int 21 0, .int 9 0, .int 0 0, .int 604043296 0, .int 1 0, .int 0 0, .int 0 0, .int 0 0, .int 0 0, .int 0 0, .int 8 0, .int 4 0, .int 0 0, .int 13 0, .int 14 0, .int 21 0, .int 9 0, .int 0 0, .int 604043296 0, .int 1 0, .int 0 0, .int 0 0, .int 0 0, .int 0 0, .int 0 0, .int 8 0, .int 4 0, .int 0 0, .int 1 0] } := X _ _ (by k_is)
  have ec : (patCode.map fun n : Nat => Value.int (n : Int) 0) = #[.int 14 0, .int 17 0, .int 4 0, .int 1 0, .int 1 0, .int 21 0, .int 9 0, .int 0 0, .int 604043296 0, .int 1 0, .int 0 0, .int 0 0, .int 0 0, .int 0 0, .int 0 0, .int 8 0, .int 4 0, .int 0 0, .int 13 0, .int 14 0, .int 21 0, .int 9 0, .int 0 0, .int 604043296 0, .int 1 0, .int 0 0, .int 0 0, .int 0 0, .int 0 0, .int 0 0, .int 8 0, .int 4 0, .int 0 0, .int 1 0] := by simp [patCode]
  rw [← ec] at hc
  refine wpAny_call ?_
  obtain ⟨hp', g, dr, tt, os⟩ := s
  refine codeAny_of_tree ?_
  show wpAny _ _ (callAny (.ref 797) _) _ _ _
  dsimp only at y hp hc
  refine nd_load y ?_
  show wpAny _ _ (checkBoundCall "re.Pattern.search" ⟨[.ref 136, .str x t], []⟩ >>= fun _ => again (Code.builtin "re.Pattern.search" ⟨[.ref 136, .str x t], []⟩)) _ _ _
  refine wpAny_bind (check_search hp ?_)
  refine wpAny_pure ⟨Code.quiet_builtin _ (by decide +kernel), codeAny_builtin entry_search ?_⟩
  exact search_body hp hc hx ⟨rfl, rfl⟩
theorem nofind_none (w : World) (A : Around) (s : Shared) (E : Value → Shared → Prop) (X : (hd.heap_1 w.params).In s.heap) (t : Tok) (k f : Nat) (hk : k < 11) (hf : f < 3) :
    wpAny (model PySem.Challenge.pw_ku0029_01 w) A (call (.ref 797) [.str (S (wordL k f)) t]) (fun v s' => v = .none ∧ s' = { s with toks := s'.toks }) E s :=
  nofind_one w A s E X t (missed_all ⟨k, hk⟩ ⟨f, hf⟩)
end
section
open PyProof.Rows PySem PySem.Calls PySem.W
theorem ln_KuQuote_1 : True := by
  k_with_none
  k_with "k_room" => (((try simp only [depth_mark, depth_under_make, depth_under_kw, depth_in1, depth_deeper, depth_caller]); (try dsimp only [ktrTop]); omega))
  k_with "k_units" => (((try simp only [units_in1, units_deeper, Around.mark_units, units_caller]); (try dsimp only [ktrTop]); omega))
  k_with "k_ne" => ((refine neN ?_; (try dsimp only); first | exact Ap.ne (by assumption) | exact Ap.en (by assumption) | omega))
  k_with "ktr_unf" => ((
      refine' code_defT ?zk1 ?zk2 ?zk3 ?zk4 ?zk5 ?zkA ?zkF ?zkK ?zk6 ?zk7 ?zk8 ?zk9k ?zkB ?_ ?zc2 ?zc3 ?zc4 ?zc5
      case zkA => exact rfl
      case zkF => first | assumption | exact rfl
      case zkK => first | assumption | exact rfl
      case zk1 => k_asm
      case zk2 => k_asm
      case zk3 => k_asm
      case zk4 => k_asm
      case zk5 => k_asm
      case zk6 => k_is
      case zk7 => k_is
      case zk8 => k_room
      case zk9k => first | exact BindsTo.of_eq rfl | exact binds_K (by k_in) rfl (by k_is) rfl rfl rfl
      case zc5 => decide
      case zkB => exact locs rfl
      case zc2 => exact rfl
      case zc3 => exact rfl
      case zc4 => exact rfl
      intro g'k L'k h'k hg'k F'k N'k B'k X'k T'k l1k
      (try k_lt l1k)
      (try dsimp only)
      (try k_lift B'k)
      (try k_fold)))
  trivial
section
variable {prog : Program} {w : World} {A : Around} {E : Value → Shared → Prop} {s : Shared} {K : Frag} {L : Addr} {h₀ : Heap} {m mg mb : Str → Option Value} {p : Program} {loose : List Str} {mean : ExcName → Option Value}
theorem keeps_B {M : Model} {a : Addr} {od : Option Addr} {vs : Array Value} {sl : Array (Option Value)} (ho : K.lookup a = some ⟨.type "builtin_function_or_method", od, .fields vs, sl⟩) (h : Heap) (X : K.In h) : ∃ k, (k = Keeper.frame ∨ k = Keeper.machine ∨ k = Keeper.boundFrame) ∧ Looks M h (keeperOf (.ref a)) k :=
  ⟨.machine, .inr (.inl rfl), (Looks.ld (part := none) (X _ _ ho)).andThen .now⟩
theorem callWith_B {M : Model} {env : Env} {pos : Pos} {a : Addr} {od : Option Addr} {vs : Array Value} {sl : Array (Option Value)} {first : List Value} {Q : Value → Shared → Prop} {e : Expr} {rest : List Expr} (_X : K.In h₀) (ho : K.lookup a = some ⟨.type "builtin_function_or_method", od, .fields vs, sl⟩)
    (h : wpAny M A (spliced (backTo pos (starEach (e :: rest) env))) (fun vs s₁ => K.In s₁.heap ∧ wpAny M A (call (.ref a) (first ++ vs)) Q E s₁) E s)
    (he : starEach (e :: rest) env = (false, eval e env) :: starEach rest env := by rfl) (hplain : (backTo pos (starEach rest env)).any (·.1) = false := by rfl) :
    wpAny M A (callWith pos (.ref a) first (backTo pos (starEach (e :: rest) env)) []) Q E s := by
  rw [he] at h ⊢
  exact callWith_of (by show ((false || (backTo pos (starEach rest env)).any (·.1)) || false) = false; rw [hplain]; rfl) (keeps_B ho) (evalArgs_plain h)
theorem code_defQ {R : Result → Shared → Prop} {name qual : Str} {params : Arguments} {body : List Stmt} {scope : Scope} {dV kV doc pm cdv ct oc : Value} {an od : Option Addr} {osl : Array (Option Value)} {f : Addr} {args : Args} {binds : List (Str × Value)}
    (F : Fr h₀ L s.heap m) (X₀ : K.In h₀) (T : Top p loose mean mg mb h₀)
    (ho : K.lookup f = some ⟨oc, od, .func (fnOf name qual params body scope dV kV doc pm an cdv ct), osl⟩) (hcd : codeIn K cdv qual = true) (hroom : A.depth < recursionLimit)
    (hbind : BindsTo s (fnOf name qual params body scope dV kV doc pm an cdv ct) args binds) (hloc : ∀ y ∈ binds, scope.names.lookup y.1 = some .local)
    (h : ∀ L' h₁, Fr s.heap L' h₁ (fun y => binds.reverse.lookup y) → News s.heap L' h₁ [] → K.In s.heap → Top p loose mean mg mb s.heap →
      wpAny (model prog w) (A.deeper (envOf qual scope L' f cdv)) (execs body (envOf qual scope L' f cdv))
        (fun fl s' => R (.ok (.ret (match fl with | .ret v => v | _ => .none))) s')
        (fun e s' => wpAny (model prog w) (A.deeper (envOf qual scope L' f cdv)) (leaving (envOf qual scope L' f cdv) e) (fun _ s'' => R (.error e) s'') (fun e' s'' => R (.error e') s'') s')
        { s with heap := h₁, toks := s.toks + binds.length })
    (hco : scope.isCoroutine = false) (hgen : scope.isGenerator = false) (hk : scope.kind = .function)
    (hcell : ∀ x ∈ scope.names, x.2 ≠ .cell) : codeAny (model prog w) A (.call (.ref f) args) R s := by
  refine codeAny_call_def (fd := fnOf name qual params body scope dV kV doc pm an cdv ct) (body := body) (binds := binds) hroom ((X₀.keeps F.keep) _ _ ho) rfl (T.nolimit.keeps F.keep) (codeRec_of (X₀.keeps F.keep) hcd) rfl hbind hcell hloc (fun h₁ hns hk₁ => ?_) hco hgen hk
  exact h s.heap.objs.size h₁ ⟨hns, fun b o e => hk₁ b o e, Nat.le_refl _⟩ News.nil (X₀.keeps F.keep) (T.keeps F.keep)
theorem use_nofind {t : Tok} {k f : Nat} {Q : Value → Shared → Prop} (F : Fr h₀ L s.heap m) (X : (hd.heap_1 w.params).In h₀) (hk : k < 11) (hf : f < 3) (q : ∀ tk', Q .none { s with toks := tk' }) :
    wpAny (model PySem.Challenge.pw_ku0029_01 w) A (call (.ref 797) [.str (S (wordL k f)) t]) Q E s :=
  wpAny_mono (nofind_none w A s E (X.keeps F.keep) t k f hk hf) (fun v s' h => by obtain ⟨rfl, e⟩ := h; rw [e]; exact q _) fun _ _ z => z
theorem truthy_word {t : Tok} {k f : Nat} {Q : Bool → Shared → Prop} (q : ∀ tk', Q true { s with toks := tk' }) : wpAny (model prog w) A (PySem.truthy (.str (S (wordL k f)) t)) Q E s :=
  truthy_S (by split <;> simp) q
end
theorem ln_KuQuote_2 : True := by
  k_with "truthy str" => ((refine truthy_word ?_; intro _))
  k_with "callWith ref" => ((k_here; (with_reducible show wpAny _ _ (callWith _ (Value.ref 797) _ _ _) _ _ _); k_dflt (refine' callWith_B ?zk1 ?zk2 ?_; (case zk1 => k_asm); (case zk2 => k_is); k_whole)))
  k_with "call ref" => ((k_here; (with_reducible show wpAny _ _ (call (Value.ref 797) _) _ _ _); k_dflt (refine' use_nofind ?zF ?zX ?zhk ?zhf ?_; (case zF => k_asm); (case zX => k_asm); (case zhk => assumption); (case zhf => assumption); k_whole; intro _)))
  trivial
set_option maxHeartbeats 1000000 in
theorem quote_spec {PG : Program} {LS : List Str} (w : World) (mean : ExcName → Option Value) (mg mb : Str → Option Value) (A : Around) (h₀ : Heap) (L : Addr) (m : Str → Option Value) (s : Shared) (Q : Value → Shared → Prop) (E : Value → Shared → Prop)
   (F : Fr h₀ L s.heap m) (X : (hd.heap_1 w.params).In h₀) (T : Top PG LS mean mg mb h₀) (hdp : A.depth + 20 < recursionLimit) (hu : A.units + 200 < cLine) (k f : Nat) (hk : k < 11) (hf : f < 3) (tx : Tok)
   (q : ∀ h' tk', (∀ b o, s.heap.get? b = some o → h'.get? b = some o) → Q (.str (S (wordL k f)) tx) { s with heap := h', toks := tk' }) :
   wpAny (model PySem.Challenge.pw_ku0029_01 w) A (call (.ref 804) [.str (S (wordL k f)) tx]) Q E s := by
  refine wpAny_call ?_
  refine' code_defQ F X T ?k6 ?k7 ?k8 ?k9 ?kB ?_ ?c2 ?c3 ?c4 ?c5
  case k6 => k_is
  case k7 => k_is
  case k8 => omega
  case k9 => first | exact BindsTo.of_eq rfl | exact binds_K (by k_in) rfl (by k_is) rfl rfl rfl
  case c5 => decide
  case kB => exact locs rfl
  case c2 => exact rfl
  case c3 => exact rfl
  case c4 => exact rfl
  intro L' h' F' N' X' T'
  clear X T
  (try dsimp only)
  (try k_fold)
  k_steps
  (with_reducible rename Fr _ _ _ _ => kF)
  exact q _ _ kF.keep
end
section
open PyProof.Rows PySem PySem.Calls PySem.W
theorem ln_KuTopL_0 : True := by
  k_with_none
  trivial
/-- a program of which nothing is known -/
noncomputable def pL : Program := { vw with main := { vw.main with body := [Stmt.ImportFrom (some "sys") [] (some 0) ⟨0, 0, 0, 0⟩] } }
theorem pL_recs : recsOf pL = [] := rfl
theorem pL_lits : litsOf pL = [] := rfl
theorem pL_clss (l : List Str) : clssOf pL l = [] := rfl
theorem pL_owns : ownsOf pL = [] := rfl
theorem pL_val (x : Str) : valOf pL x = none := rfl
theorem pL_imp : importsNone pL = false := by decide +kernel
theorem top_light {p : Program} {loose : List Str} {mean : ExcName → Option Value} {mg mb : Str → Option Value} {h : Heap} (T : Top p loose mean mg mb h) :
    Top pL (loose ++ ((recsOf p).map (·.name) ++ ((litsOf p).map (·.1) ++ (clssOf p loose).map (·.name)))) mean mg mb h where
  g := T.g
  b := T.b
  nolimit := T.nolimit
  nodigits := T.nodigits
  fn := fun d hd => by rw [pL_recs] at hd; cases hd
  own := fun d hd => by rw [pL_owns] at hd; cases hd
  const := fun x d hv => by rw [pL_val] at hv; cases hv
  free := fun x h1 h2 _ _ _ => by
    simp only [List.mem_append, not_or] at h2
    exact T.free x h1 h2.1 h2.2.1 h2.2.2.1 h2.2.2.2
  builtins := T.builtins
  tab := fun d hd => by rw [pL_recs] at hd; cases hd
  bmain := T.bmain
  seer := fun e => by rw [pL_imp] at e; cases e
theorem top_grown {loose : List Str} {mean : ExcName → Option Value} {mg mb : Str → Option Value} {h₁ h : Heap} {c P : Addr} {ps ps' : Array Value} (B : Based h₁ h c P ps) (T : Top pL loose mean mg mb h) :
    Top pL loose mean mg mb (regrown h P ps') where
  g := LGe.ns_regrown B T.g
  b := LGe.ns_regrown B T.b
  nolimit := let ⟨mc, h1, h2⟩ := T.nolimit; ⟨mc, LGe.ns_regrown B h1, h2⟩
  nodigits := let ⟨mc, h1, h2⟩ := T.nodigits; ⟨mc, LGe.ns_regrown B h1, h2⟩
  fn := fun d hd => by rw [pL_recs] at hd; cases hd
  own := fun d hd => by rw [pL_owns] at hd; cases hd
  const := T.const
  free := T.free
  builtins := T.builtins
  tab := fun d hd => by rw [pL_recs] at hd; cases hd
  bmain := by
    obtain ⟨bm, ob, h1, h2, h3, h4, r⟩ := T.bmain
    refine ⟨bm, ob, h1, h2, ?_, h4, r⟩
    have hne : bm ≠ P := B.ne_of_cls h3 (by rw [h4]; simp)
    exact (Heap.get?_update_other _ _ (Ne.symm hne)).trans h3
  seer := fun e => by rw [pL_imp] at e; cases e
theorem in_grown {w : World} {mg : Str → Option Value} {h₁ h : Heap} {c P : Addr} {ps ps' : Array Value} (B : Based h₁ h c P ps) (X : (hd.heap_1 w.params).In h) (G : h.Ns mainGlobals mg) : (hd.heap_1 w.params).In (regrown h P ps') :=
  kb_in_regrown B X G rfl
theorem recs_join : ((recsOf Mine.vw).any (fun d => d.name == Str.ofString "join")) = true := by decide +kernel
theorem based_join {LS : List Str} {mean : ExcName → Option Value} {mg mb : Str → Option Value} {h : Heap} {o : Obj} {fd : FuncData} {c : Value} (T : Top vw LS mean mg mb h) (hm : mg (Str.ofString "join") = some (.ref 796)) (ho : h.get? 796 = some o) (hd' : o.data = .func fd) (hc : fd.code = .ref 795) :
    ∃ P, Based h h 795 P #[] := by
  obtain ⟨d, hd, e⟩ := List.any_eq_true.mp recs_join
  obtain ⟨a', o', fd', c, P, h1, h2, h3, h4, h5, h6⟩ := T.tab d hd
  rw [beq_iff_eq.mp e, hm] at h1; cases h1
  rw [ho] at h2; cases h2
  rw [hd'] at h3; cases h3
  rw [hc] at h4; cases h4
  refine ⟨P, .start h5 h6 fun e => ?_⟩
  obtain ⟨_, ⟨oc, _, _, e1, e2, _⟩, _⟩ := T.nodigits
  rw [← e, h6.2] at e1; cases e1; cases e2
end
section
open PyProof.Rows PySem PySem.Calls PySem.W
theorem ln_KuJoin_1 : True := by
  k_with_none
  k_with "k_room" => (((try simp only [depth_mark, depth_under_make, depth_under_kw, depth_in1, depth_deeper, depth_caller]); (try dsimp only [ktrTop]); omega))
  k_with "k_units" => (((try simp only [units_in1, units_deeper, Around.mark_units, units_caller]); (try dsimp only [ktrTop]); omega))
  k_with "k_ne" => ((refine neN ?_; (try dsimp only); first | exact Ap.ne (by assumption) | exact Ap.en (by assumption) | omega))
  k_with "ktr_unf" => ((
      refine' code_defT ?zk1 ?zk2 ?zk3 ?zk4 ?zk5 ?zkA ?zkF ?zkK ?zk6 ?zk7 ?zk8 ?zk9k ?zkB ?_ ?zc2 ?zc3 ?zc4 ?zc5
      case zkA => exact rfl
      case zkF => first | assumption | exact rfl
      case zkK => first | assumption | exact rfl
      case zk1 => k_asm
      case zk2 => k_asm
      case zk3 => k_asm
      case zk4 => k_asm
      case zk5 => k_asm
      case zk6 => k_is
      case zk7 => k_is
      case zk8 => k_room
      case zk9k => first | exact BindsTo.of_eq rfl | exact binds_K (by k_in) rfl (by k_is) rfl rfl rfl
      case zc5 => decide
      case zkB => exact locs rfl
      case zc2 => exact rfl
      case zc3 => exact rfl
      case zc4 => exact rfl
      intro g'k L'k h'k hg'k F'k N'k B'k X'k T'k l1k
      (try k_lt l1k)
      (try dsimp only)
      (try k_lift B'k)
      (try k_fold)))
  trivial
theorem sum_le (c : Nat) : ∀ (l : List Str), (∀ x ∈ l, x.length ≤ c) → (l.map (·.length)).sum ≤ l.length * c
  | [], _ => by simp
  | x :: r, h => by
    have h1 := h x (.head _)
    have h2 := sum_le c r fun y hy => h y (.tail _ hy)
    rw [List.map_cons, List.sum_cons, List.length_cons, Nat.add_mul]
    omega
theorem join_ok {l : List Str} (h : ∀ x ∈ l, x.length ≤ 1000) (hn : l.length ≤ 1000) : JoinOk (Str.ofString " ") l = true := by
  refine joinOk_of_weight ?_ (by decide +kernel)
  have := sum_le 1000 l h
  have : l.length * 1000 ≤ 1000 * 1000 := Nat.mul_le_mul_right _ hn
  omega
theorem word_len (k f : Nat) : (S (wordL k f)).length ≤ 10 := by
  rw [S_len]; unfold wordL; split <;> simp
theorem fr_regrown {h₀ h h' : Heap} {L P : Addr} {m : Str → Option Value} {ps' : Array Value} (F : Fr h₀ L h m) (B0 : Based h₀ h₀ 795 P #[]) (hk : ∀ b o, (regrown h P ps').get? b = some o → h'.get? b = some o) : Fr (regrown h₀ P ps') L h' m := by
  have hPlt : P < h₀.objs.size := B0.code.lt.2
  have hLP : L ≠ P := Nat.ne_of_gt (Nat.lt_of_lt_of_le hPlt F.above)
  have hself : ∀ {g : Heap} {ps : Array Value}, g.get? P = some { cls := .none, data := .fields ps } → (regrown g P ps').get? P = some { cls := .none, data := .fields ps' } := fun e => Heap.get?_update_self _ e rfl
  obtain ⟨oL, es, ep, hL, hLd, hLk, hLf⟩ := F.ns
  refine ⟨⟨oL, es, ep, hk _ _ (regrown_other _ _ _ _ _ hLP hL), hLd, hLk, hLf⟩, fun b o e => hk b o ?_, Nat.le_trans (Nat.le_of_eq (Heap.SameBut.update h₀ P _).1) F.above⟩
  by_cases hb : b = P
  · subst hb
    rw [hself B0.tab.2] at e
    exact (hself (F.keep _ _ B0.tab.2)).trans e
  · exact regrown_other _ _ _ _ _ hb (F.keep _ _ ((Heap.get?_update_other _ _ (Ne.symm hb)).symm.trans e))
theorem passing_len (n : Nat) : (passing (fun _ => true) n 0) = List.range n := by
  unfold passing
  rw [List.drop_zero, List.filter_eq_self]
  intro _ _; rfl
theorem ln_KuJoin_2 : True := by
  k_with "eval Name" => ((k_here; (with_reducible show wpAny _ _ (eval (Expr.Name _ _) (genEnv _ _ _ _ _ _)) _ _ _); (with_reducible rename Fr _ _ _ _ => kF); k_dflt (first
      | (refine' nameG_K kF ?zk1 ?zk2 ?zk3 ?_ ?zk4 ?zk5 ?zk6 ?zk7; (case zk4 => rfl); (case zk5 => rfl); (case zk6 => rfl); (case zk7 => decide); (case zk1 => k_asm); (case zk2 => k_asm); (case zk3 => k_is); k_whole)
      | (with_unfolding_all refine ldVarG kF (by assumption) ?_))))
  k_with "call ref" => ((k_here; (with_reducible show wpAny _ _ (call (Value.ref 804) _) _ _ _); k_dflt (refine' quote_spec _ _ _ _ _ _ _ _ _ _ _ ?zF ?zX ?zT ?zhdp ?zhu _ _ ?zhk ?zhf _ ?_; (case zF => k_asm); (case zX => k_asm); (case zT => k_asm); (case zhdp => assumption); (case zhu => assumption); (case zhk => assumption); (case zhf => assumption); k_whole; intro h9k tk9k hk9k)))
  trivial
/-- the items of a list, by place: the words of the places with these figures -/
noncomputable def WordsAre (items : Array Value) (figs : List Nat) : Prop := items.size = figs.length ∧ ∀ i v, items[i]? = some v → ∃ f t, figs[i]? = some f ∧ f < 3 ∧ v = Value.str (S (wordL i f)) t
set_option maxHeartbeats 1000000 in
theorem join_spec {LS : List Str} (w : World) (mean : ExcName → Option Value) (mg mb : Str → Option Value) (dp un : Nat) (gd : Option (List Code)) (env : Env) (outer : List Env) (h₀ : Heap) (L : Addr) (m : Str → Option Value) (s : Shared) (Q : Value → Shared → Prop) (E : Value → Shared → Prop)
   (F : Fr h₀ L s.heap m) (X : (hd.heap_1 w.params).In h₀) (T : Top vw LS mean mg mb h₀) (hG : AllBare s.gens) (hdp : dp + 60 < recursionLimit) (hu : un + 600 < cLine) (l : Addr) (items : Array Value) (hl : s.heap.IsList l items) (figs : List Nat) (hw : WordsAre items figs) (hlen : figs.length ≤ 11)
   (hret : ∀ P ps' (s' : Shared) t', Based h₀ h₀ 795 P #[] → Fr (regrown h₀ P ps') L s'.heap m → (∀ b o, b ≠ P → s.heap.get? b = some o → s'.heap.get? b = some o) → AllBare s'.gens → s'.os = s.os → Q (.str (Txt.join (Str.ofString " ") ((List.range figs.length).map fun i => S (wordL i (figs.getD i 0)))) t') s') :
   wpAny (model PySem.Challenge.pw_ku0029_01 w) (⟨none, dp, some (env :: outer), gd, un⟩ : Around) (call (.ref 796) [.ref l]) Q E s := by
  refine wpAny_call ?_
  refine' code_defQ F X T ?k6 ?k7 ?k8 ?k9 ?kB ?_ ?c2 ?c3 ?c4 ?c5
  case k6 => k_is
  case k7 => k_is
  case k8 => k_room
  case k9 => first | exact BindsTo.of_eq rfl | exact binds_K (by k_in) rfl (by k_is) rfl rfl rfl
  case c5 => decide
  case kB => exact locs rfl
  case c2 => exact rfl
  case c3 => exact rfl
  case c4 => exact rfl
  intro L' h' F' N' X' T'
  (try dsimp only)
  (try k_fold)
  k_steps
  have hmj : mg (Str.ofString "join") = some (.ref 796) := mg_of X T.g (by k_is)
  have ho : h₀.get? 796 = some _ := X _ _ (by k_is)
  obtain ⟨P, B0⟩ := based_join (c := .none) T hmj ho rfl rfl
  have B : Based s.heap s.heap 795 P #[] := .start (B0.codeAt F) (B0.tabAt F) B0.notStatics
  obtain ⟨bm, ob, M⟩ := bmod_of_top T'
  have TL := top_light T'
  (with_reducible rename Fr _ _ _ _ => kF)
  refine GeneratorExp_list_rowsF (L := L') (m := fun y => [(Str.ofString "split_command", Value.ref l)].reverse.lookup y) (cl := []) B M rfl rfl rfl rfl rfl (by decide) rfl rfl rfl (by k_room) ?_ (fun _ => rfl)
  walk1
  (try dsimp only)
  refine ⟨l, items, rfl, ?i1, kF, hG, ?i2, L', fun _ => true, fun i v => ∃ f t, figs[i]? = some f ∧ v = Value.str (S (wordL i f)) t, Nat.le_refl _, ?i3, ?q1, ?q2, ?q3⟩
  case i1 => obtain ⟨o, a1, a2, a3⟩ := hl; exact ⟨o, kF.keep _ _ a1, a2, a3⟩
  case i2 => exact (T'.nolimit).keeps kF.keep
  case i3 => obtain ⟨oL, es, ep, hL, _⟩ := kF.ns; exact Heap.lt_size hL
  case q1 =>
    intro c' C A' E' i v t m2 _ _ _ _ _ _ _ _
    exact wpAny_pure ⟨rfl, t.heap, t.toks, rfl, fun _ _ e => e⟩
  case q2 =>
    intro c' C A' E' i v t m2 hA1 hA2 hA3 hi _ F2 hm2 hC hk2
    obtain ⟨f, tf, hf1, hf2, rfl⟩ := hw.2 i v hi
    have hi11 : i < 11 := by
      have := (Array.getElem?_eq_some_iff.mp hi).1
      rw [hw.1] at this
      exact Nat.lt_of_lt_of_le this hlen
    have T2 := top_grown (ps' := #[] ++ #[rawInt (830 : Nat), rawInt (20 : Nat), Value.ref c']) B TL
    have X2 := in_grown (ps' := #[] ++ #[rawInt (830 : Nat), rawInt (20 : Nat), Value.ref c']) B X' T'.g
    have hd1 : A'.depth + 20 < recursionLimit := by
      have : A'.depth ≤ dp + 1 + 1 := hA2
      omega
    have hu1 : A'.units + 200 < cLine := by
      have : A'.units ≤ un + 8 + 8 := Nat.le_trans hA3 (by simp only [units_deeper]; omega)
      omega
    clear hA2 hA3 hret hl N' kF F X T T' X' TL M B B0 hmj ho hk2
    k_steps
    exact ⟨_, _, rfl, by assumption⟩
  case q3 =>
    intro c' a s5 B5 F5 G5 os5 k5 X5
    have hn : (passing (fun _ => true) items.size 0).length = figs.length := by rw [passing_len, List.length_range, hw.1]
    walk1
    (try dsimp only)
    refine join_rowsK (L := L') (K := L') F5 G5 X5 (Nat.le_refl _) (fun j => S (wordL j (figs.getD j 0))) ?a ?b ?c (by rw [hn]; exact Nat.le_trans hlen (by decide +kernel))
    case a =>
      intro j v hj
      obtain ⟨i, hi, f, t, hf, e⟩ := hj
      rw [passing_len] at hi
      obtain ⟨_, rfl⟩ := List.getElem?_eq_some_iff.mp hi
      rw [List.getElem_range] at hf e
      refine ⟨t, ?_⟩
      rw [e, List.getD_eq_getElem?_getD, hf]
      rfl
    case b =>
      refine join_ok (fun x hx => ?_) (by rw [List.length_map, List.length_range, hn]; omega)
      obtain ⟨j, _, rfl⟩ := List.mem_map.mp hx
      exact Nat.le_trans (word_len _ _) (by decide)
    case c =>
      intro s' t' F' G' hos hk
      rw [hn]
      k_steps
      exact hret P _ s' t' B0 (fr_regrown F B0 F'.keep) (fun b o hb e => F'.keep _ _ (regrown_other _ _ _ _ _ hb e)) G' (hos.trans os5)
end
section
open PyProof.Rows PySem PySem.Calls PySem.W
theorem ln_KuGa_0 : True := by
  k_with_none
  trivial
/-- a lexer used as a pile: what does not change -/
structure Pl where
  kt : Nat → Tok
  vt : Nat → Tok
  W : Str
  cm : Str
  ws : Bool
  t1 : Tok
  t2 : Tok
  t3 : Tok
  t4 : Tok
  t5 : Tok
  t6 : Tok
  x : Str
  p : Nat
  n2 : Int
  la : Addr
  ld : Addr
  a : Addr
  d : Addr
  pb : Addr
  fs : Addr
structure Pl.Ok (P : Pl) : Prop where
  hx : P.x.length ≤ 2000
  hc : P.x.cps.toList[P.p]? = none
  ne_la_ld : Ap P.la P.ld
  ne_la_a : Ap P.la P.a
  ne_la_d : Ap P.la P.d
  ne_la_pb : Ap P.la P.pb
  ne_la_fs : Ap P.la P.fs
  ne_ld_a : Ap P.ld P.a
  ne_ld_d : Ap P.ld P.d
  ne_ld_pb : Ap P.ld P.pb
  ne_ld_fs : Ap P.ld P.fs
  ne_a_d : Ap P.a P.d
  ne_a_pb : Ap P.a P.pb
  ne_a_fs : Ap P.a P.fs
  ne_d_pb : Ap P.d P.pb
  ne_d_fs : Ap P.d P.fs
  ne_pb_fs : Ap P.pb P.fs
noncomputable abbrev Pl.six (P : Pl) (w : World) (n1 : Int) (vals : List Value) (st : Value) (t8 : Tok) : List (Addr × Obj) := [(P.la, instObj 777 P.ld), (P.ld, lexD w P.kt P.vt P.a P.pb P.fs P.W P.cm P.ws st (.str (Str.ofString "") t8)), (P.pb, dq n1 vals), (P.a, instObj 684 P.d), (P.d, ioD w P.t1 P.t2 P.t3 P.t4 P.t5 P.x (P.p : Nat) P.t6), (P.fs, dq P.n2 [])]
/-- what get_token draws -/
noncomputable def GtStep (vals : List Value) (st r : Value) (vals' : List Value) (st' : Value) : Prop := (vals = r :: vals' ∧ st' = st) ∨ (vals = [] ∧ r = .none ∧ vals' = [] ∧ st' = .none)
theorem Touch.sub {h h' : Heap} {N₁ N₂ M₁ M₂ : List (Addr × Obj)} (t : Touch h h' N₁ N₂) (h1 : ∀ p ∈ N₁, ∃ q ∈ M₁, q.1 = p.1) (h2 : ∀ p ∈ M₂, p ∈ N₂ ∨ (h.get? p.1 = some p.2 ∧ (∀ q ∈ N₁, q.1 ≠ p.1) ∧ ∃ q ∈ M₁, q.1 = p.1)) : Touch h h' M₁ M₂ := by
  refine ⟨fun b o e hn => t.keep b o e fun p hp => ?_, fun p hp => ?_⟩
  · obtain ⟨q, hq, e'⟩ := h1 p hp
    exact e' ▸ hn q hq
  · rcases h2 p hp with hp | ⟨e, hn, hq⟩
    · refine ⟨(t.now p hp).1, (t.now p hp).2.imp_right ?_⟩
      rintro ⟨q, hq, e⟩
      obtain ⟨r, hr, e'⟩ := h1 q hq
      exact ⟨r, hr, e'.trans e⟩
    · exact ⟨t.keep _ _ e hn, .inr hq⟩
theorem mem3 {α : Type} {x y z u v w p : α} (h : p ∈ [x, y, z]) : p ∈ [x, y, z, u, v, w] := by
  simp only [List.mem_cons, List.not_mem_nil, or_false] at h ⊢
  rcases h with h | h | h <;> simp [h]
theorem mem_end {α : Type} {x1 x2 x3 x4 x5 x6 p : α} (h : p ∈ [x1, x4, x5, x3, x6, x2]) : p ∈ [x1, x2, x3, x4, x5, x6] := by
  simp only [List.mem_cons, List.not_mem_nil, or_false] at h ⊢
  rcases h with h | h | h | h | h | h <;> simp [h]
theorem mem_end' {α : Type} {x1 x2 x3 x4 x5 x6 p : α} (h : p ∈ [x1, x2, x3, x4, x5, x6]) : p ∈ [x1, x4, x5, x3, x6, x2] := by
  simp only [List.mem_cons, List.not_mem_nil, or_false] at h ⊢
  rcases h with h | h | h | h | h | h <;> simp [h]
theorem t_end {h h' : Heap} {x1 x2 x3 x4 x5 x6 y1 y2 y3 y4 y5 y6 : Addr × Obj} (t : Touch h h' [x1, x4, x5, x3, x6, x2] [y1, y4, y5, y3, y6, y2]) : Touch h h' [x1, x2, x3, x4, x5, x6] [y1, y2, y3, y4, y5, y6] :=
  t.sub (fun p hp => ⟨p, mem_end hp, rfl⟩) fun p hp => .inl (mem_end' hp)
theorem t_three {h h' : Heap} {x y z x' y' z' u v w : Addr × Obj} (t : Touch h h' [x, y, z] [x', y', z']) (hu : h.get? u.1 = some u.2) (hv : h.get? v.1 = some v.2) (hw : h.get? w.1 = some w.2)
    (n1 : x.1 ≠ u.1 ∧ y.1 ≠ u.1 ∧ z.1 ≠ u.1) (n2 : x.1 ≠ v.1 ∧ y.1 ≠ v.1 ∧ z.1 ≠ v.1) (n3 : x.1 ≠ w.1 ∧ y.1 ≠ w.1 ∧ z.1 ≠ w.1) : Touch h h' [x, y, z, u, v, w] [x', y', z', u, v, w] := by
  have three : ∀ {q : Addr × Obj}, (x.1 ≠ q.1 ∧ y.1 ≠ q.1 ∧ z.1 ≠ q.1) → ∀ p ∈ [x, y, z], p.1 ≠ q.1 := by
    intro q n p hp
    simp only [List.mem_cons, List.not_mem_nil, or_false] at hp
    rcases hp with rfl | rfl | rfl
    · exact n.1
    · exact n.2.1
    · exact n.2.2
  refine t.sub (fun p hp => ⟨p, mem3 hp, rfl⟩) fun p hp => ?_
  simp only [List.mem_cons, List.not_mem_nil, or_false] at hp
  rcases hp with rfl | rfl | rfl | rfl | rfl | rfl
  · exact .inl (.head _)
  · exact .inl (.tail _ (.head _))
  · exact .inl (.tail _ (.tail _ (.head _)))
  · exact .inr ⟨hu, three n1, _, .tail _ (.tail _ (.tail _ (.head _))), rfl⟩
  · exact .inr ⟨hv, three n2, _, .tail _ (.tail _ (.tail _ (.tail _ (.head _)))), rfl⟩
  · exact .inr ⟨hw, three n3, _, .tail _ (.tail _ (.tail _ (.tail _ (.tail _ (.head _))))), rfl⟩
theorem Pl.Ok.n1 {P : Pl} (hP : P.Ok) : (P.la : Addr) ≠ P.a ∧ P.ld ≠ P.a ∧ P.pb ≠ P.a := ⟨hP.ne_la_a.ne, hP.ne_ld_a.ne, hP.ne_a_pb.en⟩
theorem Pl.Ok.n2 {P : Pl} (hP : P.Ok) : (P.la : Addr) ≠ P.d ∧ P.ld ≠ P.d ∧ P.pb ≠ P.d := ⟨hP.ne_la_d.ne, hP.ne_ld_d.ne, hP.ne_d_pb.en⟩
theorem Pl.Ok.n3 {P : Pl} (hP : P.Ok) : (P.la : Addr) ≠ P.fs ∧ P.ld ≠ P.fs ∧ P.pb ≠ P.fs := ⟨hP.ne_la_fs.ne, hP.ne_ld_fs.ne, hP.ne_pb_fs.ne⟩
set_option maxHeartbeats 4000000 in
theorem gt_any {PG : Program} {LS : List Str} (w : World) (mean : ExcName → Option Value) (mg mb : Str → Option Value) (dp un : Nat) (gd : Option (List Code)) (hh : Option Value) (env : Env) (outer : List Env) (A₀ : Around) (base h₀ : Heap) (L : Addr) (m : Str → Option Value) (s : Shared) (Q : Value → Shared → Prop) (E : Value → Shared → Prop)
   (B : Below A₀ base outer h₀) (F : Fr h₀ L s.heap m) (X : (hd.heap_1 w.params).In h₀) (T : Top PG LS mean mg mb h₀) (hf : env.frame = some L) (hk : env.scope.kind = .function) (hdp : dp + 30 < recursionLimit) (hu : un + 300 < cLine)
   (P : Pl) (hP : P.Ok) (n1 : Int) (vals : List Value) (hv : vals.length ≤ 1000) (st : Value) (hst : st = .none ∨ ∃ t7, st = .str (Str.ofString " ") t7) (t8 : Tok)
   (hret : ∀ r n1' vals' st' t8' h' tk', GtStep vals st r vals' st' → Touch s.heap h' (P.six w n1 vals st t8) (P.six w n1' vals' st' t8') → Q r {s with heap := h', toks := tk'})
   (N : News h₀ L s.heap (P.six w n1 vals st t8)) :
   wpAny (model PySem.Challenge.pw_ku0029_01 w) (⟨hh, dp, some (env :: outer), gd, un⟩ : Around) (call (.ref 738) [.ref P.la]) Q E s := by
  cases vals with
  | cons v rest =>
    exact gt_pop w mean mg mb dp un gd hh env outer A₀ base h₀ L m s Q E B F X T hf hk (by omega) (by omega) P.W P.cm P.ws st (.str (Str.ofString "") t8) P.kt P.vt n1 v rest (Nat.le_of_succ_le hv) P.la P.ld P.a P.pb P.fs hP.ne_la_ld hP.ne_la_pb hP.ne_ld_pb
      (fun h' tk' t => hret v (n1 + 1) rest st t8 h' tk' (.inl ⟨rfl, rfl⟩) (t_three t (N _ (.tail _ (.tail _ (.tail _ (.head _))))).1 (N _ (.tail _ (.tail _ (.tail _ (.tail _ (.head _)))))).1 (N _ (.tail _ (.tail _ (.tail _ (.tail _ (.tail _ (.head _))))))).1 hP.n1 hP.n2 hP.n3)) (fun p hp => N p (mem3 hp))
  | nil =>
    exact gt_end w mean mg mb dp un gd hh env outer A₀ base h₀ L m s Q E B F X T hf hk hdp hu P.x P.W P.cm P.ws st P.p P.kt P.vt P.t1 P.t2 P.t3 P.t4 P.t5 P.t6 t8 n1 P.n2 hP.hx hP.hc hst P.la P.ld P.a P.d P.pb P.fs hP.ne_la_ld hP.ne_la_a hP.ne_la_d hP.ne_la_pb hP.ne_la_fs hP.ne_ld_a hP.ne_ld_d hP.ne_ld_pb hP.ne_ld_fs hP.ne_a_d hP.ne_a_pb hP.ne_a_fs hP.ne_d_pb hP.ne_d_fs hP.ne_pb_fs
      (fun t8' h' tk' t => hret .none n1 [] .none t8' h' tk' (.inr ⟨rfl, rfl, rfl, rfl⟩) (t_end t)) (fun p hp => N p (mem_end hp))
set_option maxHeartbeats 4000000 in
theorem pu_any {PG : Program} {LS : List Str} (w : World) (mean : ExcName → Option Value) (mg mb : Str → Option Value) (dp un : Nat) (gd : Option (List Code)) (hh : Option Value) (env : Env) (outer : List Env) (A₀ : Around) (base h₀ : Heap) (L : Addr) (m : Str → Option Value) (s : Shared) (Q : Value → Shared → Prop) (E : Value → Shared → Prop)
   (B : Below A₀ base outer h₀) (F : Fr h₀ L s.heap m) (X : (hd.heap_1 w.params).In h₀) (T : Top PG LS mean mg mb h₀) (hf : env.frame = some L) (hk : env.scope.kind = .function) (hdp : dp + 30 < recursionLimit) (hu : un + 300 < cLine)
   (P : Pl) (hP : P.Ok) (n1 : Int) (vals : List Value) (hv : vals.length ≤ 1000) (st : Value) (t8 : Tok) (v : Str) (tv : Tok)
   (hret : ∀ h' tk', Touch s.heap h' (P.six w n1 vals st t8) (P.six w (n1 + 1) (.str v tv :: vals) st t8) → Q .none {s with heap := h', toks := tk'})
   (N : News h₀ L s.heap (P.six w n1 vals st t8)) :
   wpAny (model PySem.Challenge.pw_ku0029_01 w) (⟨hh, dp, some (env :: outer), gd, un⟩ : Around) (call (.ref 716) [.ref P.la, .str v tv]) Q E s := by
  exact pu_spec w mean mg mb dp un gd hh env outer A₀ base h₀ L m s Q E B F X T hf hk (by omega) (by omega) P.W P.cm P.ws st (.str (Str.ofString "") t8) P.kt P.vt n1 v tv vals hv P.la P.ld P.a P.pb P.fs hP.ne_la_ld hP.ne_la_pb hP.ne_ld_pb
    (fun h' tk' t => hret h' tk' (t_three t (N _ (.tail _ (.tail _ (.tail _ (.head _))))).1 (N _ (.tail _ (.tail _ (.tail _ (.tail _ (.head _)))))).1 (N _ (.tail _ (.tail _ (.tail _ (.tail _ (.tail _ (.head _))))))).1 hP.n1 hP.n2 hP.n3)) (fun p hp => N p (mem3 hp))
end
section
open PyProof.Rows PySem PySem.Calls PySem.W
theorem ln_KuFs_1 : True := by
  k_with_none
  k_with "k_room" => (((try simp only [depth_mark, depth_under_make, depth_under_kw, depth_in1, depth_deeper, depth_caller]); (try dsimp only [ktrTop]); omega))
  k_with "k_units" => (((try simp only [units_in1, units_deeper, Around.mark_units, units_caller]); (try dsimp only [ktrTop]); omega))
  k_with "k_ne" => ((refine neN ?_; (try dsimp only); first | exact Ap.ne (by assumption) | exact Ap.en (by assumption) | omega))
  k_with "ktr_unf" => ((
      refine' code_defT ?zk1 ?zk2 ?zk3 ?zk4 ?zk5 ?zkA ?zkF ?zkK ?zk6 ?zk7 ?zk8 ?zk9k ?zkB ?_ ?zc2 ?zc3 ?zc4 ?zc5
      case zkA => exact rfl
      case zkF => first | assumption | exact rfl
      case zkK => first | assumption | exact rfl
      case zk1 => k_asm
      case zk2 => k_asm
      case zk3 => k_asm
      case zk4 => k_asm
      case zk5 => k_asm
      case zk6 => k_is
      case zk7 => k_is
      case zk8 => k_room
      case zk9k => first | exact BindsTo.of_eq rfl | exact binds_K (by k_in) rfl (by k_is) rfl rfl rfl
      case zc5 => decide
      case zkB => exact locs rfl
      case zc2 => exact rfl
      case zc3 => exact rfl
      case zc4 => exact rfl
      intro g'k L'k h'k hg'k F'k N'k B'k X'k T'k l1k
      (try k_lt l1k)
      (try dsimp only)
      (try k_lift B'k)
      (try k_fold)))
  k_with "ktr_rel" => (first | exact List.forall_mem_nil _ | (refine' List.forall_mem_cons.mpr ⟨?za, ?zb⟩; (case za => k_mem); (case zb => ktr_rel)))
  k_with "tb_rel" => (first | exact Upds.nil | (refine' Upds.cons ?za ?zb; (case za => k_upd); (case zb => tb_rel)))
  trivial
set_option maxHeartbeats 4000000 in
theorem fs_spec {PG : Program} {LS : List Str} (w : World) (mean : ExcName → Option Value) (mg mb : Str → Option Value) (dp un : Nat) (gd : Option (List Code)) (hh : Option Value) (env : Env) (outer : List Env) (A₀ : Around) (base h₀ : Heap) (L : Addr) (m : Str → Option Value) (s : Shared) (Q : Value → Shared → Prop) (E : Value → Shared → Prop)
   (B : Below A₀ base outer h₀) (F : Fr h₀ L s.heap m) (X : (hd.heap_1 w.params).In h₀) (T : Top PG LS mean mg mb h₀) (hf : env.frame = some L) (hk : env.scope.kind = .function) (hdp : dp + 10 < recursionLimit) (hu : un + 100 < cLine)
   (n : Str) (tn : Tok) (x : Str) (tx : Tok)
   (hret : ∀ h' tk', Touch s.heap h' [] [] → Q (.str x tx) {s with heap := h', toks := tk'})
   (N : News h₀ L s.heap [])  :
   wpAny (model PySem.Challenge.pw_ku0029_01 w) (⟨hh, dp, some (env :: outer), gd, un⟩ : Around) (call (.ref 58) [.str n tn, .str x tx]) Q E s := by
  refine wpAny_call ?_
  ktr_unf
  k_steps
  all_goals (exact hret _ _ (touch_mk (by assumption) (by assumption) (by assumption) (List.forall_mem_nil _)))

theorem use_fs {PG : Program} {LS : List Str} {w : World} {mean : ExcName → Option Value} {mg mb : Str → Option Value} {dp un : Nat} {gd : Option (List Code)} {hh : Option Value} {env : Env} {outer : List Env} {A₀ : Around} {base h₀ : Heap} {L : Addr} {m : Str → Option Value} {s : Shared} {Q : Value → Shared → Prop} {E : Value → Shared → Prop}
   (B : Below A₀ base outer h₀) (F : Fr h₀ L s.heap m) (X : (hd.heap_1 w.params).In h₀) (T : Top PG LS mean mg mb h₀) (hf : env.frame = some L) (hk : env.scope.kind = .function) (hdp : dp + 10 < recursionLimit) (hu : un + 100 < cLine)
   {n : Str} {tn : Tok} {x : Str} {tx : Tok}  {news : List (Addr × Obj)} (N : News h₀ L s.heap news) (hC : ∀ pq ∈ ([] : List (Addr × Obj)), pq ∈ news) (hch : ∀ pq ∈ ([] : List (Addr × Obj)), pq ∈ news)
   (k : ∀  h' tk', Fr h₀ L h' m → (∀ news', Upds [] news news' → News h₀ L h' news') → Q (.str x tx) {s with heap := h', toks := tk'}) :
   wpAny (model PySem.Challenge.pw_ku0029_01 w) (⟨hh, dp, some (env :: outer), gd, un⟩ : Around) (call (.ref 58) [.str n tn, .str x tx]) Q E s := by
  refine fs_spec w mean mg mb dp un gd hh env outer A₀ base h₀ L m s Q E B F X T hf hk hdp hu n tn x tx ?_ (touch_in (C := []) (ch := []) N hC (by intro c hc'; exact hch (c.1, c.2.1) (by simpa using List.mem_map_of_mem (f := fun c : Addr × Obj × Obj => (c.1, c.2.1)) hc')))
  intro  h' tk' ht
  have hq := touch_use (C := []) (ch := []) F N hC (by intro c hc'; exact hch (c.1, c.2.1) (by simpa using List.mem_map_of_mem (f := fun c : Addr × Obj × Obj => (c.1, c.2.1)) hc')) ht
  exact k  h' tk' hq.1 hq.2
end
section
open PyProof.Rows PySem PySem.Calls PySem.W
theorem ln_KuBn_1 : True := by
  k_with_none
  k_with "k_room" => (((try simp only [depth_mark, depth_under_make, depth_under_kw, depth_in1, depth_deeper, depth_caller]); (try dsimp only [ktrTop]); omega))
  k_with "k_units" => (((try simp only [units_in1, units_deeper, Around.mark_units, units_caller]); (try dsimp only [ktrTop]); omega))
  k_with "k_ne" => ((refine neN ?_; (try dsimp only); first | exact Ap.ne (by assumption) | exact Ap.en (by assumption) | omega))
  k_with "ktr_unf" => ((
      refine' code_defT ?zk1 ?zk2 ?zk3 ?zk4 ?zk5 ?zkA ?zkF ?zkK ?zk6 ?zk7 ?zk8 ?zk9k ?zkB ?_ ?zc2 ?zc3 ?zc4 ?zc5
      case zkA => exact rfl
      case zkF => first | assumption | exact rfl
      case zkK => first | assumption | exact rfl
      case zk1 => k_asm
      case zk2 => k_asm
      case zk3 => k_asm
      case zk4 => k_asm
      case zk5 => k_asm
      case zk6 => k_is
      case zk7 => k_is
      case zk8 => k_room
      case zk9k => first | exact BindsTo.of_eq rfl | exact binds_K (by k_in) rfl (by k_is) rfl rfl rfl
      case zc5 => decide
      case zkB => exact locs rfl
      case zc2 => exact rfl
      case zc3 => exact rfl
      case zc4 => exact rfl
      intro g'k L'k h'k hg'k F'k N'k B'k X'k T'k l1k
      (try k_lt l1k)
      (try dsimp only)
      (try k_lift B'k)
      (try k_fold)))
  k_with "ktr_rel" => (first | exact List.forall_mem_nil _ | (refine' List.forall_mem_cons.mpr ⟨?za, ?zb⟩; (case za => k_mem); (case zb => ktr_rel)))
  k_with "tb_rel" => (first | exact Upds.nil | (refine' Upds.cons ?za ?zb; (case za => k_upd); (case zb => tb_rel)))
  k_with "call ref" => ((k_here; (with_reducible show wpAny _ _ (call (Value.ref 58) _) _ _ _); k_dflt (refine' use_fs ?zB ?zF ?zX ?zT ?zhf ?zhk ?zhdp ?zhu ?zN ?zhC ?zhch ?_; (case zB => k_asm); (case zF => k_asm); (case zX => k_asm); (case zT => k_asm); (case zhf => exact rfl); (case zhk => exact rfl); (case zhdp => k_room); (case zhu => k_units); (case zN => k_asm); (case zhC => ktr_rel); (case zhch => ktr_rel); k_whole; intro h9k tk9k F9k hN9k; (have N9k := hN9k _ (by tb_rel)); clear hN9k; (try dsimp only); (try k_fold))))
  trivial
theorem ne_lit {prog : Program} {w : World} {A : Around} {E : Value → Shared → Prop} {s : Shared} {x y : Str} {t u : Tok} (b : Bool) {Q : Value → Shared → Prop} (e : (x != y) = b) (h : Q (.bool b) s) :
    wpAny (model prog w) A (compareOp .NotEq (.str x t) (.str y u)) Q E s := PyProof.Rows.ne_str (by rw [e]; exact h)
theorem ln_KuBn_2 : True := by
  k_with "call builtin:str.rfind" => ((k_here; (refine KXw.rfind (by assumption) ?_); intro _ _))
  k_with "compareOp NotEq str str" => ((refine ne_lit true (by assumption) ?_))
  trivial
set_option maxHeartbeats 4000000 in
theorem bn_spec {PG : Program} {LS : List Str} (w : World) (mean : ExcName → Option Value) (mg mb : Str → Option Value) (dp un : Nat) (gd : Option (List Code)) (hh : Option Value) (env : Env) (outer : List Env) (A₀ : Around) (base h₀ : Heap) (L : Addr) (m : Str → Option Value) (s : Shared) (Q : Value → Shared → Prop) (E : Value → Shared → Prop)
   (B : Below A₀ base outer h₀) (F : Fr h₀ L s.heap m) (X : (hd.heap_1 w.params).In h₀) (T : Top PG LS mean mg mb h₀) (hf : env.frame = some L) (hk : env.scope.kind = .function) (hdp : dp + 20 < recursionLimit) (hu : un + 200 < cLine)
   (x : Str) (i : Int) (hx : x.length ≤ 1000) (tx : Tok) (h1 : Txt.rfind x (Str.ofString "/") = i)
   (hret : ∀ t' h' tk', Touch s.heap h' [] [] → Q (.str (Txt.slice x (some (i + 1)) none) t') {s with heap := h', toks := tk'})
   (N : News h₀ L s.heap [])  :
   wpAny (model PySem.Challenge.pw_ku0029_01 w) (⟨hh, dp, some (env :: outer), gd, un⟩ : Around) (call (.ref 93) [.str x tx]) Q E s := by
  refine wpAny_call ?_
  ktr_unf
  k_steps
  all_goals (exact hret _ _ _ (touch_mk (by assumption) (by assumption) (by assumption) (List.forall_mem_nil _)))

theorem use_bn {PG : Program} {LS : List Str} {w : World} {mean : ExcName → Option Value} {mg mb : Str → Option Value} {dp un : Nat} {gd : Option (List Code)} {hh : Option Value} {env : Env} {outer : List Env} {A₀ : Around} {base h₀ : Heap} {L : Addr} {m : Str → Option Value} {s : Shared} {Q : Value → Shared → Prop} {E : Value → Shared → Prop}
   (B : Below A₀ base outer h₀) (F : Fr h₀ L s.heap m) (X : (hd.heap_1 w.params).In h₀) (T : Top PG LS mean mg mb h₀) (hf : env.frame = some L) (hk : env.scope.kind = .function) (hdp : dp + 20 < recursionLimit) (hu : un + 200 < cLine)
   {x : Str} {i : Int} {tx : Tok} (hx : x.length ≤ 1000) (h1 : Txt.rfind x (Str.ofString "/") = i) {news : List (Addr × Obj)} (N : News h₀ L s.heap news) (hC : ∀ pq ∈ ([] : List (Addr × Obj)), pq ∈ news) (hch : ∀ pq ∈ ([] : List (Addr × Obj)), pq ∈ news)
   (k : ∀ t' h' tk', Fr h₀ L h' m → (∀ news', Upds [] news news' → News h₀ L h' news') → Q (.str (Txt.slice x (some (i + 1)) none) t') {s with heap := h', toks := tk'}) :
   wpAny (model PySem.Challenge.pw_ku0029_01 w) (⟨hh, dp, some (env :: outer), gd, un⟩ : Around) (call (.ref 93) [.str x tx]) Q E s := by
  refine bn_spec w mean mg mb dp un gd hh env outer A₀ base h₀ L m s Q E B F X T hf hk hdp hu x i hx tx h1 ?_ (touch_in (C := []) (ch := []) N hC (by intro c hc'; exact hch (c.1, c.2.1) (by simpa using List.mem_map_of_mem (f := fun c : Addr × Obj × Obj => (c.1, c.2.1)) hc')))
  intro t' h' tk' ht
  have hq := touch_use (C := []) (ch := []) F N hC (by intro c hc'; exact hch (c.1, c.2.1) (by simpa using List.mem_map_of_mem (f := fun c : Addr × Obj × Obj => (c.1, c.2.1)) hc')) ht
  exact k t' h' tk' hq.1 hq.2
end
section
open PyProof.Rows PySem PySem.Calls PySem.W
theorem ln_KuSx_1 : True := by
  k_with_none
  k_with "k_room" => (((try simp only [depth_mark, depth_under_make, depth_under_kw, depth_in1, depth_deeper, depth_caller]); (try dsimp only [ktrTop]); omega))
  k_with "k_units" => (((try simp only [units_in1, units_deeper, Around.mark_units, units_caller]); (try dsimp only [ktrTop]); omega))
  k_with "k_ne" => ((refine neN ?_; (try dsimp only); first | exact Ap.ne (by assumption) | exact Ap.en (by assumption) | omega))
  k_with "ktr_unf" => ((
      refine' code_defT ?zk1 ?zk2 ?zk3 ?zk4 ?zk5 ?zkA ?zkF ?zkK ?zk6 ?zk7 ?zk8 ?zk9k ?zkB ?_ ?zc2 ?zc3 ?zc4 ?zc5
      case zkA => exact rfl
      case zkF => first | assumption | exact rfl
      case zkK => first | assumption | exact rfl
      case zk1 => k_asm
      case zk2 => k_asm
      case zk3 => k_asm
      case zk4 => k_asm
      case zk5 => k_asm
      case zk6 => k_is
      case zk7 => k_is
      case zk8 => k_room
      case zk9k => first | exact BindsTo.of_eq rfl | exact binds_K (by k_in) rfl (by k_is) rfl rfl rfl
      case zc5 => decide
      case zkB => exact locs rfl
      case zc2 => exact rfl
      case zc3 => exact rfl
      case zc4 => exact rfl
      intro g'k L'k h'k hg'k F'k N'k B'k X'k T'k l1k
      (try k_lt l1k)
      (try dsimp only)
      (try k_lift B'k)
      (try k_fold)))
  k_with "ktr_rel" => (first | exact List.forall_mem_nil _ | (refine' List.forall_mem_cons.mpr ⟨?za, ?zb⟩; (case za => k_mem); (case zb => ktr_rel)))
  k_with "tb_rel" => (first | exact Upds.nil | (refine' Upds.cons ?za ?zb; (case za => k_upd); (case zb => tb_rel)))
  k_with "call ref" => ((k_here; (with_reducible show wpAny _ _ (call (Value.ref 58) _) _ _ _); k_dflt (refine' use_fs ?zB ?zF ?zX ?zT ?zhf ?zhk ?zhdp ?zhu ?zN ?zhC ?zhch ?_; (case zB => k_asm); (case zF => k_asm); (case zX => k_asm); (case zT => k_asm); (case zhf => exact rfl); (case zhk => exact rfl); (case zhdp => k_room); (case zhu => k_units); (case zN => k_asm); (case zhC => ktr_rel); (case zhch => ktr_rel); k_whole; intro h9k tk9k F9k hN9k; (have N9k := hN9k _ (by tb_rel)); clear hN9k; (try dsimp only); (try k_fold))))
  k_with "call builtin:str.rfind" => ((k_here; (refine KXw.rfind (by assumption) ?_); intro _ _))
  k_with "compareOp NotEq str str" => ((refine ne_lit true (by assumption) ?_))
  trivial
noncomputable abbrev tupOf (l : List Value) : Obj := { cls := .type "tuple", data := .seq l.toArray }
set_option maxHeartbeats 4000000 in
theorem sx_spec {PG : Program} {LS : List Str} (w : World) (mean : ExcName → Option Value) (mg mb : Str → Option Value) (dp un : Nat) (gd : Option (List Code)) (hh : Option Value) (env : Env) (outer : List Env) (A₀ : Around) (base h₀ : Heap) (L : Addr) (m : Str → Option Value) (s : Shared) (Q : Value → Shared → Prop) (E : Value → Shared → Prop)
   (B : Below A₀ base outer h₀) (F : Fr h₀ L s.heap m) (X : (hd.heap_1 w.params).In h₀) (T : Top PG LS mean mg mb h₀) (hf : env.frame = some L) (hk : env.scope.kind = .function) (hdp : dp + 20 < recursionLimit) (hu : un + 200 < cLine)
   (x : Str) (hx : x.length ≤ 1000) (tx : Tok) (h1 : Txt.rfind x (Str.ofString "/") = -1) (h2 : Txt.rfind x (Str.ofString ".") = 2) (h3 : (Txt.slice x (some (-1 + 1)) (some (-1 + 1 + 1)) != Str.ofString ".") = true)
   (hret : ∀ a ta tb h' tk', Touch s.heap h' [] [(a, tupOf [.str (Txt.slice x none (some 2)) ta, .str (Txt.slice x (some 2) none) tb])] → Q (.ref a) {s with heap := h', toks := tk'})
   (N : News h₀ L s.heap [])  :
   wpAny (model PySem.Challenge.pw_ku0029_01 w) (⟨hh, dp, some (env :: outer), gd, un⟩ : Around) (call (.ref 86) [.str x tx]) Q E s := by
  refine wpAny_call ?_
  ktr_unf
  k_steps
  all_goals (exact hret _ _ _ _ _ (touch_mk (by assumption) (by assumption) (by assumption) (List.forall_mem_cons.mpr ⟨by k_mem, List.forall_mem_nil _⟩)))

theorem use_sx {PG : Program} {LS : List Str} {w : World} {mean : ExcName → Option Value} {mg mb : Str → Option Value} {dp un : Nat} {gd : Option (List Code)} {hh : Option Value} {env : Env} {outer : List Env} {A₀ : Around} {base h₀ : Heap} {L : Addr} {m : Str → Option Value} {s : Shared} {Q : Value → Shared → Prop} {E : Value → Shared → Prop}
   (B : Below A₀ base outer h₀) (F : Fr h₀ L s.heap m) (X : (hd.heap_1 w.params).In h₀) (T : Top PG LS mean mg mb h₀) (hf : env.frame = some L) (hk : env.scope.kind = .function) (hdp : dp + 20 < recursionLimit) (hu : un + 200 < cLine)
   {x : Str} {tx : Tok} (hx : x.length ≤ 1000) (h1 : Txt.rfind x (Str.ofString "/") = -1) (h2 : Txt.rfind x (Str.ofString ".") = 2) (h3 : (Txt.slice x (some (-1 + 1)) (some (-1 + 1 + 1)) != Str.ofString ".") = true) {news : List (Addr × Obj)} (N : News h₀ L s.heap news)
   (k : ∀ a ta tb h' tk', Fr h₀ L h' m → News h₀ L h' ((a, tupOf [.str (Txt.slice x none (some 2)) ta, .str (Txt.slice x (some 2) none) tb]) :: news) → Q (.ref a) {s with heap := h', toks := tk'}) :
   wpAny (model PySem.Challenge.pw_ku0029_01 w) (⟨hh, dp, some (env :: outer), gd, un⟩ : Around) (call (.ref 86) [.str x tx]) Q E s := by
  refine sx_spec w mean mg mb dp un gd hh env outer A₀ base h₀ L m s Q E B F X T hf hk hdp hu x hx tx h1 h2 h3 ?_ News.nil
  intro a ta tb h' tk' t
  have q := touch_back (N₁ := []) (rest := news) F N (fun p hp => nomatch hp) (fun p hp => ⟨hp, fun q hq => nomatch hq⟩) t
  exact k a ta tb h' tk' q.1 q.2
end
section
open PyProof.Rows PySem PySem.Calls PySem.W
theorem ln_KuMod_1 : True := by
  k_with_none
  k_with "k_room" => (((try simp only [depth_mark, depth_under_make, depth_under_kw, depth_in1, depth_deeper, depth_caller]); (try dsimp only [ktrTop]); omega))
  k_with "k_units" => (((try simp only [units_in1, units_deeper, Around.mark_units, units_caller]); (try dsimp only [ktrTop]); omega))
  k_with "k_ne" => ((refine neN ?_; (try dsimp only); first | exact Ap.ne (by assumption) | exact Ap.en (by assumption) | omega))
  k_with "ktr_unf" => ((
      refine' code_defT ?zk1 ?zk2 ?zk3 ?zk4 ?zk5 ?zkA ?zkF ?zkK ?zk6 ?zk7 ?zk8 ?zk9k ?zkB ?_ ?zc2 ?zc3 ?zc4 ?zc5
      case zkA => exact rfl
      case zkF => first | assumption | exact rfl
      case zkK => first | assumption | exact rfl
      case zk1 => k_asm
      case zk2 => k_asm
      case zk3 => k_asm
      case zk4 => k_asm
      case zk5 => k_asm
      case zk6 => k_is
      case zk7 => k_is
      case zk8 => k_room
      case zk9k => first | exact BindsTo.of_eq rfl | exact binds_K (by k_in) rfl (by k_is) rfl rfl rfl
      case zc5 => decide
      case zkB => exact locs rfl
      case zc2 => exact rfl
      case zc3 => exact rfl
      case zc4 => exact rfl
      intro g'k L'k h'k hg'k F'k N'k B'k X'k T'k l1k
      (try k_lt l1k)
      (try dsimp only)
      (try k_lift B'k)
      (try k_fold)))
  k_with "ktr_rel" => (first | exact List.forall_mem_nil _ | (refine' List.forall_mem_cons.mpr ⟨?za, ?zb⟩; (case za => k_mem); (case zb => ktr_rel)))
  k_with "tb_rel" => (first | exact Upds.nil | (refine' Upds.cons ?za ?zb; (case za => k_upd); (case zb => tb_rel)))
  k_with "call ref" => ((k_here; (with_reducible show wpAny _ _ (call (Value.ref 93) _) _ _ _); k_dflt (refine' use_bn ?zB ?zF ?zX ?zT ?zhf ?zhk ?zhdp ?zhu ?zhx ?zh1 ?zN ?zhC ?zhch ?_; (case zB => k_asm); (case zF => k_asm); (case zX => k_asm); (case zT => k_asm); (case zhf => exact rfl); (case zhk => exact rfl); (case zhdp => k_room); (case zhu => k_units); (case zhx => assumption); (case zh1 => assumption); (case zN => k_asm); (case zhC => ktr_rel); (case zhch => ktr_rel); k_whole; intro t9k h9k tk9k F9k hN9k; (have N9k := hN9k _ (by tb_rel)); clear hN9k; (try dsimp only); (try k_fold))))
  k_with "call ref" => ((k_here; (with_reducible show wpAny _ _ (call (Value.ref 86) _) _ _ _); k_dflt (refine' use_sx ?zB ?zF ?zX ?zT ?zhf ?zhk ?zhdp ?zhu ?zhx ?zh1 ?zh2 ?zh3 ?zN ?_; (case zB => k_asm); (case zF => k_asm); (case zX => k_asm); (case zT => k_asm); (case zhf => exact rfl); (case zhk => exact rfl); (case zhdp => k_room); (case zhu => k_units); (case zhx => assumption); (case zh1 => assumption); (case zh2 => assumption); (case zh3 => assumption); (case zN => k_asm); k_whole; intro a9k ta9k tb9k h9k tk9k F9k N9k; (try dsimp only); (try k_fold))))
  trivial
set_option maxHeartbeats 4000000 in
theorem mod_spec {PG : Program} {LS : List Str} (w : World) (mean : ExcName → Option Value) (mg mb : Str → Option Value) (dp un : Nat) (gd : Option (List Code))  (env : Env) (outer : List Env) (A₀ : Around) (base h₀ : Heap) (L : Addr) (m : Str → Option Value) (s : Shared) (Q : Value → Shared → Prop) (E : Value → Shared → Prop)
   (B : Below A₀ base outer h₀) (F : Fr h₀ L s.heap m) (X : (hd.heap_1 w.params).In h₀) (T : Top PG LS mean mg mb h₀) (hf : env.frame = some L) (hk : env.scope.kind = .function) (hdp : dp + 40 < recursionLimit) (hu : un + 300 < cLine)
   (x b r : Str) (hx : x.length ≤ 1000) (hb : b.length ≤ 1000) (tx : Tok) (h1 : Txt.rfind x (Str.ofString "/") = 4) (h2 : Txt.slice x (some (4 + 1)) none = b) (h3 : Txt.rfind b (Str.ofString "/") = -1) (h4 : Txt.rfind b (Str.ofString ".") = 2)
   (h5 : (Txt.slice b (some (-1 + 1)) (some (-1 + 1 + 1)) != Str.ofString ".") = true) (h6 : Txt.slice b none (some 2) = r)
   (hret : ∀ t' h' tk', Touch s.heap h' [] [] → Q (.str r t') {s with heap := h', toks := tk'})
   (N : News h₀ L s.heap [])  :
   wpAny (model PySem.Challenge.pw_ku0029_01 w) (⟨none, dp, some (env :: outer), gd, un⟩ : Around) (call (.ref 107) [.str x tx]) Q E s := by
  subst h2 h6
  refine wpAny_call ?_
  ktr_unf
  k_steps
  all_goals (exact hret _ _ _ (touch_mk (by assumption) (by assumption) (by assumption) (List.forall_mem_nil _)))
end
section
open PyProof.Rows PySem PySem.Calls PySem.W PySem.W.X
theorem ln_KuAp_0 : True := by
  k_with_none
  trivial
/-- a list's append as a value -/
noncomputable abbrev apObj (l : Addr) : Obj := { cls := .type "builtin_function_or_method", data := .fields #[.builtin "list.append", .ref l] }
theorem slot_md_get : Slot "method_descriptor" "__get__" "method_descriptor.__get__" :=
  .of (owner := "method_descriptor") (n := "__get__") (by rw [typeLookup_type, builtinLookup_eq_fast]; kernel_rfl) (by decide +kernel) (by decide +kernel) (by decide +kernel)
    (by first | exact .inl (by decide +kernel) | exact .inr (by decide +kernel)) (by rw [isSubtype_type]; kernel_rfl)
theorem entry_md_get : entryFor table "method_descriptor.__get__" = some Builtin.«method_descriptor.__get__» := entryFor_of_tree (by kernel_rfl)
theorem args_md_get (a b c : Value) : argsOk "method_descriptor.__get__" ⟨[a, b, c], []⟩ := by unfold argsOk; kernel_rfl
theorem sub_ap_owner : isSubtype (.type "list") (.type (".".intercalate ("list.append".cutAt '.').dropLast)) = pure true := by
  rw [isSubtype_type]; kernel_rfl
set_option maxHeartbeats 4000000 in
theorem get_append {prog : Program} {w : World} {A : Around} {s : Shared} {E : Value → Shared → Prop} {Q : Value → Shared → Prop} {l : Addr} {its : Array Value} {n : Nat} (hl : s.heap.get? l = some ⟨.type "list", none, .seq its n, #[]⟩)
    (hQ : ∀ tk', Q (.ref s.heap.objs.size) { s with heap := s.heap.push (apObj l), toks := tk' }) :
    wpAny (model prog w) A (getAttr (.ref l) (Str.ofString "append") true) Q E s := by
  obtain ⟨h, g, d, t, os⟩ := s
  dsimp only at hl hQ
  have hT : (⟨h, g, d, t, os⟩ : Shared).TypeIs (.ref l) "list" := ⟨_, hl, rfl⟩
  have f2 := F.slot_list_getattribute.lookup
  have f3 := F.slot_list_getattribute.bind (.ref l)
  unfold getAttr
  repeat (any_goals (first | assumption | wp_step))
  refine codeAny_call_builtin F.slot_list_getattribute.plain F.entry_list_ga (F.slot_list_getattribute.check _ _ _ _ _ _ _ _ hT (F.args_list_getattribute_2 _ _) ?_)
  have f4 : typeLookup (.type "list") "append" = pure (some (.builtin "list.append")) := by rw [typeLookup_type, builtinLookup_eq_fast]; kernel_rfl
  have f5 : typeOf (.builtin "list.append") = pure (.type "method_descriptor") := by show builtinType _ = _; rw [builtinType_eq_fast]; kernel_rfl
  have f6 : typeLookup (.type "method_descriptor") "__get__" = pure (some (.builtin "method_descriptor.__get__")) := by rw [typeLookup_type, builtinLookup_eq_fast]; kernel_rfl
  have f7 : typeLookup (.type "method_descriptor") "__set__" = pure none := by rw [typeLookup_type, builtinLookup_eq_fast]; kernel_rfl
  have f8 : typeLookup (.type "method_descriptor") "__delete__" = pure none := by rw [typeLookup_type, builtinLookup_eq_fast]; kernel_rfl
  repeat (any_goals (first | assumption | wp_step))
  have hT5 : (⟨h, g, d, t, os⟩ : Shared).TypeIs (.builtin "list.append") "method_descriptor" := f5
  have f9 := sub_ap_owner
  refine codeAny_call_builtin slot_md_get.plain entry_md_get (slot_md_get.check _ _ _ _ _ _ _ _ hT5 (args_md_get _ _ _) ?_)
  repeat (any_goals (first | assumption | wp_step))
  exact hQ _
section
variable {prog : Program} {w : World} {A : Around} {E : Value → Shared → Prop} {s : Shared} {h₀ : Heap} {L B D : Addr} {m : Str → Option Value} {news news' : List (Addr × Obj)}
theorem get_append_K {its : Array Value} {n : Nat} {Q : Value → Shared → Prop} (F : Fr h₀ L s.heap m) (N : News h₀ L s.heap news) (hm : (D, listOf its n) ∈ news)
    (k : ∀ B h' tk', Fr h₀ L h' m → News h₀ L h' ((B, apObj D) :: news) → (∀ p ∈ news, p.1 < B) → Q (.ref B) { s with heap := h', toks := tk' }) :
    wpAny (model prog w) A (getAttr (.ref D) (Str.ofString "append") true) Q E s :=
  get_append (N _ hm).1 fun tk' => k _ _ tk' (F.push _) (N.push F _) fun p hp => Heap.lt_size (N p hp).1
theorem check_ap {l : Addr} {x : Value} {its : Array Value} {n : Nat} {Q : Unit → Shared → Prop} (hl : s.heap.get? l = some ⟨.type "list", none, .seq its n, #[]⟩) (h : Q () s) : wpAny (model prog w) A (checkBoundCall "list.append" ⟨[.ref l, x], []⟩) Q E s := by
  obtain ⟨hh, g, d, t, os⟩ := s
  dsimp only at hl
  have hT : (⟨hh, g, d, t, os⟩ : Shared).TypeIs (.ref l) "list" := ⟨_, hl, rfl⟩
  have h1 : isSubtype (.type "list") (.type "module") = pure false := by rw [isSubtype_type]; kernel_rfl
  have h2 : isSubtype (.type "list") (.type "type") = pure false := by rw [isSubtype_type]; kernel_rfl
  unfold checkBoundCall
  repeat (any_goals (first | assumption | wp_step))
theorem bap_K {its : Array Value} {n : Nat} {x : Value} {Q : Value → Shared → Prop} (F : Fr h₀ L s.heap m) (N : News h₀ L s.heap news) (hb : (B, apObj D) ∈ news) (U : Upd D (listOf its n) (listOf (its.push x) (n + 1)) news news')
    (h : ∀ h', Fr h₀ L h' m → News h₀ L h' news' → Q .none { s with heap := h' }) (hsz : its.size ≤ sizeLine) : wpAny (model prog w) A (call (.ref B) [x]) Q E s := by
  obtain ⟨pre, post, rfl, rfl, a, b⟩ := U.split
  have z := N (D, listOf its n) (List.mem_append.mpr (.inr (.head _)))
  have y := (N _ hb).1
  refine wpAny_call ?_
  obtain ⟨hp, g, dr, t, os⟩ := s
  refine codeAny_of_tree ?_
  show wpAny _ _ (callAny (.ref B) _) _ _ _
  dsimp only at y z
  refine nd_load y ?_
  show wpAny _ _ (checkBoundCall "list.append" ⟨[.ref D, x], []⟩ >>= fun _ => again (Code.builtin "list.append" ⟨[.ref D, x], []⟩)) _ _ _
  refine wpAny_bind (check_ap z.1 ?_)
  refine wpAny_pure ⟨Code.quiet_builtin _ (by decide +kernel), codeAny_builtin entry_list_append ?_⟩
  show wpAny _ _ (updateSeq D (·.push x) >>= fun _ => ret .none) _ _ _
  refine wpAny_bind ?_
  refine wpAny_updateSeq z.1 rfl (wpAny_pure (h _ (F.change (Heap.SameBut.update ..) z.2.1 z.2.2) (news_set N a b (Heap.SameBut.update ..) ?_)))
  rw [Heap.get?_update_self _ z.1 (by rw [mapSeq_push]; rfl), mapSeq_push]
/-- the object that stands there is a list's append -/
noncomputable def ApAt (B D : Addr) (h : Heap) : Prop := h.get? B = some (apObj D)
theorem apAt_of (N : News h₀ L s.heap news) (hb : (B, apObj D) ∈ news) : ApAt B D s.heap := (N _ hb).1
theorem keeps_ap {M : Model} (h : Heap) (X : ApAt B D h) : ∃ k, (k = Keeper.frame ∨ k = Keeper.machine ∨ k = Keeper.boundFrame) ∧ Looks M h (keeperOf (.ref B)) k :=
  ⟨.machine, .inr (.inl rfl), (Looks.ld (part := none) X).andThen .now⟩
theorem callWith_ap {env : Env} {pos : Pos} {first : List Value} {Q : Value → Shared → Prop} {e : Expr} {rest : List Expr} (_N : News h₀ L s.heap news) (_hb : (B, apObj D) ∈ news)
    (h : wpAny (model prog w) A (spliced (backTo pos (starEach (e :: rest) env))) (fun vs s₁ => ApAt B D s₁.heap ∧ wpAny (model prog w) A (call (.ref B) (first ++ vs)) Q E s₁) E s)
    (he : starEach (e :: rest) env = (false, eval e env) :: starEach rest env := by rfl) (hplain : (backTo pos (starEach rest env)).any (·.1) = false := by rfl) :
    wpAny (model prog w) A (callWith pos (.ref B) first (backTo pos (starEach (e :: rest) env)) []) Q E s := by
  rw [he] at h ⊢
  exact callWith_of (by show ((false || (backTo pos (starEach rest env)).any (·.1)) || false) = false; rw [hplain]; rfl) keeps_ap (evalArgs_plain h)
end
end
section
open PyProof.Rows PySem PySem.Calls PySem.W
theorem ln_KuTrl_0 : True := by
  k_with_none
  trivial
section
variable {prog : Program} {w : World} {A : Around} {E : Value → Shared → Prop} {s : Shared} {K : Frag} {D : Addr} {h : Heap}
noncomputable def intKeys (es : Array DictEntry) : Bool := es.toList.all fun e => match e.key with | .int i _ => e.hash == hashInt i | _ => false
theorem mapI_K {es : Array DictEntry} {n : Nat} (X : K.In h) (hl : K.lookup D = some ⟨.type "dict", none, .dict es n, #[]⟩) (hk : intKeys es = true) : h.MapOf (intKind prog w) D (fun k => findBy Value.isInt es k) :=
  ⟨_, es, n, X _ _ hl, ⟨rfl, rfl, rfl⟩, rfl, fun e he => by
    have := List.all_eq_true.mp hk e (Array.mem_toList_iff.mpr he)
    revert this
    cases hkey : e.key <;> intro q <;> first | cases q | skip
    rename_i i t
    exact ⟨i, by simp [intKind, Value.isInt], beq_iff_eq.mp q⟩, fun _ => rfl⟩
set_option maxHeartbeats 4000000 in
theorem tl_miss {c : Nat} {f : Int → Option Value} {Q : Builtin.Str.Mapped → Shared → Prop} (hm : s.heap.MapOf (intKind prog w) D f) (hf : f c = none) (hd : (D == sysModules) = false) (hh : A.handled = none)
    (hQ : ∀ h' tk', (∀ b o, s.heap.get? b = some o → h'.get? b = some o) → Q .keep { s with heap := h', toks := tk' }) : wpAny (model prog w) A (Builtin.Str.tableLookup (.ref D) c) Q E s := by
  unfold Builtin.Str.tableLookup
  refine wpAny_bind (wpAny_attempt ?_)
  refine wpAny_bind ?_
  unfold mkInt
  refine wpAny_bind ?_
  wp_step
  refine wpAny_pure ?_
  refine wpAny_getItem_missing_of (knd := intKind prog w) (k := (c : Int)) ?hk hd hh hm hf ?_
  case hk => simp [intKind, Value.isInt]
  intro h' e ne
  obtain ⟨ob, t', ho, hc, hd'⟩ := ne.there
  have hT : (⟨h', s.gens, s.drawn, s.toks + 1 + 1, s.os⟩ : Shared).TypeIs (.ref e) "KeyError" := ⟨ob, ho, hc⟩
  have hsub : isSubtype (.type "KeyError") (.type "LookupError") = pure true := by rw [isSubtype_type]; kernel_rfl
  repeat (any_goals (first | assumption | wp_step))
  exact hQ _ _ ne.keeps
set_option maxHeartbeats 4000000 in
theorem translate_one {c : Nat} {t : Tok} {f : Int → Option Value} {Q : Value → Shared → Prop} (hm : s.heap.MapOf (intKind prog w) D f) (hf : f c = none) (hd : (D == sysModules) = false) (hh : A.handled = none) (hc : c < 128)
    (hQ : ∀ u h' tk', (∀ b o, s.heap.get? b = some o → h'.get? b = some o) → Q (.str (S [c]) u) { s with heap := h', toks := tk' }) : wpAny (model prog w) A (call (.builtin "str.translate") [.str (S [c]) t, .ref D]) Q E s := by
  refine wpAny_call_entry F.slot_str_translate (typeIs_str _ _ _) F.entry_str_translate ?_ (F.args_str_translate_2 _ _)
  unfold Builtin.«str.translate» Builtin.Str.strOneArg
  repeat (any_goals (first | assumption | (with_reducible refine tl_miss hm ?_ hd hh ?_) | wp_step))
  intro h' tk' hk
  dsimp only
  repeat (any_goals (first | assumption | wp_step))
  exact ⟨_, rfl, hQ _ _ _ hk⟩
end
end
section
open PyProof.Rows PySem PySem.Calls PySem.W
theorem ln_KuTr_1 : True := by
  k_with_none
  k_with "k_room" => (((try simp only [depth_mark, depth_under_make, depth_under_kw, depth_in1, depth_deeper, depth_caller]); (try dsimp only [ktrTop]); omega))
  k_with "k_units" => (((try simp only [units_in1, units_deeper, Around.mark_units, units_caller]); (try dsimp only [ktrTop]); omega))
  k_with "k_ne" => ((refine neN ?_; (try dsimp only); first | exact Ap.ne (by assumption) | exact Ap.en (by assumption) | omega))
  k_with "ktr_unf" => ((
      refine' code_defT ?zk1 ?zk2 ?zk3 ?zk4 ?zk5 ?zkA ?zkF ?zkK ?zk6 ?zk7 ?zk8 ?zk9k ?zkB ?_ ?zc2 ?zc3 ?zc4 ?zc5
      case zkA => exact rfl
      case zkF => first | assumption | exact rfl
      case zkK => first | assumption | exact rfl
      case zk1 => k_asm
      case zk2 => k_asm
      case zk3 => k_asm
      case zk4 => k_asm
      case zk5 => k_asm
      case zk6 => k_is
      case zk7 => k_is
      case zk8 => k_room
      case zk9k => first | exact BindsTo.of_eq rfl | exact binds_K (by k_in) rfl (by k_is) rfl rfl rfl
      case zc5 => decide
      case zkB => exact locs rfl
      case zc2 => exact rfl
      case zc3 => exact rfl
      case zc4 => exact rfl
      intro g'k L'k h'k hg'k F'k N'k B'k X'k T'k l1k
      (try k_lt l1k)
      (try dsimp only)
      (try k_lift B'k)
      (try k_fold)))
  k_with "ktr_rel" => (first | exact List.forall_mem_nil _ | (refine' List.forall_mem_cons.mpr ⟨?za, ?zb⟩; (case za => k_mem); (case zb => ktr_rel)))
  k_with "tb_rel" => (first | exact Upds.nil | (refine' Upds.cons ?za ?zb; (case za => k_upd); (case zb => tb_rel)))
  trivial
/-- the list's append stands there, and the walk goes on -/
noncomputable def ApNext (B D : Addr) (h : Heap) (R : Prop) : Prop := ApAt B D h ∧ R
theorem apNext_of {h₀ h : Heap} {L B D : Addr} {news : List (Addr × Obj)} {R : Prop} (N : News h₀ L h news) (hb : (B, apObj D) ∈ news) (r : R) : ApNext B D h R := ⟨(N _ hb).1, r⟩
theorem callWith_ap2 {prog : Program} {w : World} {A : Around} {E : Value → Shared → Prop} {s : Shared} {h₀ : Heap} {L B D : Addr} {news : List (Addr × Obj)} {env : Env} {pos : Pos} {first : List Value} {Q : Value → Shared → Prop} {e : PySem.Expr} {rest : List PySem.Expr} (N : News h₀ L s.heap news) (hb : (B, apObj D) ∈ news)
    (h : wpAny (model prog w) A (spliced (backTo pos (starEach (e :: rest) env))) (fun vs s₁ => ApNext B D s₁.heap (wpAny (model prog w) A (call (.ref B) (first ++ vs)) Q E s₁)) E s)
    (he : starEach (e :: rest) env = (false, eval e env) :: starEach rest env := by rfl) (hplain : (backTo pos (starEach rest env)).any (·.1) = false := by rfl) :
    wpAny (model prog w) A (callWith pos (.ref B) first (backTo pos (starEach (e :: rest) env)) []) Q E s := callWith_ap N hb h he hplain
theorem ln_KuTr_2 : True := by
  k_with "getAttr ref" => ((k_here; (with_reducible show wpAny _ _ (getAttr (Value.ref _) (PySem.Str.ofString "append") true) _ _ _); k_dflt (refine' get_append_K ?zF ?zN ?zm ?_; (case zF => k_asm); (case zN => k_asm); (case zm => k_mem); k_whole; intro B9k h9k tk9k F9k N9k l9k; (k_lt l9k))))
  k_with "callWith ref" => ((k_here; k_dflt (refine' callWith_ap2 ?zN ?zb ?_; (case zN => k_asm); (case zb => k_mem); k_whole)))
  k_with "ApNext" => ((k_dflt (refine' apNext_of ?zN ?zm ?_; (case zN => k_asm); (case zm => k_mem)); try dsimp only [List.nil_append, List.cons_append]))
  k_with "call ref" => ((k_here; (with_reducible show wpAny _ _ (call (Value.ref _) [_]) _ _ _); k_dflt (refine' bap_K ?zF ?zN ?zb ?zU ?_ ?zz; (case zF => k_asm); (case zN => k_asm); (case zb => k_mem); (case zU => k_upd); (case zz => (rw [sizeLine_eq]; exact Nat.le_of_ble_eq_true rfl)); k_whole; intro h9k F9k N9k)))
  trivial
theorem fr_ext {h₀ h h' : Heap} {L : Addr} {m : Str → Option Value} (F : Fr h₀ L h m) (k : ∀ b o, h.get? b = some o → h'.get? b = some o) : Fr h₀ L h' m := by
  obtain ⟨oL, es, ep, hL, hr⟩ := F.ns
  exact ⟨⟨oL, es, ep, k _ _ hL, hr⟩, fun b o e => k _ _ (F.keep _ _ e), F.above⟩
theorem news_ext {h₀ h h' : Heap} {L : Addr} {news : List (Addr × Obj)} (N : News h₀ L h news) (k : ∀ b o, h.get? b = some o → h'.get? b = some o) : News h₀ L h' news := fun p hp => ⟨k _ _ (N p hp).1, (N p hp).2⟩
theorem dig_ne {d : Nat} (hd : d = 48 ∨ d = 49 ∨ d = 50) : (S [d] == Str.ofString "*") = false ∧ (S [d] == Str.ofString "?") = false ∧ (S [d] == Str.ofString "[") = false := by
  rcases hd with rfl | rfl | rfl <;> decide +kernel
theorem dig_len (d : Nat) : (S [63, d]).length = 2 := rfl
theorem dig_0 (d : Nat) : Txt.item (S [63, d]) 0 = Str.ofString "?" := by
  rw [show Str.ofString "?" = S [63] from by decide +kernel]; rfl
theorem dig_1 (d : Nat) : Txt.item (S [63, d]) (0 + 1) = S [d] := rfl
theorem tr_call {w : World} {A : Around} {E : Value → Shared → Prop} {s : Shared} {h₀ : Heap} {L : Addr} {m : Str → Option Value} {news : List (Addr × Obj)} {x : Str} {t : Tok} {Q : Value → Shared → Prop} (F : Fr h₀ L s.heap m) (N : News h₀ L s.heap news) (X : (hd.heap_1 w.params).In h₀) (hh : A.handled = none)
    {d : Nat} (hx : x = S [d]) (hd : d = 48 ∨ d = 49 ∨ d = 50) (h : ∀ u h' tk', Fr h₀ L h' m → News h₀ L h' news → Q (.str x u) { s with heap := h', toks := tk' }) :
    wpAny (model PySem.Challenge.pw_ku0029_01 w) A (call (.builtin "str.translate") [.str x t, .ref 114]) Q E s := by
  have hm := mapI_K (prog := PySem.Challenge.pw_ku0029_01) (w := w) (X.keeps F.keep) (D := 114) (by k_is) (by decide +kernel)
  subst hx
  rcases hd with rfl | rfl | rfl
  · exact translate_one hm (by decide +kernel) (by decide) hh (by decide) fun u h' tk' k => h u h' tk' (fr_ext F k) (news_ext N k)
  · exact translate_one hm (by decide +kernel) (by decide) hh (by decide) fun u h' tk' k => h u h' tk' (fr_ext F k) (news_ext N k)
  · exact translate_one hm (by decide +kernel) (by decide) hh (by decide) fun u h' tk' k => h u h' tk' (fr_ext F k) (news_ext N k)
theorem ln_KuTr_3 : True := by
  k_with "call builtin:str.translate" => ((k_here; k_dflt (refine' tr_call ?zF ?zN ?zX ?zhh ?zhx ?zhd ?_; (case zF => k_asm); (case zN => k_asm); (case zX => k_asm); (case zhh => exact rfl); (case zhx => exact rfl); (case zhd => assumption); k_whole; intro u9k h9k tk9k F9k N9k)))
  trivial
theorem item_lit {prog : Program} {w : World} {A : Around} {E : Value → Shared → Prop} {s : Shared} {value slice : PySem.Expr} {x : Str} (y : Str) {t u : Tok} {n : Nat} {i : Int} {Q : Value → Shared → Prop} (hk : x.length = n) (h0 : -(n : Int) ≤ i) (h1 : i < (n : Int)) (hn : n ≤ 16777216) (e : Txt.item x i = y) (h : ∀ u' tk', Q (.str y u') { s with toks := tk' })
    (hs : subscripted slice false (.str x t) (.int i u) = operate [.str x t, .int i u] (getItem (.str x t) (.int i u)) := by with_unfolding_all rfl)
    (ht : ∀ r, letTemporaryGo value (.str x t) r = pure () := by intro _; with_unfolding_all rfl) :
    wpAny (model prog w) A (subscriptTail value slice (.str x t) (.int i u)) Q E s := KXi.item hk h0 h1 hn (fun _ => by rw [e]; exact h _ _) hs ht
theorem ln_KuTr_4 : True := by
  k_with "subscriptTail Name Name str int" => ((k_here; (with_reducible show wpAny _ _ (subscriptTail _ _ (Value.str _ _) (Value.int _ _)) _ _ _); (first | (k_dflt (refine item_lit (Str.ofString "?") (dig_len _) (by decide) (by decide) (by decide) (dig_0 _) ?_)) | (k_dflt (refine item_lit _ (dig_len _) (by decide) (by decide) (by decide) (dig_1 _) ?_))); intro _ _))
  k_with "compareOp Eq str str" => (first
      | (refine' eq_lit true ?ze ?_; (case ze => decide +kernel))
      | (refine' eq_lit false ?ze ?_; (case ze => decide +kernel))
      | (refine' eq_lit false ?ze ?_; (case ze => first | exact (dig_ne (by assumption)).1 | exact (dig_ne (by assumption)).2.1 | exact (dig_ne (by assumption)).2.2)))
  trivial
theorem len_dig {prog : Program} {w : World} {A : Around} {E : Value → Shared → Prop} {s : Shared} {d : Nat} {t : Tok} {Q : Value → Shared → Prop} (h : ∀ u tk', Q (.int 2 u) { s with toks := tk' }) : wpAny (model prog w) A (call (.builtin "len") [.str (S [63, d]) t]) Q E s :=
  PyProof.Rows.len_str (by rw [dig_len]; decide) (h _ _)
theorem ln_KuTr_5 : True := by
  k_with "call builtin:len" => ((k_here; (with_reducible show wpAny _ _ (call (Value.builtin "len") [Value.str _ _]) _ _ _); (refine len_dig ?_); intro _ _))
  trivial
theorem gm_tr {M : Model} {A : Around} {E : Value → Shared → Prop} {s : Shared} {x : Str} {t : Tok} {pl : Sem Bool} {Q : Value × List Value → Shared → Prop} (h : Q (.builtin "str.translate", [.str x t]) s) : wpAny M A (getMethod (.str x t) "translate" pl) Q E s := by
  with_reducible exact GM.of (.str x t) (typeIs_str _ _ _) F.slot_str_translate F.type_str_translate GM.noRef h
theorem ln_KuTr_6 : True := by
  k_with "getMethod str" => ((refine gm_tr ?_))
  trivial
set_option maxHeartbeats 4000000 in
theorem tr_spec {PG : Program} {LS : List Str} (w : World) (mean : ExcName → Option Value) (mg mb : Str → Option Value) (dp un : Nat) (gd : Option (List Code))  (env : Env) (outer : List Env) (A₀ : Around) (base h₀ : Heap) (L : Addr) (m : Str → Option Value) (s : Shared) (Q : Value → Shared → Prop) (E : Value → Shared → Prop)
   (B : Below A₀ base outer h₀) (F : Fr h₀ L s.heap m) (X : (hd.heap_1 w.params).In h₀) (T : Top PG LS mean mg mb h₀) (hf : env.frame = some L) (hk : env.scope.kind = .function) (hdp : dp + 40 < recursionLimit) (hu : un + 300 < cLine)
   (d : Nat) (hd : d = 48 ∨ d = 49 ∨ d = 50) (t1 t2 t3 : Tok)
   (hret : ∀ a ta tb n h' tk', Touch s.heap h' [] [(a, listOf #[.str (Str.ofString ".") ta, .str (S [d]) tb] n)] → Q (.ref a) {s with heap := h', toks := tk'})
   (N : News h₀ L s.heap [])  :
   wpAny (model PySem.Challenge.pw_ku0029_01 w) (⟨none, dp, some (env :: outer), gd, un⟩ : Around) (call (.ref 131) [.str (S [63, d]) t1, .str (Str.ofString "*") t2, .str (Str.ofString ".") t3]) Q E s := by
  refine wpAny_call ?_
  ktr_unf
  k_steps
  all_goals (exact hret _ _ _ _ _ _ (touch_mk (by assumption) (by assumption) (by assumption) (List.forall_mem_cons.mpr ⟨by k_mem, List.forall_mem_nil _⟩)))
end
section
open PyProof.Rows PySem PySem.Calls PySem.W
theorem ln_KuNl_1 : True := by
  k_with_none
  k_with "k_room" => (((try simp only [depth_mark, depth_under_make, depth_under_kw, depth_in1, depth_deeper, depth_caller]); (try dsimp only [ktrTop]); omega))
  k_with "k_units" => (((try simp only [units_in1, units_deeper, Around.mark_units, units_caller]); (try dsimp only [ktrTop]); omega))
  k_with "k_ne" => ((refine neN ?_; (try dsimp only); first | exact Ap.ne (by assumption) | exact Ap.en (by assumption) | omega))
  k_with "ktr_unf" => ((
      refine' code_defT ?zk1 ?zk2 ?zk3 ?zk4 ?zk5 ?zkA ?zkF ?zkK ?zk6 ?zk7 ?zk8 ?zk9k ?zkB ?_ ?zc2 ?zc3 ?zc4 ?zc5
      case zkA => exact rfl
      case zkF => first | assumption | exact rfl
      case zkK => first | assumption | exact rfl
      case zk1 => k_asm
      case zk2 => k_asm
      case zk3 => k_asm
      case zk4 => k_asm
      case zk5 => k_asm
      case zk6 => k_is
      case zk7 => k_is
      case zk8 => k_room
      case zk9k => first | exact BindsTo.of_eq rfl | exact binds_K (by k_in) rfl (by k_is) rfl rfl rfl
      case zc5 => decide
      case zkB => exact locs rfl
      case zc2 => exact rfl
      case zc3 => exact rfl
      case zc4 => exact rfl
      intro g'k L'k h'k hg'k F'k N'k B'k X'k T'k l1k
      (try k_lt l1k)
      (try dsimp only)
      (try k_lift B'k)
      (try k_fold)))
  trivial
section
variable {prog : Program} {w : World} {A : Around} {E : Value → Shared → Prop} {s : Shared} {K : Frag} {L : Addr} {h₀ : Heap} {m : Str → Option Value}
theorem make_newK {C fI : Addr} {R : Result → Shared → Prop} {rest : List Value} {oc : Value} {od : Option Addr} {cd : ClassData} {sl : Array (Option Value)} {c : Value} {l : List Value} (F : Fr h₀ L s.heap m) (X₀ : K.In h₀)
    (ho : K.lookup C = some ⟨oc, od, .cls cd, sl⟩) (hmr : cd.mro = c :: l) (hs : (sl.toList[4]?).join = some .none)
    (e7 : specialIn K (.ref C) "__call__" = some (some (.builtin "type.__call__"))) (e8 : instIn K (.ref C) (.type "type") = some true) (e5 : mroIn K C (.ref C) = some true)
    (hi : findIn K (.ref C) "__init__" = some (some (.ref fI))) (hf : typeIn K (.ref fI) = some (.type "function"))
    (h : wpAny (model prog w) (A.under (.builtin "type.__call__" ⟨.ref C :: rest, []⟩)) (getAttr (.ref C) "__new__") (fun nw s₁ => wpAny (model prog w) (A.under (.builtin "type.__call__" ⟨.ref C :: rest, []⟩)) (call nw (.ref C :: rest) []) (NewBack (model prog w) (A.under (.builtin "type.__call__" ⟨.ref C :: rest, []⟩)) K C fI rest R) (fun e s' => R (.error e) s') s₁) (fun e s' => R (.error e) s') s) :
    codeAny (model prog w) A (.call (.ref C) ⟨rest, []⟩) R s := make_new (X₀.keeps F.keep) ho hmr hs e7 e8 e5 hi hf h
theorem newback_mk {M : Model} {C fI x dx : Addr} {R : Result → Shared → Prop} {rest : List Value} {news : List (Addr × Obj)} (F : Fr h₀ L s.heap m) (X₀ : K.In h₀) (N : News h₀ L s.heap news) (hm : (x, instObj C dx) ∈ news)
    (h : codeAny M A (.call (.ref fI) ⟨.ref x :: rest, []⟩) (InitBack x R) s) : NewBack M A K C fI rest R (.ref x) s := ⟨x, dx, rfl, X₀.keeps F.keep, (N _ hm).1, h⟩
end
theorem ln_KuNl_2 : True := by
  k_with "ktr_rel" => (first | exact List.forall_mem_nil _ | (refine' List.forall_mem_cons.mpr ⟨?za, ?zb⟩; (case za => k_mem); (case zb => ktr_rel)))
  k_with "tb_rel" => (first | exact Upds.nil | (refine' Upds.cons ?za ?zb; (case za => k_upd); (case zb => tb_rel)))
  k_with "call ref" => ((k_here; (with_reducible show wpAny _ _ (call (Value.ref 684) _) _ _ _); k_dflt (refine' wpAny_call (make_newK ?zF ?zX ?zho ?zhmr ?zhs ?ze7 ?ze8 ?ze5 ?zhi ?zhf ?_); (case zF => k_asm); (case zX => k_asm); (case zho => k_is); (case zhmr => exact rfl); (case zhs => exact rfl); (case ze7 => k_is); (case ze8 => k_is); (case ze5 => k_is); (case zhi => k_is); (case zhf => k_is); k_whole)))
  k_with "call builtin:object.__new__" => ((k_here; (with_reducible show wpAny _ _ (call _ [Value.ref 684]) _ _ _); k_dflt (refine' new684_K ?zF ?zX ?zN ?_; (case zF => k_asm); (case zX => k_asm); (case zN => k_asm); k_whole; intro x9k dx9k h9k tk9k F9k N9k ne9k apx9k apd9k; (have q1 := allAp_of apx9k); (have q2 := allAp_of apd9k); clear apx9k apd9k; (dsimp only [AllAp] at q1 q2); (repeat (obtain ⟨_, q1⟩ := q1)); (repeat (obtain ⟨_, q2⟩ := q2)); (try clear q1); (try clear q2))))
  k_with "call type:collections.deque" => ((k_here; k_dflt (refine' newdq_K ?zF ?zX ?zN ?_; (case zF => k_asm); (case zX => k_asm); (case zN => k_asm); k_whole; intro x9k n9k h9k tk9k F9k N9k ap9k; (have q1 := allAp_of ap9k); clear ap9k; (dsimp only [AllAp] at q1); (repeat (obtain ⟨_, q1⟩ := q1)); (try clear q1))))
  k_with "NewBack" => ((k_dflt (refine' newback_mk ?zF ?zX ?zN ?zhm ?_; (case zF => k_asm); (case zX => k_asm); (case zN => k_asm); (case zhm => k_mem); k_whole; k_enter)))
  k_with "call type:list" => ((refine Hold.of ?_))
  trivial
noncomputable abbrev lexR (w : World) (k0 k1 k2 k3 k4 k5 k6 k7 k8 k9 k10 k11 k12 k13 k14 k15 k16 k17 k18 v4 v5 v6 v8 v9 v10 v13 v14 v18 : Tok) (a pb fs : Addr) (W cm : Str) (ws : Bool) (st tok : Value) : Obj := dictOf [kE w (Str.ofString "instream") k0 (.ref a), kE w (Str.ofString "infile") k1 .none, kE w (Str.ofString "posix") k2 (.bool true), kE w (Str.ofString "eof") k3 .none, kE w (Str.ofString "commenters") k4 (.str cm v4), kE w (Str.ofString "wordchars") k5 (.str W v5), kE w (Str.ofString "whitespace") k6 (.str (Str.ofString " \t\r\n") v6), kE w (Str.ofString "whitespace_split") k7 (.bool ws), kE w (Str.ofString "quotes") k8 (.str (Str.ofString "'\"") v8), kE w (Str.ofString "escape") k9 (.str (Str.ofString "\\") v9), kE w (Str.ofString "escapedquotes") k10 (.str (Str.ofString "\"") v10), kE w (Str.ofString "state") k11 st, kE w (Str.ofString "pushback") k12 (.ref pb), kE w (Str.ofString "lineno") k13 (.int 1 v13), kE w (Str.ofString "debug") k14 (.int 0 v14), kE w (Str.ofString "token") k15 tok, kE w (Str.ofString "filestack") k16 (.ref fs), kE w (Str.ofString "source") k17 .none, kE w (Str.ofString "_punctuation_chars") k18 (.str (Str.ofString "") v18)] 19
theorem lexR_eq (w : World) (k0 k1 k2 k3 k4 k5 k6 k7 k8 k9 k10 k11 k12 k13 k14 k15 k16 k17 k18 v4 v5 v6 v8 v9 v10 v13 v14 v18 : Tok) (a pb fs : Addr) (W cm : Str) (ws : Bool) (st tok : Value) : lexR w k0 k1 k2 k3 k4 k5 k6 k7 k8 k9 k10 k11 k12 k13 k14 k15 k16 k17 k18 v4 v5 v6 v8 v9 v10 v13 v14 v18 a pb fs W cm ws st tok = lexD w (fun i => match i with | 0 => k0 | 1 => k1 | 2 => k2 | 3 => k3 | 4 => k4 | 5 => k5 | 6 => k6 | 7 => k7 | 8 => k8 | 9 => k9 | 10 => k10 | 11 => k11 | 12 => k12 | 13 => k13 | 14 => k14 | 15 => k15 | 16 => k16 | 17 => k17 | _ => k18) (fun i => match i with | 4 => v4 | 5 => v5 | 6 => v6 | 8 => v8 | 9 => v9 | 10 => v10 | 13 => v13 | 14 => v14 | _ => v18) a pb fs W cm ws st tok := rfl

section
variable {h₀ h : Heap} {L : Addr}
/-- the objects of a heap beyond the base and the frame -/
noncomputable def restOf9 (h₀ h : Heap) (L : Addr) : List (Addr × Obj) := (List.range h.objs.size).filterMap fun b => match h.get? b with
  | some o => if (h₀.get? b).isNone && b != L then some (b, o) else none
  | none => none
theorem rest_mem {b : Addr} {o : Obj} (e : h.get? b = some o) (e0 : h₀.get? b = none) (hL : b ≠ L) : (b, o) ∈ restOf9 h₀ h L := by
  refine List.mem_filterMap.mpr ⟨b, List.mem_range.mpr (Heap.lt_size e), ?_⟩
  rw [e]
  simp [e0, hL]
theorem rest_news : News h₀ L h (restOf9 h₀ h L) := fun p hp => by
  obtain ⟨b, _, hb⟩ := List.mem_filterMap.mp hp
  split at hb
  · rename_i o e
    split at hb
    · rename_i hc
      cases hb
      simp only [Bool.and_eq_true, Option.isNone_iff_eq_none, bne_iff_ne, ne_eq] at hc
      exact ⟨e, hc.2, hc.1⟩
    · cases hb
  · cases hb
theorem rest_keep {h1 : Heap} {m : Str → Option Value} {l : List (Addr × Obj)} (F1 : Fr h₀ L h1 m) (N1 : News h₀ L h1 (l ++ restOf9 h₀ h L)) : ∀ b o, h.get? b = some o → b ≠ L → (∀ o', h₀.get? b = some o' → h.get? b = some o') → h1.get? b = some o := fun b o e hb hk => by
  cases q : h₀.get? b with
  | some o' => have := hk o' q; rw [e] at this; cases this; exact F1.keep _ _ q
  | none => exact (N1 _ (List.mem_append.mpr (.inr (rest_mem e q hb)))).1
end
theorem tt_new {h₀ h h1 h' : Heap} {L la ld : Addr} {o1 o2 : Obj} {N₂ : List (Addr × Obj)} (tt : Touch h1 h' [(la, o1), (ld, o2)] N₂) (k1 : ∀ b o, h.get? b = some o → b ≠ L → h1.get? b = some o) (n1 : ∀ q, q = la ∨ q = ld → h.get? q = none) (N : News h₀ L h' N₂) : ∀ p ∈ N₂, h.get? p.1 = none := fun p hp => by
  rcases (tt.now p hp).2 with q | ⟨r, hr, e⟩
  · cases e : h.get? p.1 with
    | none => rfl
    | some o => rw [k1 _ _ e (N p hp).2.1] at q; cases q
  · refine n1 _ ?_
    rcases List.mem_cons.mp hr with rfl | hr
    · exact .inl e.symm
    · rcases List.mem_cons.mp hr with rfl | hr
      · exact .inr e.symm
      · cases hr
theorem news_sub {h₀ h : Heap} {L : Addr} {l news : List (Addr × Obj)} (N : News h₀ L h news) (hs : ∀ p ∈ l, p ∈ news) : News h₀ L h l := fun p hp => N p (hs p hp)
theorem gen_post {α : Type} {M : Model} {A : Around} {t : Sem α} {Q : α → Shared → Prop} {E : Value → Shared → Prop} {s : Shared} (H : ∀ (Q' : α → Shared → Prop) (E' : Value → Shared → Prop), (∀ v s', Q v s' → Q' v s') → wpAny M A t Q' E' s) : wpAny M A t Q E s := H Q E fun _ _ h => h
set_option maxHeartbeats 8000000 in
theorem nl_spec {PG : Program} {LS : List Str} (w : World) (mean : ExcName → Option Value) (mg mb : Str → Option Value) (dp un : Nat) (gd : Option (List Code))  (env : Env) (outer : List Env) (A₀ : Around) (base h₀ : Heap) (L : Addr) (m : Str → Option Value) (s : Shared) (Q : Value → Shared → Prop) (E : Value → Shared → Prop)
   (B : Below A₀ base outer h₀) (F : Fr h₀ L s.heap m) (X : (hd.heap_1 w.params).In h₀) (T : Top PG LS mean mg mb h₀) (hf : env.frame = some L) (hk : env.scope.kind = .function) (hdp : dp + 40 < recursionLimit) (hu : un + 400 < cLine) (x : Str) (tx : Tok) (hx : x.length ≤ 2000)
   (hret : ∀ (k0 k1 k2 k3 k4 k5 k6 k7 k8 k9 k10 k11 k12 k13 k14 k15 k16 k17 k18 v4 v5 v6 v8 v9 v10 v13 v14 v18 t1 t2 t3 t4 t5 t6 t7 t8 : Tok) (n1 n2 : Int) (la ld a d pb fs : Addr) h' tk', Ap la ld → Ap la a → Ap la d → Ap la pb → Ap la fs → Ap ld a → Ap ld d → Ap ld pb → Ap ld fs → Ap a d → Ap a pb → Ap a fs → Ap d pb → Ap d fs → Ap pb fs → Fr h₀ L h' m → (∀ b o, s.heap.get? b = some o → b ≠ L → h'.get? b = some o) → News h₀ L h' ([(la, instObj 777 ld), (ld, lexR w k0 k1 k2 k3 k4 k5 k6 k7 k8 k9 k10 k11 k12 k13 k14 k15 k16 k17 k18 v4 v5 v6 v8 v9 v10 v13 v14 v18 a pb fs (Str.ofString "abcdfeghijklmnopqrstuvwxyzABCDEFGHIJKLMNOPQRSTUVWXYZ0123456789_" ++ Str.ofString "ßàáâãäåæçèéêëìíîïðñòóôõöøùúûüýþÿÀÁÂÃÄÅÆÇÈÉÊËÌÍÎÏÐÑÒÓÔÕÖØÙÚÛÜÝÞ") (Str.ofString "#") false (.str (Str.ofString " ") t7) (.str (Str.ofString "") t8)), (a, instObj 684 d), (pb, dq n1 []), (fs, dq n2 []), (d, ioD w t1 t2 t3 t4 t5 x (0 : Nat) t6)]) → (∀ q ∈ ([la, ld, a, d, pb, fs] : List Addr), s.heap.get? q = none) → Q (.ref la) { s with heap := h', toks := tk' }) :
   wpAny (model PySem.Challenge.pw_ku0029_01 w) (⟨none, dp, some (env :: outer), gd, un⟩ : Around) (call (.ref 777) [.str x tx] [(Str.ofString "posix", .bool true)]) Q E s := by
  refine' call_cls F X rest_news ?hm ?hi ?hf9 ?_
  case hm => k_is
  case hi => k_is
  case hf9 => k_is
  intro la ld h1 F1 N1 lq1 lq2
  have k1 : ∀ b o, s.heap.get? b = some o → b ≠ L → h1.get? b = some o := fun b o e hb => rest_keep (l := [_, _]) F1 N1 b o e hb fun o' e' => F.keep _ _ e'
  have n1 : ∀ q, q = la ∨ q = ld → s.heap.get? q = none := fun q hq => by
    cases e : s.heap.get? q with
    | none => rfl
    | some o =>
      exfalso
      have y : h₀.get? q = none ∧ q ≠ L := by
        rcases hq with rfl | rfl
        · exact ⟨(N1 _ (.head _)).2.2, (N1 _ (.head _)).2.1⟩
        · exact ⟨(N1 _ (.tail _ (.head _))).2.2, (N1 _ (.tail _ (.head _))).2.1⟩
      have z : q < ld := lq1 _ (rest_mem e y.1 y.2)
      rcases hq with rfl | rfl
      · exact absurd (Nat.lt_trans z lq2) (Nat.lt_irrefl _)
      · exact absurd z (Nat.lt_irrefl _)
  replace N1 : News h₀ L h1 [(la, instObj 777 ld), (ld, dictOf [] 0)] := fun p hp => N1 p (by
    rcases List.mem_cons.mp hp with rfl | hp
    · exact .head _
    · rcases List.mem_cons.mp hp with rfl | hp
      · exact .tail _ (.head _)
      · cases hp)
  clear lq1
  (k_lt2 lq2)
  ktr_unf
  refine gen_post ?_
  intro PQ PE hPQ
  k_steps
  refine hPQ _ _ ?_
  (try dsimp only)
  k_steps
  (with_reducible rename Fr h₀ L _ _ => kF9)
  have tt : Touch h1 _ [(la, instObj 777 ld), (ld, dictOf [] 0)] _ := touch_mk (by assumption) (by assumption) (by assumption) (fun p hp => hp)
 
  (with_reducible rename News h₀ L _ _ => kN9)
  have nw := tt_new tt k1 n1 kN9
  refine' hret _ _ _ _ _ _ _ _ _ _ _ _ _ _ _ _ _ _ _ _ _ _ _ _ _ _ _ _ _ _ _ _ _ _ _ _ _ _ la ld ?a ?d ?pb ?fs _ _ ?ne_la_ld ?ne_la_a ?ne_la_d ?ne_la_pb ?ne_la_fs ?ne_ld_a ?ne_ld_d ?ne_ld_pb ?ne_ld_fs ?ne_a_d ?ne_a_pb ?ne_a_fs ?ne_d_pb ?ne_d_fs ?ne_pb_fs kF9 ?keep ?news ?new
  case news => exact news_sub kN9 (by ktr_rel)
  case keep => exact fun b o e hb => tt.keep b o (k1 b o e hb) (fun p hp => by
    rcases List.mem_cons.mp hp with rfl | hp
    · intro q; rw [← q, n1 _ (.inl rfl)] at e; cases e
    · rcases List.mem_cons.mp hp with rfl | hp
      · intro q; rw [← q, n1 _ (.inr rfl)] at e; cases e
      · cases hp)
  case new => exact (List.forall_mem_cons.mpr ⟨nw (_, _) (by k_mem), (List.forall_mem_cons.mpr ⟨nw (_, _) (by k_mem), (List.forall_mem_cons.mpr ⟨nw (_, _) (by k_mem), (List.forall_mem_cons.mpr ⟨nw (_, _) (by k_mem), (List.forall_mem_cons.mpr ⟨nw (_, _) (by k_mem), (List.forall_mem_cons.mpr ⟨nw (_, _) (by k_mem), List.forall_mem_nil _⟩)⟩)⟩)⟩)⟩)⟩)
  case ne_la_ld => first | assumption | exact Ap.mk (by k_ne)
  case ne_la_a => first | assumption | exact Ap.mk (by k_ne)
  case ne_la_d => first | assumption | exact Ap.mk (by k_ne)
  case ne_la_pb => first | assumption | exact Ap.mk (by k_ne)
  case ne_la_fs => first | assumption | exact Ap.mk (by k_ne)
  case ne_ld_a => first | assumption | exact Ap.mk (by k_ne)
  case ne_ld_d => first | assumption | exact Ap.mk (by k_ne)
  case ne_ld_pb => first | assumption | exact Ap.mk (by k_ne)
  case ne_ld_fs => first | assumption | exact Ap.mk (by k_ne)
  case ne_a_d => first | assumption | exact Ap.mk (by k_ne)
  case ne_a_pb => first | assumption | exact Ap.mk (by k_ne)
  case ne_a_fs => first | assumption | exact Ap.mk (by k_ne)
  case ne_d_pb => first | assumption | exact Ap.mk (by k_ne)
  case ne_d_fs => first | assumption | exact Ap.mk (by k_ne)
  case ne_pb_fs => first | assumption | exact Ap.mk (by k_ne)
end
section
open PyProof.Rows PySem PySem.Calls PySem.W
theorem ln_KuNu_0 : True := by
  k_with_none
  trivial
set_option maxHeartbeats 4000000 in
theorem use_nl {PG : Program} {LS : List Str} {w : World} {mean : ExcName → Option Value} {mg mb : Str → Option Value} {dp un : Nat} {gd : Option (List Code)} {env : Env} {outer : List Env} {A₀ : Around} {base h₀ : Heap} {L : Addr} {m : Str → Option Value} {s : Shared} {Q : Value → Shared → Prop} {E : Value → Shared → Prop}
   (B : Below A₀ base outer h₀) (F : Fr h₀ L s.heap m) (X : (hd.heap_1 w.params).In h₀) (T : Top PG LS mean mg mb h₀) (hf : env.frame = some L) (hk : env.scope.kind = .function) (hdp : dp + 40 < recursionLimit) (hu : un + 400 < cLine) {tx : Tok} {news : List (Addr × Obj)} (N : News h₀ L s.heap news)
   (q : ∀ (P : Pl) (t7 t8 : Tok) (n1 : Int) h' tk', P.Ok → Fr h₀ L h' m → News h₀ L h' (P.six w n1 [] (.str (Str.ofString " ") t7) t8 ++ news) → (∀ p ∈ news, ∀ r ∈ ([P.la, P.ld, P.a, P.d, P.pb, P.fs] : List Addr), p.1 ≠ r) → Q (.ref P.la) {s with heap := h', toks := tk'}) :
   wpAny (model PySem.Challenge.pw_ku0029_01 w) (⟨none, dp, some (env :: outer), gd, un⟩ : Around) (call (.ref 777) [.str (Str.ofString "") tx] [(Str.ofString "posix", .bool true)]) Q E s := by
  refine nl_spec w mean mg mb dp un gd env outer A₀ base h₀ L m s Q E B F X T hf hk hdp hu (Str.ofString "") tx (by decide +kernel) ?_
  intro k0 k1 k2 k3 k4 k5 k6 k7 k8 k9 k10 k11 k12 k13 k14 k15 k16 k17 k18 v4 v5 v6 v8 v9 v10 v13 v14 v18 t1 t2 t3 t4 t5 t6 t7 t8 n1 n2 la ld a d pb fs h' tk' a0 a1 a2 a3 a4 a5 a6 a7 a8 a9 a10 a11 a12 a13 a14 F' keep N' fresh
  refine q ⟨(fun i => match i with | 0 => k0 | 1 => k1 | 2 => k2 | 3 => k3 | 4 => k4 | 5 => k5 | 6 => k6 | 7 => k7 | 8 => k8 | 9 => k9 | 10 => k10 | 11 => k11 | 12 => k12 | 13 => k13 | 14 => k14 | 15 => k15 | 16 => k16 | 17 => k17 | _ => k18), (fun i => match i with | 4 => v4 | 5 => v5 | 6 => v6 | 8 => v8 | 9 => v9 | 10 => v10 | 13 => v13 | 14 => v14 | _ => v18), (Str.ofString "abcdfeghijklmnopqrstuvwxyzABCDEFGHIJKLMNOPQRSTUVWXYZ0123456789_" ++ Str.ofString "ßàáâãäåæçèéêëìíîïðñòóôõöøùúûüýþÿÀÁÂÃÄÅÆÇÈÉÊËÌÍÎÏÐÑÒÓÔÕÖØÙÚÛÜÝÞ"), Str.ofString "#", false, t1, t2, t3, t4, t5, t6, Str.ofString "", 0, n2, la, ld, a, d, pb, fs⟩ t7 t8 n1 h' tk' ⟨by show (Str.ofString "").length ≤ 2000; decide +kernel, by show (Str.ofString "").cps.toList[0]? = none; decide +kernel, a0, a1, a2, a3, a4, a5, a6, a7, a8, a9, a10, a11, a12, a13, a14⟩ F' ?_ ?_
  · intro p hp
    rcases List.mem_append.mp hp with hp | hp
    · refine N' p ?_
      simp only [Pl.six, List.mem_cons, List.not_mem_nil, or_false] at hp ⊢
      rcases hp with h | h | h | h | h | h <;> subst h
      · exact .inl rfl
      · exact .inr (.inl rfl)
      · exact .inr (.inr (.inr (.inl rfl)))
      · exact .inr (.inr (.inl rfl))
      · exact .inr (.inr (.inr (.inr (.inr rfl))))
      · exact .inr (.inr (.inr (.inr (.inl rfl))))
    · exact ⟨keep _ _ (N p hp).1 (N p hp).2.1, (N p hp).2⟩
  · intro p hp r hr e
    have := fresh r (by simpa using hr)
    rw [← e, (N p hp).1] at this
    cases this
end
section
open PyProof.Rows PySem PySem.Calls PySem.W
theorem ln_KuSplit_1 : True := by
  k_with_none
  k_with "k_room" => (((try simp only [depth_mark, depth_under_make, depth_under_kw, depth_in1, depth_deeper, depth_caller]); (try dsimp only [ktrTop]); omega))
  k_with "k_units" => (((try simp only [units_in1, units_deeper, Around.mark_units, units_caller]); (try dsimp only [ktrTop]); omega))
  k_with "k_ne" => ((refine neN ?_; (try dsimp only); first | exact Ap.ne (by assumption) | exact Ap.en (by assumption) | omega))
  k_with "ktr_unf" => ((
      refine' code_defT ?zk1 ?zk2 ?zk3 ?zk4 ?zk5 ?zkA ?zkF ?zkK ?zk6 ?zk7 ?zk8 ?zk9k ?zkB ?_ ?zc2 ?zc3 ?zc4 ?zc5
      case zkA => exact rfl
      case zkF => first | assumption | exact rfl
      case zkK => first | assumption | exact rfl
      case zk1 => k_asm
      case zk2 => k_asm
      case zk3 => k_asm
      case zk4 => k_asm
      case zk5 => k_asm
      case zk6 => k_is
      case zk7 => k_is
      case zk8 => k_room
      case zk9k => first | exact BindsTo.of_eq rfl | exact binds_K (by k_in) rfl (by k_is) rfl rfl rfl
      case zc5 => decide
      case zkB => exact locs rfl
      case zc2 => exact rfl
      case zc3 => exact rfl
      case zc4 => exact rfl
      intro g'k L'k h'k hg'k F'k N'k B'k X'k T'k l1k
      (try k_lt l1k)
      (try dsimp only)
      (try k_lift B'k)
      (try k_fold)))
  trivial
section
variable {prog : Program} {w : World} {A A₀ : Around} {E : Value → Shared → Prop} {s : Shared} {K : Frag} {L : Addr} {h₀ base : Heap} {m mg mb : Str → Option Value} {p : Program} {loose : List Str} {mean : ExcName → Option Value}
theorem code_defS {env : Env} {R : Result → Shared → Prop} {name qual : Str} {params : Arguments} {body : List Stmt} {scope : Scope} {dV kV doc pm cdv ct oc : Value} {an od : Option Addr} {osl : Array (Option Value)} {f : Addr} {args : Args} {binds : List (Str × Value)}
    (F : Fr h₀ L s.heap m) (X₀ : K.In h₀) (T : Top p loose mean mg mb h₀) (hA : A.frames = some [env]) (hf : env.frame = some L) (hke : env.scope.kind = .function)
    (ho : K.lookup f = some ⟨oc, od, .func (fnOf name qual params body scope dV kV doc pm an cdv ct), osl⟩) (hcd : codeIn K cdv qual = true) (hroom : A.depth < recursionLimit)
    (hbind : BindsTo s (fnOf name qual params body scope dV kV doc pm an cdv ct) args binds) (hloc : ∀ y ∈ binds, scope.names.lookup y.1 = some .local)
    (h : ∀ L' h₁, Fr s.heap L' h₁ (fun y => binds.reverse.lookup y) → News s.heap L' h₁ [] → Below A (hideAll s.heap [L]) [env] s.heap → K.In s.heap → Top p loose mean mg mb s.heap →
      wpAny (model prog w) (A.deeper (envOf qual scope L' f cdv)) (execs body (envOf qual scope L' f cdv))
        (fun fl s' => R (.ok (.ret (match fl with | .ret v => v | _ => .none))) s')
        (fun e s' => wpAny (model prog w) (A.deeper (envOf qual scope L' f cdv)) (leaving (envOf qual scope L' f cdv) e) (fun _ s'' => R (.error e) s'') (fun e' s'' => R (.error e') s'') s')
        { s with heap := h₁, toks := s.toks + binds.length })
    (hco : scope.isCoroutine = false) (hgen : scope.isGenerator = false) (hk : scope.kind = .function)
    (hcell : ∀ x ∈ scope.names, x.2 ≠ .cell) : codeAny (model prog w) A (.call (.ref f) args) R s := by
  refine codeAny_call_def (fd := fnOf name qual params body scope dV kV doc pm an cdv ct) (body := body) (binds := binds) hroom ((X₀.keeps F.keep) _ _ ho) rfl (T.nolimit.keeps F.keep) (codeRec_of (X₀.keeps F.keep) hcd) rfl hbind hcell hloc (fun h₁ hns hk₁ => ?_) hco hgen hk
  refine h s.heap.objs.size h₁ ⟨hns, fun b o e => hk₁ b o e, Nat.le_refl _⟩ News.nil ⟨hA, fun b o e => of_hideAll _ e, ?_⟩ (X₀.keeps F.keep) (T.keeps F.keep)
  exact .cons (by rw [hke]; decide) hf F.ns (hideAll_none _ (.head _)) trivial
end
theorem not_there {h h1 : Heap} {L' so : Addr} {m' : Str → Option Value} (F' : Fr h L' h1 m') (hn : h1.get? so = none) : h.get? so = none := by
  cases e : h.get? so with
  | none => rfl
  | some o => rw [F'.keep _ _ e] at hn; cases hn
theorem split_back {h₀ h h1 h2 : Heap} {L L' : Addr} {m m' : Str → Option Value} {news : List (Addr × Obj)} {l : List Addr} (F : Fr h₀ L h m) (F' : Fr h L' h1 m') (N' : News h L' h1 news) (six : ∀ q ∈ l, ∃ o, (q, o) ∈ news)
    (kb : ∀ b o, (hideAll h [L]).get? b = some o → h2.get? b = some o) (ku : ∀ b o, h1.get? b = some o → (∀ q ∈ l, q ≠ b) → (∀ vs, o.data ≠ .fields vs) → ∃ sl, h2.get? b = some { o with slots := sl }) :
    Fr h₀ L h2 m ∧ (∀ b o, h.get? b = some o → b ≠ L → h2.get? b = some o) := by
  have k1 : ∀ b o, h.get? b = some o → b ≠ L → h2.get? b = some o := fun b o e hb => kb b o (hideAll_get _ e fun q => hb (List.mem_singleton.mp q))
  obtain ⟨oL, es, ep, hL, hLd, hLk, hLf⟩ := F.ns
  obtain ⟨sl, hsl⟩ := ku L oL (F'.keep _ _ hL) (fun q hq e => by
    obtain ⟨o, ho⟩ := six q hq
    have := (N' _ ho).2.2
    rw [show q = L from e, hL] at this; cases this) (fun vs e => by rw [hLd] at e; cases e)
  exact ⟨⟨⟨_, es, ep, hsl, hLd, hLk, hLf⟩, fun b o e => k1 b o (F.keep b o e) (Nat.ne_of_lt (Nat.lt_of_lt_of_le (Heap.lt_size e) F.above)), F.above⟩, k1⟩
theorem ln_KuSplit_2 : True := by
  k_with "ktr_rel" => (first | exact List.forall_mem_nil _ | (refine' List.forall_mem_cons.mpr ⟨?za, ?zb⟩; (case za => k_mem); (case zb => ktr_rel)))
  k_with "tb_rel" => (first | exact Upds.nil | (refine' Upds.cons ?za ?zb; (case za => k_upd); (case zb => tb_rel)))
  k_with "call ref" => ((k_here; (with_reducible show wpAny _ _ (call (Value.ref 777) _ _) _ _ _); refine Hold.of ?_))
  k_with "call type:list" => ((refine Hold.of ?_))
  trivial
theorem use_list {PG : Program} {LS : List Str} {w : World} {mean : ExcName → Option Value} {mg mb : Str → Option Value} {dp un : Nat} {gd : Option (List Code)} {env : Env} {outer : List Env} {A₀ : Around} {base h₀ : Heap} {L : Addr} {m : Str → Option Value} {s : Shared} {Q : Value → Shared → Prop} {E : Value → Shared → Prop}
    (B : Below A₀ base outer h₀) (F : Fr h₀ L s.heap m) (X : (hd.heap_1 w.params).In h₀) (T : Top PG LS mean mg mb h₀) (hf : env.frame = some L) (hk : env.scope.kind = .function) (hdp : dp + 30 < recursionLimit) (hu : un + 302 < cLine)
    {x W : Str} {k0 k1 k2 k3 k4 k5 k6 k7 k8 k9 k10 k11 k12 k13 k14 k15 k16 k17 k18 v4 v5 v6 v8 v9 v10 v13 v14 v18 t1 t2 t3 t4 t5 t6 t7 t8 : Tok} {n1 n2 : Int} (hx : x.length ≤ 2000) {la ld a d pb fs : Addr} (ne_la_ld : Ap la ld) (ne_la_a : Ap la a) (ne_la_d : Ap la d) (ne_la_pb : Ap la pb) (ne_la_fs : Ap la fs) (ne_ld_a : Ap ld a) (ne_ld_d : Ap ld d) (ne_ld_pb : Ap ld pb) (ne_ld_fs : Ap ld fs) (ne_a_d : Ap a d) (ne_a_pb : Ap a pb) (ne_a_fs : Ap a fs) (ne_d_pb : Ap d pb) (ne_d_fs : Ap d fs) (ne_pb_fs : Ap pb fs) {wd : List Nat} {rem : List (List Nat)} (hok : ∀ u ∈ wd :: rem, WordOk W u) (hl : x.cps.toList = jsp (wd :: rem)) (hlen : rem.length + 1 ≤ 1000)
    {news : List (Addr × Obj)} (N : News h₀ L s.heap news) (hC : ∀ pq ∈ ([(la, instObj 777 ld), (ld, lexR w k0 k1 k2 k3 k4 k5 k6 k7 k8 k9 k10 k11 k12 k13 k14 k15 k16 k17 k18 v4 v5 v6 v8 v9 v10 v13 v14 v18 a pb fs W (Str.ofString "") true (.str (Str.ofString " ") t7) (.str (Str.ofString "") t8)), (a, instObj 684 d), (pb, dq n1 []), (fs, dq n2 []), (d, ioD w t1 t2 t3 t4 t5 x (0 : Nat) t6)] : List (Addr × Obj)), pq ∈ news)
    (hQ : ∀ so vals n h' tk', StrsAre vals (wd :: rem) → (∀ b o, base.get? b = some o → h'.get? b = some o) → (∀ b o, s.heap.get? b = some o → (∀ q ∈ ([la, ld, a, d, pb, fs] : List Addr), q ≠ b) → (∀ vs, o.data ≠ .fields vs) → ∃ sl, h'.get? b = some { o with slots := sl }) → h'.get? so = some (listOf vals.toArray n) → s.heap.get? so = none → Q (.ref so) { s with heap := h', toks := tk' }) :
    wpAny (model PySem.Challenge.pw_ku0029_01 w) (⟨none, dp, some (env :: outer), gd, un⟩ : Around) (call (.type "list") [.ref la]) Q E s := by
  refine list_lex w mean mg mb dp un gd env outer A₀ base h₀ L m B X T hf hk hdp hu x W (fun i => match i with | 0 => k0 | 1 => k1 | 2 => k2 | 3 => k3 | 4 => k4 | 5 => k5 | 6 => k6 | 7 => k7 | 8 => k8 | 9 => k9 | 10 => k10 | 11 => k11 | 12 => k12 | 13 => k13 | 14 => k14 | 15 => k15 | 16 => k16 | 17 => k17 | _ => k18) (fun i => match i with | 4 => v4 | 5 => v5 | 6 => v6 | 8 => v8 | 9 => v9 | 10 => v10 | 13 => v13 | 14 => v14 | _ => v18) t1 t2 t3 t4 t5 n1 n2 hx la ld a d pb fs ne_la_ld ne_la_a ne_la_d ne_la_pb ne_la_fs ne_ld_a ne_ld_d ne_ld_pb ne_ld_fs ne_a_d ne_a_pb ne_a_fs ne_d_pb ne_d_fs ne_pb_fs wd rem s t6 t7 t8 Q E hok hl F (fun q hq => N q (hC q ?_)) hlen hQ
  have hl' : (ld, lexR w k0 k1 k2 k3 k4 k5 k6 k7 k8 k9 k10 k11 k12 k13 k14 k15 k16 k17 k18 v4 v5 v6 v8 v9 v10 v13 v14 v18 a pb fs W (Str.ofString "") true (.str (Str.ofString " ") t7) (.str (Str.ofString "") t8)) ∈ ([(la, instObj 777 ld), (ld, lexR w k0 k1 k2 k3 k4 k5 k6 k7 k8 k9 k10 k11 k12 k13 k14 k15 k16 k17 k18 v4 v5 v6 v8 v9 v10 v13 v14 v18 a pb fs W (Str.ofString "") true (.str (Str.ofString " ") t7) (.str (Str.ofString "") t8)), (a, instObj 684 d), (pb, dq n1 []), (fs, dq n2 []), (d, ioD w t1 t2 t3 t4 t5 x (0 : Nat) t6)] : List (Addr × Obj)) := .tail _ (.head _)
  rw [lexR_eq] at hl'
  simp only [List.mem_cons, List.not_mem_nil, or_false] at hq
  rcases hq with h | h | h | h | h | h
  · rw [h]; exact .head _
  · rw [h]; exact .tail _ (.tail _ (.head _))
  · rw [h]; exact .tail _ (.tail _ (.tail _ (.head _)))
  · rw [h]; exact .tail _ (.tail _ (.tail _ (.tail _ (.head _))))
  · rw [h]; exact hl'
  · rw [h]; exact .tail _ (.tail _ (.tail _ (.tail _ (.tail _ (.head _)))))
noncomputable def WordL (u : List Nat) : Prop := ∃ wr, u = 47 :: wr ∧ wr.length ≤ 199 ∧ ∀ c ∈ u, okc c
theorem wordOk_of {W : Str} {us : List (List Nat)} (hW : ¬ 47 ∈ W.cps.toList) (h : ∀ u ∈ us, WordL u) : ∀ u ∈ us, WordOk W u := fun u hu => by
  obtain ⟨wr, rfl, h1, h2⟩ := h u hu
  exact ⟨47, wr, rfl, hW, h1, h2⟩
set_option maxHeartbeats 4000000 in
theorem split_spec {PG : Program} {LS : List Str} (w : World) (mean : ExcName → Option Value) (mg mb : Str → Option Value) (dp un : Nat) (gd : Option (List Code)) (env : Env) (h₀ : Heap) (L : Addr) (m : Str → Option Value) (s : Shared) (Q : Value → Shared → Prop) (E : Value → Shared → Prop)
   (F : Fr h₀ L s.heap m) (X : (hd.heap_1 w.params).In h₀) (T : Top PG LS mean mg mb h₀) (hf : env.frame = some L) (hk : env.scope.kind = .function) (hdp : dp + 60 < recursionLimit) (hu : un + 600 < cLine) (x : Str) (tx : Tok) (hx : x.length ≤ 2000)
   (wd : List Nat) (rem : List (List Nat)) (hok : ∀ u ∈ wd :: rem, WordL u) (hl : x.cps.toList = jsp (wd :: rem)) (hlen : rem.length + 1 ≤ 1000)
   (hret : ∀ so vals n h' tk', StrsAre vals (wd :: rem) → Fr h₀ L h' m → (∀ b o, s.heap.get? b = some o → b ≠ L → h'.get? b = some o) → h'.get? so = some (listOf vals.toArray n) → s.heap.get? so = none → Q (.ref so) { s with heap := h', toks := tk' }) :
   wpAny (model PySem.Challenge.pw_ku0029_01 w) (⟨none, dp, some [env], gd, un⟩ : Around) (call (.ref 789) [.str x tx]) Q E s := by
  refine wpAny_call ?_
  refine' code_defS F X T rfl hf hk ?k6 ?k7 ?k8 ?k9 ?kB ?_ ?c2 ?c3 ?c4 ?c5
  case k6 => k_is
  case k7 => k_is
  case k8 => k_room
  case k9 => first | exact BindsTo.of_eq rfl | exact binds_K (by k_in) rfl (by k_is) rfl rfl rfl
  case c5 => decide
  case kB => exact locs rfl
  case c2 => exact rfl
  case c3 => exact rfl
  case c4 => exact rfl
  intro L' h' F' N' B' X' T'
  clear X T
  (try dsimp only)
  (try k_lift B')
  (try k_fold)
  k_steps
  refine Hold.mk ?_
  refine' nl_spec _ _ _ _ _ _ _ _ _ _ _ _ _ _ _ _ _ ?B ?F ?X ?T ?hf ?hk ?hdp ?hu x _ hx ?_
  case B => k_asm
  case F => k_asm
  case X => k_asm
  case T => k_asm
  case hf => exact rfl
  case hk => exact rfl
  case hdp => k_room
  case hu => k_units
  intro k0 k1 k2 k3 k4 k5 k6 k7 k8 k9 k10 k11 k12 k13 k14 k15 k16 k17 k18 v4 v5 v6 v8 v9 v10 v13 v14 v18 t1 t2 t3 t4 t5 t6 t7 t8 n1 n2 la ld a d pb fs h1 tk1 a1 a2 a3 a4 a5 a6 a7 a8 a9 a10 a11 a12 a13 a14 a15 F1 keep1 N1 new1
  (try simp only [List.cons_append, List.nil_append] at N1)
  (try dsimp only)
  k_steps
  refine Hold.mk ?_
  refine' use_list ?B ?F ?X ?T ?hf ?hk ?hdp ?hu hx ?ne_la_ld ?ne_la_a ?ne_la_d ?ne_la_pb ?ne_la_fs ?ne_ld_a ?ne_ld_d ?ne_ld_pb ?ne_ld_fs ?ne_a_d ?ne_a_pb ?ne_a_fs ?ne_d_pb ?ne_d_fs ?ne_pb_fs ?hok hl hlen ?N ?hC ?_
  case B => k_asm
  case F => k_asm
  case X => k_asm
  case T => k_asm
  case hf => exact rfl
  case hk => exact rfl
  case hdp => k_room
  case hu => k_units
  case N => k_asm
  case hC => ktr_rel
  case hok => exact wordOk_of (by decide +kernel) hok
  case ne_la_ld => first | assumption | exact Ap.mk (by k_ne)
  case ne_la_a => first | assumption | exact Ap.mk (by k_ne)
  case ne_la_d => first | assumption | exact Ap.mk (by k_ne)
  case ne_la_pb => first | assumption | exact Ap.mk (by k_ne)
  case ne_la_fs => first | assumption | exact Ap.mk (by k_ne)
  case ne_ld_a => first | assumption | exact Ap.mk (by k_ne)
  case ne_ld_d => first | assumption | exact Ap.mk (by k_ne)
  case ne_ld_pb => first | assumption | exact Ap.mk (by k_ne)
  case ne_ld_fs => first | assumption | exact Ap.mk (by k_ne)
  case ne_a_d => first | assumption | exact Ap.mk (by k_ne)
  case ne_a_pb => first | assumption | exact Ap.mk (by k_ne)
  case ne_a_fs => first | assumption | exact Ap.mk (by k_ne)
  case ne_d_pb => first | assumption | exact Ap.mk (by k_ne)
  case ne_d_fs => first | assumption | exact Ap.mk (by k_ne)
  case ne_pb_fs => first | assumption | exact Ap.mk (by k_ne)
  intro so vals n h'' tk'' hs kb ku hso hno
  (with_reducible rename Fr _ _ _ _ => kF)
  (with_reducible rename News _ _ _ _ => kN)
  have sb := split_back (l := [_, _, _, _, _, _]) F kF kN (List.forall_mem_cons.mpr ⟨⟨_, by k_mem⟩, (List.forall_mem_cons.mpr ⟨⟨_, by k_mem⟩, (List.forall_mem_cons.mpr ⟨⟨_, by k_mem⟩, (List.forall_mem_cons.mpr ⟨⟨_, by k_mem⟩, (List.forall_mem_cons.mpr ⟨⟨_, by k_mem⟩, (List.forall_mem_cons.mpr ⟨⟨_, by k_mem⟩, List.forall_mem_nil _⟩)⟩)⟩)⟩)⟩)⟩) kb ku
  exact hret so vals n _ _ hs sb.1 sb.2 hso (not_there kF hno)
end
section
theorem ln_KuLaw_0 : True := by
  k_with_none
  trivial
/-- the figures that the law builds out of the script's first remainders -/
noncomputable def figs0 (l : List Nat) : List Nat := if l.isEmpty then [1, 2, 0, 2] else l
noncomputable def figs1 (l : List Nat) : List Nat := figs0 l ++ (List.replicate ((figs0 l).sum + 1 - (figs0 l).length) 0 ++ List.replicate ((figs0 l).length - ((figs0 l).sum + 1)) 2)
noncomputable def figsOf (l : List Nat) (b : Bool) : List Nat := if b then (figs1 l).dropLast else figs1 l
/-- one file read: the pile's tokens, each the places that it stands for -/
noncomputable def stepI (st : List (List Nat)) (i f : Nat) : Option (List (List Nat)) :=
  if st.length < f then none else some ((i :: (st.take f).flatten) :: st.drop f)
noncomputable def pileI : List (List Nat) → List (Nat × Nat) → Option (List (List Nat))
  | st, [] => some st
  | st, (i, f) :: r => (stepI st i f).bind fun st' => pileI st' r
noncomputable def readI (files : List (Nat × Nat)) : Option (List Nat) := match pileI [] files.reverse with
  | some [t] => some t
  | _ => none
noncomputable def rot {α : Type} (k : Nat) (l : List α) : List α := l.drop k ++ l.take k
noncomputable def filesI (figs : List Nat) : List (Nat × Nat) := (List.range figs.length).zip figs
noncomputable def toldI (figs : List Nat) : List (Option (List Nat)) := (List.range figs.length).map fun k => readI (rot k (filesI figs))
noncomputable def sumsI : Int → List Nat → List Int
  | a, [] => [a]
  | a, f :: r => a :: sumsI (a + f - 1) r
/-- the place of the first least one -/
noncomputable def leastI : List Int → Nat → Nat → Int → Nat
  | [], _, at_, _ => at_
  | x :: r, i, at_, m => if x < m then leastI r (i + 1) i x else leastI r (i + 1) at_ m
noncomputable def placeI (figs : List Nat) : Nat := leastI (sumsI 0 figs) 0 0 0 % figs.length
noncomputable def totalI (figs : List Nat) : Int := (figs.sum : Int) - figs.length
noncomputable def dueI (figs : List Nat) : List (Option (List Nat)) := (List.range figs.length).map fun k =>
  if totalI figs = -1 ∧ k = placeI figs then some (rot (placeI figs) (List.range figs.length)) else none
noncomputable def allL : Nat → List (List Nat)
  | 0 => [[]]
  | n + 1 => [] :: (allL n).flatMap fun l => [0 :: l, 1 :: l, 2 :: l]
theorem allL_mem : ∀ (n : Nat) (l : List Nat), l.length ≤ n → (∀ x ∈ l, x < 3) → l ∈ allL n
  | 0, [], _, _ => .head _
  | n + 1, [], _, _ => .head _
  | n + 1, x :: l, h, hx => by
    refine .tail _ (List.mem_flatMap.mpr ⟨l, allL_mem n l (Nat.le_of_succ_le_succ h) fun y hy => hx y (.tail _ hy), ?_⟩)
    have h3 := hx x (.head _)
    match x, h3 with
    | 0, _ => exact .head _
    | 1, _ => exact .tail _ (.head _)
    | 2, _ => exact .tail _ (.tail _ (.head _))
noncomputable def goodI (figs : List Nat) : Bool := decide (toldI figs = dueI figs) && figs.all (fun f => decide (f < 3)) && decide (figs.length ≤ 11) && decide (0 < figs.length)
theorem good_all : (allL 5).all (fun l => goodI (figsOf l false) && (!(l.length == 3 || l.length == 5) || goodI (figsOf l true))) = true := by decide +kernel
theorem good_of {l : List Nat} {b : Bool} (h : l.length ≤ 5) (hx : ∀ x ∈ l, x < 3) (hb : b = true → l.length = 3 ∨ l.length = 5) : goodI (figsOf l b) = true := by
  have := List.all_eq_true.mp good_all l (allL_mem 5 l h hx)
  rw [Bool.and_eq_true, Bool.or_eq_true] at this
  cases b with
  | false => exact this.1
  | true =>
    rcases this.2 with q | q
    · rcases hb rfl with e | e <;> simp [e] at q
    · exact q
theorem good_told {figs : List Nat} (h : goodI figs = true) : toldI figs = dueI figs ∧ (∀ f ∈ figs, f < 3) ∧ figs.length ≤ 11 ∧ 0 < figs.length := by
  unfold goodI at h
  simp only [Bool.and_eq_true, decide_eq_true_eq, List.all_eq_true] at h
  exact ⟨h.1.1.1, h.1.1.2, h.1.2, h.2⟩
end
section
open PyProof.Rows PySem PySem.Calls PySem.W
theorem ln_KuFor_0 : True := by
  k_with_none
  trivial
section
variable {prog : Program} {w : World} {A : Around} {s : Shared} {env : Env} {h₀ : Heap} {E : Value → Shared → Prop} {Q : Flow → Shared → Prop}
/-- what a turn of the loop leaves behind -/
noncomputable def ForEnd (h₀ : Heap) (L I : Addr) (oI : Obj) (J : (Str → Option Value) → List (Addr × Obj) → Prop) (s₁ : Shared) (Q : Flow → Shared → Prop) (f : Flow) (s₂ : Shared) : Prop := match f with
  | .ret v => Q (.ret v) s₂
  | .brk => Q .next s₂
  | _ => ∃ h' tk m' news', s₂ = { s₁ with heap := h', toks := tk } ∧ Fr h₀ L h' m' ∧ News h₀ L h' ((I, oI) :: news') ∧ (∀ p ∈ news', p.1 ≠ I) ∧ J m' news'
/-- the source of a loop over a list, and what holds between its turns -/
noncomputable def ForSrc (prog : Program) (w : World) (A : Around) (h₀ : Heap) (env : Env) (target : PySem.Expr) (body : List Stmt) (Q : Flow → Shared → Prop) (E : Value → Shared → Prop) (xv : Value) (s₁ : Shared) : Prop :=
  ∃ (l : Addr) (vs : List Value) (m : Str → Option Value) (news : List (Addr × Obj)) (J : Nat → (Str → Option Value) → List (Addr × Obj) → Prop), xv = .ref l ∧ s₁.heap.IsList l vs.toArray ∧
    ((∃ ol, h₀.get? l = some ol) ∨ (l ≠ env.locals ∧ ∃ n, ∀ i m' news', J i m' news' → (l, listOf vs.toArray n) ∈ news')) ∧ Fr h₀ env.locals s₁.heap m ∧ News h₀ env.locals s₁.heap news ∧ J 0 m news ∧
    (∀ i v m₁ news₁ h tk I oI, vs[i]? = some v → J i m₁ news₁ → Fr h₀ env.locals h m₁ → News h₀ env.locals h ((I, oI) :: news₁) → (∀ p ∈ news₁, p.1 ≠ I) →
      wpAny (model prog w) A (assign target env v) (fun _ s₃ => wpAny (model prog w) A (execs body env) (ForEnd h₀ env.locals I oI (J (i + 1)) { s₁ with heap := h, toks := tk } Q) E s₃) E { s₁ with heap := h, toks := tk }) ∧
    (∀ m' news' h' tk, J vs.length m' news' → Fr h₀ env.locals h' m' → News h₀ env.locals h' news' → Q .next { s₁ with heap := h', toks := tk })
theorem For_own {target iter : PySem.Expr} {pos : Pos} {body : List Stmt} (h₀ : Heap) (hh : A.handled = none)
    (h : wpAny (model prog w) A (eval iter env) (fun xv s₁ => ForSrc prog w A h₀ env target body Q E xv s₁) E s)
    (hs : ∀ x, foldedSetIterable iter env x = pure x) (hE : PassesOwn (model prog w) A env E := by passes_own) :
    wpAny (model prog w) A (exec (.For target iter body [] pos) env) Q E s := by
  refine wpAny_For (wpAny_mono h (fun xv s₁ h₁ => ?_) fun _ _ e => e) hs
  obtain ⟨l, vs, m, news, J, rfl, hl, hkeep, F, N, hJ, turn, done⟩ := h₁
  have hlt : l < s₁.heap.objs.size := by obtain ⟨_, e, _⟩ := hl; exact Heap.lt_size e
  have hne : l ≠ s₁.heap.objs.size := Nat.ne_of_lt hlt
  refine wpAny_pyIter_list hl ?_
  have W := Walks.list (prog := prog) (w := w) hh s₁.heap.objs.size l hne vs.toArray
  generalize hI : s₁.heap.objs.size = I at W
  have hIL : env.locals ≠ I := by rw [← hI]; exact Nat.ne_of_lt F.ns.lt
  have hI₀ : h₀.get? I = none := by rw [← hI]; exact next_is_new F
  have old : ∀ b o, h₀.get? b = some o → b ≠ I := fun b o e hb => by rw [hb, hI₀] at e; cases e
  refine codeAny_forLoop_any (R := fun r s' => match r with | .ok f => Q f s' | .error e => cameBackBy (model prog w) A env E e s')
    (fun k s' => ∃ h' tk m' news' i, s' = { s₁ with heap := h', toks := tk } ∧ (h'.IsListIter I l i ∧ h'.IsList l vs.toArray) ∧ Fr h₀ env.locals h' m' ∧ News h₀ env.locals h' news' ∧ (∀ p ∈ news', p.1 ≠ I) ∧ J i m' news' ∧ i ≤ vs.length ∧ k = vs.length + 1 - i) ?_ (vs.length + 1)
    ⟨_, _, m, news, 0, rfl, ⟨⟨_, by rw [← hI]; exact Heap.get?_push_size _ rfl, rfl, rfl⟩, hl.at fun o e => Heap.get?_push_of_some _ e⟩, F.push _, (fun p hp => ⟨Heap.get?_push_of_some _ (N p hp).1, (N p hp).2⟩),
      (fun p hp e => absurd (Heap.lt_size (N p hp).1) (by rw [e, ← hI]; exact Nat.lt_irrefl _)), hJ, Nat.zero_le _, rfl⟩
  rintro k s' ⟨h', tk, m', news', i, rfl, hst', F', N', hnw', hJ', hi, rfl⟩
  have next : ∀ h₁ : Heap, (∀ b o, b ∉ [I] → h'.get? b = some o → h₁.get? b = some o) → Fr h₀ env.locals h₁ m' ∧ News h₀ env.locals h₁ news' := fun h₁ hk₁ =>
    ⟨⟨F'.ns.at' fun o e => hk₁ _ o (by simpa using hIL) e, fun b o e => hk₁ b o (by simpa using old b o e) (F'.keep b o e), F'.above⟩, fun p hp => ⟨hk₁ _ _ (by simpa using hnw' p hp) (N' p hp).1, (N' p hp).2⟩⟩
  by_cases hlt : i < vs.length
  · refine W.item i _ _ _ (by simpa using hlt) hst' fun v h₁ tk₁ hP hst₁ hk₁ => ?_
    obtain ⟨F₁, N₁⟩ := next h₁ hk₁
    obtain ⟨oI, hoI, hcI, hdI⟩ := id hst₁.1
    refine letGo_listiter hst₁.1 ?_
    have hv : vs[i]? = some v := by simpa using hP
    have NI : News h₀ env.locals h₁ ((I, oI) :: news') := fun p hp => by
      rcases List.mem_cons.mp hp with rfl | hp
      · exact ⟨hoI, Ne.symm hIL, hI₀⟩
      · exact N₁ p hp
    refine wpAny_passesOwn hE (wpAny_mono (turn i v m' news' h₁ tk₁ I oI hv hJ' F₁ NI hnw') (fun _ s₂ h₂ => wpAny_passesOwn hE (wpAny_mono h₂ (fun f s₃ h₃ => ?_) fun _ _ e => e)) fun _ _ e => e)
    have fin : (∃ h' tk m' news', s₃ = { s₁ with heap := h', toks := tk } ∧ Fr h₀ env.locals h' m' ∧ News h₀ env.locals h' ((I, oI) :: news') ∧ (∀ p ∈ news', p.1 ≠ I) ∧ J (i + 1) m' news') →
        ∃ m, m < vs.length + 1 - i ∧ ∃ h' tk m' news' j, s₃ = { s₁ with heap := h', toks := tk } ∧ (h'.IsListIter I l j ∧ h'.IsList l vs.toArray) ∧ Fr h₀ env.locals h' m' ∧ News h₀ env.locals h' news' ∧ (∀ p ∈ news', p.1 ≠ I) ∧ J j m' news' ∧ j ≤ vs.length ∧ m = vs.length + 1 - j := by
      rintro ⟨h3, tk3, m3, news3, rfl, F3, N3, hn3, hJ3⟩
      refine ⟨vs.length + 1 - (i + 1), by omega, h3, tk3, m3, news3, i + 1, rfl, ⟨⟨oI, (N3 _ (.head _)).1, hcI, hdI⟩, ?_⟩, F3, fun p hp => N3 p (.tail _ hp), hn3, hJ3, hlt, rfl⟩
      rcases hkeep with ⟨ol, hol⟩ | ⟨_, n, hn⟩
      · obtain ⟨o1, e1, r1⟩ := id hst₁.2
        have := F₁.keep _ _ hol
        rw [e1] at this
        cases this
        exact ⟨_, F3.keep _ _ hol, r1⟩
      · exact ⟨_, (N3 _ (.tail _ (hn _ _ _ hJ3))).1, rfl, n, rfl⟩
    cases f with
    | ret v => exact h₃
    | brk => exact h₃
    | next => exact fin h₃
    | cont => exact fin h₃
  · have hin : i = vs.length := by omega
    subst hin
    refine W.done _ _ _ (by simpa using hst') fun h₁ tk₁ hk₁ => wpAny_execs_nil ?_
    obtain ⟨F₁, N₁⟩ := next h₁ hk₁
    exact done m' news' h₁ tk₁ hJ' F₁ N₁
end
end
section
open PyProof.Rows PyProof.Rows.LCg PyProof.Rows.LCp PySem PySem.Calls PySem.W
theorem ln_KuComp_0 : True := by
  k_with_none
  trivial
section
variable {prog : Program} {w : World} {A : Around} {E : Value → Shared → Prop} {s : Shared} {h₀ : Heap} {L : Addr} {m : Str → Option Value} {env : Env}
/-- the items of an iterator that hands out pairs, and what holds between the turns of a comprehension over it -/
structure CompSrcB (prog : Program) (w : World) (A : Around) (h₀ : Heap) (L : Addr) (m : Str → Option Value) (env : Env) (elt : PySem.Expr) (x x₂ : Str) (scope : Scope) (cl : List (Str × Addr)) (I : Addr) (fp wr : List Addr) (n : Nat) (Pt : Nat → Array Value → Prop) (St : Nat → Heap → Prop) (Mid : Nat → Addr → Heap → Prop) (news : List (Addr × Obj)) (J : Nat → List Value → List (Addr × Obj) → Prop) (it : Value) (s₂ : Shared) : Prop where
  e : it = .ref I
  hh : A.handled = none
  W : WalksU prog w A I fp wr n Pt St Mid
  hPt : (∀ i vals, Pt i vals → ∃ v₁ v₂, vals = #[v₁, v₂])
  hsz : n ≤ 100000
  hst : St 0 s₂.heap
  hfp : (∀ b ∈ fp, b < s₂.heap.objs.size)
  hwr : (∀ b ∈ wr, b ≠ L ∧ h₀.get? b = none)
  hwo : (∀ i h, St i h → ∀ b ∈ wr, ∃ o, h.get? b = some o)
  F : Fr h₀ L s₂.heap m
  N : News h₀ L s₂.heap news
  hnw : (∀ p ∈ news, p.1 ∉ wr)
  hkeep : (∀ b ∈ fp, b ∈ wr ∨ (∃ o, h₀.get? b = some o) ∨ ∃ o, ∀ i ys nw, J i ys nw → (b, o) ∈ nw)
  hJ : J 0 [] news
  turn : (∀ i ys v₁ v₂ news₁ own C oC D m₂ h tk (E' : Value → Shared → Prop), Pt i #[v₁, v₂] → J i ys news₁ → own.map (·.1) = wr → NsObj oC m₂ → m₂ x = some v₁ → m₂ x₂ = some v₂ → Fr h₀ L h m → News h₀ L h (own ++ (C, oC) :: (D, lst ys) :: news₁) →
      C ∉ wr → D ∉ wr → C ≠ D → (∀ p ∈ news₁, p.1 ∉ wr ∧ p.1 ≠ C ∧ p.1 ≠ D) →
      wpAny (model prog w) A (eval elt (compEnvC scope cl C env)) (fun y s₃ => ∃ h' tk' news₂, s₃ = { s₂ with heap := h', toks := tk' } ∧ Fr h₀ L h' m ∧ News h₀ L h' (own ++ (C, oC) :: (D, lst ys) :: news₂) ∧ (∀ p ∈ news₂, p.1 ∉ wr ∧ p.1 ≠ C ∧ p.1 ≠ D) ∧ J (i + 1) (ys ++ [y]) news₂) E' { s₂ with heap := h, toks := tk })
noncomputable def CompSrc (prog : Program) (w : World) (A : Around) (h₀ : Heap) (L : Addr) (m : Str → Option Value) (env : Env) (elt : PySem.Expr) (x x₂ : Str) (scope : Scope) (cl : List (Str × Addr)) (Q : Value → Shared → Prop) (it : Value) (s₂ : Shared) : Prop :=
  ∃ (I : Addr) (fp wr : List Addr) (n : Nat) (Pt : Nat → Array Value → Prop) (St : Nat → Heap → Prop) (Mid : Nat → Addr → Heap → Prop) (news : List (Addr × Obj)) (J : Nat → List Value → List (Addr × Obj) → Prop), CompSrcB prog w A h₀ L m env elt x x₂ scope cl I fp wr n Pt St Mid news J it s₂ ∧ (∀ D ys news₁ h tk, J n ys news₁ → Fr h₀ L h m → News h₀ L h ((D, lst ys) :: news₁) → (∀ p ∈ news₁, p.1 ≠ D) → Q (.ref D) { s₂ with heap := h, toks := tk })
noncomputable def CompSrcC (prog : Program) (w : World) (A : Around) (h₀ : Heap) (L : Addr) (m : Str → Option Value) (env : Env) (elt : PySem.Expr) (x x₂ : Str) (scope : Scope) (cl : List (Str × Addr)) (R : Addr → Addr → Shared → Prop) (it : Value) (s₂ : Shared) : Prop :=
  ∃ (I : Addr) (fp wr : List Addr) (n : Nat) (Pt : Nat → Array Value → Prop) (St : Nat → Heap → Prop) (Mid : Nat → Addr → Heap → Prop) (news : List (Addr × Obj)) (J : Nat → List Value → List (Addr × Obj) → Prop), CompSrcB prog w A h₀ L m env elt x x₂ scope cl I fp wr n Pt St Mid news J it s₂ ∧ (∀ D C ys news₁ m' h tk, J n ys news₁ → Fr h₀ L h m → h.Ns C m' → News h₀ L h ((D, lst ys) :: news₁) → (∀ p ∈ news₁, p.1 ≠ C ∧ p.1 ≠ D) → D ≠ C → C ≠ L → h₀.get? C = none → R D C { s₂ with heap := h, toks := tk })
theorem own_of {wr : List Addr} {h : Heap} (h1 : ∀ b ∈ wr, ∃ o, h.get? b = some o) : ∃ own : List (Addr × Obj), own.map (·.1) = wr ∧ ∀ p ∈ own, h.get? p.1 = some p.2 := by
  induction wr with
  | nil => exact ⟨[], rfl, fun p hp => nomatch hp⟩
  | cons b r ih =>
    obtain ⟨o, ho⟩ := h1 b (.head _)
    obtain ⟨own, e, k⟩ := ih fun c hc => h1 c (.tail _ hc)
    refine ⟨(b, o) :: own, by rw [List.map_cons, e], fun p hp => ?_⟩
    rcases List.mem_cons.mp hp with rfl | hp
    · exact ho
    · exact k p hp
/-- what a turn of the loop asks: the next item, the targets stored (Asg), the element, the append -/
noncomputable abbrev TurnOf (prog : Program) (w : World) (A : Around) (elt : PySem.Expr) (it acc : Value) (env : Env) (R : Result → Shared → Prop) (Asg : Env → (Value → Shared → Prop) → Value → (Shared → Prop) → Shared → Prop) (E₂ : Value → Shared → Prop) (P : Shared → Prop) (s : Shared) : Prop :=
  wpAny (model prog w) A (pyNext it) (fun r s₁ => match r with
    | none => R (.ok .next) s₁
    | some v => Asg env E₂ v (fun s₂ => wpAny (model prog w) A (eval elt env) (fun x s₃ => wpAny (model prog w) A (call (.builtin "list.append") [acc, x]) (fun _ s₄ => P s₄) E₂ s₃) E₂ s₂) s₁) E₂ s
inductive CoreSrc (prog : Program) (w : World) (A : Around) (h₀ : Heap) (L : Addr) (m : Str → Option Value) (env : Env) (elt tgt iter : PySem.Expr) (scope : Scope) (pos : Pos) (cl : List (Str × Addr)) (Rd : Addr → Addr → Shared → Prop) (s₂ : Shared) : Value → Prop
  | mk (I : Addr) (fp wr : List Addr) (n : Nat) (St : Nat → Heap → Prop) (Bd : Nat → (Str → Option Value) → Prop) (Asg : Env → (Value → Shared → Prop) → Value → (Shared → Prop) → Shared → Prop) (news : List (Addr × Obj)) (J : Nat → List Value → List (Addr × Obj) → Prop)
    (Wsub : ∀ b ∈ wr, b ∈ fp) (Wframe : ∀ i h h', St i h → (∀ b ∈ fp, ∀ o, h.get? b = some o → h'.get? b = some o) → St i h')
    (Wloop : ∀ (C : Addr) (acc : Value) (R : Result → Shared → Prop) (Iv : Nat → Shared → Prop), (∀ k s, Iv k s → TurnOf prog w A elt (.ref I) acc (compEnvC scope cl C env) R Asg (notedBy (model prog w) A (compEnvC scope cl C env) fun e s' => R (.error e) s') (fun s₄ => ∃ k', k' < k ∧ Iv k' s₄) s) → ∀ k s, Iv k s → codeAny (model prog w) A (.compLoop (.ListComp elt [⟨tgt, iter, [], 0⟩] scope pos) 0 (.ref I) acc (compEnvC scope cl C env)) R s)
    (Witem : ∀ (C : Addr) (i : Nat) (s : Shared) (m' : Str → Option Value) (K : Shared → Prop) (R : Result → Shared → Prop) (E₂ : Value → Shared → Prop), i < n → St i s.heap → C ∉ fp → s.heap.Ns C m' →
      (∀ h tk m₂, h.Ns C m₂ → Bd i m₂ → St (i + 1) h → (∀ b o, b ∉ wr → b ≠ C → s.heap.get? b = some o → h.get? b = some o) → K { s with heap := h, toks := tk }) →
      wpAny (model prog w) A (pyNext (.ref I)) (fun r s₁ => match r with
        | none => R (.ok .next) s₁
        | some v => Asg (compEnvC scope cl C env) E₂ v K s₁) E₂ s)
    (Wdone : ∀ (s : Shared) (Q : Option Value → Shared → Prop) (E : Value → Shared → Prop), St n s.heap → (∀ h' tk, (∀ b o, b ∉ wr → s.heap.get? b = some o → h'.get? b = some o) → Q none { s with heap := h', toks := tk }) → wpAny (model prog w) A (pyNext (.ref I)) Q E s)
    (Wself : ∀ i (s : Shared) (Q : Value → Shared → Prop) (E : Value → Shared → Prop), St i s.heap → Q (.ref I) s → wpAny (model prog w) A (pyIter (.ref I)) Q E s)
    (hsz : n ≤ 100000) (hst : St 0 s₂.heap) (hfp : ∀ b ∈ fp, b < s₂.heap.objs.size) (hwr : ∀ b ∈ wr, b ≠ L ∧ h₀.get? b = none) (hwo : ∀ i h, St i h → ∀ b ∈ wr, ∃ o, h.get? b = some o)
    (F : Fr h₀ L s₂.heap m) (N : News h₀ L s₂.heap news) (hnw : ∀ p ∈ news, p.1 ∉ wr) (hkeep : ∀ b ∈ fp, b ∈ wr ∨ (∃ o, h₀.get? b = some o) ∨ ∃ o, ∀ i ys nw, J i ys nw → (b, o) ∈ nw) (hJ : J 0 [] news)
    (turn : ∀ i ys news₁ own C oC D m₂ h tk (E' : Value → Shared → Prop), Bd i m₂ → J i ys news₁ → own.map (·.1) = wr → NsObj oC m₂ → Fr h₀ L h m → News h₀ L h (own ++ (C, oC) :: (D, lst ys) :: news₁) →
      C ∉ wr → D ∉ wr → C ≠ D → (∀ p ∈ news₁, p.1 ∉ wr ∧ p.1 ≠ C ∧ p.1 ≠ D) →
      wpAny (model prog w) A (eval elt (compEnvC scope cl C env)) (fun y s₃ => ∃ h' tk' news₂, s₃ = { s₂ with heap := h', toks := tk' } ∧ Fr h₀ L h' m ∧ News h₀ L h' (own ++ (C, oC) :: (D, lst ys) :: news₂) ∧ (∀ p ∈ news₂, p.1 ∉ wr ∧ p.1 ≠ C ∧ p.1 ≠ D) ∧ J (i + 1) (ys ++ [y]) news₂) E' { s₂ with heap := h, toks := tk })
    (done : ∀ D C ys news₁ m' h tk, J n ys news₁ → Fr h₀ L h m → h.Ns C m' → News h₀ L h ((D, lst ys) :: news₁) → (∀ p ∈ news₁, p.1 ≠ C ∧ p.1 ≠ D) → D ≠ C → C ≠ L → h₀.get? C = none → Rd D C { s₂ with heap := h, toks := tk }) :
    CoreSrc prog w A h₀ L m env elt tgt iter scope pos cl Rd s₂ (.ref I)
/-- what holds behind the loop, and between its turns -/
noncomputable def CompAt (h₀ : Heap) (L : Addr) (m : Str → Option Value) (s₂ : Shared) (wr : List Addr) (C D : Addr) (J : Nat → List Value → List (Addr × Obj) → Prop) (i : Nat) (ys : List Value) (m' : Str → Option Value) (news' : List (Addr × Obj)) (h' : Heap) (tk : Nat) (s' : Shared) : Prop :=
  s' = { s₂ with heap := h', toks := tk } ∧ Fr h₀ L h' m ∧ h'.Ns C m' ∧ News h₀ L h' ((D, lst ys) :: news') ∧ (∀ p ∈ news', p.1 ∉ wr ∧ p.1 ≠ C ∧ p.1 ≠ D) ∧ J i ys news'
theorem core_turn {elt : PySem.Expr} {scope : Scope} {cl : List (Str × Addr)} {s₂ : Shared} {use : Option (Value → Sem Unit)} {Q : Value → Shared → Prop} {I : Addr} {fp wr : List Addr} {n : Nat} {St : Nat → Heap → Prop} {Bd : Nat → (Str → Option Value) → Prop} {Asg : Env → (Value → Shared → Prop) → Value → (Shared → Prop) → Shared → Prop} {J : Nat → List Value → List (Addr × Obj) → Prop} {C D : Addr} {E₂ : Value → Shared → Prop}
    (hsz : n ≤ 100000) (hwr : ∀ b ∈ wr, b ≠ L ∧ h₀.get? b = none) (hwo : ∀ i h, St i h → ∀ b ∈ wr, ∃ o, h.get? b = some o)
    (Wframe : ∀ i h h', St i h → (∀ b ∈ fp, ∀ o, h.get? b = some o → h'.get? b = some o) → St i h')
    (Witem : ∀ (C : Addr) (i : Nat) (s : Shared) (m' : Str → Option Value) (K : Shared → Prop) (R : Result → Shared → Prop) (E₂ : Value → Shared → Prop), i < n → St i s.heap → C ∉ fp → s.heap.Ns C m' →
      (∀ h tk m₂, h.Ns C m₂ → Bd i m₂ → St (i + 1) h → (∀ b o, b ∉ wr → b ≠ C → s.heap.get? b = some o → h.get? b = some o) → K { s with heap := h, toks := tk }) →
      wpAny (model prog w) A (pyNext (.ref I)) (fun r s₁ => match r with
        | none => R (.ok .next) s₁
        | some v => Asg (compEnvC scope cl C env) E₂ v K s₁) E₂ s)
    (Wdone : ∀ (s : Shared) (Q : Option Value → Shared → Prop) (E : Value → Shared → Prop), St n s.heap → (∀ h' tk, (∀ b o, b ∉ wr → s.heap.get? b = some o → h'.get? b = some o) → Q none { s with heap := h', toks := tk }) → wpAny (model prog w) A (pyNext (.ref I)) Q E s)
    (hkeep : ∀ b ∈ fp, b ∈ wr ∨ (∃ o, h₀.get? b = some o) ∨ ∃ o, ∀ i ys nw, J i ys nw → (b, o) ∈ nw)
    (turn : ∀ i ys news₁ own C oC D m₂ h tk (E' : Value → Shared → Prop), Bd i m₂ → J i ys news₁ → own.map (·.1) = wr → NsObj oC m₂ → Fr h₀ L h m → News h₀ L h (own ++ (C, oC) :: (D, lst ys) :: news₁) →
      C ∉ wr → D ∉ wr → C ≠ D → (∀ p ∈ news₁, p.1 ∉ wr ∧ p.1 ≠ C ∧ p.1 ≠ D) →
      wpAny (model prog w) A (eval elt (compEnvC scope cl C env)) (fun y s₃ => ∃ h' tk' news₂, s₃ = { s₂ with heap := h', toks := tk' } ∧ Fr h₀ L h' m ∧ News h₀ L h' (own ++ (C, oC) :: (D, lst ys) :: news₂) ∧ (∀ p ∈ news₂, p.1 ∉ wr ∧ p.1 ≠ C ∧ p.1 ≠ D) ∧ J (i + 1) (ys ++ [y]) news₂) E' { s₂ with heap := h, toks := tk })
    (done : ∀ D C ys news₁ m' h tk, J n ys news₁ → Fr h₀ L h m → h.Ns C m' → News h₀ L h ((D, lst ys) :: news₁) → (∀ p ∈ news₁, p.1 ≠ C ∧ p.1 ≠ D) → D ≠ C → C ≠ L → h₀.get? C = none → compPost (model prog w) A E use Q (.ref D) C (.ok .next) { s₂ with heap := h, toks := tk })
    (hDC : D ≠ C) (hD₀ : h₀.get? D = none) (hC₀ : h₀.get? C = none) (hDL : D ≠ L) (hCL : C ≠ L) (hCf : C ∉ fp) (hDf : ∀ b ∈ fp, b ≠ D) (hCw : C ∉ wr) (hDw : D ∉ wr) (oldw : ∀ b o, h₀.get? b = some o → b ∉ wr ∧ b ≠ C) (hLw : L ∉ wr)
    {i : Nat} {ys : List Value} {m' : Str → Option Value} {news' : List (Addr × Obj)} {h' : Heap} {tk : Nat}
    (hi : i ≤ n) (hyl : ys.length = i) (hst' : St i h') (F' : Fr h₀ L h' m) (hn' : h'.Ns C m') (N' : News h₀ L h' ((D, lst ys) :: news')) (off' : ∀ p ∈ news', p.1 ∉ wr ∧ p.1 ≠ C ∧ p.1 ≠ D) (hJ' : J i ys news') :
    TurnOf prog w A elt (.ref I) (.ref D) (compEnvC scope cl C env) (compPost (model prog w) A E use Q (.ref D) C) Asg E₂ (fun s₄ => ∃ k', k' < n + 1 - i ∧ ∃ i ys m' news' h' tk, i ≤ n ∧ k' = n + 1 - i ∧ ys.length = i ∧ St i h' ∧ CompAt h₀ L m s₂ wr C D J i ys m' news' h' tk s₄) { s₂ with heap := h', toks := tk } := by
  by_cases hlt : i < n
  · refine Witem C i _ _ _ (compPost (model prog w) A E use Q (.ref D) C) _ hlt hst' hCf hn' fun h₇ tk₇ m₂ hn₇ hb₇ hst₇ k₇ => ?_
    obtain ⟨own, eo, ko⟩ := own_of (hwo _ _ hst₇)
    obtain ⟨oC, heC, hoC⟩ := ns_obj hn₇
    have F₇ : Fr h₀ L h₇ m := ⟨F'.ns.at' fun o e => k₇ _ o hLw (Ne.symm hCL) e, fun b o e => k₇ b o (oldw b o e).1 (oldw b o e).2 (F'.keep b o e), F'.above⟩
    have N₇ : News h₀ L h₇ (own ++ (C, oC) :: (D, lst ys) :: news') := fun p hp => by
      rcases List.mem_append.mp hp with hp | hp
      · exact ⟨ko p hp, hwr _ (eo ▸ List.mem_map_of_mem hp)⟩
      · rcases List.mem_cons.mp hp with rfl | hp
        · exact ⟨heC, hCL, hC₀⟩
        · refine ⟨k₇ _ _ ?_ ?_ (N' p hp).1, (N' p hp).2⟩
          · rcases List.mem_cons.mp hp with rfl | hp
            · exact hDw
            · exact (off' p hp).1
          · rcases List.mem_cons.mp hp with rfl | hp
            · exact hDC
            · exact (off' p hp).2.1
    refine wpAny_mono (turn i ys news' own C oC D m₂ h₇ tk₇ _ hb₇ hJ' eo hoC F₇ N₇ hCw hDw (Ne.symm hDC) off') (fun y s₄ h₄ => ?_) fun _ _ e => e
    obtain ⟨h₈, tk₈, news₂, rfl, F₈, N₈, off₈, J₈⟩ := h₄
    have zC := (N₈ (C, oC) (List.mem_append.mpr (.inr (.head _)))).1
    have zD := (N₈ (D, lst ys) (List.mem_append.mpr (.inr (.tail _ (.head _))))).1
    have N₈' : News h₀ L h₈ news₂ := fun p hp => N₈ p (List.mem_append.mpr (.inr (.tail _ (.tail _ hp))))
    have hst₈ : St (i + 1) h₈ := Wframe _ _ _ hst₇ fun b hb o e => by
      rcases hkeep b hb with hw | ⟨o', ho'⟩ | ⟨o', ho'⟩
      · rw [← eo] at hw
        obtain ⟨p, hp, rfl⟩ := List.mem_map.mp hw
        have := ko p hp
        rw [e] at this; cases this
        exact (N₈ p (List.mem_append.mpr (.inl hp))).1
      · have := F₇.keep _ _ ho'
        rw [e] at this; cases this
        exact F₈.keep _ _ ho'
      · have := (N₇ (b, o') (List.mem_append.mpr (.inr (.tail _ (.tail _ (ho' _ _ _ hJ')))))).1
        rw [e] at this; cases this
        exact (N₈' _ (ho' _ _ _ J₈)).1
    clear turn done Witem Wdone hkeep
    refine append_at (hsz := by show ys.toArray.size ≤ sizeLine; rw [List.size_toArray, hyl, sizeLine_eq]; exact Nat.le_trans hi (Nat.le_trans hsz (by decide))) zD fun h₉ hs₉ hD₉ => ?_
    refine ⟨n + 1 - (i + 1), Nat.sub_lt_sub_left (Nat.lt_succ_of_lt hlt) (Nat.lt_succ_self i), i + 1, ys ++ [y], _, news₂, h₉, tk₈, hlt, rfl, by rw [List.length_append, List.length_singleton, hyl], Wframe _ _ _ hst₈ fun b hb o e => hs₉.extBut b o (hDf b hb) e, rfl, F₈.change hs₉ hDL hD₀,
      (hoC.ns zC).sameBut hs₉ (Ne.symm hDC), fun p hp => ?_, off₈, J₈⟩
    rcases List.mem_cons.mp hp with rfl | hp
    · exact ⟨hD₉.trans (congrArg some (lst_snoc ys y)), hDL, hD₀⟩
    · exact ⟨hs₉.extBut _ _ (off₈ p hp).2.2 (N₈' p hp).1, (N₈' p hp).2⟩
  · obtain rfl : i = n := Nat.le_antisymm hi (Nat.not_lt.mp hlt)
    refine Wdone _ _ _ hst' fun h₂ tk₂ hk₂ => ?_
    exact done D C ys news' m' h₂ tk₂ hJ' ⟨F'.ns.at' fun o e => hk₂ _ o hLw e, fun b o e => hk₂ b o (oldw b o e).1 (F'.keep b o e), F'.above⟩ (hn'.at' fun o e => hk₂ _ o hCw e) (fun p hp => ⟨hk₂ _ _ (by
      rcases List.mem_cons.mp hp with rfl | hp
      · exact hDw
      · exact (off' p hp).1) (N' p hp).1, (N' p hp).2⟩) (fun p hp => (off' p hp).2) hDC hCL hC₀
theorem Comp_core {elt tgt iter : PySem.Expr} {scope : Scope} {cl : List (Str × Addr)} {pos pos₂ : Pos} {use : Option (Value → Sem Unit)} {Q : Value → Shared → Prop}
    (hclos : closureFor scope env = pure cl) (hcell : ∀ y ∈ scope.names, y.2 ≠ .cell) (hkind : scope.kind = .function)
    (hnames : ∀ y ∈ scope.names, y.2 = .local → scope.names.lookup y.1 = some .local)
    (h : wpAny (model prog w) A (eval iter env) (fun xv s₁ => wpAny (model prog w) A (pyIter xv) (fun it s₂ => CoreSrc prog w A h₀ L m env elt tgt iter scope pos cl (fun D C s' => compPost (model prog w) A E use Q (.ref D) C (.ok .next) s') s₂ it) E s₁) E s)
    (hs : ∀ x, foldedSetIterable iter env x = pure x) :
    wpAny (model prog w) A (comprehension (.ListComp elt [⟨tgt, iter, [], 0⟩] scope pos) scope env pos₂ (newList []) false (eval iter env) use) Q E s := by
  refine wpAny_comprehension_free (use := use) rfl hs hclos hkind hnames (wpAny_mono h (fun xv s₁ h₁ => wpAny_mono h₁ (fun it s₂ h₂ => ?_) fun _ _ e => e) fun _ _ e => e)
  obtain ⟨I, fp, wr, n, St, Bd, Asg, news, J, Wsub, Wframe, Wloop, Witem, Wdone, Wself, hsz, hst, hfp, hwr, hwo, F, N, hnw, hkeep, hJ, turn, done⟩ := h₂
  refine wpAny_newObj_type (wpAny_newFunctionEnv hcell (by intro y hy; simp at hy) (fun h₁ hns₁ hsb₁ => ?_) hkind)
  dsimp only at hns₁ hsb₁ ⊢
  generalize hH2 : s₂.heap.push { cls := .type "list", dict := none, data := .seq ([] : List Value).toArray } = H2 at hns₁ hsb₁ ⊢
  have hC : H2.objs.size = s₂.heap.objs.size + 1 := by rw [← hH2, Heap.size_push]
  generalize hCC : H2.objs.size = C at hns₁ hsb₁ hC ⊢
  generalize hDD : s₂.heap.objs.size = D at hfp hC ⊢
  have hDC : D ≠ C := by rw [hC]; exact Nat.ne_of_lt (Nat.lt_succ_self _)
  have below : ∀ b, b < D → b ≠ C ∧ b ≠ D := fun b hb => ⟨by rw [hC]; exact Nat.ne_of_lt (Nat.lt_succ_of_lt hb), Nat.ne_of_lt hb⟩
  have old : ∀ b o, s₂.heap.get? b = some o → h₁.get? b = some o := fun b o e => hsb₁.extBut b o (below b (hDD ▸ Heap.lt_size e)).1 (Heap.get?_push_of_some _ (hH2 ▸ Heap.get?_push_of_some _ e))
  have e0 : H2.get? D = some (lst []) := by rw [← hH2, ← hDD]; exact Heap.get?_push_size _ rfl
  have hacc : h₁.get? D = some (lst []) := hsb₁.extBut _ _ hDC (Heap.get?_push_of_some _ e0)
  have hst₁ : St 0 h₁ := Wframe _ _ _ hst fun b _ o e => old b o e
  have fresh₀ : ∀ a, D ≤ a → h₀.get? a = none := fun a ha => by
    cases e : h₀.get? a with
    | none => rfl
    | some o' => exact absurd (Heap.lt_size (F.keep a o' e)) (Nat.not_lt.mpr (hDD ▸ ha))
  have hD₀ : h₀.get? D = none := fresh₀ _ (Nat.le_refl _)
  have hC₀ : h₀.get? C = none := fresh₀ _ (by rw [hC]; exact Nat.le_succ _)
  have hLlt : L < D := hDD ▸ F.ns.lt
  have hDL : D ≠ L := Ne.symm (below L hLlt).2
  have hCL : C ≠ L := Ne.symm (below L hLlt).1
  have hCf : C ∉ fp := fun hb => (below C (hfp C hb)).1 rfl
  have hDf : ∀ b ∈ fp, b ≠ D := fun b hb => (below b (hfp b hb)).2
  have hCw : C ∉ wr := fun hm => hCf (Wsub _ hm)
  have hDw : D ∉ wr := fun hm => hDf _ (Wsub _ hm) rfl
  have oldw : ∀ b o, h₀.get? b = some o → b ∉ wr ∧ b ≠ C := fun b o e => ⟨fun hb => (by rw [(hwr b hb).2] at e; cases e), fun q => (by rw [q, hC₀] at e; cases e)⟩
  have hLw : L ∉ wr := fun hm => (hwr _ hm).1 rfl
  have hnews : ∀ p ∈ news, p.1 ∉ wr ∧ p.1 ≠ C ∧ p.1 ≠ D := fun p hp => ⟨hnw p hp, below _ (hDD ▸ Heap.lt_size (N p hp).1)⟩
  have N₁ : News h₀ L h₁ ((D, lst []) :: news) := fun p hp => by
    rcases List.mem_cons.mp hp with rfl | hp
    · exact ⟨hacc, hDL, hD₀⟩
    · exact ⟨old _ _ (N p hp).1, (N p hp).2⟩
  have F₁ : Fr h₀ L h₁ m := F.keeps old
  clear hH2 hCC hDD e0 hacc below fresh₀ hLlt F N old hnw hfp hst hC hsb₁
  refine codeAny_compStart_list ?_ (Wself 0 _ _ _ hst₁ ?_)
  all_goals
    refine Wloop C (.ref D) _ (fun k s' => ∃ i ys m' news' h' tk, i ≤ n ∧ k = n + 1 - i ∧ ys.length = i ∧ St i h' ∧ CompAt h₀ L m s₂ wr C D J i ys m' news' h' tk s') ?_ (n + 1) _ ⟨0, [], _, news, h₁, _, Nat.zero_le _, rfl, rfl, hst₁, rfl, F₁, hns₁, N₁, hnews, hJ⟩
    rintro k s' ⟨i, ys, m', news', h', tk, hi, rfl, hyl, hst', rfl, F', hn', N', off', hJ'⟩
    exact core_turn hsz hwr hwo Wframe Witem Wdone hkeep turn done hDC hD₀ hC₀ hDL hCL hCf hDf hCw hDw oldw hLw hi hyl hst' F' hn' N' off' hJ'
theorem Comp_ownC {elt iter : PySem.Expr} {x x₂ : Str} {px px₂ tp : Pos} {tk : Nat} {scope : Scope} {cl : List (Str × Addr)} {pos pos₂ : Pos} {use : Option (Value → Sem Unit)} {Q : Value → Shared → Prop}
    (hclos : closureFor scope env = pure cl) (hcell : ∀ y ∈ scope.names, y.2 ≠ .cell) (hkind : scope.kind = .function)
    (hnames : ∀ y ∈ scope.names, y.2 = .local → scope.names.lookup y.1 = some .local) (hx : scope.names.lookup x = some .local) (hx₂ : scope.names.lookup x₂ = some .local) (hxx : x ≠ x₂)
    (h : wpAny (model prog w) A (eval iter env) (fun xv s₁ => wpAny (model prog w) A (pyIter xv) (fun it s₂ => CompSrcC prog w A h₀ L m env elt x x₂ scope cl (fun D C s' => compPost (model prog w) A E use Q (.ref D) C (.ok .next) s') it s₂) E s₁) E s)
    (hs : ∀ x, foldedSetIterable iter env x = pure x) :
    wpAny (model prog w) A (comprehension (.ListComp elt [⟨.Tuple [.Name x px, .Name x₂ px₂] tk tp, iter, [], 0⟩] scope pos) scope env pos₂ (newList []) false (eval iter env) use) Q E s := by
  refine Comp_core (h₀ := h₀) (L := L) (m := m) hclos hcell hkind hnames (wpAny_mono h (fun xv s₁ h₁ => wpAny_mono h₁ (fun it s₂ h₂ => ?_) fun _ _ e => e) fun _ _ e => e) hs
  obtain ⟨I, fp, wr, n, Pt, St, Mid, news, J, hB, done⟩ := h₂
  obtain rfl := hB.e
  have W := hB.W
  refine ⟨I, fp, wr, n, St, fun i m₂ => ∃ v₁ v₂, Pt i #[v₁, v₂] ∧ m₂ x = some v₁ ∧ m₂ x₂ = some v₂,
    fun cenv E₂ v K s => wpAny (model prog w) A (letOwnedTupleGo (.Tuple [.Name x px, .Name x₂ px₂] tk tp) (.ref I) v) (fun _ s' => wpAny (model prog w) A (assign (.Tuple [.Name x px, .Name x₂ px₂] tk tp) cenv v) (fun _ s₂ => K s₂) E₂ s') E₂ s,
    news, J, W.sub, W.frame, fun C acc R Iv t k s hI => codeAny_compLoop_pair Iv t k hI, ?_, W.done, W.self, hB.hsz, hB.hst, hB.hfp, hB.hwr, hB.hwo, hB.F, hB.N, hB.hnw, hB.hkeep, hB.hJ, ?_, done⟩
  · intro C i s m' K R E₂ hlt hst' hCf hn' k
    clear done
    refine W.item i _ _ _ hlt hst' fun t vals h₂ tk₂ hPv ht hmid hk₂ => ?_
    refine W.go _ _ _ i t _ _ _ hmid fun h₃ hst₃ hk₃ => ?_
    obtain ⟨v₁, v₂, rfl⟩ := hB.hPt i vals hPv
    obtain ⟨o, ho, r⟩ := ht
    have hCw : C ∉ wr := fun hm => hCf (W.sub _ hm)
    refine assign_Tuple_tuple hB.hh ⟨o, hk₃ _ _ (W.apart i t _ hmid) ho, r⟩ rfl rfl fun h₅ he => ?_
    have he' : ∀ b o, h₃.get? b = some o → h₅.get? b = some o := fun b o e => he b o (Nat.ne_of_lt (Heap.lt_size e)) e
    refine assignInOrder_cons (wpAny_assign_Name (wpAny_storeName_local (lookup_relabel_local hx) (hn'.at' fun o e => he' _ o (hk₃ _ o hCw (hk₂ _ o hCw e))) (fun h₆ hn₆ hs₆ => ?_) (by simp [compEnvC, relabel, hkind])))
    refine assignInOrder_cons (wpAny_assign_Name (wpAny_storeName_local (lookup_relabel_local hx₂) hn₆ (fun h₇ hn₇ hs₇ => ?_) (by simp [compEnvC, relabel, hkind])))
    refine assignInOrder_nil ?_
    have old7 : ∀ b o, b ≠ C → h₃.get? b = some o → h₇.get? b = some o := fun b o hb e => hs₇.extBut b o hb (hs₆.extBut b o hb (he' b o e))
    exact k h₇ _ _ hn₇ ⟨v₁, v₂, hPv, by simp [hxx], by simp⟩ (W.frame _ _ _ hst₃ fun b hb o e => old7 b o (fun q => hCf (q ▸ hb)) e) fun b o hb hc e => old7 b o hc (hk₃ b o hb (hk₂ b o hb e))
  · intro i ys news₁ own C oC D m₂ h tk E' ⟨v₁, v₂, hP, h1, h2⟩ hJ' eo hoC
    exact hB.turn i ys v₁ v₂ news₁ own C oC D m₂ h tk E' hP hJ' eo hoC h1 h2
theorem Comp_own {elt iter : PySem.Expr} {x x₂ : Str} {px px₂ tp : Pos} {tk : Nat} {scope : Scope} {cl : List (Str × Addr)} {pos : Pos} {Q : Value → Shared → Prop}
    (hclos : closureFor scope env = pure cl) (hcell : ∀ y ∈ scope.names, y.2 ≠ .cell) (hkind : scope.kind = .function)
    (hnames : ∀ y ∈ scope.names, y.2 = .local → scope.names.lookup y.1 = some .local) (hx : scope.names.lookup x = some .local) (hx₂ : scope.names.lookup x₂ = some .local) (hxx : x ≠ x₂)
    (h : wpAny (model prog w) A (eval iter env) (fun xv s₁ => wpAny (model prog w) A (pyIter xv) (fun it s₂ => CompSrc prog w A h₀ L m env elt x x₂ scope cl Q it s₂) E s₁) E s)
    (hs : ∀ x, foldedSetIterable iter env x = pure x) :
    wpAny (model prog w) A (eval (.ListComp elt [⟨.Tuple [.Name x px, .Name x₂ px₂] tk tp, iter, [], 0⟩] scope pos) env) Q E s := by
  rw [eval_ListComp]
  show wpAny _ A (comprehension (.ListComp elt [⟨.Tuple [.Name x px, .Name x₂ px₂] tk tp, iter, [], 0⟩] scope pos) scope env _ (newList []) false (eval iter env) none) _ _ s
  refine Comp_ownC (h₀ := h₀) (L := L) (m := m) (use := none) hclos hcell hkind hnames hx hx₂ hxx (wpAny_mono h (fun xv s₁ h₁ => wpAny_mono h₁ (fun it s₂ h₂ => ?_) fun _ _ e => e) fun _ _ e => e) hs
  obtain ⟨I, fp, wr, n, Pt, St, Mid, news, J, hB, done⟩ := h₂
  refine ⟨I, fp, wr, n, Pt, St, Mid, news, J, hB, fun D C ys news' m' h' tk hJ' F' hn' N' off hDC hCL hC₀ => ?_⟩
  refine ⟨m', hn', fun h'' hs'' => done D ys news' h'' tk hJ' (F'.change hs'' hCL hC₀) (fun p hp => ⟨hs''.extBut _ _ ?_ (N' p hp).1, (N' p hp).2⟩) (fun p hp => (off p hp).2)⟩
  rcases List.mem_cons.mp hp with rfl | hp
  · exact hDC
  · exact (off p hp).1
end
end
section
open PyProof.Rows PyProof.Rows.LCg PyProof.Rows.LCp PySem PySem.Calls PySem.W
theorem ln_KuComp1_0 : True := by
  k_with_none
  trivial
section
variable {prog : Program} {w : World} {A : Around} {E : Value → Shared → Prop} {s : Shared} {h₀ : Heap} {L : Addr} {m : Str → Option Value} {env : Env}
/-- the items of an iterator that hands out pairs, and what holds between the turns of a comprehension over it -/
structure Comp1SrcB (prog : Program) (w : World) (A : Around) (h₀ : Heap) (L : Addr) (m : Str → Option Value) (env : Env) (elt : PySem.Expr) (x : Str) (scope : Scope) (cl : List (Str × Addr)) (I : Addr) (fp wr : List Addr) (n : Nat) (Pt : Nat → Value → Prop) (St : Nat → Heap → Prop) (news : List (Addr × Obj)) (J : Nat → List Value → List (Addr × Obj) → Prop) (it : Value) (s₂ : Shared) : Prop where
  e : it = .ref I
  hh : A.handled = none
  W : Walks prog w A I fp wr n Pt St
  hsz : n ≤ 100000
  hst : St 0 s₂.heap
  hfp : (∀ b ∈ fp, b < s₂.heap.objs.size)
  hwr : (∀ b ∈ wr, b ≠ L ∧ h₀.get? b = none)
  hwo : (∀ i h, St i h → ∀ b ∈ wr, ∃ o, h.get? b = some o)
  F : Fr h₀ L s₂.heap m
  N : News h₀ L s₂.heap news
  hnw : (∀ p ∈ news, p.1 ∉ wr)
  hkeep : (∀ b ∈ fp, b ∈ wr ∨ (∃ o, h₀.get? b = some o) ∨ ∃ o, ∀ i ys nw, J i ys nw → (b, o) ∈ nw)
  hJ : J 0 [] news
  turn : (∀ i ys v₁ news₁ own C oC D m₂ h tk (E' : Value → Shared → Prop), Pt i v₁ → J i ys news₁ → own.map (·.1) = wr → NsObj oC m₂ → m₂ x = some v₁ → Fr h₀ L h m → News h₀ L h (own ++ (C, oC) :: (D, lst ys) :: news₁) →
      C ∉ wr → D ∉ wr → C ≠ D → (∀ p ∈ news₁, p.1 ∉ wr ∧ p.1 ≠ C ∧ p.1 ≠ D) →
      wpAny (model prog w) A (eval elt (compEnvC scope cl C env)) (fun y s₃ => ∃ h' tk' news₂, s₃ = { s₂ with heap := h', toks := tk' } ∧ Fr h₀ L h' m ∧ News h₀ L h' (own ++ (C, oC) :: (D, lst ys) :: news₂) ∧ (∀ p ∈ news₂, p.1 ∉ wr ∧ p.1 ≠ C ∧ p.1 ≠ D) ∧ J (i + 1) (ys ++ [y]) news₂) E' { s₂ with heap := h, toks := tk })
noncomputable def Comp1Src (prog : Program) (w : World) (A : Around) (h₀ : Heap) (L : Addr) (m : Str → Option Value) (env : Env) (elt : PySem.Expr) (x : Str) (scope : Scope) (cl : List (Str × Addr)) (Q : Value → Shared → Prop) (it : Value) (s₂ : Shared) : Prop :=
  ∃ (I : Addr) (fp wr : List Addr) (n : Nat) (Pt : Nat → Value → Prop) (St : Nat → Heap → Prop) (news : List (Addr × Obj)) (J : Nat → List Value → List (Addr × Obj) → Prop), Comp1SrcB prog w A h₀ L m env elt x scope cl I fp wr n Pt St news J it s₂ ∧ (∀ D ys news₁ h tk, J n ys news₁ → Fr h₀ L h m → News h₀ L h ((D, lst ys) :: news₁) → (∀ p ∈ news₁, p.1 ≠ D) → Q (.ref D) { s₂ with heap := h, toks := tk })
noncomputable def Comp1SrcC (prog : Program) (w : World) (A : Around) (h₀ : Heap) (L : Addr) (m : Str → Option Value) (env : Env) (elt : PySem.Expr) (x : Str) (scope : Scope) (cl : List (Str × Addr)) (R : Addr → Addr → Shared → Prop) (it : Value) (s₂ : Shared) : Prop :=
  ∃ (I : Addr) (fp wr : List Addr) (n : Nat) (Pt : Nat → Value → Prop) (St : Nat → Heap → Prop) (news : List (Addr × Obj)) (J : Nat → List Value → List (Addr × Obj) → Prop), Comp1SrcB prog w A h₀ L m env elt x scope cl I fp wr n Pt St news J it s₂ ∧ (∀ D C ys news₁ m' h tk, J n ys news₁ → Fr h₀ L h m → h.Ns C m' → News h₀ L h ((D, lst ys) :: news₁) → (∀ p ∈ news₁, p.1 ≠ C ∧ p.1 ≠ D) → D ≠ C → C ≠ L → h₀.get? C = none → R D C { s₂ with heap := h, toks := tk })
theorem Comp1_ownC {elt iter : PySem.Expr} {x : Str} {px : Pos} {scope : Scope} {cl : List (Str × Addr)} {pos pos₂ : Pos} {use : Option (Value → Sem Unit)} {Q : Value → Shared → Prop}
    (hclos : closureFor scope env = pure cl) (hcell : ∀ y ∈ scope.names, y.2 ≠ .cell) (hkind : scope.kind = .function)
    (hnames : ∀ y ∈ scope.names, y.2 = .local → scope.names.lookup y.1 = some .local) (hx : scope.names.lookup x = some .local)
    (h : wpAny (model prog w) A (eval iter env) (fun xv s₁ => wpAny (model prog w) A (pyIter xv) (fun it s₂ => Comp1SrcC prog w A h₀ L m env elt x scope cl (fun D C s' => compPost (model prog w) A E use Q (.ref D) C (.ok .next) s') it s₂) E s₁) E s)
    (hs : ∀ x, foldedSetIterable iter env x = pure x) :
    wpAny (model prog w) A (comprehension (.ListComp elt [⟨.Name x px, iter, [], 0⟩] scope pos) scope env pos₂ (newList []) false (eval iter env) use) Q E s := by
  refine Comp_core (h₀ := h₀) (L := L) (m := m) hclos hcell hkind hnames (wpAny_mono h (fun xv s₁ h₁ => wpAny_mono h₁ (fun it s₂ h₂ => ?_) fun _ _ e => e) fun _ _ e => e) hs
  obtain ⟨I, fp, wr, n, Pt, St, news, J, hB, done⟩ := h₂
  obtain rfl := hB.e
  have W := hB.W
  refine ⟨I, fp, wr, n, St, fun i m₂ => ∃ v, Pt i v ∧ m₂ x = some v,
    fun cenv E₂ v K s => wpAny (model prog w) A (assign (.Name x px) cenv v) (fun _ s₂ => K s₂) E₂ s,
    news, J, W.sub, W.frame, fun C acc R Iv t k s hI => codeAny_compLoop_list Iv t k hI, ?_, W.done, W.self, hB.hsz, hB.hst, hB.hfp, hB.hwr, hB.hwo, hB.F, hB.N, hB.hnw, hB.hkeep, hB.hJ, ?_, done⟩
  · intro C i s m' K R E₂ hlt hst' hCf hn' k
    clear done
    refine W.item i _ _ _ hlt hst' fun v₁ h₃ tk₂ hPv hst₃ hk₃ => ?_
    refine wpAny_assign_Name (wpAny_storeName_local (lookup_relabel_local hx) (hn'.at' fun o e => hk₃ _ o (fun hm => hCf (W.sub _ hm)) e) (fun h₇ hn₇ hs₇ => ?_) (by simp [compEnvC, relabel, hkind]))
    exact k h₇ _ _ hn₇ ⟨v₁, hPv, by simp⟩ (W.frame _ _ _ hst₃ fun b hb o e => hs₇.extBut b o (fun q => hCf ((show b = C from q) ▸ hb)) e) fun b o hb hc e => hs₇.extBut b o hc (hk₃ b o hb e)
  · intro i ys news₁ own C oC D m₂ h tk E' ⟨v₁, hP, h1⟩ hJ' eo hoC
    exact hB.turn i ys v₁ news₁ own C oC D m₂ h tk E' hP hJ' eo hoC h1
theorem Comp1_own {elt iter : PySem.Expr} {x : Str} {px : Pos} {scope : Scope} {cl : List (Str × Addr)} {pos : Pos} {Q : Value → Shared → Prop}
    (hclos : closureFor scope env = pure cl) (hcell : ∀ y ∈ scope.names, y.2 ≠ .cell) (hkind : scope.kind = .function)
    (hnames : ∀ y ∈ scope.names, y.2 = .local → scope.names.lookup y.1 = some .local) (hx : scope.names.lookup x = some .local)
    (h : wpAny (model prog w) A (eval iter env) (fun xv s₁ => wpAny (model prog w) A (pyIter xv) (fun it s₂ => Comp1Src prog w A h₀ L m env elt x scope cl Q it s₂) E s₁) E s)
    (hs : ∀ x, foldedSetIterable iter env x = pure x) :
    wpAny (model prog w) A (eval (.ListComp elt [⟨.Name x px, iter, [], 0⟩] scope pos) env) Q E s := by
  rw [eval_ListComp]
  show wpAny _ A (comprehension (.ListComp elt [⟨.Name x px, iter, [], 0⟩] scope pos) scope env _ (newList []) false (eval iter env) none) _ _ s
  refine Comp1_ownC (h₀ := h₀) (L := L) (m := m) (use := none) hclos hcell hkind hnames hx (wpAny_mono h (fun xv s₁ h₁ => wpAny_mono h₁ (fun it s₂ h₂ => ?_) fun _ _ e => e) fun _ _ e => e) hs
  obtain ⟨I, fp, wr, n, Pt, St, news, J, hB, done⟩ := h₂
  refine ⟨I, fp, wr, n, Pt, St, news, J, hB, fun D C ys news' m' h' tk hJ' F' hn' N' off hDC hCL hC₀ => ?_⟩
  refine ⟨m', hn', fun h'' hs'' => done D ys news' h'' tk hJ' (F'.change hs'' hCL hC₀) (fun p hp => ⟨hs''.extBut _ _ ?_ (N' p hp).1, (N' p hp).2⟩) (fun p hp => (off p hp).2)⟩
  rcases List.mem_cons.mp hp with rfl | hp
  · exact hDC
  · exact (off p hp).1
end
end
section
open PyProof.Rows PyProof.Rows.LCg PySem PySem.Calls PySem.W
theorem ln_KuComp2_0 : True := by
  k_with_none
  trivial
section
variable {prog : Program} {w : World} {A : Around} {E : Value → Shared → Prop} {s : Shared} {h₀ : Heap} {L : Addr} {m : Str → Option Value} {env : Env}
/-- what a turn of a comprehension over one iterator object shows -/
noncomputable def Turn1 (prog : Program) (w : World) (A : Around) (h₀ : Heap) (L : Addr) (m : Str → Option Value) (env : Env) (elt : PySem.Expr) (x : Str) (scope : Scope) (cl : List (Str × Addr)) (s : Shared) (Pt : Nat → Value → Prop) (J : Nat → List Value → List (Addr × Obj) → Prop) : Prop :=
  ∀ i ys v news₁ I oI C oC D m₂ h tk (E' : Value → Shared → Prop), Pt i v → J i ys news₁ → NsObj oC m₂ → m₂ x = some v → Fr h₀ L h m → News h₀ L h ((I, oI) :: (C, oC) :: (D, lst ys) :: news₁) → C ≠ I → D ≠ I → C ≠ D → (∀ p ∈ news₁, p.1 ≠ I ∧ p.1 ≠ C ∧ p.1 ≠ D) →
    wpAny (model prog w) A (eval elt (compEnvC scope cl C env)) (fun y s₃ => ∃ h' tk' news₂, s₃ = { s with heap := h', toks := tk' } ∧ Fr h₀ L h' m ∧ News h₀ L h' ((I, oI) :: (C, oC) :: (D, lst ys) :: news₂) ∧ (∀ p ∈ news₂, p.1 ≠ I ∧ p.1 ≠ C ∧ p.1 ≠ D) ∧ J (i + 1) (ys ++ [y]) news₂) E' { s with heap := h, toks := tk }
noncomputable def Done1 (h₀ : Heap) (L : Addr) (m : Str → Option Value) (s : Shared) (Q : Value → Shared → Prop) (J : List Value → List (Addr × Obj) → Prop) : Prop :=
  ∀ D ys news₁ h tk, J ys news₁ → Fr h₀ L h m → News h₀ L h ((D, lst ys) :: news₁) → (∀ p ∈ news₁, p.1 ≠ D) → Q (.ref D) { s with heap := h, toks := tk }
theorem turn_of {elt : PySem.Expr} {x : Str} {scope : Scope} {cl : List (Str × Addr)} {Pt : Nat → Value → Prop} {J : Nat → List Value → List (Addr × Obj) → Prop} {I : Addr} {hs : Heap}
    (T : Turn1 prog w A h₀ L m env elt x scope cl s Pt J) (i : Nat) (ys : List Value) (v₁ : Value) (news₁ own : List (Addr × Obj)) (C : Addr) (oC : Obj) (D : Addr) (m₂ : Str → Option Value) (h : Heap) (tk : Nat) (E' : Value → Shared → Prop)
    (hP : Pt i v₁) (hJ : J i ys news₁) (ho : own.map (·.1) = [I]) (hC : NsObj oC m₂) (hx : m₂ x = some v₁) (F : Fr h₀ L h m) (N : News h₀ L h (own ++ (C, oC) :: (D, lst ys) :: news₁))
    (hCw : C ∉ [I]) (hDw : D ∉ [I]) (hCD : C ≠ D) (off : ∀ p ∈ news₁, p.1 ∉ [I] ∧ p.1 ≠ C ∧ p.1 ≠ D) :
      wpAny (model prog w) A (eval elt (compEnvC scope cl C env)) (fun y s₃ => ∃ h' tk' news₂, s₃ = { ({ s with heap := hs } : Shared) with heap := h', toks := tk' } ∧ Fr h₀ L h' m ∧ News h₀ L h' (own ++ (C, oC) :: (D, lst ys) :: news₂) ∧ (∀ p ∈ news₂, p.1 ∉ [I] ∧ p.1 ≠ C ∧ p.1 ≠ D) ∧ J (i + 1) (ys ++ [y]) news₂) E' { ({ s with heap := hs } : Shared) with heap := h, toks := tk } := by
  rcases own with _ | ⟨⟨_, oI⟩, _ | ⟨_, _⟩⟩ <;> simp at ho
  subst ho
  refine wpAny_mono (T i ys v₁ news₁ _ oI C oC D m₂ h tk E' hP hJ hC hx F N (by simpa using hCw) (by simpa using hDw) hCD fun p hp => ⟨by simpa using (off p hp).1, (off p hp).2⟩) (fun y s₃ h₃ => ?_) fun _ _ e => e
  obtain ⟨h', tk', news₂, rfl, F', N', off', J'⟩ := h₃
  exact ⟨h', tk', news₂, rfl, F', N', fun p hp => ⟨by simpa using (off' p hp).1, (off' p hp).2⟩, J'⟩
theorem comp1_list (hh : A.handled = none) {news : List (Addr × Obj)} (F : Fr h₀ L s.heap m) (N : News h₀ L s.heap news) {ax : Addr} {its : Array Value} (hl : s.heap.IsList ax its) (hsz : its.size ≤ 100000)
    {elt : PySem.Expr} {x : Str} {scope : Scope} {cl : List (Str × Addr)} {Q : Value → Shared → Prop} (J : Nat → List Value → List (Addr × Obj) → Prop)
    (hsrc : (∃ o, h₀.get? ax = some o) ∨ ∃ o, ∀ i ys nw, J i ys nw → (ax, o) ∈ nw) (hJ : J 0 [] news)
    (turn : Turn1 prog w A h₀ L m env elt x scope cl s (fun i v => its[i]? = some v) J) (done : Done1 h₀ L m s Q (J its.size)) :
    wpAny (model prog w) A (pyIter (.ref ax)) (fun it s₂ => Comp1Src prog w A h₀ L m env elt x scope cl Q it s₂) E s := by
  refine wpAny_pyIter_list hl ?_
  have hlt : ax < s.heap.objs.size := by obtain ⟨_, e, _⟩ := hl; exact Heap.lt_size e
  have hLlt : L < s.heap.objs.size := F.ns.lt
  refine ⟨_, _, _, _, _, _, news, J, ⟨rfl, hh, Walks.list hh s.heap.objs.size ax (Nat.ne_of_lt hlt) its, hsz, ⟨⟨_, Heap.get?_push_size _ rfl, rfl, rfl⟩, hl.at fun o e => Heap.get?_push_of_some _ e⟩, ?_, ?_, ?_, F.push _, fun p hp => ⟨Heap.get?_push_of_some _ (N p hp).1, (N p hp).2⟩, ?_, ?_, hJ, ?_⟩, done⟩
  · intro b hb
    show b < (s.heap.push _).objs.size
    rw [Heap.size_push]
    simp at hb
    rcases hb with rfl | rfl
    · exact Nat.lt_succ_self _
    · exact Nat.lt_succ_of_lt hlt
  · intro b hb
    obtain rfl : b = s.heap.objs.size := by simpa using hb
    exact ⟨Nat.ne_of_gt hLlt, next_is_new F⟩
  · rintro i h ⟨⟨o, e, _⟩, _⟩ b hb
    obtain rfl : b = s.heap.objs.size := by simpa using hb
    exact ⟨o, e⟩
  · intro p hp hm
    have := Heap.lt_size (N p hp).1
    have e : p.1 = s.heap.objs.size := by simpa using hm
    rw [e] at this; exact Nat.lt_irrefl _ this
  · intro b hb
    simp at hb
    rcases hb with rfl | rfl
    · exact .inl (by simp)
    · exact .inr hsrc
  · intro i ys v₁ news₁ own C oC D m₂ h tk E' hP hJ ho hC hx F N hCw hDw hCD off
    exact turn_of turn i ys v₁ news₁ own C oC D m₂ h tk E' hP hJ ho hC hx F N hCw hDw hCD off
end
end
section
open PyProof.Rows PyProof.Rows.LCg PyProof.Rows.LCp PySem PySem.Calls PySem.W
theorem ln_KuCompA_0 : True := by
  k_with_none
  trivial
section
variable {prog : Program} {w : World} {A : Around} {E : Value → Shared → Prop} {s : Shared} {h₀ : Heap} {L : Addr} {m : Str → Option Value} {env : Env}
noncomputable def Comp1SrcA (prog : Program) (w : World) (A : Around) (h₀ : Heap) (L : Addr) (m : Str → Option Value) (env : Env) (elt : PySem.Expr) (x : Str) (scope : Scope) (cl : List (Str × Addr)) (yv : Str) (Q : Flow → Shared → Prop) (it : Value) (s₂ : Shared) : Prop :=
  ∃ (I : Addr) (fp wr : List Addr) (n : Nat) (Pt : Nat → Value → Prop) (St : Nat → Heap → Prop) (news : List (Addr × Obj)) (J : Nat → List Value → List (Addr × Obj) → Prop), Comp1SrcB prog w A h₀ L m env elt x scope cl I fp wr n Pt St news J it s₂ ∧ (∀ D ys news₁ h tk, J n ys news₁ → Fr h₀ L h (fun z => if z = yv then some (.ref D) else m z) → News h₀ L h ((D, lst ys) :: news₁) → (∀ p ∈ news₁, p.1 ≠ D) → Q .next { s₂ with heap := h, toks := tk })
theorem Comp1_ownA {elt iter : PySem.Expr} {x : Str} {px : Pos} {scope : Scope} {cl : List (Str × Addr)} {pos spos py : Pos} {yv : Str} {Q : Flow → Shared → Prop} (hLe : env.locals = L) (hy : env.kindOf yv = some .local) (hp : (env.scope.kind == .class || (env.scope.kind == .module && env.locals != env.globals)) = false)
    (hsw : swapsWith (.ListComp elt [⟨.Name x px, iter, [], 0⟩] scope pos) (some (.Name yv py)) spos.line env = pure true)
    (hclos : closureFor scope env = pure cl) (hcell : ∀ y ∈ scope.names, y.2 ≠ .cell) (hkind : scope.kind = .function)
    (hnames : ∀ y ∈ scope.names, y.2 = .local → scope.names.lookup y.1 = some .local) (hx : scope.names.lookup x = some .local)
    (h : wpAny (model prog w) A (eval iter env) (fun xv s₁ => wpAny (model prog w) A (pyIter xv) (fun it s₂ => Comp1SrcA prog w A h₀ L m env elt x  scope cl yv Q it s₂) E s₁) E s)
    (hs : ∀ x, foldedSetIterable iter env x = pure x) :
    wpAny (model prog w) A (exec (.Assign [.Name yv py] (.ListComp elt [⟨.Name x px, iter, [], 0⟩] scope pos) spos) env) Q E s := by
  subst hLe
  rw [exec_Assign_Name_used _ _ _ _ hsw]
  refine wpAny_bind (wpAny_standAt (wpAny_bind ?_))
  show wpAny _ A (do let _ ← comprehension (.ListComp elt [⟨.Name x px, iter, [], 0⟩] scope pos) scope env _ (newList []) false (eval iter env) (some (assign (.Name yv py) env))) _ _ s
  refine wpAny_bind (wpAny_mono (Comp1_ownC (h₀ := h₀) (L := env.locals) (m := m) (use := some (assign (.Name yv py) env)) (Q := fun _ s' => Q .next s') hclos hcell hkind hnames hx (wpAny_mono h (fun xv s₁ h₁ => wpAny_mono h₁ (fun it s₂ h₂ => ?_) fun _ _ e => e) fun _ _ e => e) hs) (fun _ s' hq => wpAny_pure (wpAny_pure hq)) fun _ _ e => e)
  obtain ⟨I, fp, wr, n, Pt, St, news, J, hB, done⟩ := h₂
  refine ⟨I, fp, wr, n, Pt, St, news, J, hB, fun D C ys news' m' h' tk hJ' F' hn' N' off hDC hCL hC₀ => ?_⟩
  show wpAny _ A (assign (.Name yv py) env (.ref D)) _ _ _
  refine wpAny_assign_Name (wpAny_storeName_local hy F'.ns (fun h₂ hn₂ hs₂ => ?_) hp)
  have hL₀ : h₀.get? env.locals = none := Heap.get?_none_of_le F'.above
  have F₂ : Fr h₀ env.locals h₂ (fun z => if z = yv then some (.ref D) else m z) := ⟨hn₂, fun b o e => hs₂.extBut b o (fun q => by rw [q, hL₀] at e; cases e) (F'.keep b o e), F'.above⟩
  refine ⟨m', hn'.sameBut hs₂ hCL, fun h'' hs'' => done D ys news' h'' _ hJ' (F₂.change hs'' hCL hC₀) (fun p hp => ⟨hs''.extBut _ _ ?_ (hs₂.extBut _ _ (N' p hp).2.1 (N' p hp).1), (N' p hp).2⟩) (fun p hp => (off p hp).2)⟩
  rcases List.mem_cons.mp hp with rfl | hp
  · exact hDC
  · exact (off p hp).1
noncomputable def CompSrcA (prog : Program) (w : World) (A : Around) (h₀ : Heap) (L : Addr) (m : Str → Option Value) (env : Env) (elt : PySem.Expr) (x x₂ : Str) (scope : Scope) (cl : List (Str × Addr)) (yv : Str) (Q : Flow → Shared → Prop) (it : Value) (s₂ : Shared) : Prop :=
  ∃ (I : Addr) (fp wr : List Addr) (n : Nat) (Pt : Nat → Array Value → Prop) (St : Nat → Heap → Prop) (Mid : Nat → Addr → Heap → Prop) (news : List (Addr × Obj)) (J : Nat → List Value → List (Addr × Obj) → Prop), CompSrcB prog w A h₀ L m env elt x x₂ scope cl I fp wr n Pt St Mid news J it s₂ ∧ (∀ D ys news₁ h tk, J n ys news₁ → Fr h₀ L h (fun z => if z = yv then some (.ref D) else m z) → News h₀ L h ((D, lst ys) :: news₁) → (∀ p ∈ news₁, p.1 ≠ D) → Q .next { s₂ with heap := h, toks := tk })
theorem Comp_ownA {elt iter : PySem.Expr} {x x₂ : Str} {px px₂ tp : Pos} {tk : Nat} {scope : Scope} {cl : List (Str × Addr)} {pos spos py : Pos} {yv : Str} {Q : Flow → Shared → Prop} (hLe : env.locals = L) (hy : env.kindOf yv = some .local) (hp : (env.scope.kind == .class || (env.scope.kind == .module && env.locals != env.globals)) = false)
    (hsw : swapsWith (.ListComp elt [⟨.Tuple [.Name x px, .Name x₂ px₂] tk tp, iter, [], 0⟩] scope pos) (some (.Name yv py)) spos.line env = pure true)
    (hclos : closureFor scope env = pure cl) (hcell : ∀ y ∈ scope.names, y.2 ≠ .cell) (hkind : scope.kind = .function)
    (hnames : ∀ y ∈ scope.names, y.2 = .local → scope.names.lookup y.1 = some .local) (hx : scope.names.lookup x = some .local) (hx₂ : scope.names.lookup x₂ = some .local) (hxx : x ≠ x₂)
    (h : wpAny (model prog w) A (eval iter env) (fun xv s₁ => wpAny (model prog w) A (pyIter xv) (fun it s₂ => CompSrcA prog w A h₀ L m env elt x x₂  scope cl yv Q it s₂) E s₁) E s)
    (hs : ∀ x, foldedSetIterable iter env x = pure x) :
    wpAny (model prog w) A (exec (.Assign [.Name yv py] (.ListComp elt [⟨.Tuple [.Name x px, .Name x₂ px₂] tk tp, iter, [], 0⟩] scope pos) spos) env) Q E s := by
  subst hLe
  rw [exec_Assign_Name_used _ _ _ _ hsw]
  refine wpAny_bind (wpAny_standAt (wpAny_bind ?_))
  show wpAny _ A (do let _ ← comprehension (.ListComp elt [⟨.Tuple [.Name x px, .Name x₂ px₂] tk tp, iter, [], 0⟩] scope pos) scope env _ (newList []) false (eval iter env) (some (assign (.Name yv py) env))) _ _ s
  refine wpAny_bind (wpAny_mono (Comp_ownC (h₀ := h₀) (L := env.locals) (m := m) (use := some (assign (.Name yv py) env)) (Q := fun _ s' => Q .next s') hclos hcell hkind hnames hx hx₂ hxx (wpAny_mono h (fun xv s₁ h₁ => wpAny_mono h₁ (fun it s₂ h₂ => ?_) fun _ _ e => e) fun _ _ e => e) hs) (fun _ s' hq => wpAny_pure (wpAny_pure hq)) fun _ _ e => e)
  obtain ⟨I, fp, wr, n, Pt, St, Mid, news, J, hB, done⟩ := h₂
  refine ⟨I, fp, wr, n, Pt, St, Mid, news, J, hB, fun D C ys news' m' h' tk hJ' F' hn' N' off hDC hCL hC₀ => ?_⟩
  show wpAny _ A (assign (.Name yv py) env (.ref D)) _ _ _
  refine wpAny_assign_Name (wpAny_storeName_local hy F'.ns (fun h₂ hn₂ hs₂ => ?_) hp)
  have hL₀ : h₀.get? env.locals = none := Heap.get?_none_of_le F'.above
  have F₂ : Fr h₀ env.locals h₂ (fun z => if z = yv then some (.ref D) else m z) := ⟨hn₂, fun b o e => hs₂.extBut b o (fun q => by rw [q, hL₀] at e; cases e) (F'.keep b o e), F'.above⟩
  refine ⟨m', hn'.sameBut hs₂ hCL, fun h'' hs'' => done D ys news' h'' _ hJ' (F₂.change hs'' hCL hC₀) (fun p hp => ⟨hs''.extBut _ _ ?_ (hs₂.extBut _ _ (N' p hp).2.1 (N' p hp).1), (N' p hp).2⟩) (fun p hp => (off p hp).2)⟩
  rcases List.mem_cons.mp hp with rfl | hp
  · exact hDC
  · exact (off p hp).1
end
end
section
open PyProof.Rows PyProof.Rows.LCg PySem PySem.Calls PySem.W
theorem ln_KuComp3_0 : True := by
  k_with_none
  trivial
section
variable {prog : Program} {w : World} {A : Around} {E : Value → Shared → Prop} {s : Shared} {h₀ : Heap} {L : Addr} {m : Str → Option Value} {env : Env}
noncomputable def Done1A (h₀ : Heap) (L : Addr) (m : Str → Option Value) (s : Shared) (yv : Str) (Q : Flow → Shared → Prop) (J : List Value → List (Addr × Obj) → Prop) : Prop :=
  ∀ D ys news₁ h tk, J ys news₁ → Fr h₀ L h (fun z => if z = yv then some (.ref D) else m z) → News h₀ L h ((D, lst ys) :: news₁) → (∀ p ∈ news₁, p.1 ≠ D) → Q .next { s with heap := h, toks := tk }
theorem comp1_listA (hh : A.handled = none) {news : List (Addr × Obj)} (F : Fr h₀ L s.heap m) (N : News h₀ L s.heap news) {ax : Addr} {its : Array Value} (hl : s.heap.IsList ax its) (hsz : its.size ≤ 100000)
    {elt : PySem.Expr} {x : Str} {scope : Scope} {cl : List (Str × Addr)} {yv : Str} {Q : Flow → Shared → Prop} (J : Nat → List Value → List (Addr × Obj) → Prop)
    (hsrc : (∃ o, h₀.get? ax = some o) ∨ ∃ o, ∀ i ys nw, J i ys nw → (ax, o) ∈ nw) (hJ : J 0 [] news)
    (turn : Turn1 prog w A h₀ L m env elt x scope cl s (fun i v => its[i]? = some v) J) (done : Done1A h₀ L m s yv Q (J its.size)) :
    wpAny (model prog w) A (pyIter (.ref ax)) (fun it s₂ => Comp1SrcA prog w A h₀ L m env elt x scope cl yv Q it s₂) E s := by
  refine wpAny_pyIter_list hl ?_
  have hlt : ax < s.heap.objs.size := by obtain ⟨_, e, _⟩ := hl; exact Heap.lt_size e
  have hLlt : L < s.heap.objs.size := F.ns.lt
  refine ⟨_, _, _, _, _, _, news, J, ⟨rfl, hh, Walks.list hh s.heap.objs.size ax (Nat.ne_of_lt hlt) its, hsz, ⟨⟨_, Heap.get?_push_size _ rfl, rfl, rfl⟩, hl.at fun o e => Heap.get?_push_of_some _ e⟩, ?_, ?_, ?_, F.push _, fun p hp => ⟨Heap.get?_push_of_some _ (N p hp).1, (N p hp).2⟩, ?_, ?_, hJ, ?_⟩, done⟩
  · intro b hb
    show b < (s.heap.push _).objs.size
    rw [Heap.size_push]
    simp at hb
    rcases hb with rfl | rfl
    · exact Nat.lt_succ_self _
    · exact Nat.lt_succ_of_lt hlt
  · intro b hb
    obtain rfl : b = s.heap.objs.size := by simpa using hb
    exact ⟨Nat.ne_of_gt hLlt, next_is_new F⟩
  · rintro i h ⟨⟨o, e, _⟩, _⟩ b hb
    obtain rfl : b = s.heap.objs.size := by simpa using hb
    exact ⟨o, e⟩
  · intro p hp hm
    have := Heap.lt_size (N p hp).1
    have e : p.1 = s.heap.objs.size := by simpa using hm
    rw [e] at this; exact Nat.lt_irrefl _ this
  · intro b hb
    simp at hb
    rcases hb with rfl | rfl
    · exact .inl (by simp)
    · exact .inr hsrc
  · intro i ys v₁ news₁ own C oC D m₂ h tk E' hP hJ ho hC hx F N hCw hDw hCD off
    exact turn_of turn i ys v₁ news₁ own C oC D m₂ h tk E' hP hJ ho hC hx F N hCw hDw hCD off
theorem comp1_rangeA (hh : A.handled = none) {news : List (Addr × Obj)} (F : Fr h₀ L s.heap m) (N : News h₀ L s.heap news) {r : Addr} {a b : Int} {t u v : Tok} {n : Nat} (hr : IsRange s.heap r a b 1 t u v) (hsm : Builtin.Range.small a b 1 = true) (hn : Builtin.Range.rangeSize a b 1 = ((n : Nat) : Int)) (hsz : n ≤ 100000)
    {elt : PySem.Expr} {x : Str} {scope : Scope} {cl : List (Str × Addr)} {yv : Str} {Q : Flow → Shared → Prop} (J : Nat → List Value → List (Addr × Obj) → Prop) (hJ : J 0 [] news)
    (turn : Turn1 prog w A h₀ L m env elt x scope cl s (fun i v => ∃ t, v = .int (a + (i : Int)) t) J) (done : Done1A h₀ L m s yv Q (J n)) :
    wpAny (model prog w) A (pyIter (.ref r)) (fun it s₂ => Comp1SrcA prog w A h₀ L m env elt x scope cl yv Q it s₂) E s := by
  refine wpAny_pyIter_range hr hsm ?_
  have hLlt : L < s.heap.objs.size := F.ns.lt
  refine ⟨_, _, _, _, _, _, news, J, ⟨rfl, hh, range_walks hh a n, hsz, ?_, ?_, ?_, ?_, F.push _, fun p hp => ⟨Heap.get?_push_of_some _ (N p hp).1, (N p hp).2⟩, ?_, ?_, hJ, ?_⟩, done⟩
  · show Heap.get? _ _ = some _
    rw [hn]
    simpa using Heap.get?_push_size s.heap (o := { cls := .type "range_iterator", data := _ }) rfl
  · intro b hb
    show b < (s.heap.push _).objs.size
    rw [Heap.size_push]
    obtain rfl : b = s.heap.objs.size := by simpa using hb
    exact Nat.lt_succ_self _
  · intro b hb
    obtain rfl : b = s.heap.objs.size := by simpa using hb
    exact ⟨Nat.ne_of_gt hLlt, next_is_new F⟩
  · intro i h st b hb
    obtain rfl : b = s.heap.objs.size := by simpa using hb
    exact ⟨_, st⟩
  · intro p hp hm
    have := Heap.lt_size (N p hp).1
    have e : p.1 = s.heap.objs.size := by simpa using hm
    rw [e] at this; exact Nat.lt_irrefl _ this
  · intro b hb
    exact .inl hb
  · intro i ys v₁ news₁ own C oC D m₂ h tk E' hP hJ ho hC hx F N hCw hDw hCD off
    exact turn_of turn i ys v₁ news₁ own C oC D m₂ h tk E' hP hJ ho hC hx F N hCw hDw hCD off
end
end
section
open PyProof.Rows PySem PySem.Calls PySem.W
theorem ln_KuZip_0 : True := by
  k_with_none
  trivial
section
variable {prog : Program} {w : World} {A : Around} {E : Value → Shared → Prop} {s : Shared}
structure ZDApart (z TI TO i1 i2 : Nat) (fp1 fp2 : List Nat) : Prop where
  TIz : TI ≠ z
  TOz : TO ≠ z
  i1z : i1 ≠ z
  i2z : i2 ≠ z
  TITO : TI ≠ TO
  TIi1 : TI ≠ i1
  TIi2 : TI ≠ i2
  TOi1 : TO ≠ i1
  TOi2 : TO ≠ i2
  i12 : i1 ≠ i2
  f1 : ∀ b ∈ fp1, b ≠ z ∧ b ≠ TO ∧ b ≠ i2
  f2 : ∀ b ∈ fp2, b ≠ z ∧ b ≠ TO ∧ b ≠ i1

theorem zipD_next_item {z TI TO i1 i2 : Addr} {fp1 fp2 : List Addr} {n1 n2 i : Nat} {P1 P2 : Nat → Value → Prop} {St1 St2 : Nat → Heap → Prop} {a b : Value} {Q : Value → Shared → Prop} (D : ZDApart z TI TO i1 i2 fp1 fp2)
    (D1 : Draws prog w A i1 fp1 n1 P1 St1) (D2 : Draws prog w A i2 fp2 n2 P2 St2)
    (hz : IsZip s.heap z TI TO .none) (hTI : IsPair s.heap TI (.ref i1) (.ref i2)) (hTO : IsPair s.heap TO a b)
    (h1 : St1 i s.heap) (h2 : St2 i s.heap) (l1 : i < n1) (l2 : i < n2)
    (hQ : ∀ x y h' tk, P1 i x → P2 i y → IsZip h' z TI TO (rawInt s.heap.objs.size) → IsPair h' TO x y → St1 (i + 1) h' → St2 (i + 1) h' → IsPair h' s.heap.objs.size x y → h'.objs.size = s.heap.objs.size + 1 →
      (∀ c o, c ≠ z → c ≠ TO → c ≠ i1 → c ≠ i2 → s.heap.get? c = some o → h'.get? c = some o) → Q (.ref s.heap.objs.size) { s with heap := h', toks := tk }) :
    wpAny (model prog w) A (Builtin.«zip.__next__» ⟨[.ref z], []⟩) (fun fin s' => ∃ v, fin = .done (.ret v) ∧ Q v s') E s := by
  obtain ⟨hp, g, d, tk₀, os⟩ := s
  show wpAny _ _ (field (.ref z) 2 >>= _) _ _ _
  refine wpAny_bind (wpAny_field hz rfl (x := .bool false) rfl ?_)
  show wpAny _ _ (field (.ref z) 3 >>= _) _ _ _
  refine wpAny_bind (wpAny_field hz rfl (x := .ref TI) rfl ?_)
  refine wpAny_bind (wpAny_seqItems hTI rfl ?_)
  show wpAny _ _ (Builtin.SmallTypes.ownedTupleIsFree (.ref z) >>= _) _ _ _
  refine wpAny_bind ?_
  unfold Builtin.SmallTypes.ownedTupleIsFree
  refine wpAny_bind (wpAny_field hz rfl (x := .none) rfl (wpAny_pure ?_))
  simp only [if_true]
  refine wpAny_bind (wpAny_rule ?_)
  refine wpAny_bind (wpAny_field hz rfl (x := .ref TO) rfl ?_)
  refine wpAny_bind (wpAny_setField_rec hz (by simp) fun h₁ hz₁ hs₁ => ?_)
  replace hz₁ : IsZip h₁ z TI TO .ellipsis := hz₁
  refine wpAny_bind ?_
  simp only [List.zipIdx_cons, List.zipIdx_nil, List.forIn_cons, List.forIn_nil]
  refine wpAny_bind (wpAny_bind (wpAny_onRaise ?_))
  show wpAny _ _ (Builtin.SmallTypes.nextOf (.ref i1) >>= _) _ _ _
  have h1₁ : St1 i h₁ := D1.frame _ _ _ h1 fun b hb o e => hs₁.extBut _ _ (D.f1 b hb).1 e
  refine wpAny_bind (D1.item i _ _ _ l1 h1₁ fun x h₂ tk hPx h1₂ hs₂ => wpAny_pure ?_)
  have hTO₂ : IsPair h₂ TO a b := hs₂.extBut _ _ D.TOi1 (hs₁.extBut _ _ D.TOz hTO)
  refine wpAny_bind (wpAny_seqItems hTO₂ rfl ?_)
  refine wpAny_bind (wpAny_updateSeq_pair hTO₂ fun h₃ hTO₃ hs₃ => ?_)
  replace hTO₃ : IsPair h₃ TO x b := hTO₃
  refine wpAny_bind (wpAny_letGo (wpAny_pure ?_))
  refine wpAny_bind (wpAny_bind (wpAny_onRaise ?_))
  show wpAny _ _ (Builtin.SmallTypes.nextOf (.ref i2) >>= _) _ _ _
  have h2₃ : St2 i h₃ := D2.frame _ _ _ h2 fun b hb o e => hs₃.extBut _ _ (D.f2 b hb).2.1 (hs₂.extBut _ _ (D.f2 b hb).2.2 (hs₁.extBut _ _ (D.f2 b hb).1 e))
  refine wpAny_bind (D2.item i _ _ _ l2 h2₃ fun y h₄ tk' hPy h2₄ hs₄ => wpAny_pure ?_)
  have hTO₄ : IsPair h₄ TO x b := hs₄.extBut _ _ D.TOi2 hTO₃
  refine wpAny_bind (wpAny_seqItems hTO₄ rfl ?_)
  refine wpAny_bind (wpAny_updateSeq_pair hTO₄ fun h₅ hTO₅ hs₅ => ?_)
  replace hTO₅ : IsPair h₅ TO x y := hTO₅
  refine wpAny_bind (wpAny_letGo (wpAny_pure (wpAny_pure ?_)))
  refine wpAny_bind (wpAny_seqItems hTO₅ rfl ?_)
  refine wpAny_bind (wpAny_newTuple ?_)
  have hsz : h₅.objs.size = hp.objs.size := by rw [hs₅.1, hs₄.1, hs₃.1, hs₂.1, hs₁.1]
  have hz₅ : IsZip h₅ z TI TO .ellipsis := hs₅.extBut _ _ D.TOz.symm (hs₄.extBut _ _ D.i2z.symm (hs₃.extBut _ _ D.TOz.symm (hs₂.extBut _ _ D.i1z.symm hz₁)))
  have hk₅ : ∀ c o, c ≠ z → c ≠ TO → c ≠ i1 → c ≠ i2 → hp.get? c = some o → h₅.get? c = some o := fun c o c1 c2 c3 c4 e =>
    hs₅.extBut _ _ c2 (hs₄.extBut _ _ c4 (hs₃.extBut _ _ c2 (hs₂.extBut _ _ c3 (hs₁.extBut _ _ c1 e))))
  have h1₅ : St1 (i + 1) h₅ := D1.frame _ _ _ h1₂ fun b hb o e => hs₅.extBut _ _ (D.f1 b hb).2.1 (hs₄.extBut _ _ (D.f1 b hb).2.2 (hs₃.extBut _ _ (D.f1 b hb).2.1 e))
  have h2₅ : St2 (i + 1) h₅ := D2.frame _ _ _ h2₄ fun b hb o e => hs₅.extBut _ _ (D.f2 b hb).2.1 e
  have hzlt : z < h₅.objs.size := Heap.lt_size hz₅
  show wpAny _ _ (Builtin.SmallTypes.ownedTupleHandOut (.ref z) (.ref h₅.objs.size) >>= _) _ _ _
  refine wpAny_bind ?_
  unfold Builtin.SmallTypes.ownedTupleHandOut
  have hz₆ : IsZip (h₅.push { cls := .type "tuple", data := .seq #[x, y] }) z TI TO .ellipsis := Heap.get?_push_of_some _ hz₅
  refine wpAny_bind (wpAny_setField_rec hz₆ (by simp) fun h₇ hz₇ hs₇ => ?_)
  replace hz₇ : IsZip h₇ z TI TO (rawInt h₅.objs.size) := hz₇
  refine wpAny_setField_rec hz₇ (by simp) fun h₈ hz₈ hs₈ => ?_
  replace hz₈ : IsZip h₈ z TI TO (rawInt h₅.objs.size) := hz₈
  have up : ∀ c o, c ≠ z → h₅.get? c = some o → h₈.get? c = some o := fun c o c1 e => hs₈.extBut _ _ c1 (hs₇.extBut _ _ c1 (Heap.get?_push_of_some _ e))
  have hT₈ : IsPair h₈ h₅.objs.size x y := hs₈.extBut _ _ (Nat.ne_of_gt hzlt) (hs₇.extBut _ _ (Nat.ne_of_gt hzlt) (Heap.get?_push_size _ rfl))
  have hz8 : h₈.objs.size = h₅.objs.size + 1 := by rw [hs₈.1, hs₇.1, Heap.size_push]
  rw [hsz] at hz₈ hT₈ hz8
  refine wpAny_pure ⟨_, rfl, ?_⟩
  show Q (.ref h₅.objs.size) _
  rw [hsz]
  exact hQ x y h₈ _ hPx hPy hz₈ (up _ _ D.TOz hTO₅) (D1.frame _ _ _ h1₅ fun b hb o e => up _ o (D.f1 b hb).1 e) (D2.frame _ _ _ h2₅ fun b hb o e => up _ o (D.f2 b hb).1 e) hT₈ hz8 fun c o c1 c2 c3 c4 e => up c o c1 (hk₅ c o c1 c2 c3 c4 e)

theorem zipD_next_end {z TI TO i1 i2 : Addr} {fp1 fp2 : List Addr} {n1 n2 i : Nat} {P1 P2 : Nat → Value → Prop} {St1 St2 : Nat → Heap → Prop} {a b : Value} {Q : Fin → Shared → Prop} (D : ZDApart z TI TO i1 i2 fp1 fp2)
    (D1 : Draws prog w A i1 fp1 n1 P1 St1) (D2 : Draws prog w A i2 fp2 n2 P2 St2)
    (hz : IsZip s.heap z TI TO .none) (hTI : IsPair s.heap TI (.ref i1) (.ref i2)) (hTO : IsPair s.heap TO a b)
    (h1 : St1 i s.heap) (h2 : St2 i s.heap) (hi : i = min n1 n2)
    (hE : ∀ h' e tk, (∀ c o, c ≠ z → c ≠ TO → c ≠ i1 → c ≠ i2 → s.heap.get? c = some o → h'.get? c = some o) → (∃ o, h'.get? e = some o ∧ o.cls = .type "StopIteration") → E (.ref e) { s with heap := h', toks := tk }) :
    wpAny (model prog w) A (Builtin.«zip.__next__» ⟨[.ref z], []⟩) Q E s := by
  obtain ⟨hp, g, d, tk₀, os⟩ := s
  show wpAny _ _ (field (.ref z) 2 >>= _) _ _ _
  refine wpAny_bind (wpAny_field hz rfl (x := .bool false) rfl ?_)
  show wpAny _ _ (field (.ref z) 3 >>= _) _ _ _
  refine wpAny_bind (wpAny_field hz rfl (x := .ref TI) rfl ?_)
  refine wpAny_bind (wpAny_seqItems hTI rfl ?_)
  show wpAny _ _ (Builtin.SmallTypes.ownedTupleIsFree (.ref z) >>= _) _ _ _
  refine wpAny_bind ?_
  unfold Builtin.SmallTypes.ownedTupleIsFree
  refine wpAny_bind (wpAny_field hz rfl (x := .none) rfl (wpAny_pure ?_))
  simp only [if_true]
  refine wpAny_bind (wpAny_rule ?_)
  refine wpAny_bind (wpAny_field hz rfl (x := .ref TO) rfl ?_)
  refine wpAny_bind (wpAny_setField_rec hz (by simp) fun h₁ hz₁ hs₁ => ?_)
  replace hz₁ : IsZip h₁ z TI TO .ellipsis := hz₁
  refine wpAny_bind ?_
  simp only [List.zipIdx_cons, List.zipIdx_nil, List.forIn_cons, List.forIn_nil]
  refine wpAny_bind (wpAny_bind (wpAny_onRaise ?_))
  show wpAny _ _ (Builtin.SmallTypes.nextOf (.ref i1) >>= _) _ _ _
  have h1₁ : St1 i h₁ := D1.frame _ _ _ h1 fun b hb o e => hs₁.extBut _ _ (D.f1 b hb).1 e
  by_cases l1 : i < n1
  · have l2 : i = n2 := by omega
    refine wpAny_bind (D1.item i _ _ _ l1 h1₁ fun x h₂ tk hPx h1₂ hs₂ => wpAny_pure ?_)
    have hTO₂ : IsPair h₂ TO a b := hs₂.extBut _ _ D.TOi1 (hs₁.extBut _ _ D.TOz hTO)
    refine wpAny_bind (wpAny_seqItems hTO₂ rfl ?_)
    refine wpAny_bind (wpAny_updateSeq_pair hTO₂ fun h₃ hTO₃ hs₃ => ?_)
    refine wpAny_bind (wpAny_letGo (wpAny_pure ?_))
    refine wpAny_bind (wpAny_bind (wpAny_onRaise ?_))
    show wpAny _ _ (Builtin.SmallTypes.nextOf (.ref i2) >>= _) _ _ _
    have h2₃ : St2 i h₃ := D2.frame _ _ _ h2 fun b hb o e => hs₃.extBut _ _ (D.f2 b hb).2.1 (hs₂.extBut _ _ (D.f2 b hb).2.2 (hs₁.extBut _ _ (D.f2 b hb).1 e))
    refine wpAny_bind (D2.done _ _ _ (l2 ▸ h2₃) fun h₄ e hs₄ he => ?_)
    obtain ⟨oe, hoe, hce⟩ := he
    have hz₄ : IsZip h₄ z TI TO .ellipsis := hs₄ _ _ D.i2z.symm (hs₃.extBut _ _ D.TOz.symm (hs₂.extBut _ _ D.i1z.symm hz₁))
    have hez : e ≠ z := fun x => by subst x; rw [hz₄] at hoe; cases hoe; simp at hce
    refine wpAny_setField_rec hz₄ (by simp) fun h₅ _ hs₅ => hE h₅ e _ (fun c o c1 c2 c3 c4 x => hs₅.extBut _ _ c1 (hs₄ _ _ c4 (hs₃.extBut _ _ c2 (hs₂.extBut _ _ c3 (hs₁.extBut _ _ c1 x))))) ⟨oe, hs₅.extBut _ _ hez hoe, hce⟩
  · have l1 : i = n1 := by omega
    refine wpAny_bind (D1.done _ _ _ (l1 ▸ h1₁) fun h₂ e hs₂ he => ?_)
    obtain ⟨oe, hoe, hce⟩ := he
    have hz₂ : IsZip h₂ z TI TO .ellipsis := hs₂ _ _ D.i1z.symm hz₁
    have hez : e ≠ z := fun x => by subst x; rw [hz₂] at hoe; cases hoe; simp at hce
    refine wpAny_setField_rec hz₂ (by simp) fun h₃ _ hs₃ => hE h₃ e _ (fun c o c1 _ c3 _ x => hs₃.extBut _ _ c1 (hs₂ _ _ c3 (hs₁.extBut _ _ c1 x))) ⟨oe, hs₃.extBut _ _ hez hoe, hce⟩

/-- what zip of two iterators hands out, turn by turn -/
theorem walks_zipD (hh : A.handled = none) {z TI TO i1 i2 : Addr} {fp1 fp2 : List Addr} {n1 n2 : Nat} {P1 P2 : Nat → Value → Prop} {St1 St2 : Nat → Heap → Prop} (D : ZDApart z TI TO i1 i2 fp1 fp2)
    (D1 : ∀ A : Around, A.handled = none → Draws prog w A i1 fp1 n1 P1 St1) (D2 : ∀ A : Around, A.handled = none → Draws prog w A i2 fp2 n2 P2 St2) :
    WalksT prog w A z (z :: TI :: TO :: i1 :: i2 :: (fp1 ++ fp2)) [z, TO, i1, i2] (min n1 n2)
      (fun i vals => ∃ x y, P1 i x ∧ P2 i y ∧ vals = #[x, y])
      (fun i h => IsZip h z TI TO .none ∧ IsPair h TI (.ref i1) (.ref i2) ∧ (∃ a b, IsPair h TO a b) ∧ St1 i h ∧ St2 i h)
      (fun i T h => IsZip h z TI TO (rawInt T) ∧ IsPair h TI (.ref i1) (.ref i2) ∧ (∃ a b, IsPair h TO a b) ∧ St1 (i + 1) h ∧ St2 (i + 1) h ∧
        T ≠ z ∧ T ≠ TO ∧ T ≠ i1 ∧ T ≠ i2) where
  sub := fun c hc => by simp at hc ⊢; rcases hc with rfl | rfl | rfl | rfl <;> simp
  frame := fun i h h' hst hk => by
    obtain ⟨hz, hTI, ⟨a, b, hTO⟩, h1, h2⟩ := hst
    exact ⟨hk z (by simp) _ hz, hk TI (by simp) _ hTI, ⟨a, b, hk TO (by simp) _ hTO⟩, (D1 A hh).frame _ _ _ h1 fun b hb o e => hk b (by simp [hb]) o e, (D2 A hh).frame _ _ _ h2 fun b hb o e => hk b (by simp [hb]) o e⟩
  item := fun i s Q E hi hst hQ => by
    obtain ⟨hz, hTI, ⟨a, b, hTO⟩, h1, h2⟩ := hst
    have hi1 : i < n1 := Nat.lt_of_lt_of_le hi (Nat.min_le_left ..)
    have hi2 : i < n2 := Nat.lt_of_lt_of_le hi (Nat.min_le_right ..)
    have hT : s.TypeIs (.ref z) "zip" := ⟨_, hz, rfl⟩
    have lt : ∀ {c o}, s.heap.get? c = some o → s.heap.objs.size ≠ c := fun e => Nat.ne_of_gt (Heap.lt_size e)
    have lv1 := (D1 A hh).live _ _ h1
    have lv2 := (D2 A hh).live _ _ h2
    unfold pyNext
    refine wpAny_bind (wpAny_attempt (wpAny_callSpecial?_slot (name := Str.ofString "__next__") hT F.slot_zip_next
      (wpAny_call_entry F.slot_zip_next hT F.entry_zip_next
        (zipD_next_item D (D1 _ hh) (D2 _ hh) hz hTI hTO h1 h2 hi1 hi2 fun x y h' tk p1 p2 a1 a2 a3 a4 a5 a6 hk => wpAny_pure ?_) (F.args_zip_next_1 _))))
    exact hQ s.heap.objs.size #[x, y] h' tk ⟨_, _, p1, p2, rfl⟩ (Nat.le_refl _) ⟨_, a5, rfl, _, rfl⟩
      ⟨a1, hk _ _ D.TIz D.TITO D.TIi1 D.TIi2 hTI, ⟨_, _, a2⟩, a3, a4, lt hz, lt hTO, (by obtain ⟨_, e⟩ := lv1; exact lt e), (by obtain ⟨_, e⟩ := lv2; exact lt e)⟩
      fun c o hc e => hk c o (fun x => hc (by simp [x])) (fun x => hc (by simp [x])) (fun x => hc (by simp [x])) (fun x => hc (by simp [x])) e
  go := fun elts k pos i T s Q E hm hQ => by
    obtain ⟨hz, hTI, ⟨a, b, hTO⟩, h1, h2, _⟩ := hm
    refine wpAny_letOwnedTupleGo_zip hz fun h' hz' hs' => hQ h' ⟨hz', hs'.extBut _ _ D.TIz hTI, ⟨a, b, hs'.extBut _ _ D.TOz hTO⟩, (D1 A hh).frame _ _ _ h1 fun b hb o e => hs'.extBut _ _ (D.f1 b hb).1 e,
      (D2 A hh).frame _ _ _ h2 fun b hb o e => hs'.extBut _ _ (D.f2 b hb).1 e⟩ fun c o hc e => hs'.extBut _ _ (fun x => hc (by simp [x])) e
  apart := fun i T h hm hT => by
    obtain ⟨_, _, _, _, _, t1, t2, t3, t4⟩ := hm
    simp at hT
    rcases hT with rfl | rfl | rfl | rfl
    · exact t1 rfl
    · exact t2 rfl
    · exact t3 rfl
    · exact t4 rfl
  done := fun s Q E hst hQ => by
    obtain ⟨hz, hTI, ⟨a, b, hTO⟩, h1, h2⟩ := hst
    have hT : s.TypeIs (.ref z) "zip" := ⟨_, hz, rfl⟩
    unfold pyNext
    refine wpAny_bind (wpAny_attempt (wpAny_callSpecial?_slot (name := Str.ofString "__next__") hT F.slot_zip_next
      (wpAny_call_entry F.slot_zip_next hT F.entry_zip_next (zipD_next_end D (D1 _ hh) (D2 _ hh) hz hTI hTO h1 h2 rfl fun h' e tk hk he => ?_) (F.args_zip_next_1 _))))
    obtain ⟨o, ho, hc⟩ := he
    refine wpAny_bind (wpAny_isInstance (T := "StopIteration") (b := true) ⟨o, ho, hc⟩ isSubtype_stop ?_)
    exact wpAny_pure (hQ h' tk fun c o hc e =>
      hk c o (fun x => hc (by simp [x])) (fun x => hc (by simp [x])) (fun x => hc (by simp [x])) (fun x => hc (by simp [x])) e)
  self := fun i s Q E hst hQ => wpAny_pyIter_zip hst.1 hQ
end
end
section
open PyProof.Rows PyProof.Rows.LCg PySem PySem.Calls PySem.W
theorem ln_KuZipC_0 : True := by
  k_with_none
  trivial
set_option maxHeartbeats 4000000
theorem meets_zip_LS (l1 : Addr) (xs : Array Value) (x : Str) (t : Tok) (ha : x.cps.all (· < 128) = true) :
    Meets (Builtin.«zip.__new__» ⟨[.type "zip", .ref l1, .str x t], []⟩) (fun _ R s => s.heap.IsList l1 xs ∧
      R (.ok (.ret (.ref (s.heap.objs.size + 4)))) { s with heap := ((((s.heap.push { cls := .type "list_iterator", data := .fields #[.ref l1, .int 0 0] }).push { cls := .type "str_ascii_iterator", data := .fields #[.str x t, .int 0 0] }).push
        { cls := .type "tuple", data := .seq #[.ref s.heap.objs.size, .ref (s.heap.objs.size + 1)] }).push { cls := .type "tuple", data := .seq #[.none, .none] }).push { cls := .type "zip", data := .fields #[.none, .bool false, .bool false, .ref (s.heap.objs.size + 2), .ref (s.heap.objs.size + 3)] } }) :=
  .of_wp fun prog w A R s h => by
    obtain ⟨hp, g, d, tk, os⟩ := s; obtain ⟨hl1, h⟩ := h
    have hsub := sub_zip
    have hL1 : Heap.IsList (Shared.heap ⟨hp, g, d, tk, os⟩) l1 xs := hl1
    dsimp only at h
    have z1 : ∀ o, (hp.push o).objs.size = hp.objs.size + 1 := fun o => Heap.size_push ..
    wp_walk using wpAny_pyIter_list hL1, wpAny_pyIter_ascii ha
    refine ⟨_, rfl, ?_⟩
    simp only [Heap.size_push, Nat.add_assoc] at h ⊢
    exact h
theorem zdapart (z l : Nat) (h : l < z) : ZDApart (z + 4) (z + 2) (z + 3) z (z + 1) [z, l] [z + 1] := by
  constructor <;> first | omega | (intro b hb; simp at hb; omega)
theorem zwr (z b : Nat) (hb : b ∈ [z + 4, z + 3, z, z + 1]) : z ≤ b := by simp at hb; omega
theorem zwr2 (z b : Nat) (hb : b ∈ [z + 4, z + 3, z, z + 1]) : b ≠ z + 2 := by simp at hb; omega
theorem zfp (z l b : Nat) (h : l < z) (hb : b ∈ (z + 4) :: (z + 2) :: (z + 3) :: z :: (z + 1) :: ([z, l] ++ [z + 1])) : b < z + 5 := by simp at hb; omega
section
variable {prog : Program} {w : World} {A : Around} {E : Value → Shared → Prop} {s : Shared} {h₀ : Heap} {L : Addr} {m : Str → Option Value} {env : Env}
theorem call_zip_LS {l1 : Addr} {xs : Array Value} {x : Str} {t : Tok} (ha : x.cps.all (· < 128) = true) {Q : Value → Shared → Prop} (hl1 : s.heap.IsList l1 xs)
    (h : ∀ h', IsZip h' (s.heap.objs.size + 4) (s.heap.objs.size + 2) (s.heap.objs.size + 3) .none → IsPair h' (s.heap.objs.size + 2) (.ref s.heap.objs.size) (.ref (s.heap.objs.size + 1)) →
      IsPair h' (s.heap.objs.size + 3) .none .none → h'.IsListIter s.heap.objs.size l1 0 → h'.IsStrIter (s.heap.objs.size + 1) "str_ascii_iterator" x t 0 → h'.objs.size = s.heap.objs.size + 5 →
      (∀ c o, s.heap.get? c = some o → h'.get? c = some o) → Q (.ref (s.heap.objs.size + 4)) { s with heap := h' }) :
    wpAny (model prog w) A (call (.type "zip") [.ref l1, .str x t]) Q E s := by
  refine callType_new F.called_zip (by decide) (F.typeCall_zip_2 _ _) (F.newCall_zip_2 _ _) (fun obj => F.args_object_init_3 obj _ _) F.entry_zip_new
    (meets_zip_LS l1 xs x t ha) ⟨hl1, ?_⟩
  obtain ⟨hp, g, d, tk, os⟩ := s
  dsimp only at h ⊢
  generalize hz : hp.objs.size = z at h ⊢
  generalize h1 : hp.push { cls := .type "list_iterator", data := .fields #[.ref l1, .int 0 0] } = H1
  have s1 : H1.objs.size = z + 1 := by rw [← h1, Heap.size_push, hz]
  generalize h2 : H1.push { cls := .type "str_ascii_iterator", data := .fields #[.str x t, .int 0 0] } = H2
  have s2 : H2.objs.size = z + 2 := by rw [← h2, Heap.size_push, s1]
  generalize h3 : H2.push { cls := .type "tuple", data := .seq #[.ref z, .ref (z + 1)] } = H3
  have s3 : H3.objs.size = z + 3 := by rw [← h3, Heap.size_push, s2]
  generalize h4 : H3.push { cls := .type "tuple", data := .seq #[.none, .none] } = H4
  have s4 : H4.objs.size = z + 4 := by rw [← h4, Heap.size_push, s3]
  generalize h5 : H4.push { cls := .type "zip", data := .fields #[.none, .bool false, .bool false, .ref (z + 2), .ref (z + 3)] } = H5
  have s5 : H5.objs.size = z + 5 := by rw [← h5, Heap.size_push, s4]
  have k5 : ∀ c o, H4.get? c = some o → H5.get? c = some o := fun c o e => h5 ▸ Heap.get?_push_of_some _ e
  have k4 : ∀ c o, H3.get? c = some o → H4.get? c = some o := fun c o e => h4 ▸ Heap.get?_push_of_some _ e
  have k3 : ∀ c o, H2.get? c = some o → H3.get? c = some o := fun c o e => h3 ▸ Heap.get?_push_of_some _ e
  have k2 : ∀ c o, H1.get? c = some o → H2.get? c = some o := fun c o e => h2 ▸ Heap.get?_push_of_some _ e
  have k1 : ∀ c o, hp.get? c = some o → H1.get? c = some o := fun c o e => h1 ▸ Heap.get?_push_of_some _ e
  have g5 : H5.get? (z + 4) = some { cls := .type "zip", data := .fields #[.none, .bool false, .bool false, .ref (z + 2), .ref (z + 3)] } := by rw [← h5]; refine Eq.trans (congrArg _ s4.symm) ?_; exact Heap.get?_push_size _ rfl
  have g4 : H4.get? (z + 3) = some { cls := .type "tuple", data := .seq #[.none, .none] } := by rw [← h4]; refine Eq.trans (congrArg _ s3.symm) ?_; exact Heap.get?_push_size _ rfl
  have g3 : H3.get? (z + 2) = some { cls := .type "tuple", data := .seq #[.ref z, .ref (z + 1)] } := by rw [← h3]; refine Eq.trans (congrArg _ s2.symm) ?_; exact Heap.get?_push_size _ rfl
  have g2 : H2.get? (z + 1) = some { cls := .type "str_ascii_iterator", data := .fields #[.str x t, .int 0 0] } := by rw [← h2]; refine Eq.trans (congrArg _ s1.symm) ?_; exact Heap.get?_push_size _ rfl
  have g1 : H1.get? z = some { cls := .type "list_iterator", data := .fields #[.ref l1, .int 0 0] } := by rw [← h1]; refine Eq.trans (congrArg _ hz.symm) ?_; exact Heap.get?_push_size _ rfl
  exact ⟨⟨_, g5, rfl⟩, h _ g5 (k5 _ _ (k4 _ _ g3)) (k5 _ _ g4) ⟨_, k5 _ _ (k4 _ _ (k3 _ _ (k2 _ _ g1))), rfl, rfl⟩ ⟨_, k5 _ _ (k4 _ _ (k3 _ _ g2)), rfl, rfl⟩ s5 fun c o e => k5 _ _ (k4 _ _ (k3 _ _ (k2 _ _ (k1 _ _ e))))⟩
theorem drop2 {h : Heap} {a b : Addr × Obj} {r : List (Addr × Obj)} (N : News h₀ L h (a :: b :: r)) : News h₀ L h (a :: r) := fun p hp => N p (by
  rcases List.mem_cons.mp hp with rfl | hp
  · exact .head _
  · exact .tail _ (.tail _ hp))
theorem drop7 {h : Heap} {a1 a2 a3 a4 a5 a6 b : Addr × Obj} {r : List (Addr × Obj)} (N : News h₀ L h ([a1, a2, a3, a4] ++ a5 :: a6 :: b :: r)) : News h₀ L h (a1 :: a2 :: a3 :: a4 :: a5 :: a6 :: r) := fun p hp => N p (by
  simp only [List.cons_append, List.nil_append, List.mem_cons] at hp ⊢
  rcases hp with h | h | h | h | h | h | h <;> simp [h])
/-- a comprehension over zip(list, str) whose turns leave the heap alone -/
theorem zip_comp (hh : A.handled = none) {news : List (Addr × Obj)} (F : Fr h₀ L s.heap m) (N : News h₀ L s.heap news) {l : Addr} {vs : Array Value} {n : Nat} (hl : (l, listOf vs n) ∈ news) {x : Str} {t : Tok} (ha : x.cps.all (· < 128) = true)
    {elt : PySem.Expr} {a b : Str} {scope : Scope} {cl : List (Str × Addr)} {Q : Value → Shared → Prop} (hn : min vs.size x.cps.size ≤ 100000) (P : Nat → List Value → Prop) (h0 : P 0 [])
    (turn : ∀ i ys v₁ c u z TO i1 i2 oz oT o1 o2 C oC D m₂ h tk (E' : Value → Shared → Prop), vs[i]? = some v₁ → x.cps[i]? = some c → P i ys → NsObj oC m₂ → m₂ a = some v₁ → m₂ b = some (.str ⟨#[c]⟩ u) → Fr h₀ L h m →
      News h₀ L h ((z, oz) :: (TO, oT) :: (i1, o1) :: (i2, o2) :: (C, oC) :: (D, lst ys) :: news) →
      wpAny (model prog w) A (eval elt (compEnvC scope cl C env)) (fun y s₃ => ∃ tk', s₃ = { s with heap := h, toks := tk' } ∧ P (i + 1) (ys ++ [y])) E' { s with heap := h, toks := tk })
    (done : ∀ D ys h tk, P (min vs.size x.cps.size) ys → Fr h₀ L h m → News h₀ L h ((D, lst ys) :: news) → Q (.ref D) { s with heap := h, toks := tk }) :
    wpAny (model prog w) A (call (.type "zip") [.ref l, .str x t]) (fun xv s₁ => wpAny (model prog w) A (pyIter xv) (fun it s₂ => CompSrc prog w A h₀ L m env elt a b scope cl Q it s₂) E s₁) E s := by
  have hL : s.heap.IsList l vs := ⟨_, (N _ hl).1, rfl, n, rfl⟩
  refine call_zip_LS ha hL fun h' hz hTI hTO h1 h2 hsz hk => wpAny_pyIter_zip hz ?_
  have hlt : l < s.heap.objs.size := Heap.lt_size (N _ hl).1
  have hLlt : L < s.heap.objs.size := F.ns.lt
  have fresh : ∀ b, s.heap.objs.size ≤ b → b ≠ L ∧ h₀.get? b = none := fun b hb => ⟨Nat.ne_of_gt (Nat.lt_of_lt_of_le hLlt hb), by
    cases e : h₀.get? b with
    | none => rfl
    | some o' => exact absurd (Heap.lt_size (F.keep b o' e)) (Nat.not_lt.mpr hb)⟩
  have old : ∀ p ∈ news, p.1 < s.heap.objs.size := fun p hp => Heap.lt_size (N p hp).1
  have D : ZDApart (s.heap.objs.size + 4) (s.heap.objs.size + 2) (s.heap.objs.size + 3) s.heap.objs.size (s.heap.objs.size + 1) [s.heap.objs.size, l] [s.heap.objs.size + 1] := by
    exact zdapart _ _ hlt
  have W := (walks_zipD (prog := prog) (w := w) hh D (fun A' ha' => Draws.list (A := A') ha' _ l (Nat.ne_of_lt hlt) vs) (fun A' ha' => Draws.strAscii (A := A') ha' _ x t)).toU
  refine ⟨_, _, _, _, _, _, _, (s.heap.objs.size + 2, { cls := .type "tuple", data := .seq #[.ref s.heap.objs.size, .ref (s.heap.objs.size + 1)] }) :: news, fun i ys nw => nw = (s.heap.objs.size + 2, { cls := .type "tuple", data := .seq #[.ref s.heap.objs.size, .ref (s.heap.objs.size + 1)] }) :: news ∧ P i ys, ⟨rfl, hh, W, ?_, hn, ⟨hz, hTI, ⟨_, _, hTO⟩, ⟨h1, hL.at fun o e => hk _ o e⟩, h2⟩, ?_, ?_, ?_, F.keeps hk, ?_, ?_, ?_, ⟨rfl, h0⟩, ?_⟩, ?_⟩
  · rintro i vals ⟨x, y, _, _, e⟩; exact ⟨_, _, e⟩
  · intro b hb
    show b < h'.objs.size
    rw [hsz]; exact zfp _ _ _ hlt hb
  · intro b hb
    exact fresh b (zwr _ _ hb)
  · rintro i h ⟨a1, a2, ⟨_, _, a3⟩, ⟨⟨o4, a4, _⟩, _⟩, ⟨o5, a5, _⟩⟩ b hb
    simp at hb
    rcases hb with rfl | rfl | rfl | rfl
    · exact ⟨_, a1⟩
    · exact ⟨_, a3⟩
    · exact ⟨_, a4⟩
    · exact ⟨_, a5⟩
  · intro p hp
    rcases List.mem_cons.mp hp with rfl | hp
    · exact ⟨hTI, fresh _ (Nat.le_add_right _ _)⟩
    · exact ⟨hk _ _ (N p hp).1, (N p hp).2⟩
  · intro p hp hm
    rcases List.mem_cons.mp hp with rfl | hp
    · exact zwr2 _ _ hm rfl
    · exact Nat.lt_irrefl _ (Nat.lt_of_lt_of_le (old p hp) (zwr _ _ hm))
  · intro b hb
    simp at hb
    rcases hb with rfl | rfl | rfl | rfl | rfl | rfl | rfl | rfl
    · exact .inl (by simp)
    · exact .inr (.inr ⟨_, fun i ys nw hj => by rw [hj.1]; exact .head _⟩)
    · exact .inl (by simp)
    · exact .inl (by simp)
    · exact .inl (by simp)
    · exact .inl (by simp)
    · exact .inr (.inr ⟨_, fun i ys nw hj => by rw [hj.1]; exact .tail _ hl⟩)
    · exact .inl (by simp)
  · rintro i ys v₁ v₂ news₁ own C oC Dd m₂ h tk E' ⟨x', y', hx', ⟨c, u, hc, rfl⟩, e⟩ ⟨rfl, hP⟩ ho hoC hm1 hm2 F' N' hCw hDw hCD off
    obtain ⟨rfl, rfl⟩ : v₁ = x' ∧ v₂ = .str ⟨#[c]⟩ u := by
      have := congrArg Array.toList e
      simpa using this
    rcases own with _ | ⟨⟨_, oz⟩, _ | ⟨⟨_, oT⟩, _ | ⟨⟨_, o1⟩, _ | ⟨⟨_, o2⟩, _ | ⟨_, _⟩⟩⟩⟩⟩ <;> simp at ho
    obtain ⟨rfl, rfl, rfl, rfl⟩ := ho
    refine wpAny_mono (turn i ys v₁ c u _ _ _ _ oz oT o1 o2 C oC Dd m₂ h tk E' hx' hc hP hoC hm1 hm2 F' (drop7 N')) (fun y s₃ h₃ => ?_) fun _ _ e => e
    obtain ⟨tk', rfl, hP'⟩ := h₃
    exact ⟨h, tk', _, rfl, F', N', off, rfl, hP'⟩
  · rintro Dd ys news₁ h tk ⟨rfl, hP⟩ F' N' off
    exact done Dd ys h tk hP F' (drop2 N')
end
end
section
open PyProof.Rows PyProof.Rows.LCg PySem PySem.Calls PySem.W
theorem ln_KuFig_0 : True := by
  k_with_none
  trivial
set_option maxHeartbeats 4000000
section
variable {prog : Program} {w : World} {A : Around} {E : Value → Shared → Prop} {s : Shared} {h₀ : Heap} {L : Addr} {m : Str → Option Value} {env : Env}
theorem Comp_ownF (F₀ : Fr h₀ L s.heap m) {elt iter : PySem.Expr} {x x₂ : Str} {px px₂ tp : Pos} {tk : Nat} {scope : Scope} {cl : List (Str × Addr)} {pos : Pos} {Q : Value → Shared → Prop}
    (hclos : closureFor scope env = pure cl) (hcell : ∀ y ∈ scope.names, y.2 ≠ .cell) (hkind : scope.kind = .function)
    (hnames : ∀ y ∈ scope.names, y.2 = .local → scope.names.lookup y.1 = some .local) (hx : scope.names.lookup x = some .local) (hx₂ : scope.names.lookup x₂ = some .local) (hxx : x ≠ x₂)
    (hs : ∀ x, foldedSetIterable iter env x = pure x)
    (h : wpAny (model prog w) A (eval iter env) (fun xv s₁ => wpAny (model prog w) A (pyIter xv) (fun it s₂ => CompSrc prog w A h₀ L m env elt x x₂ scope cl Q it s₂) E s₁) E s) :
    wpAny (model prog w) A (eval (.ListComp elt [⟨.Tuple [.Name x px, .Name x₂ px₂] tk tp, iter, [], 0⟩] scope pos) env) Q E s := Comp_own hclos hcell hkind hnames hx hx₂ hxx h hs
theorem fig_zip (hh : A.handled = none) {news : List (Addr × Obj)} (F : Fr h₀ L s.heap m) (N : News h₀ L s.heap news) {l : Addr} {n k d f : Nat} {ta tb t : Tok} (hl : (l, listOf #[.str (Str.ofString ".") ta, .str (S [d]) tb] n) ∈ news) (hk : k < 11) (hf : f < 3)
    {elt : PySem.Expr} {a b : Str} {scope : Scope} {cl : List (Str × Addr)} {Q : Value → Shared → Prop}
    (turn0 : ∀ u z TO i1 i2 oz oT o1 o2 C oC D m₂ h tk (E' : Value → Shared → Prop), NsObj oC m₂ → m₂ a = some (.str (Str.ofString ".") ta) → m₂ b = some (.str (S [97 + k]) u) → Fr h₀ L h m →
      News h₀ L h ((z, oz) :: (TO, oT) :: (i1, o1) :: (i2, o2) :: (C, oC) :: (D, lst []) :: news) →
      wpAny (model prog w) A (eval elt (compEnvC scope cl C env)) (fun y s₃ => ∃ tk', s₃ = { s with heap := h, toks := tk' } ∧ y = .bool true) E' { s with heap := h, toks := tk })
    (turn1 : ∀ u z TO i1 i2 oz oT o1 o2 C oC D m₂ h tk (E' : Value → Shared → Prop), NsObj oC m₂ → m₂ a = some (.str (S [d]) tb) → m₂ b = some (.str (S [48 + f]) u) → Fr h₀ L h m →
      News h₀ L h ((z, oz) :: (TO, oT) :: (i1, o1) :: (i2, o2) :: (C, oC) :: (D, lst [.bool true]) :: news) →
      wpAny (model prog w) A (eval elt (compEnvC scope cl C env)) (fun y s₃ => ∃ tk', s₃ = { s with heap := h, toks := tk' } ∧ y = .bool (S [d] == S [48 + f])) E' { s with heap := h, toks := tk })
    (done : ∀ D h tk, Fr h₀ L h m → News h₀ L h ((D, lst [.bool true, .bool (S [d] == S [48 + f])]) :: news) → Q (.ref D) { s with heap := h, toks := tk }) :
    wpAny (model prog w) A (call (.type "zip") [.ref l, .str (S [97 + k, 48 + f]) t]) (fun xv s₁ => wpAny (model prog w) A (pyIter xv) (fun it s₂ => CompSrc prog w A h₀ L m env elt a b scope cl Q it s₂) E s₁) E s := by
  have hsz : (S [97 + k, 48 + f]).cps.size = 2 := rfl
  refine zip_comp hh F N hl ?_ (Nat.le_trans (Nat.min_le_left _ _) (by show 2 ≤ 100000; decide)) (fun i ys => ys = [Value.bool true, Value.bool (S [d] == S [48 + f])].take i) rfl ?_ ?_
  · simp [S]; omega
  · intro i ys v₁ c u z TO i1 i2 oz oT o1 o2 C oC D m₂ h tk E' h1 h2 hP ho ha hb F' N'
    subst hP
    rcases i with _ | _ | i
    · obtain rfl : v₁ = .str (Str.ofString ".") ta := by simpa using h1.symm
      obtain rfl : c = 97 + k := by simpa [S] using h2.symm
      refine wpAny_mono (turn0 u z TO i1 i2 oz oT o1 o2 C oC D m₂ h tk E' ho ha hb F' N') (fun y s₃ h₃ => ?_) fun _ _ e => e
      obtain ⟨tk', rfl, rfl⟩ := h₃
      exact ⟨tk', rfl, rfl⟩
    · obtain rfl : v₁ = .str (S [d]) tb := by simpa using h1.symm
      obtain rfl : c = 48 + f := by simpa [S] using h2.symm
      refine wpAny_mono (turn1 u z TO i1 i2 oz oT o1 o2 C oC D m₂ h tk E' ho ha hb F' N') (fun y s₃ h₃ => ?_) fun _ _ e => e
      obtain ⟨tk', rfl, rfl⟩ := h₃
      exact ⟨tk', rfl, rfl⟩
    · simp at h1
  · intro D ys h tk hP F' N'
    rw [hsz] at hP
    subst hP
    exact done D h tk F' N'
theorem notin_bools {news : List (Addr × Obj)} (N : News h₀ L s.heap news) {D : Addr} {b : Bool} (hm : (D, lst [.bool true, .bool b]) ∈ news) {Q : Value → Shared → Prop} (h : Q (.bool b) s) : wpAny (model prog w) A (compareOp .NotIn (.bool false) (.ref D)) Q E s := by
  refine SeqInW.notIn_listW (items := #[.bool true, .bool b]) (fun v => match v with | .bool c => c == false | _ => false) (fun y hy => ?_) ⟨_, (N _ hm).1, rfl, _, rfl⟩ ?_
  · have hy : y = .bool true ∨ y = .bool b := by simpa using hy
    rcases hy with rfl | rfl
    · exact fun prog w A E s Q h => SeqAt.EqAt.bool_bool (A := A) (s := s) true false prog w E Q h
    · exact fun prog w A E s Q h => SeqAt.EqAt.bool_bool (A := A) (s := s) b false prog w E Q h
  · cases b <;> simpa using h
end
end
section
open PyProof.Rows PySem PySem.Calls PySem.W
open PyProof.Rows.LCg (lst NsObj)
theorem ln_KuLf_1 : True := by
  k_with_none
  k_with "k_room" => (((try simp only [depth_mark, depth_under_make, depth_under_kw, depth_in1, depth_deeper, depth_caller]); (try dsimp only [ktrTop]); omega))
  k_with "k_units" => (((try simp only [units_in1, units_deeper, Around.mark_units, units_caller]); (try dsimp only [ktrTop]); omega))
  k_with "k_ne" => ((refine neN ?_; (try dsimp only); first | exact Ap.ne (by assumption) | exact Ap.en (by assumption) | omega))
  k_with "ktr_unf" => ((
      refine' code_defT ?zk1 ?zk2 ?zk3 ?zk4 ?zk5 ?zkA ?zkF ?zkK ?zk6 ?zk7 ?zk8 ?zk9k ?zkB ?_ ?zc2 ?zc3 ?zc4 ?zc5
      case zkA => exact rfl
      case zkF => first | assumption | exact rfl
      case zkK => first | assumption | exact rfl
      case zk1 => k_asm
      case zk2 => k_asm
      case zk3 => k_asm
      case zk4 => k_asm
      case zk5 => k_asm
      case zk6 => k_is
      case zk7 => k_is
      case zk8 => k_room
      case zk9k => first | exact BindsTo.of_eq rfl | exact binds_K (by k_in) rfl (by k_is) rfl rfl rfl
      case zc5 => decide
      case zkB => exact locs rfl
      case zc2 => exact rfl
      case zc3 => exact rfl
      case zc4 => exact rfl
      intro g'k L'k h'k hg'k F'k N'k B'k X'k T'k l1k
      (try k_lt l1k)
      (try dsimp only)
      (try k_lift B'k)
      (try k_fold)))
  k_with "ktr_rel" => (first | exact List.forall_mem_nil _ | (refine' List.forall_mem_cons.mpr ⟨?za, ?zb⟩; (case za => k_mem); (case zb => ktr_rel)))
  k_with "tb_rel" => (first | exact Upds.nil | (refine' Upds.cons ?za ?zb; (case za => k_upd); (case zb => tb_rel)))
  trivial
theorem word_facts (k f : Nat) (hk : k < 11) (hf : f < 3) : Txt.rfind (S (wordL k f)) (Str.ofString "/") = 4 ∧ Txt.rfind (Txt.slice (S (wordL k f)) (some (4 + 1)) none) (Str.ofString "/") = -1 ∧ Txt.rfind (Txt.slice (S (wordL k f)) (some (4 + 1)) none) (Str.ofString ".") = 2 ∧
    (Txt.slice (Txt.slice (S (wordL k f)) (some (4 + 1)) none) (some (-1 + 1)) (some (-1 + 1 + 1)) != Str.ofString ".") = true ∧ Txt.slice (Txt.slice (S (wordL k f)) (some (4 + 1)) none) none (some 2) = S [97 + k, 48 + f] ∧ (Txt.slice (S (wordL k f)) (some (4 + 1)) none).length ≤ 1000 ∧ (S (wordL k f)).length ≤ 1000 := by
  have h : ∀ k < 11, ∀ f < 3, Txt.rfind (S (wordL k f)) (Str.ofString "/") = 4 ∧ Txt.rfind (Txt.slice (S (wordL k f)) (some (4 + 1)) none) (Str.ofString "/") = -1 ∧ Txt.rfind (Txt.slice (S (wordL k f)) (some (4 + 1)) none) (Str.ofString ".") = 2 ∧
    (Txt.slice (Txt.slice (S (wordL k f)) (some (4 + 1)) none) (some (-1 + 1)) (some (-1 + 1 + 1)) != Str.ofString ".") = true ∧ Txt.slice (Txt.slice (S (wordL k f)) (some (4 + 1)) none) none (some 2) = S [97 + k, 48 + f] ∧ (Txt.slice (S (wordL k f)) (some (4 + 1)) none).length ≤ 1000 ∧ (S (wordL k f)).length ≤ 1000 := by decide +kernel
  exact h k hk f hf
theorem use_md {PG : Program} {LS : List Str} {w : World} {mean : ExcName → Option Value} {mg mb : Str → Option Value} {dp un : Nat} {gd : Option (List Code)}  {env : Env} {outer : List Env} {A₀ : Around} {base h₀ : Heap} {L : Addr} {m : Str → Option Value} {s : Shared} {Q : Value → Shared → Prop} {E : Value → Shared → Prop}
   (B : Below A₀ base outer h₀) (F : Fr h₀ L s.heap m) (X : (hd.heap_1 w.params).In h₀) (T : Top PG LS mean mg mb h₀) (hf : env.frame = some L) (hk : env.scope.kind = .function) (hdp : dp + 40 < recursionLimit) (hu : un + 300 < cLine)
   {k f : Nat} (hk1 : k < 11) (hf1 : f < 3) {tx : Tok} {news : List (Addr × Obj)} (N : News h₀ L s.heap news)
   (q : ∀ t' h' tk', Fr h₀ L h' m → News h₀ L h' news → Q (.str (S [97 + k, 48 + f]) t') {s with heap := h', toks := tk'}) :
   wpAny (model PySem.Challenge.pw_ku0029_01 w) (⟨none, dp, some (env :: outer), gd, un⟩ : Around) (call (.ref 107) [.str (S (wordL k f)) tx]) Q E s := by
  obtain ⟨w1, w2, w3, w4, w5, w6, w7⟩ := word_facts k f hk1 hf1
  refine mod_spec w mean mg mb dp un gd env outer A₀ base h₀ L m s Q E B F X T hf hk hdp hu _ _ _ w7 w6 tx w1 rfl w2 w3 w4 w5 ?_ News.nil
  intro t' h' tk' t
  have z := touch_back (N₁ := []) (rest := news) F N (fun p hp => nomatch hp) (fun p hp => ⟨hp, fun q hq => nomatch hq⟩) t
  exact q t' h' tk' z.1 z.2
theorem use_tr {PG : Program} {LS : List Str} {w : World} {mean : ExcName → Option Value} {mg mb : Str → Option Value} {dp un : Nat} {gd : Option (List Code)}  {env : Env} {outer : List Env} {A₀ : Around} {base h₀ : Heap} {L : Addr} {m : Str → Option Value} {s : Shared} {Q : Value → Shared → Prop} {E : Value → Shared → Prop}
   (B : Below A₀ base outer h₀) (F : Fr h₀ L s.heap m) (X : (hd.heap_1 w.params).In h₀) (T : Top PG LS mean mg mb h₀) (hf : env.frame = some L) (hk : env.scope.kind = .function) (hdp : dp + 40 < recursionLimit) (hu : un + 300 < cLine)
   {x : Str} {d : Nat} (hx : x = S [63, d]) (hd : d = 48 ∨ d = 49 ∨ d = 50) {t1 t2 t3 : Tok} {news : List (Addr × Obj)} (N : News h₀ L s.heap news)
   (q : ∀ a ta tb n h' tk', Fr h₀ L h' m → News h₀ L h' ((a, listOf #[.str (Str.ofString ".") ta, .str (S [d]) tb] n) :: news) → Q (.ref a) {s with heap := h', toks := tk'}) :
   wpAny (model PySem.Challenge.pw_ku0029_01 w) (⟨none, dp, some (env :: outer), gd, un⟩ : Around) (call (.ref 131) [.str x t1, .str (Str.ofString "*") t2, .str (Str.ofString ".") t3]) Q E s := by
  subst hx
  refine tr_spec w mean mg mb dp un gd env outer A₀ base h₀ L m s Q E B F X T hf hk hdp hu d hd t1 t2 t3 ?_ News.nil
  intro a ta tb n h' tk' t
  have z := touch_back (N₁ := []) (rest := news) F N (fun p hp => nomatch hp) (fun p hp => ⟨hp, fun q hq => nomatch hq⟩) t
  exact q a ta tb n h' tk' z.1 z.2
theorem len_two {prog : Program} {w : World} {A : Around} {E : Value → Shared → Prop} {s : Shared} {c d : Nat} {t : Tok} {Q : Value → Shared → Prop} (h : ∀ u tk', Q (.int 2 u) { s with toks := tk' }) : wpAny (model prog w) A (call (.builtin "len") [.str (S [c, d]) t]) Q E s :=
  PyProof.Rows.len_str (by rw [show (S [c, d]).length = 2 from rfl]; decide) (h _ _)
theorem ln_KuLf_2 : True := by
  k_with "call builtin:len" => ((k_here; (with_reducible show wpAny _ _ (call (Value.builtin "len") [Value.str _ _]) _ _ _); (refine len_two ?_); intro _ _))
  trivial
theorem dig_s0 : Str.ofString "?" ++ Str.ofString "0" = S [63, 48] := by decide +kernel
theorem dig_s1 : Str.ofString "?" ++ Str.ofString "1" = S [63, 49] := by decide +kernel
theorem dig_s2 : Str.ofString "?" ++ Str.ofString "2" = S [63, 50] := by decide +kernel
theorem ln_KuLf_3 : True := by
  k_with "call ref" => ((k_here; (with_reducible show wpAny _ _ (call (Value.ref 107) _) _ _ _); k_dflt (refine' use_md ?zB ?zF ?zX ?zT ?zhf ?zhk ?zhdp ?zhu ?zhk1 ?zhf1 ?zN ?_; (case zB => k_asm); (case zF => k_asm); (case zX => k_asm); (case zT => k_asm); (case zhf => exact rfl); (case zhk => exact rfl); (case zhdp => k_room); (case zhu => k_units); (case zhk1 => assumption); (case zhf1 => assumption); (case zN => k_asm); k_whole; intro t9k h9k tk9k F9k N9k; (try dsimp only); (try k_fold))))
  k_with "call ref" => ((k_here; (with_reducible show wpAny _ _ (call (Value.ref 131) _) _ _ _); k_dflt (refine' use_tr ?zB ?zF ?zX ?zT ?zhf ?zhk ?zhdp ?zhu ?zhx ?zhd ?zN ?_; (case zB => k_asm); (case zF => k_asm); (case zX => k_asm); (case zT => k_asm); (case zhf => exact rfl); (case zhk => exact rfl); (case zhdp => k_room); (case zhu => k_units); (case zhx => first | exact dig_s0 | exact dig_s1 | exact dig_s2); (case zhd => decide); (case zN => k_asm); k_whole; intro a9k ta9k tb9k n9k h9k tk9k F9k N9k; (try dsimp only); (try k_fold))))
  k_with "eval ListComp" => ((k_here; (with_reducible show wpAny _ _ (eval (Expr.ListComp _ _ _ _) _) _ _ _); k_dflt (refine' Comp_ownF ?zF0 ?zc1 ?zc2 ?zc3 ?zc4 ?zc5 ?zc6 ?zc7 ?zc8 ?_; (case zF0 => k_asm); (case zc1 => with_unfolding_all rfl); (case zc2 => decide); (case zc3 => exact rfl); (case zc4 => decide); (case zc5 => exact rfl); (case zc6 => exact rfl); (case zc7 => decide); (case zc8 => intro _; exact rfl))))
  k_with "call type:zip" => ((k_here; (with_reducible show wpAny _ _ (call (Value.type "zip") [_, _]) _ _ _); refine Hold.of ?_))
  k_with "compareOp NotIn bool ref" => ((k_here; (with_reducible show wpAny _ _ (compareOp CmpOp.NotIn (Value.bool false) (Value.ref _)) _ _ _); (refine' notin_bools ?zN ?zhm ?_; (case zN => k_asm); (case zhm => k_mem))))
  trivial
set_option maxHeartbeats 4000000 in
theorem lf_spec {PG : Program} {LS : List Str} (w : World) (mean : ExcName → Option Value) (mg mb : Str → Option Value) (dp un : Nat) (gd : Option (List Code))  (env : Env) (outer : List Env) (A₀ : Around) (base h₀ : Heap) (L : Addr) (m : Str → Option Value) (s : Shared) (Q : Value → Shared → Prop) (E : Value → Shared → Prop)
   (B : Below A₀ base outer h₀) (F : Fr h₀ L s.heap m) (X : (hd.heap_1 w.params).In h₀) (T : Top PG LS mean mg mb h₀) (hf : env.frame = some L) (hk : env.scope.kind = .function) (hdp : dp + 60 < recursionLimit) (hu : un + 400 < cLine)
   (k f : Nat) (hk1 : k < 11) (hf1 : f < 3) (tx : Tok)
   (hret : ∀ t' h' tk', Touch s.heap h' [] [] → Q (.int f t') {s with heap := h', toks := tk'})
   (N : News h₀ L s.heap [])  :
   wpAny (model PySem.Challenge.pw_ku0029_01 w) (⟨none, dp, some (env :: outer), gd, un⟩ : Around) (call (.ref 809) [.str (S (wordL k f)) tx]) Q E s := by
  refine wpAny_call ?_
  ktr_unf
  k_steps
  refine Hold.mk ?_
  refine' fig_zip ?hh ?F ?N ?hl ?hk ?hf ?t0 ?t1 ?_
  case hh => exact rfl
  case F => k_asm
  case N => k_asm
  case hl => k_mem
  case hk => assumption
  case hf => assumption
  case t0 =>
    intro u z TO i1 i2 oz oT o1 o2 C oC D m₂ h tk E' hC1 hx1 hx2 F2 N2
    k_steps
  case t1 =>
    intro u z TO i1 i2 oz oT o1 o2 C oC D m₂ h tk E' hC1 hx1 hx2 F2 N2
    k_steps
  intro D h tk F2 N2
  (try dsimp only)
  cases hb0 : (S [48] == S [48 + f])
  · rw [hb0] at N2
    k_steps
    refine Hold.mk ?_
    refine' fig_zip ?hh ?F ?N ?hl ?hk ?hf ?t0 ?t1 ?_
    case hh => exact rfl
    case F => k_asm
    case N => k_asm
    case hl => k_mem
    case hk => assumption
    case hf => assumption
    case t0 =>
      intro u z TO i1 i2 oz oT o1 o2 C oC D m₂ h tk E' hC1 hx1 hx2 F2 N2
      k_steps
    case t1 =>
      intro u z TO i1 i2 oz oT o1 o2 C oC D m₂ h tk E' hC1 hx1 hx2 F2 N2
      k_steps
    intro D h tk F2 N2
    (try dsimp only)
    cases hb1 : (S [49] == S [48 + f])
    · rw [hb1] at N2
      k_steps
      refine Hold.mk ?_
      refine' fig_zip ?hh ?F ?N ?hl ?hk ?hf ?t0 ?t1 ?_
      case hh => exact rfl
      case F => k_asm
      case N => k_asm
      case hl => k_mem
      case hk => assumption
      case hf => assumption
      case t0 =>
        intro u z TO i1 i2 oz oT o1 o2 C oC D m₂ h tk E' hC1 hx1 hx2 F2 N2
        k_steps
      case t1 =>
        intro u z TO i1 i2 oz oT o1 o2 C oC D m₂ h tk E' hC1 hx1 hx2 F2 N2
        k_steps
      intro D h tk F2 N2
      (try dsimp only)
      cases hb2 : (S [50] == S [48 + f])
      · exfalso
        rcases (show f = 0 ∨ f = 1 ∨ f = 2 by omega) with rfl | rfl | rfl
        · exact absurd hb0 (by decide)
        · exact absurd hb1 (by decide)
        · exact absurd hb2 (by decide)
      · rw [hb2] at N2
        obtain rfl : f = 2 := by
          rcases (show f = 0 ∨ f = 1 ∨ f = 2 by omega) with rfl | rfl | rfl <;> first | rfl | exact absurd hb2 (by decide)
        k_steps
        exact hret _ _ _ (touch_mk (by assumption) (by assumption) (by assumption) (List.forall_mem_nil _))
    · rw [hb1] at N2
      obtain rfl : f = 1 := by
        rcases (show f = 0 ∨ f = 1 ∨ f = 2 by omega) with rfl | rfl | rfl <;> first | rfl | exact absurd hb1 (by decide)
      k_steps
      exact hret _ _ _ (touch_mk (by assumption) (by assumption) (by assumption) (List.forall_mem_nil _))
  · rw [hb0] at N2
    obtain rfl : f = 0 := by
      rcases (show f = 0 ∨ f = 1 ∨ f = 2 by omega) with rfl | rfl | rfl <;> first | rfl | exact absurd hb0 (by decide)
    k_steps
    exact hret _ _ _ (touch_mk (by assumption) (by assumption) (by assumption) (List.forall_mem_nil _))
end
section
open PyProof.Rows PySem PySem.Calls PySem.W
theorem ln_KuCell_0 : True := by
  k_with_none
  trivial
section
variable {prog : Program} {w : World} {A A₀ : Around} {E : Value → Shared → Prop} {s : Shared} {K : Frag} {L : Addr} {h₀ base : Heap} {m mg mb : Str → Option Value} {N₁ news : List (Addr × Obj)} {p : Program} {loose : List Str} {mean : ExcName → Option Value}
/-- entering a def with cell locals, the caller's heap kept in sight -/
theorem code_defTC {env : Env} {outer : List Env} {R : Result → Shared → Prop} {name qual : Str} {params : Arguments} {body : List Stmt} {scope : Scope} {dV kV doc pm cdv ct oc : Value} {an od : Option Addr} {osl : Array (Option Value)} {f : Addr} {args : Args} {binds : List (Str × Value)}
    (B : Below A₀ base outer h₀) (F : Fr h₀ L s.heap m) (X₀ : K.In h₀) (N : News h₀ L s.heap N₁) (T : Top p loose mean mg mb h₀) (hA : A.frames = some (env :: outer)) (hf : env.frame = some L) (hke : env.scope.kind = .function)
    (ho : K.lookup f = some ⟨oc, od, .func (fnOf name qual params body scope dV kV doc pm an cdv ct), osl⟩) (hcd : codeIn K cdv qual = true) (hroom : A.depth < recursionLimit)
    (hbind : BindsTo s (fnOf name qual params body scope dV kV doc pm an cdv ct) args binds) (hkind : (binds.all fun y => scope.names.lookup y.1 == some .local || scope.names.lookup y.1 == some .cell) = true)
    (hnd : ((cellsFrom 0 scope.names []).map (·.1)).Nodup)
    (h : ∀ g L' h₁ tk cells, (∀ b o, s.heap.get? b = some o → (∀ p ∈ N₁, p.1 ≠ b) → g.get? b = some o) → Fr g L' h₁ (bindL (envOfC qual scope L' f cdv).kindOf binds fun _ => none) → News g L' h₁ (cells ++ N₁) →
      CellsAre (bindC (envOfC qual scope L' f cdv).kindOf binds fun _ => none) (cellsFrom (L' + 1) scope.names []) cells → Below A base (env :: outer) g → K.In g → Top p loose mean mg mb g → (∀ p ∈ N₁, p.1 < L') →
      wpAny (model prog w) (A.deeper (envOfC qual scope L' f cdv)) (execs body (envOfC qual scope L' f cdv))
        (fun fl s' => LeaveK h₀ L m g R (match fl with | .ret v => v | _ => .none) s')
        (fun e s' => wpAny (model prog w) (A.deeper (envOfC qual scope L' f cdv)) (leaving (envOfC qual scope L' f cdv) e) (fun _ s'' => R (.error e) s'') (fun e' s'' => R (.error e') s'') s')
        { s with heap := h₁, toks := tk })
    (hco : scope.isCoroutine = false) (hgen : scope.isGenerator = false) (hk : scope.kind = .function) : codeAny (model prog w) A (.call (.ref f) args) R s := by
  obtain ⟨FG, BG, st, lv⟩ := groundX (R := R) B F N hA hf hke
  refine codeAny_call_function hroom ((X₀.keeps F.keep) _ _ ho) rfl hco hgen rfl (codeRec_of (X₀.keeps F.keep) hcd) (hbind _ _ _ _ ?_)
  refine wpAny_newFunctionEnv_cells hk (kindsX hkind _) fun env' he s' x => ?_
  subst he
  refine ⟨(T.nolimit.keeps F.keep).keeps x.toInCall.keep, codeAny_func ?_⟩
  obtain ⟨h₁, tk, rfl, _⟩ := x.done
  have hk₁ := x.toInCall.keep
  obtain ⟨cells, NC, Y⟩ := Cl.news (h₀ := s.heap) (Nat.le_refl _) fun n c hm => ⟨x.cell n c (lookup_of_mem_nodup (cellsFrom_names scope.names 0 (s.heap.objs.size + 1) [] [] rfl ▸ hnd) hm), x.above n c hm⟩
  refine wpAny_mono (h (hideAll s.heap (N₁.map (·.1))) s.heap.objs.size h₁ tk cells (fun b o e hn => hideAll_get _ e fun hb => ?_) ⟨x.toInCall.ns, fun b o e => hk₁ b o (of_hideAll _ e), Nat.le_of_eq (hideAll_size _ _)⟩ (fun p hp => ?_) Y BG (X₀.keeps fun b o e => st b o e) (T.keeps fun b o e => st b o e) (fun p hp => Heap.lt_size (N p hp).1)) (fun fl s' hl => lv _ _ hl) fun _ _ y => y
  · obtain ⟨p, hp, e⟩ := List.mem_map.mp hb
    exact hn p hp e
  · rcases List.mem_append.mp hp with hp | hp
    · refine ⟨(NC p hp).1, (NC p hp).2.1, ?_⟩
      cases q : (hideAll s.heap (N₁.map (·.1))).get? p.1 with
      | none => rfl
      | some o => have := of_hideAll _ q; rw [(NC p hp).2.2] at this; cases this
    · exact ⟨hk₁ _ _ (N p hp).1, Nat.ne_of_lt (Heap.lt_size (N p hp).1), hideAll_none _ (List.mem_map_of_mem hp)⟩
end
end
section
open PyProof.Rows PySem PySem.Calls PySem.W
theorem ln_KuPile_0 : True := by
  k_with_none
  trivial
noncomputable abbrev bl : Str := Str.ofString " "
noncomputable def jn (l : List Str) : Str := Str.join bl l
theorem txt_jn (l : List Str) : Txt.join bl l = jn l := StrLaws.glued_eq_join bl l
theorem jn_cons2 (x y : Str) (l : List Str) : jn (x :: y :: l) = x ++ bl ++ jn (y :: l) := rfl
theorem jn_one (x : Str) : jn [x] = x := rfl
theorem str_assoc (a b c : Str) : a ++ b ++ c = a ++ (b ++ c) := by
  rw [of_S a, of_S b, of_S c, S_cat, S_cat, S_cat, S_cat, List.append_assoc]
theorem jn_app : ∀ (a : List Str) (b : List Str), a ≠ [] → b ≠ [] → jn (a ++ b) = jn a ++ bl ++ jn b
  | [], _, h, _ => absurd rfl h
  | [x], [], _, h => absurd rfl h
  | [x], y :: l, _, _ => rfl
  | x :: y :: l, b, _, hb => by
    have ih := jn_app (y :: l) b (by simp) hb
    rw [List.cons_append, List.cons_append, jn_cons2, ← List.cons_append, ih, jn_cons2]
    simp only [str_assoc]
theorem jn_flat (x : Str) : ∀ (ts : List (List Str)), (∀ t ∈ ts, t ≠ []) → jn (x :: ts.map jn) = jn (x :: ts.flatten)
  | [], _ => rfl
  | [t], h => by
    have := h t (.head _)
    rw [List.map_cons, List.map_nil, jn_cons2, jn_one, List.flatten_cons, List.flatten_nil, List.append_nil]
    exact (jn_app [x] t (by simp) this).symm
  | t :: u :: r, h => by
    have h1 := h t (.head _)
    have ih := jn_flat x (u :: r) fun t ht => h t (.tail _ ht)
    have hu : u ≠ [] := h u (.tail _ (.head _))
    have hf : (u :: r).flatten ≠ [] := by
      intro e
      rw [List.flatten_cons] at e
      exact hu (List.append_eq_nil_iff.mp e).1
    have e1 : jn ((u :: r).map jn) = jn ((u :: r).flatten) := by
      have ih2 := jn_flat' (u :: r) (fun t ht => h t (.tail _ ht))
      exact ih2
    rw [List.map_cons, jn_cons2, List.flatten_cons]
    have e2 := jn_app [x] (t ++ (u :: r).flatten) (by simp) (fun e => h1 (List.append_eq_nil_iff.mp e).1)
    rw [List.singleton_append] at e2
    rw [e2, jn_one, jn_app t _ h1 hf, ← e1]
    rfl
where jn_flat' : ∀ (ts : List (List Str)), (∀ t ∈ ts, t ≠ []) → jn (ts.map jn) = jn ts.flatten
  | [], _ => rfl
  | [t], h => by simp [jn_one]
  | t :: u :: r, h => by
    have h1 := h t (.head _)
    have hu : u ≠ [] := h u (.tail _ (.head _))
    have hf : (u :: r).flatten ≠ [] := by
      intro e
      rw [List.flatten_cons] at e
      exact hu (List.append_eq_nil_iff.mp e).1
    have ih := jn_flat' (u :: r) fun t ht => h t (.tail _ ht)
    rw [List.flatten_cons, jn_app t _ h1 hf, ← ih]
    rfl
/-- one file read, in strings -/
noncomputable def stepS (st : List Str) (w : Str) (f : Nat) : Option (List Str) := if st.length < f then none else some (jn (w :: st.take f) :: st.drop f)
noncomputable def pileS : List Str → List (Str × Nat) → Option (List Str)
  | st, [] => some st
  | st, (w, f) :: r => (stepS st w f).bind fun st' => pileS st' r
noncomputable def readS (files : List (Str × Nat)) : Str := match pileS [] files.reverse with
  | some [t] => t
  | _ => Str.ofString ""
theorem pileS_app : ∀ (a : List (Str × Nat)) (b : List (Str × Nat)) (st : List Str), pileS st (a ++ b) = (pileS st a).bind fun st' => pileS st' b
  | [], b, st => rfl
  | (w, f) :: r, b, st => by
    show (stepS st w f).bind _ = ((stepS st w f).bind _).bind _
    cases h : stepS st w f with
    | none => rfl
    | some st' => exact pileS_app r b st'
noncomputable def wd (figs : List Nat) (i : Nat) : Str := S (wordL i (figs.getD i 0))
noncomputable def ren (figs : List Nat) (t : List Nat) : Str := jn (t.map (wd figs))
theorem step_link (figs : List Nat) (st : List (List Nat)) (i f : Nat) (h : ∀ t ∈ st, t ≠ []) : stepS (st.map (ren figs)) (wd figs i) f = (stepI st i f).map (List.map (ren figs)) := by
  unfold stepS stepI
  rw [List.length_map]
  split
  · rfl
  · have e := jn_flat (wd figs i) ((st.take f).map (List.map (wd figs))) (by
      intro t ht
      obtain ⟨u, hu, rfl⟩ := List.mem_map.mp ht
      have := h u (List.mem_of_mem_take hu)
      simpa using this)
    rw [List.map_map] at e
    have e2 : (st.map (ren figs)).take f = (st.take f).map (jn ∘ List.map (wd figs)) := by rw [← List.map_take]; rfl
    rw [e2, e, ← List.map_drop]
    show some (_ :: _) = some (_ :: _)
    congr 2
    unfold ren
    rw [List.map_cons, List.map_flatten]
theorem step_ne {st st' : List (List Nat)} {i f : Nat} (h : ∀ t ∈ st, t ≠ []) (e : stepI st i f = some st') : ∀ t ∈ st', t ≠ [] := by
  unfold stepI at e
  split at e
  · cases e
  · cases e
    intro t ht
    rcases List.mem_cons.mp ht with rfl | ht
    · simp
    · exact h t (List.mem_of_mem_drop ht)
theorem pile_link (figs : List Nat) : ∀ (files : List (Nat × Nat)) (st : List (List Nat)), (∀ t ∈ st, t ≠ []) → pileS (st.map (ren figs)) (files.map fun p => (wd figs p.1, p.2)) = (pileI st files).map (List.map (ren figs))
  | [], _, _ => rfl
  | (i, f) :: r, st, h => by
    show (stepS (st.map (ren figs)) (wd figs i) f).bind _ = ((stepI st i f).bind _).map _
    rw [step_link figs st i f h]
    cases e : stepI st i f with
    | none => rfl
    | some st' => exact pile_link figs r st' (step_ne h e)
noncomputable def ren? (figs : List Nat) : Option (List Nat) → Str
  | some t => ren figs t
  | none => Str.ofString ""
theorem read_link (figs : List Nat) (files : List (Nat × Nat)) : readS (files.map fun p => (wd figs p.1, p.2)) = ren? figs (readI files) := by
  unfold readS readI
  rw [← List.map_reverse]
  have := pile_link figs files.reverse [] (by simp)
  rw [List.map_nil] at this
  rw [this]
  cases pileI [] files.reverse with
  | none => rfl
  | some st =>
    rcases st with _ | ⟨t, _ | ⟨u, r⟩⟩
    · rfl
    · rfl
    · rfl
/-- how long the pile's texts are -/
noncomputable def tot (st : List Str) : Nat := (st.map fun t => t.length + 1).sum
theorem tot_split (st : List Str) (f : Nat) : tot (st.take f) + tot (st.drop f) = tot st := by
  unfold tot
  rw [← List.sum_append, ← List.map_append, List.take_append_drop]
theorem sum_len_tot (l : List Str) : (l.map (·.length)).sum + l.length = tot l := by
  unfold tot
  induction l with
  | nil => rfl
  | cons x r ih => simp only [List.map_cons, List.sum_cons, List.length_cons]; omega
theorem bl_len : bl.length = 1 := by decide +kernel
theorem jn_len (l : List Str) : (jn l).length ≤ tot l := by
  have := StrLaws.join_length_le bl l
  rw [bl_len, Nat.mul_one, sum_len_tot] at this
  exact this
theorem tot_step {st st' : List Str} {w : Str} {f : Nat} (e : stepS st w f = some st') : tot st' ≤ tot st + w.length + 2 ∧ st'.length ≤ st.length + 1 := by
  unfold stepS at e
  split at e
  · cases e
  · cases e
    have h1 := jn_len (w :: st.take f)
    have h2 := tot_split st f
    refine ⟨?_, ?_⟩
    · simp only [tot, List.map_cons, List.sum_cons] at h1 h2 ⊢
      omega
    · simp only [List.length_cons, List.length_drop]; omega
end
section
open PyProof.Rows PySem PySem.Calls PySem.W
theorem ln_KuPil2_0 : True := by
  k_with_none
  trivial
theorem take_more {α : Type} {l : List α} {i : Nat} {x : α} (h : l[i]? = some x) : l.take (i + 1) = l.take i ++ [x] := by
  rw [List.take_add_one, h]; rfl
theorem pileS_more {l : List (Str × Nat)} {i : Nat} {x : Str × Nat} {st : List Str} (h : l[i]? = some x) (e : pileS [] (l.take i) = some st) : pileS [] (l.take (i + 1)) = stepS st x.1 x.2 := by
  rw [take_more h, pileS_app, e]
  show (stepS st x.1 x.2).bind (fun st' => some st') = _
  cases stepS st x.1 x.2 <;> rfl
theorem pileS_fail {l : List (Str × Nat)} {i : Nat} {x : Str × Nat} {st : List Str} (h : l[i]? = some x) (e : pileS [] (l.take i) = some st) (hs : st.length < x.2) : pileS [] l = none := by
  have h1 := pileS_more h e
  have h2 : stepS st x.1 x.2 = none := by unfold stepS; rw [if_pos hs]
  rw [h2] at h1
  rw [← List.take_append_drop (i + 1) l, pileS_app, h1]
  rfl
theorem pileS_ne : ∀ (l : List (Str × Nat)) (st st' : List Str), (l ≠ [] ∨ st ≠ []) → pileS st l = some st' → st' ≠ []
  | [], st, st', h, e => by
    cases e
    rcases h with h | h
    · exact absurd rfl h
    · exact h
  | (w, f) :: r, st, st', _, e => by
    have e' : (stepS st w f).bind (fun st'' => pileS st'' r) = some st' := e
    cases q : stepS st w f with
    | none => rw [q] at e'; cases e'
    | some st2 =>
      rw [q] at e'
      refine pileS_ne r st2 st' (.inr ?_) e'
      unfold stepS at q
      split at q
      · cases q
      · cases q; simp
theorem readS_none {files : List (Str × Nat)} (h : pileS [] files.reverse = none) : readS files = Str.ofString "" := by unfold readS; rw [h]
theorem readS_one {files : List (Str × Nat)} {t : Str} (h : pileS [] files.reverse = some [t]) : readS files = t := by unfold readS; rw [h]
theorem readS_many {files : List (Str × Nat)} {t u : Str} {r : List Str} (h : pileS [] files.reverse = some (t :: u :: r)) : readS files = Str.ofString "" := by unfold readS; rw [h]
theorem vals_len : ∀ {vs : List Value} {ys : List Str}, PyProof.Rows.StrsAre vs ys → vs.length = ys.length
  | _, _, .nil => rfl
  | _, _, .cons _ _ h => congrArg (· + 1) (vals_len h)
theorem vals_take : ∀ (n : Nat) {vs : List Value} {ys : List Str}, PyProof.Rows.StrsAre vs ys → PyProof.Rows.StrsAre (vs.take n) (ys.take n)
  | 0, _, _, _ => .nil
  | n + 1, _, _, .nil => .nil
  | n + 1, _, _, .cons x t h => .cons x t (vals_take n h)
theorem vals_drop : ∀ (n : Nat) {vs : List Value} {ys : List Str}, PyProof.Rows.StrsAre vs ys → PyProof.Rows.StrsAre (vs.drop n) (ys.drop n)
  | 0, _, _, h => h
  | n + 1, _, _, .nil => .nil
  | n + 1, _, _, .cons _ _ h => vals_drop n h
theorem vals_snoc {x : Str} {t : Tok} : ∀ {vs : List Value} {ys : List Str}, PyProof.Rows.StrsAre vs ys → PyProof.Rows.StrsAre (vs ++ [.str x t]) (ys ++ [x])
  | _, _, .nil => .cons x t .nil
  | _, _, .cons y u h => .cons y u (vals_snoc h)
theorem vals_app : ∀ {vs ws : List Value} {ys zs : List Str}, PyProof.Rows.StrsAre vs ys → PyProof.Rows.StrsAre ws zs → PyProof.Rows.StrsAre (vs ++ ws) (ys ++ zs)
  | _, _, _, _, .nil, h => h
  | _, _, _, _, .cons y u h, h2 => .cons y u (vals_app h h2)
theorem vals_at : ∀ {vs : List Value} {ys : List Str}, PyProof.Rows.StrsAre vs ys → ∀ (i : Nat) v, vs[i]? = some v → ∃ x t, v = .str x t ∧ ys[i]? = some x
  | _, _, .cons x t h, 0, v, e => by cases e; exact ⟨x, t, rfl, rfl⟩
  | _, _, .cons x t h, i + 1, v, e => vals_at h i v (by simpa using e)
theorem vals_str : ∀ {vs : List Value} {ys : List Str}, PyProof.Rows.StrsAre vs ys → ∀ v ∈ vs, ∃ x t, v = .str x t
  | _, _, .cons x t h, v, hv => by
    rcases List.mem_cons.mp hv with rfl | hv
    · exact ⟨x, t, rfl⟩
    · exact vals_str h v hv
noncomputable def isNon : Value → Bool
  | .none => true
  | _ => false
/-- what a comprehension that draws i things off the pile has in hand -/
noncomputable def drawn (vals : List Value) (i : Nat) : List Value := vals.take i ++ List.replicate (i - vals.length) Value.none
theorem drawn_step {vals : List Value} {i : Nat} {st r : Value} {vals' : List Value} {st' : Value} (G : GtStep (vals.drop i) st r vals' st') : drawn vals (i + 1) = drawn vals i ++ [r] ∧ vals' = vals.drop (i + 1) := by
  rcases G with ⟨e, _⟩ | ⟨e, rfl, rfl, _⟩
  · have hi : i < vals.length := by
      have : (vals.drop i).length = vals'.length + 1 := by rw [e]; rfl
      rw [List.length_drop] at this; omega
    have h1 : vals[i]? = some r := by
      have : (vals.drop i)[0]? = some r := by rw [e]; rfl
      rw [List.getElem?_drop] at this
      exact this
    refine ⟨?_, ?_⟩
    · unfold drawn
      rw [take_more h1, show i + 1 - vals.length = 0 by omega, show i - vals.length = 0 by omega]
      simp
    · have : (vals.drop i).drop 1 = vals' := by rw [e]; rfl
      rw [List.drop_drop] at this
      exact this.symm
  · have hi : vals.length ≤ i := List.drop_eq_nil_iff.mp e
    refine ⟨?_, (List.drop_eq_nil_iff.mpr (by omega)).symm⟩
    unfold drawn
    rw [List.take_of_length_le hi, List.take_of_length_le (by omega), show i + 1 - vals.length = (i - vals.length) + 1 by omega, List.replicate_succ', List.append_assoc]
theorem drawn_full {vals : List Value} {f : Nat} (h : f ≤ vals.length) : drawn vals f = vals.take f := by
  unfold drawn
  rw [show f - vals.length = 0 by omega]
  simp
theorem drawn_non {vals : List Value} {ys : List Str} {f : Nat} (h : PyProof.Rows.StrsAre vals ys) : (drawn vals f).any isNon = decide (vals.length < f) := by
  have h1 : (vals.take f).any isNon = false := by
    rw [List.any_eq_false]
    intro v hv
    obtain ⟨x, t, rfl⟩ := vals_str h v (List.mem_of_mem_take hv)
    simp [isNon]
  unfold drawn
  rw [List.any_append, h1, Bool.false_or]
  by_cases hf : vals.length < f
  · rw [decide_eq_true hf, show f - vals.length = (f - vals.length - 1) + 1 by omega, List.replicate_succ]
    rfl
  · rw [decide_eq_false hf, show f - vals.length = 0 by omega]
    rfl
theorem drawn_kind {vals : List Value} {ys : List Str} {f : Nat} (h : PyProof.Rows.StrsAre vals ys) : ∀ v ∈ drawn vals f, v = .none ∨ ∃ x t, v = .str x t := by
  intro v hv
  rcases List.mem_append.mp hv with hv | hv
  · exact .inr (vals_str h v (List.mem_of_mem_take hv))
  · exact .inl (List.eq_of_mem_replicate hv)
section
variable {prog : Program} {w : World} {A : Around} {E : Value → Shared → Prop} {s : Shared}
theorem none_in {D : Addr} {its : Array Value} {vals : List Value} {ys : List Str} {f : Nat} (hl : s.heap.IsList D its) (he : its = (drawn vals f).toArray) (hs : PyProof.Rows.StrsAre vals ys) (b : Bool) (hb : decide (vals.length < f) = b) {Q : Value → Shared → Prop} (h : Q (.bool b) s) : wpAny (model prog w) A (compareOp .In .none (.ref D)) Q E s := by
  subst he
  refine SeqInW.in_listW isNon (fun y hy => ?_) hl ?_
  · have hy : y ∈ drawn vals f := by simpa using hy
    rcases drawn_kind hs y hy with rfl | ⟨x, t, rfl⟩
    · exact fun prog w A E s Q h => SeqAt.EqAt.same (A := A) (s := s) .none prog w E Q h
    · exact fun prog w A E s Q h => SeqAt.EqAt.str_none (A := A) (s := s) x t prog w E Q h
  · have e : (drawn vals f).toArray.any isNon = b := by rw [List.any_toArray, drawn_non hs, hb]
    rw [e]; exact h
end
end
section
open PyProof.Rows PySem PySem.Calls PySem.W
theorem ln_KuUg_0 : True := by
  k_with_none
  trivial
theorem Touch.perm {h h' : Heap} {N₁ N₂ M₁ M₂ : List (Addr × Obj)} (t : Touch h h' N₁ N₂) (h1 : ∀ p ∈ N₁, p ∈ M₁) (h2 : ∀ p ∈ M₂, p ∈ N₂) : Touch h h' M₁ M₂ :=
  t.sub (fun p hp => ⟨p, h1 p hp, rfl⟩) fun p hp => .inl (h2 p hp)
theorem mem_led {φ : Addr × Obj → Prop} {x1 x2 x3 x4 x5 x6 : Addr × Obj} (h1 : φ x1) (h2 : φ x2) (h3 : φ x3) (h4 : φ x4) (h5 : φ x5) (h6 : φ x6) : ∀ p ∈ [x1, x2, x3, x4, x5, x6], φ p := by
  intro p hp
  simp only [List.mem_cons, List.not_mem_nil, or_false] at hp
  rcases hp with h | h | h | h | h | h <;> subst h <;> assumption
theorem mem_two {a b : Addr} {o o' u u' : Obj} {news : List (Addr × Obj)} (h1 : (a, o) ∈ news) (h2 : (b, u) ∈ news) : ∀ c ∈ [(a, o, o'), (b, u, u')], (c.1, c.2.1) ∈ news := by
  intro c hc
  simp only [List.mem_cons, List.not_mem_nil, or_false] at hc
  rcases hc with h | h <;> subst h <;> assumption
theorem mem_one {a : Addr} {o o' : Obj} {news : List (Addr × Obj)} (h1 : (a, o) ∈ news) : ∀ c ∈ [(a, o, o')], (c.1, c.2.1) ∈ news := by
  intro c hc
  rw [List.mem_singleton.mp hc]
  exact h1
theorem t_use {h h' : Heap} {x1 x4 x5 x6 y1 y4 y5 y6 : Addr × Obj} {a b : Addr} {o o' u u' : Obj} (t : Touch h h' [x1, (a, o), (b, u), x4, x5, x6] [y1, (a, o'), (b, u'), y4, y5, y6]) : Touch h h' ([x1, x4, x5, x6] ++ [(a, o, o'), (b, u, u')].map fun c => (c.1, c.2.1)) ([y1, y4, y5, y6] ++ [(a, o, o'), (b, u, u')].map fun c => (c.1, c.2.2)) := by
  refine t.perm (fun p hp => ?_) (fun p hp => ?_)
  · simp only [List.cons_append, List.nil_append, List.map_cons, List.map_nil, List.mem_cons, List.not_mem_nil, or_false] at hp ⊢
    rcases hp with h | h | h | h | h | h <;> simp [h]
  · simp only [List.cons_append, List.nil_append, List.map_cons, List.map_nil, List.mem_cons, List.not_mem_nil, or_false] at hp ⊢
    rcases hp with h | h | h | h | h | h <;> simp [h]
theorem t_use2 {h h' : Heap} {x1 x2 x4 x5 x6 y1 y2 y4 y5 y6 : Addr × Obj} {b : Addr} {u u' : Obj} (t : Touch h h' [x1, x2, (b, u), x4, x5, x6] [y1, y2, (b, u'), y4, y5, y6]) : Touch h h' ([x1, x2, x4, x5, x6] ++ [(b, u, u')].map fun c => (c.1, c.2.1)) ([y1, y2, y4, y5, y6] ++ [(b, u, u')].map fun c => (c.1, c.2.2)) := by
  refine t.perm (fun p hp => ?_) (fun p hp => ?_)
  · simp only [List.cons_append, List.nil_append, List.map_cons, List.map_nil, List.mem_cons, List.not_mem_nil, or_false] at hp ⊢
    rcases hp with h | h | h | h | h | h <;> simp [h]
  · simp only [List.cons_append, List.nil_append, List.map_cons, List.map_nil, List.mem_cons, List.not_mem_nil, or_false] at hp ⊢
    rcases hp with h | h | h | h | h | h <;> simp [h]
set_option maxHeartbeats 1000000 in
theorem use_gt {PG : Program} {LS : List Str} {w : World} {mean : ExcName → Option Value} {mg mb : Str → Option Value} {dp un : Nat} {gd : Option (List Code)} {hh : Option Value} {env : Env} {outer : List Env} {A₀ : Around} {base h₀ : Heap} {L : Addr} {m : Str → Option Value} {s : Shared} {Q : Value → Shared → Prop} {E : Value → Shared → Prop}
   (B : Below A₀ base outer h₀) (F : Fr h₀ L s.heap m) (X : (hd.heap_1 w.params).In h₀) (T : Top PG LS mean mg mb h₀) (hf : env.frame = some L) (hk : env.scope.kind = .function) (hdp : dp + 30 < recursionLimit) (hu : un + 300 < cLine)
   {P : Pl} (hP : P.Ok) {n1 : Int} {vals : List Value} (hv : vals.length ≤ 1000) {st : Value} (hst : st = .none ∨ ∃ t7, st = .str (Str.ofString " ") t7) {t8 : Tok} {news : List (Addr × Obj)} (N : News h₀ L s.heap news)
   (hC : ∀ p ∈ ([(P.la, instObj 777 P.ld), (P.a, instObj 684 P.d), (P.d, ioD w P.t1 P.t2 P.t3 P.t4 P.t5 P.x (P.p : Nat) P.t6), (P.fs, dq P.n2 [])] : List (Addr × Obj)), p ∈ news)
   (hch : ∀ p ∈ ([(P.ld, lexD w P.kt P.vt P.a P.pb P.fs P.W P.cm P.ws st (.str (Str.ofString "") t8)), (P.pb, dq n1 vals)] : List (Addr × Obj)), p ∈ news)
   (k : ∀ r n1' vals' st' t8' h' tk', GtStep vals st r vals' st' → Fr h₀ L h' m → (∀ news', Upds [(P.ld, lexD w P.kt P.vt P.a P.pb P.fs P.W P.cm P.ws st (.str (Str.ofString "") t8), lexD w P.kt P.vt P.a P.pb P.fs P.W P.cm P.ws st' (.str (Str.ofString "") t8')), (P.pb, dq n1 vals, dq n1' vals')] news news' → News h₀ L h' news') → Q r {s with heap := h', toks := tk'}) :
   wpAny (model PySem.Challenge.pw_ku0029_01 w) (⟨hh, dp, some (env :: outer), gd, un⟩ : Around) (call (.ref 738) [.ref P.la]) Q E s := by
  have c1 := hC _ (.head _)
  have c2 := hC _ (.tail _ (.head _))
  have c3 := hC _ (.tail _ (.tail _ (.head _)))
  have c4 := hC _ (.tail _ (.tail _ (.tail _ (.head _))))
  have e1 := hch _ (.head _)
  have e2 := hch _ (.tail _ (.head _))
  refine gt_any w mean mg mb dp un gd hh env outer A₀ base h₀ L m s Q E B F X T hf hk hdp hu P hP n1 vals hv st hst t8 (fun r n1' vals' st' t8' h' tk' G t => ?_) (mem_led (φ := fun p => s.heap.get? p.1 = some p.2 ∧ p.1 ≠ L ∧ h₀.get? p.1 = none) (N _ c1) (N _ e1) (N _ e2) (N _ c2) (N _ c3) (N _ c4))
  have q := touch_use (C := [(P.la, instObj 777 P.ld), (P.a, instObj 684 P.d), (P.d, ioD w P.t1 P.t2 P.t3 P.t4 P.t5 P.x (P.p : Nat) P.t6), (P.fs, dq P.n2 [])]) (ch := [(P.ld, lexD w P.kt P.vt P.a P.pb P.fs P.W P.cm P.ws st (.str (Str.ofString "") t8), lexD w P.kt P.vt P.a P.pb P.fs P.W P.cm P.ws st' (.str (Str.ofString "") t8')), (P.pb, dq n1 vals, dq n1' vals')]) F N hC (mem_two e1 e2) (t_use t)
  exact k r n1' vals' st' t8' h' tk' G q.1 q.2
theorem use_gtc {PG : Program} {LS : List Str} {w : World} {mean : ExcName → Option Value} {mg mb : Str → Option Value} {dp un : Nat} {gd : Option (List Code)} {hh : Option Value} {env : Env} {outer : List Env} {A₀ : Around} {base h₀ : Heap} {L : Addr} {m : Str → Option Value} {s : Shared} {Q : Value → Shared → Prop} {E : Value → Shared → Prop}
   (B : Below A₀ base outer h₀) (F : Fr h₀ L s.heap m) (X : (hd.heap_1 w.params).In h₀) (T : Top PG LS mean mg mb h₀) (hf : env.frame = some L) (hk : env.scope.kind = .function) (hdp : dp + 30 < recursionLimit) (hu : un + 300 < cLine)
   {P : Pl} (hP : P.Ok) {n1 : Int} {v : Value} {vals : List Value} (hv : (v :: vals).length ≤ 1000) {st : Value} (hst : st = .none ∨ ∃ t7, st = .str (Str.ofString " ") t7) {t8 : Tok} {news : List (Addr × Obj)} (N : News h₀ L s.heap news)
   (hC : ∀ p ∈ ([(P.la, instObj 777 P.ld), (P.a, instObj 684 P.d), (P.d, ioD w P.t1 P.t2 P.t3 P.t4 P.t5 P.x (P.p : Nat) P.t6), (P.fs, dq P.n2 [])] : List (Addr × Obj)), p ∈ news)
   (hch : ∀ p ∈ ([(P.ld, lexD w P.kt P.vt P.a P.pb P.fs P.W P.cm P.ws st (.str (Str.ofString "") t8)), (P.pb, dq n1 (v :: vals))] : List (Addr × Obj)), p ∈ news)
   (k : ∀ n1' t8' h' tk', Fr h₀ L h' m → (∀ news', Upds [(P.ld, lexD w P.kt P.vt P.a P.pb P.fs P.W P.cm P.ws st (.str (Str.ofString "") t8), lexD w P.kt P.vt P.a P.pb P.fs P.W P.cm P.ws st (.str (Str.ofString "") t8')), (P.pb, dq n1 (v :: vals), dq n1' vals)] news news' → News h₀ L h' news') → Q v {s with heap := h', toks := tk'}) :
   wpAny (model PySem.Challenge.pw_ku0029_01 w) (⟨hh, dp, some (env :: outer), gd, un⟩ : Around) (call (.ref 738) [.ref P.la]) Q E s := by
  refine use_gt B F X T hf hk hdp hu hP hv hst N hC hch ?_
  rintro r n1' vals' st' t8' h' tk' (⟨e, rfl⟩ | ⟨e, _⟩) F' U
  · cases e
    exact k n1' t8' h' tk' F' U
  · cases e
theorem use_gtn {PG : Program} {LS : List Str} {w : World} {mean : ExcName → Option Value} {mg mb : Str → Option Value} {dp un : Nat} {gd : Option (List Code)} {hh : Option Value} {env : Env} {outer : List Env} {A₀ : Around} {base h₀ : Heap} {L : Addr} {m : Str → Option Value} {s : Shared} {Q : Value → Shared → Prop} {E : Value → Shared → Prop}
   (B : Below A₀ base outer h₀) (F : Fr h₀ L s.heap m) (X : (hd.heap_1 w.params).In h₀) (T : Top PG LS mean mg mb h₀) (hf : env.frame = some L) (hk : env.scope.kind = .function) (hdp : dp + 30 < recursionLimit) (hu : un + 300 < cLine)
   {P : Pl} (hP : P.Ok) {n1 : Int} {st : Value} (hst : st = .none ∨ ∃ t7, st = .str (Str.ofString " ") t7) {t8 : Tok} {news : List (Addr × Obj)} (N : News h₀ L s.heap news)
   (hC : ∀ p ∈ ([(P.la, instObj 777 P.ld), (P.a, instObj 684 P.d), (P.d, ioD w P.t1 P.t2 P.t3 P.t4 P.t5 P.x (P.p : Nat) P.t6), (P.fs, dq P.n2 [])] : List (Addr × Obj)), p ∈ news)
   (hch : ∀ p ∈ ([(P.ld, lexD w P.kt P.vt P.a P.pb P.fs P.W P.cm P.ws st (.str (Str.ofString "") t8)), (P.pb, dq n1 [])] : List (Addr × Obj)), p ∈ news)
   (k : ∀ n1' t8' h' tk', Fr h₀ L h' m → (∀ news', Upds [(P.ld, lexD w P.kt P.vt P.a P.pb P.fs P.W P.cm P.ws st (.str (Str.ofString "") t8), lexD w P.kt P.vt P.a P.pb P.fs P.W P.cm P.ws .none (.str (Str.ofString "") t8')), (P.pb, dq n1 [], dq n1' [])] news news' → News h₀ L h' news') → Q .none {s with heap := h', toks := tk'}) :
   wpAny (model PySem.Challenge.pw_ku0029_01 w) (⟨hh, dp, some (env :: outer), gd, un⟩ : Around) (call (.ref 738) [.ref P.la]) Q E s := by
  refine use_gt B F X T hf hk hdp hu hP (Nat.zero_le _) hst N hC hch ?_
  rintro r n1' vals' st' t8' h' tk' (⟨e, _⟩ | ⟨_, rfl, rfl, rfl⟩) F' U
  · cases e
  · exact k n1' t8' h' tk' F' U
set_option maxHeartbeats 1000000 in
theorem use_pu {PG : Program} {LS : List Str} {w : World} {mean : ExcName → Option Value} {mg mb : Str → Option Value} {dp un : Nat} {gd : Option (List Code)} {hh : Option Value} {env : Env} {outer : List Env} {A₀ : Around} {base h₀ : Heap} {L : Addr} {m : Str → Option Value} {s : Shared} {Q : Value → Shared → Prop} {E : Value → Shared → Prop}
   (B : Below A₀ base outer h₀) (F : Fr h₀ L s.heap m) (X : (hd.heap_1 w.params).In h₀) (T : Top PG LS mean mg mb h₀) (hf : env.frame = some L) (hk : env.scope.kind = .function) (hdp : dp + 30 < recursionLimit) (hu : un + 300 < cLine)
   {P : Pl} (hP : P.Ok) {n1 : Int} {vals : List Value} (hv : vals.length ≤ 1000) {st : Value} {t8 : Tok} {v : Str} {tv : Tok} {news : List (Addr × Obj)} (N : News h₀ L s.heap news)
   (hC : ∀ p ∈ ([(P.la, instObj 777 P.ld), (P.ld, lexD w P.kt P.vt P.a P.pb P.fs P.W P.cm P.ws st (.str (Str.ofString "") t8)), (P.a, instObj 684 P.d), (P.d, ioD w P.t1 P.t2 P.t3 P.t4 P.t5 P.x (P.p : Nat) P.t6), (P.fs, dq P.n2 [])] : List (Addr × Obj)), p ∈ news)
   (hch : ∀ p ∈ ([(P.pb, dq n1 vals)] : List (Addr × Obj)), p ∈ news)
   (k : ∀ h' tk', Fr h₀ L h' m → (∀ news', Upds [(P.pb, dq n1 vals, dq (n1 + 1) (.str v tv :: vals))] news news' → News h₀ L h' news') → Q .none {s with heap := h', toks := tk'}) :
   wpAny (model PySem.Challenge.pw_ku0029_01 w) (⟨hh, dp, some (env :: outer), gd, un⟩ : Around) (call (.ref 716) [.ref P.la, .str v tv]) Q E s := by
  have c1 := hC _ (.head _)
  have c2 := hC _ (.tail _ (.head _))
  have c3 := hC _ (.tail _ (.tail _ (.head _)))
  have c4 := hC _ (.tail _ (.tail _ (.tail _ (.head _))))
  have c5 := hC _ (.tail _ (.tail _ (.tail _ (.tail _ (.head _)))))
  have e1 := hch _ (.head _)
  refine pu_any w mean mg mb dp un gd hh env outer A₀ base h₀ L m s Q E B F X T hf hk hdp hu P hP n1 vals hv st t8 v tv (fun h' tk' t => ?_) (mem_led (φ := fun p => s.heap.get? p.1 = some p.2 ∧ p.1 ≠ L ∧ h₀.get? p.1 = none) (N _ c1) (N _ c2) (N _ e1) (N _ c3) (N _ c4) (N _ c5))
  have q := touch_use (C := [(P.la, instObj 777 P.ld), (P.ld, lexD w P.kt P.vt P.a P.pb P.fs P.W P.cm P.ws st (.str (Str.ofString "") t8)), (P.a, instObj 684 P.d), (P.d, ioD w P.t1 P.t2 P.t3 P.t4 P.t5 P.x (P.p : Nat) P.t6), (P.fs, dq P.n2 [])]) (ch := [(P.pb, dq n1 vals, dq (n1 + 1) (.str v tv :: vals))]) F N hC (mem_one e1) (t_use2 t)
  exact k h' tk' q.1 q.2
end
section
open PyProof.Rows PyProof.Rows.LCg PySem PySem.Calls PySem.W
theorem ln_KuPc_0 : True := by
  k_with_none
  trivial
noncomputable def FilesAre (h : Heap) (its : List Value) (files : List (Str × Nat)) : Prop := its.length = files.length ∧ ∀ (i : Nat) v, its[i]? = some v → ∃ p a t1 t2, files[i]? = some p ∧ v = Value.ref a ∧ IsTup h a #[.str p.1 t1, .int (p.2 : Int) t2]
theorem FilesAre.keeps {h h' : Heap} {its : List Value} {files : List (Str × Nat)} (H : FilesAre h its files) (k : ∀ b o, h.get? b = some o → h'.get? b = some o) : FilesAre h' its files := by
  refine ⟨H.1, fun i v e => ?_⟩
  obtain ⟨p, a, t1, t2, e1, e2, o, e3, r⟩ := H.2 i v e
  exact ⟨p, a, t1, t2, e1, e2, o, k _ _ e3, r⟩
theorem FilesAre.rev {h : Heap} {its : List Value} {files : List (Str × Nat)} (H : FilesAre h its files) : FilesAre h its.reverse files.reverse := by
  refine ⟨by simp [H.1], fun i v e => ?_⟩
  have hi : i < its.length := by
    have := (List.getElem?_eq_some_iff.mp e).1
    simpa using this
  rw [List.getElem?_reverse hi] at e
  obtain ⟨p, a, t1, t2, e1, r⟩ := H.2 _ v e
  refine ⟨p, a, t1, t2, ?_, r⟩
  rw [List.getElem?_reverse (by rw [← H.1]; exact hi), ← H.1]
  exact e1
noncomputable def OkSt (st : Value) : Prop := st = Value.none ∨ ∃ t7, st = .str (Str.ofString " ") t7
theorem GtStep.ok {vals vals' : List Value} {st st' r : Value} (G : GtStep vals st r vals' st') (h : OkSt st) : OkSt st' := by
  rcases G with ⟨_, rfl⟩ | ⟨_, _, _, rfl⟩
  · exact h
  · exact .inl rfl
/-- what lies on the pile between two turns -/
noncomputable def PileJ (w : World) (P : Pl) (files : List (Str × Nat)) (c : Addr) (oc : Obj) (D : Addr) (od : Obj) (i : Nat) (news : List (Addr × Obj)) : Prop :=
  ∃ sts vals n1 st t8, pileS [] (files.reverse.take i) = some sts ∧ PyProof.Rows.StrsAre vals sts ∧ OkSt st ∧ tot sts ≤ 12 * i ∧ sts.length ≤ i ∧ news = (D, od) :: (P.six w n1 vals st t8 ++ [(c, oc)])
noncomputable def PileEnd (w : World) (P : Pl) (h₀ : Heap) (L : Addr) (c : Addr) (oc : Obj) (D : Addr) (od : Obj) (I : Addr) (oI : Obj) (sts : List Str) (vals : List Value) (x : Str) (f : Nat) (s₁ : Shared) (Q : Flow → Shared → Prop) (fl : Flow) (s₂ : Shared) : Prop := match fl with
  | .ret v => Q (.ret v) s₂
  | .brk => Q .next s₂
  | _ => ∃ h' tk m' n1 st t8 tv, s₂ = { s₁ with heap := h', toks := tk } ∧ Fr h₀ L h' m' ∧ f ≤ sts.length ∧ OkSt st ∧ News h₀ L h' ((I, oI) :: (D, od) :: (P.six w n1 (.str (jn (x :: sts.take f)) tv :: vals.drop f) st t8 ++ [(c, oc)]))
/-- what a turn of the drawing comprehension leaves behind -/
noncomputable def GtTurn (w : World) (P : Pl) (h₀ : Heap) (L : Addr) (m : Str → Option Value) (pre : List (Addr × Obj)) (c : Addr) (oc : Obj) (vals : List Value) (st : Value) (s : Shared) (y : Value) (s₃ : Shared) : Prop :=
  ∃ h' tk' n1' vals' st' t8', s₃ = { s with heap := h', toks := tk' } ∧ GtStep vals st y vals' st' ∧ Fr h₀ L h' m ∧ News h₀ L h' (pre ++ (P.six w n1' vals' st' t8' ++ [(c, oc)]))
section
variable {prog : Program} {w : World} {A : Around} {s : Shared} {env : Env} {h₀ : Heap} {E : Value → Shared → Prop} {L : Addr} {m : Str → Option Value}
theorem six_addrs {P : Pl} {n1 n1' : Int} {vals vals' : List Value} {st st' : Value} {t8 t8' : Tok} {c D : Addr} {oc od : Obj} {φ : Addr → Prop} (h : ∀ p ∈ (D, od) :: (P.six w n1 vals st t8 ++ [(c, oc)]), φ p.1) : ∀ p ∈ (D, od) :: (P.six w n1' vals' st' t8' ++ [(c, oc)]), φ p.1 := by
  have e : ((D, od) :: (P.six w n1 vals st t8 ++ [(c, oc)])).map (·.1) = ((D, od) :: (P.six w n1' vals' st' t8' ++ [(c, oc)])).map (·.1) := rfl
  intro p hp
  have := List.mem_map_of_mem (f := (·.1)) hp
  rw [← e] at this
  obtain ⟨q, hq, e'⟩ := List.mem_map.mp this
  exact e' ▸ h q hq
theorem pile_src {Q : Flow → Shared → Prop} {target : PySem.Expr} {body : List Stmt} {P : Pl} {n1 : Int} {t7 t8 : Tok} {its : List Value} {files : List (Str × Nat)} {c D : Addr} {oc : Obj}
    (F : Fr h₀ env.locals s.heap m) (N : News h₀ env.locals s.heap ((D, listOf its.reverse.toArray 0) :: (P.six w n1 [] (.str (Str.ofString " ") t7) t8 ++ [(c, oc)])))
    (hf : FilesAre h₀ its files) (hne : files ≠ []) (hlen : its.length ≤ 11) (hw : ∀ p ∈ files, p.1.length ≤ 10 ∧ p.2 < 3)
    (turn : ∀ (x : Str) (f : Nat) a t1 t2 m₁ sts vals n1 st t8 h tk I oI, f < 3 → PyProof.Rows.StrsAre vals sts → OkSt st → sts.length ≤ 900 → tot (x :: sts) ≤ 200 → (sts.length < f → readS files = Str.ofString "") → IsTup h a #[.str x t1, .int (f : Int) t2] →
      Ap P.ld I → Ap P.pb I → Fr h₀ env.locals h m₁ → News h₀ env.locals h ((I, oI) :: (D, listOf its.reverse.toArray 0) :: (P.six w n1 vals st t8 ++ [(c, oc)])) →
      wpAny (model prog w) A (assign target env (.ref a)) (fun _ s₃ => wpAny (model prog w) A (execs body env) (PileEnd w P h₀ env.locals c oc D (listOf its.reverse.toArray 0) I oI sts vals x f s Q) E s₃) E { s with heap := h, toks := tk })
    (done : ∀ m' v y t sts vals n1 st t8 h' tk, v = Value.str y t → PyProof.Rows.StrsAre vals sts → OkSt st → sts.length ≤ 900 → pileS [] files.reverse = some (y :: sts) → Fr h₀ env.locals h' m' → News h₀ env.locals h' ((D, listOf its.reverse.toArray 0) :: (P.six w n1 (v :: vals) st t8 ++ [(c, oc)])) → Q .next { s with heap := h', toks := tk }) :
    ForSrc prog w A h₀ env target body Q E (.ref D) s := by
  refine ⟨D, its.reverse, _, _, fun i _ news => PileJ w P files c oc D (listOf its.reverse.toArray 0) i news, rfl, ⟨_, (N _ (.head _)).1, rfl, 0, rfl⟩, .inr ⟨(N _ (.head _)).2.1, 0, ?_⟩, F, N, ⟨[], [], n1, _, t8, rfl, .nil, .inr ⟨t7, rfl⟩, Nat.zero_le _, Nat.zero_le _, rfl⟩, ?_, ?_⟩
  · rintro i m' nw ⟨sts, vals, n1, st, t8, _, _, _, _, _, rfl⟩
    exact .head _
  · rintro i v m₁ nw h tk I oI hv ⟨sts, vals, n1, st, t8, h1, h2, h3, h4, h5, rfl⟩ F₁ N₁ hI
    obtain ⟨p, a, t1, t2, e1, rfl, hT⟩ := hf.rev.2 i v hv
    have hi : i < 11 := by
      have := (List.getElem?_eq_some_iff.mp hv).1
      rw [List.length_reverse] at this
      omega
    have hp := hw p (List.mem_reverse.mp (List.mem_of_getElem? e1))
    have ht : tot (p.1 :: sts) ≤ 200 := by
      have : tot (p.1 :: sts) = p.1.length + 1 + tot sts := by simp [tot]
      omega
    have hT' : IsTup h a #[.str p.1 t1, .int (p.2 : Int) t2] := by
      obtain ⟨o, e, r⟩ := hT
      exact ⟨o, F₁.keep _ _ e, r⟩
    refine wpAny_mono (turn p.1 p.2 a t1 t2 m₁ sts vals n1 st t8 h tk I oI hp.2 h2 h3 (by omega) ht (fun hs => readS_none (pileS_fail e1 h1 hs)) hT' (hI _ (.tail _ (.tail _ (.head _)))) (hI _ (.tail _ (.tail _ (.tail _ (.head _))))) F₁ N₁) (fun _ s₃ h₃ => wpAny_mono h₃ (fun fl s₄ h₄ => ?_) fun _ _ e => e) fun _ _ e => e
    have fin : (∃ h' tk m' n1 st t8 tv, s₄ = { s with heap := h', toks := tk } ∧ Fr h₀ env.locals h' m' ∧ p.2 ≤ sts.length ∧ OkSt st ∧ News h₀ env.locals h' ((I, oI) :: (D, listOf its.reverse.toArray 0) :: (P.six w n1 (.str (jn (p.1 :: sts.take p.2)) tv :: vals.drop p.2) st t8 ++ [(c, oc)]))) →
        ∃ h' tk m' news', s₄ = { s with heap := h', toks := tk } ∧ Fr h₀ env.locals h' m' ∧ News h₀ env.locals h' ((I, oI) :: news') ∧ (∀ p ∈ news', p.1 ≠ I) ∧ PileJ w P files c oc D (listOf its.reverse.toArray 0) (i + 1) news' := by
      rintro ⟨h', tk', m', n1', st', t8', tv, rfl, F', hle, hst', N'⟩
      have es : stepS sts p.1 p.2 = some (jn (p.1 :: sts.take p.2) :: sts.drop p.2) := by
        unfold stepS
        rw [if_neg (by omega)]
      have hb := tot_step es
      refine ⟨h', tk', m', _, rfl, F', N', six_addrs (φ := fun a => a ≠ I) hI, _, _, n1', st', t8', (pileS_more e1 h1).trans es, .cons _ _ (vals_drop _ h2), hst', ?_, ?_, rfl⟩
      · have : tot (p.1 :: sts) = p.1.length + 1 + tot sts := by simp [tot]
        omega
      · omega
    cases fl with
    | ret v => exact h₄
    | brk => exact h₄
    | next => exact fin h₄
    | cont => exact fin h₄
  · rintro m' nw h' tk ⟨sts, vals, n1, st, t8, h1, h2, h3, h4, h5, rfl⟩ F₁ N₁
    rw [List.length_reverse, hf.1, List.take_of_length_le (by simp)] at h1
    have hn := pileS_ne _ _ _ (.inl (by simpa using hne)) h1
    rw [List.length_reverse] at h5
    cases h2 with
    | nil => exact absurd rfl hn
    | @cons y t vs ys h2 => exact done m' _ y t ys vs n1 st t8 h' tk rfl h2 h3 (by rw [List.length_cons] at h5; omega) h1 F₁ N₁
theorem pile_comp (hh : A.handled = none) {P : Pl} {n1 : Int} {vals : List Value} {st : Value} {t8 t : Tok} {I D c : Addr} {oI od oc : Obj} {f : Nat} (hf : f < 3) (hst : OkSt st) (F : Fr h₀ L s.heap m)
    (N : News h₀ L s.heap ((I, oI) :: (D, od) :: (P.six w n1 vals st t8 ++ [(c, oc)])))
    {elt : PySem.Expr} {x : Str} {scope : Scope} {cl : List (Str × Addr)} {yv : Str} {Q : Flow → Shared → Prop}
    (turn : ∀ i ys n1 st t8 I2 oI2 C oC D2 m₂ h tk (E' : Value → Shared → Prop), OkSt st → NsObj oC m₂ → Fr h₀ L h m → News h₀ L h ((I2, oI2) :: (C, oC) :: (D2, lst ys) :: (I, oI) :: (D, od) :: (P.six w n1 (vals.drop i) st t8 ++ [(c, oc)])) →
      Ap P.ld I2 → Ap P.ld C → Ap P.ld D2 → Ap P.pb I2 → Ap P.pb C → Ap P.pb D2 →
      wpAny (model prog w) A (eval elt (compEnvC scope cl C env)) (GtTurn w P h₀ L m [(I2, oI2), (C, oC), (D2, lst ys), (I, oI), (D, od)] c oc (vals.drop i) st s) E' { s with heap := h, toks := tk })
    (done : ∀ D2 n1 st t8 h tk, OkSt st → Fr h₀ L h (fun z => if z = yv then some (.ref D2) else m z) → News h₀ L h ((D2, lst (drawn vals f)) :: (I, oI) :: (D, od) :: (P.six w n1 (vals.drop f) st t8 ++ [(c, oc)])) → Ap P.ld D2 → Ap P.pb D2 → Q .next { s with heap := h, toks := tk }) :
    wpAny (model prog w) A (call (.type "range") [.int (f : Int) t]) (fun xv s₁ => wpAny (model prog w) A (pyIter xv) (fun it s₂ => Comp1SrcA prog w A h₀ L m env elt x scope cl yv Q it s₂) E s₁) E s := by
  refine range1_rows F N fun h1 tk1 r1 r2 r3 R F1 N1 _ => ?_
  have big : ((2 : Int) ^ 62) = 4611686018427387904 := by decide
  refine comp1_rangeA (s := { s with heap := h1, toks := tk1 }) (n := f) hh F1 N1 R (small_one (by omega) (by omega) (by omega) (by omega)) (by rw [rangeSize_nat]; omega) (by omega)
    (fun i ys nw => ∃ n1 st t8, OkSt st ∧ ys = drawn vals i ∧ nw = (I, oI) :: (D, od) :: (P.six w n1 (vals.drop i) st t8 ++ [(c, oc)])) ⟨n1, st, t8, hst, by simp [drawn], rfl⟩ ?_ ?_
  · rintro i ys v₁ nw I2 oI2 C oC D2 m₂ h tk E' _ ⟨n1, st, t8, h1, rfl, rfl⟩ hC _ F2 N2 hCI hDI hCD off
    have a1 := off _ (.tail _ (.tail _ (.tail _ (.head _))))
    have a2 := off _ (.tail _ (.tail _ (.tail _ (.tail _ (.head _)))))
    refine wpAny_mono (turn i _ n1 st t8 I2 oI2 C oC D2 m₂ h tk E' h1 hC F2 N2 a1.1 a1.2.1 a1.2.2 a2.1 a2.2.1 a2.2.2) (fun y s₃ h₃ => ?_) fun _ _ e => e
    obtain ⟨h', tk', n1', vals', st', t8', rfl, G, F', N'⟩ := h₃
    obtain ⟨e1, rfl⟩ := drawn_step G
    refine ⟨h', tk', _, rfl, F', N', ?_, n1', st', t8', G.ok h1, e1.symm, rfl⟩
    intro p hp
    rcases List.mem_cons.mp hp with rfl | hp
    · exact off (I, oI) (.head _)
    · exact six_addrs (φ := fun a => a ≠ I2 ∧ a ≠ C ∧ a ≠ D2) (fun p hp => off p (.tail _ hp)) p hp
  · rintro D2 ys nw h tk ⟨n1, st, t8, h1, rfl, rfl⟩ F2 N2 off
    exact done D2 n1 st t8 h tk h1 F2 N2 (off _ (.tail _ (.tail _ (.tail _ (.head _))))) (off _ (.tail _ (.tail _ (.tail _ (.tail _ (.head _))))))
end
end
section
open PyProof.Rows PySem PySem.Calls PySem.W
theorem ln_KuLr_1 : True := by
  k_with_none
  k_with "k_room" => (((try simp only [depth_mark, depth_under_make, depth_under_kw, depth_in1, depth_deeper, depth_caller]); (try dsimp only [ktrTop]); omega))
  k_with "k_units" => (((try simp only [units_in1, units_deeper, Around.mark_units, units_caller]); (try dsimp only [ktrTop]); omega))
  k_with "k_ne" => ((refine neN ?_; (try dsimp only); first | exact Ap.ne (by assumption) | exact Ap.en (by assumption) | omega))
  k_with "ktr_unf" => ((
      refine' code_defT ?zk1 ?zk2 ?zk3 ?zk4 ?zk5 ?zkA ?zkF ?zkK ?zk6 ?zk7 ?zk8 ?zk9k ?zkB ?_ ?zc2 ?zc3 ?zc4 ?zc5
      case zkA => exact rfl
      case zkF => first | assumption | exact rfl
      case zkK => first | assumption | exact rfl
      case zk1 => k_asm
      case zk2 => k_asm
      case zk3 => k_asm
      case zk4 => k_asm
      case zk5 => k_asm
      case zk6 => k_is
      case zk7 => k_is
      case zk8 => k_room
      case zk9k => first | exact BindsTo.of_eq rfl | exact binds_K (by k_in) rfl (by k_is) rfl rfl rfl
      case zc5 => decide
      case zkB => exact locs rfl
      case zc2 => exact rfl
      case zc3 => exact rfl
      case zc4 => exact rfl
      intro g'k L'k h'k hg'k F'k N'k B'k X'k T'k l1k
      (try k_lt l1k)
      (try dsimp only)
      (try k_lift B'k)
      (try k_fold)))
  k_with "ktr_rel" => (first | exact List.forall_mem_nil _ | (refine' List.forall_mem_cons.mpr ⟨?za, ?zb⟩; (case za => k_mem); (case zb => ktr_rel)))
  k_with "tb_rel" => (first | exact Upds.nil | (refine' Upds.cons ?za ?zb; (case za => k_upd); (case zb => tb_rel)))
  trivial
theorem ap6 {x a b c d e f : Addr} (h : ∀ r ∈ ([a, b, c, d, e, f] : List Addr), x ≠ r) : Ap x a ∧ Ap x b ∧ Ap x c ∧ Ap x d ∧ Ap x e ∧ Ap x f := by
  exact ⟨h _ (by simp), h _ (by simp), h _ (by simp), h _ (by simp), h _ (by simp), h _ (by simp)⟩
theorem For_ownF {prog : Program} {w : World} {A : Around} {s : Shared} {env : Env} {h₀ : Heap} {m : Str → Option Value} {E : Value → Shared → Prop} {Q : Flow → Shared → Prop} {target iter : PySem.Expr} {pos : Pos} {body : List Stmt} (F₀ : Fr h₀ env.locals s.heap m) (hh : A.handled = none)
    (h : wpAny (model prog w) A (eval iter env) (fun xv s₁ => ForSrc prog w A h₀ env target body Q E xv s₁) E s)
    (hs : ∀ x, foldedSetIterable iter env x = pure x) (hE : PassesOwn (model prog w) A env E := by passes_own) :
    wpAny (model prog w) A (exec (.For target iter body [] pos) env) Q E s := For_own h₀ hh h hs hE
theorem ln_KuLr_2 : True := by
  k_with "exec For" => (((with_reducible show wpAny _ _ (exec (Stmt.For _ _ _ _ _) _) _ _ _); refine Hold.of ?_))
  k_with "subscriptTail Name Slice ref ref" => ((k_here; (with_reducible show wpAny _ _ (subscriptTail _ (PySem.Expr.Slice none none (some _) _) (Value.ref _) (Value.ref _)) _ _ _); refine Hold.of ?_))
  k_with "call ref" => ((k_here; (with_reducible show wpAny _ _ (call (Value.ref 777) _ _) _ _ _); refine Hold.of ?_))
  trivial
theorem join_jn {prog : Program} {w : World} {A : Around} {E : Value → Shared → Prop} {s : Shared} {Q : Value → Shared → Prop} {D : Addr} {items : Array Value} {ys : List Str} {t : Tok} (hl : s.heap.IsList D items) (hi : PyProof.Rows.StrsAre items.toList ys) (hb : tot ys ≤ 200)
    (h : ∀ t' k, Q (.str (jn ys) t') { s with toks := k }) : wpAny (model prog w) A (call (.builtin "str.join") [.str (Str.ofString " ") t, .ref D]) Q E s := by
  refine join_list hl hi ?_ (fun t' k => ?_)
  · rw [bl_len, Nat.mul_one, sum_len_tot]; omega
  · rw [txt_jn]; exact h t' k
theorem Comp1_ownAF {prog : Program} {w : World} {A : Around} {E : Value → Shared → Prop} {s : Shared} {h₀ : Heap} {L : Addr} {m : Str → Option Value} {env : Env} (F₀ : Fr h₀ L s.heap m) {elt iter : PySem.Expr} {x : Str} {px : Pos} {scope : Scope} {cl : List (Str × Addr)} {pos spos py : Pos} {yv : Str} {Q : Flow → Shared → Prop} (hLe : env.locals = L) (hy : env.kindOf yv = some .local) (hp : (env.scope.kind == .class || (env.scope.kind == .module && env.locals != env.globals)) = false)
    (hsw : swapsWith (.ListComp elt [⟨.Name x px, iter, [], 0⟩] scope pos) (some (.Name yv py)) spos.line env = pure true)
    (hclos : closureFor scope env = pure cl) (hcell : ∀ y ∈ scope.names, y.2 ≠ .cell) (hkind : scope.kind = .function)
    (hnames : ∀ y ∈ scope.names, y.2 = .local → scope.names.lookup y.1 = some .local) (hx : scope.names.lookup x = some .local)
    (h : wpAny (model prog w) A (eval iter env) (fun xv s₁ => wpAny (model prog w) A (pyIter xv) (fun it s₂ => Comp1SrcA prog w A h₀ L m env elt x scope cl yv Q it s₂) E s₁) E s)
    (hs : ∀ x, foldedSetIterable iter env x = pure x) :
    wpAny (model prog w) A (exec (.Assign [.Name yv py] (.ListComp elt [⟨.Name x px, iter, [], 0⟩] scope pos) spos) env) Q E s := Comp1_ownA hLe hy hp hsw hclos hcell hkind hnames hx h hs
theorem ln_KuLr_3 : True := by
  k_with "call ref" => ((k_here; (with_reducible show wpAny _ _ (call (Value.ref 738) _) _ _ _); refine Hold.of ?_))
  k_with "call ref" => ((k_here; (with_reducible show wpAny _ _ (call (Value.ref 716) _) _ _ _); refine Hold.of ?_))
  k_with "exec Assign cons ListComp" => ((refine Hold.of ?_))
  k_with "call type:range" => ((k_here; (with_reducible show wpAny _ _ (call (Value.type "range") [_]) _ _ _); refine Hold.of ?_))
  k_with "compareOp In none ref" => (((with_reducible show wpAny _ _ (compareOp CmpOp.In Value.none (Value.ref _)) _ _ _); refine Hold.of ?_))
  k_with "binaryOp Add ref ref" => ((k_here; (with_reducible show wpAny _ _ (binaryOp _ (Value.ref _) (Value.ref _)) _ _ _); refine Hold.of ?_))
  k_with "call builtin:str.join" => ((k_here; (with_reducible show wpAny _ _ (call _ [Value.str _ _, Value.ref _]) _ _ _); refine Hold.of ?_))
  trivial
set_option maxHeartbeats 4000000 in
theorem lr_spec {PG : Program} {LS : List Str} (w : World) (mean : ExcName → Option Value) (mg mb : Str → Option Value) (dp un : Nat) (gd : Option (List Code))  (env : Env) (outer : List Env) (A₀ : Around) (base h₀ : Heap) (L : Addr) (m : Str → Option Value) (s : Shared) (Q : Value → Shared → Prop) (E : Value → Shared → Prop)
   (B : Below A₀ base outer h₀) (F : Fr h₀ L s.heap m) (X : (hd.heap_1 w.params).In h₀) (T : Top PG LS mean mg mb h₀) (hf : env.frame = some L) (hk : env.scope.kind = .function) (hdp : dp + 60 < recursionLimit) (hu : un + 600 < cLine)
   (l : Addr) (its : List Value) (files : List (Str × Nat)) (hl : s.heap.IsList l its.toArray) (hfi : FilesAre s.heap its files) (hne : files ≠ []) (hlen : its.length ≤ 11) (hw : ∀ p ∈ files, p.1.length ≤ 10 ∧ p.2 < 3)
   (hret : ∀ t' h' tk', Touch s.heap h' [] [] → Q (.str (readS files) t') {s with heap := h', toks := tk'})
   (N : News h₀ L s.heap [])  :
   wpAny (model PySem.Challenge.pw_ku0029_01 w) (⟨none, dp, some (env :: outer), gd, un⟩ : Around) (call (.ref 814) [.ref l]) Q E s := by
  refine wpAny_call ?_
  refine' code_defTC ?k1 ?k2 ?k3 ?k4 ?k5 ?kA ?kF ?kK ?k6 ?k7 ?k8 ?k9 ?kB ?kD ?_ ?c2 ?c3 ?c4
  case kA => exact rfl
  case kF => first | assumption | exact rfl
  case kK => first | assumption | exact rfl
  case k1 => k_asm
  case k2 => k_asm
  case k3 => k_asm
  case k4 => k_asm
  case k5 => k_asm
  case k6 => k_is
  case k7 => k_is
  case k8 => k_room
  case k9 => first | exact BindsTo.of_eq rfl | exact binds_K (by k_in) rfl (by k_is) rfl rfl rfl
  case kB => exact rfl
  case kD => decide +kernel
  case c2 => exact rfl
  case c3 => exact rfl
  case c4 => exact rfl
  intro g' L' h' tk' cells' hg' F' N' Y' B' X' T' l1
  (try k_lt l1)
  k_cells Y'
  (try simp only [List.cons_append, List.nil_append] at N')
  (try dsimp only)
  (try k_lift B')
  (try k_fold)
  have hlg : Heap.IsList g' l its.toArray := hl.at fun o e => hg' _ _ e (fun _ hp => nomatch hp)
  have hfg : FilesAre g' its files := hfi.keeps fun b o e => hg' _ _ e (fun _ hp => nomatch hp)
  clear hl hfi
  k_steps
  refine Hold.mk ?_
  refine' use_nl ?B ?F ?X ?T ?hf ?hk ?hdp ?hu ?N ?_
  (case B => k_asm)
  (case F => k_asm)
  (case X => k_asm)
  (case T => k_asm)
  (case hf => exact rfl)
  (case hk => exact rfl)
  (case hdp => k_room)
  (case hu => k_units)
  (case N => k_asm)
  intro P t7 t8 n1 h9 tk9 hP F9 N9 O9
  have P9' := hP
  obtain ⟨_, _, _, _, _, _, _, _, _, _, _, _, _, _, _, _, _⟩ := P9'
  obtain ⟨_, _, _, _, _, _⟩ := ap6 (O9 _ (List.Mem.head _))
  clear O9
  (try simp only [List.cons_append, List.nil_append] at N9)
  (try dsimp only)
  (try k_fold)
  k_steps
  refine Hold.mk ?_
  refine' For_ownF ?F0 rfl ?_ (fun _ => rfl)
  case F0 => k_asm
  k_steps
  refine Hold.mk ?_
  refine' krv_lit ?F ?N ?l ?k rfl ?_ ?s ?t ?z
  case F => k_asm
  case N => k_asm
  case l => exact hlg.at fun o e => Fr.keep (by assumption) _ _ e
  case k => exact IsPart.int _ _
  case s => with_unfolding_all rfl
  case t => kmk_pure
  case z => (simp only [sizeLine_eq, List.size_toArray]; omega)
  intro D h1 F1 N1 l1
  (try k_lt l1)
  refine pile_src F1 N1 hfg hne hlen hw ?turn ?done
  case turn =>
    intro x f a t1 t2 m₁ sts vals n1 st t8 h tk I oI hf3 hsv hst hsl htot hfail hT aI bI F2 N2
    have hvl : vals.length ≤ 900 := by rw [vals_len hsv]; omega
    simp only [Pl.six, List.cons_append, List.nil_append] at N2
    generalize hR : PileEnd w P _ _ _ _ _ _ I oI sts vals x f _ _ = R
    clear N1 F1
    k_steps
    refine Hold.mk ?_
    refine' Comp1_ownAF ?F0z rfl ?cz1 ?cz2 ?cz3 ?cz4 ?cz5 ?cz6 ?cz7 ?cz8 ?_ ?cz9
    case F0z => k_asm
    case cz1 => exact rfl
    case cz2 => exact rfl
    case cz3 => with_unfolding_all rfl
    case cz4 => with_unfolding_all rfl
    case cz5 => decide
    case cz6 => exact rfl
    case cz7 => decide
    case cz8 => exact rfl
    case cz9 => intro _; exact rfl
    k_steps
    refine Hold.mk ?_
    refine' pile_comp rfl hf3 hst ?F ?N ?turn2 ?done2
    case F => k_asm
    case N => k_asm
    case turn2 =>
      intro i ys n1 st t8 I2 oI2 C oC D2 m₂ h tk E' hst hC F3 N3 u1 u2 u3 u4 u5 u6
      simp only [Pl.six, List.cons_append, List.nil_append] at N3
      k_steps
      refine Hold.mk ?_
      refine' use_gt ?Bu1 ?Fu1 ?Xu1 ?Tu1 ?hfu1 ?hku1 ?hdpu1 ?huu1 hP ?hvu1 hst ?Nu1 ?hCu1 ?hchu1 ?_
      case Bu1 => k_asm
      case Fu1 => k_asm
      case Xu1 => k_asm
      case Tu1 => k_asm
      case hfu1 => exact rfl
      case hku1 => exact rfl
      case hdpu1 => k_room
      case huu1 => k_units
      case Nu1 => k_asm
      case hCu1 => ktr_rel
      case hchu1 => ktr_rel
      case hvu1 => first | assumption | ((try simp only [List.length_drop, List.length_cons, List.length_nil]); omega)
      intro r9 n9 vals9 st9 t9 h9 tk9 G9 F9 hN9
      have N9 := hN9 _ (by tb_rel)
      clear hN9
      (try dsimp only)
      (try k_fold)
      k_steps
      exact ⟨_, _, _, _, _, _, rfl, by assumption, by assumption, by assumption⟩
    case done2 =>
      intro D2 n1 st t8 h tk hst F3 N3 u1 u2
      simp only [Pl.six, List.cons_append, List.nil_append] at N3
      by_cases hlt : vals.length < f
      · k_steps
        refine Hold.mk ?_
        refine none_in (f := f) (News.isList N3 (by k_mem)) rfl hsv true (decide_eq_true hlt) ?_
        k_steps
        subst hR
        (try dsimp only [PileEnd])
        k_steps
        rw [hfail (by rw [← vals_len hsv]; exact hlt)] at hret
        exact hret _ _ _ (touch_mk (by assumption) (by assumption) (by assumption) (List.forall_mem_nil _))
      · k_steps
        refine Hold.mk ?_
        refine none_in (f := f) (News.isList N3 (by k_mem)) rfl hsv false (decide_eq_false hlt) ?_
        have hfl : f ≤ vals.length := by omega
        k_steps
        refine Hold.mk ?_
        refine' kmk_add_lit ?F ?N ?a ?b rfl ?_ ?z
        case F => k_asm
        case N => k_asm
        case a => kmk_list
        case b => kmk_list
        case z => simp only [sizeLine_eq, List.length_cons, List.length_nil, drawn_full hfl, List.length_take]; omega
        intro D3 h3 F4 N4 l4
        (try k_lt l4)
        k_steps
        refine Hold.mk ?_
        refine join_jn (ys := x :: sts.take f) (News.isList N4 (by k_mem)) ?hi ?ht ?_
        case hi => rw [drawn_full hfl]; exact .cons _ _ (vals_take _ hsv)
        case ht =>
          have := tot_split sts f
          simp only [tot, List.map_cons, List.sum_cons] at htot this ⊢
          omega
        intro t9 tk9
        (try dsimp only)
        k_steps
        refine Hold.mk ?_
        refine' use_pu ?Bu2 ?Fu2 ?Xu2 ?Tu2 ?hfu2 ?hku2 ?hdpu2 ?huu2 hP ?hvu2 ?Nu2 ?hCu2 ?hchu2 ?_
        case Bu2 => k_asm
        case Fu2 => k_asm
        case Xu2 => k_asm
        case Tu2 => k_asm
        case hfu2 => exact rfl
        case hku2 => exact rfl
        case hdpu2 => k_room
        case huu2 => k_units
        case Nu2 => k_asm
        case hCu2 => ktr_rel
        case hchu2 => ktr_rel
        case hvu2 => first | assumption | ((try simp only [List.length_drop, List.length_cons, List.length_nil]); omega)
        intro h9 tk9 F9 hN9
        have N9 := hN9 _ (by tb_rel)
        clear hN9
        (try dsimp only)
        (try k_fold)
        k_steps
        subst hR
        with_reducible rename News _ _ _ _ => N9
        refine ⟨_, _, _, n1 + 1, st, t8, t9, rfl, by assumption, by rw [← vals_len hsv]; exact hfl, hst, fun p hp => N9 p ?_⟩
        revert p
        simp only [Pl.six, List.cons_append, List.nil_append]
        ktr_rel
  case done =>
    intro m' v y t sts vals n1 st t8 h' tk hv hsv hst hsl hp F2 N2
    have hvl : vals.length ≤ 900 := by rw [vals_len hsv]; omega
    subst hv
    simp only [Pl.six, List.cons_append, List.nil_append] at N2
    clear N1 F1
    cases hsv with
    | nil =>
      k_steps
      refine Hold.mk ?_
      refine' use_gtc ?Bu3 ?Fu3 ?Xu3 ?Tu3 ?hfu3 ?hku3 ?hdpu3 ?huu3 hP ?hvu3 hst ?Nu3 ?hCu3 ?hchu3 ?_
      case Bu3 => k_asm
      case Fu3 => k_asm
      case Xu3 => k_asm
      case Tu3 => k_asm
      case hfu3 => exact rfl
      case hku3 => exact rfl
      case hdpu3 => k_room
      case huu3 => k_units
      case Nu3 => k_asm
      case hCu3 => ktr_rel
      case hchu3 => ktr_rel
      case hvu3 => first | assumption | ((try simp only [List.length_drop, List.length_cons, List.length_nil]); omega)
      intro n9 t9 h9 tk9 F9 hN9
      have N9 := hN9 _ (by tb_rel)
      clear hN9
      (try dsimp only)
      (try k_fold)
      k_steps
      refine Hold.mk ?_
      refine' use_gtn ?Bu4 ?Fu4 ?Xu4 ?Tu4 ?hfu4 ?hku4 ?hdpu4 ?huu4 hP ?hstu4 ?Nu4 ?hCu4 ?hchu4 ?_
      case Bu4 => k_asm
      case Fu4 => k_asm
      case Xu4 => k_asm
      case Tu4 => k_asm
      case hfu4 => exact rfl
      case hku4 => exact rfl
      case hdpu4 => k_room
      case huu4 => k_units
      case Nu4 => k_asm
      case hCu4 => ktr_rel
      case hchu4 => ktr_rel
      case hstu4 => assumption
      intro n9 t9 h9 tk9 F9 hN9
      have N9 := hN9 _ (by tb_rel)
      clear hN9
      (try dsimp only)
      (try k_fold)
      k_steps
      rw [readS_one hp] at hret
      exact hret _ _ _ (touch_mk (by assumption) (by assumption) (by assumption) (List.forall_mem_nil _))
    | cons y2 t2 hsv =>
      simp only [List.length_cons] at hvl
      k_steps
      refine Hold.mk ?_
      refine' use_gtc ?Bu5 ?Fu5 ?Xu5 ?Tu5 ?hfu5 ?hku5 ?hdpu5 ?huu5 hP ?hvu5 hst ?Nu5 ?hCu5 ?hchu5 ?_
      case Bu5 => k_asm
      case Fu5 => k_asm
      case Xu5 => k_asm
      case Tu5 => k_asm
      case hfu5 => exact rfl
      case hku5 => exact rfl
      case hdpu5 => k_room
      case huu5 => k_units
      case Nu5 => k_asm
      case hCu5 => ktr_rel
      case hchu5 => ktr_rel
      case hvu5 => first | assumption | ((try simp only [List.length_drop, List.length_cons, List.length_nil]); omega)
      intro n9 t9 h9 tk9 F9 hN9
      have N9 := hN9 _ (by tb_rel)
      clear hN9
      (try dsimp only)
      (try k_fold)
      k_steps
      refine Hold.mk ?_
      refine' use_gtc ?Bu6 ?Fu6 ?Xu6 ?Tu6 ?hfu6 ?hku6 ?hdpu6 ?huu6 hP ?hvu6 hst ?Nu6 ?hCu6 ?hchu6 ?_
      case Bu6 => k_asm
      case Fu6 => k_asm
      case Xu6 => k_asm
      case Tu6 => k_asm
      case hfu6 => exact rfl
      case hku6 => exact rfl
      case hdpu6 => k_room
      case huu6 => k_units
      case Nu6 => k_asm
      case hCu6 => ktr_rel
      case hchu6 => ktr_rel
      case hvu6 => first | assumption | ((try simp only [List.length_drop, List.length_cons, List.length_nil]); omega)
      intro n9 t9 h9 tk9 F9 hN9
      have N9 := hN9 _ (by tb_rel)
      clear hN9
      (try dsimp only)
      (try k_fold)
      k_steps
      rw [readS_many hp] at hret
      exact hret _ _ _ (touch_mk (by assumption) (by assumption) (by assumption) (List.forall_mem_nil _))
end
section
open PyProof.Rows PySem PySem.Calls PySem.W
theorem ln_KuLp_0 : True := by
  k_with_none
  trivial
noncomputable def iN (l : List Nat) : List Int := l.map fun n : Nat => (n : Int)
noncomputable def remL (ns : List Int) : List Nat := (ns.take 5).map fun v => (Int.fmod v 3).toNat
theorem fmod3 (v : Int) : 0 ≤ Int.fmod v 3 ∧ Int.fmod v 3 < 3 := by
  rw [Int.fmod_eq_emod_of_nonneg _ (by decide)]
  omega
theorem rem_of (ns : List Int) : (ns.take 5).map (fun v => Int.fmod v 3) = iN (remL ns) := by
  unfold iN remL
  rw [List.map_map]
  apply List.map_congr_left
  intro v _
  have := fmod3 v
  show Int.fmod v 3 = ((Int.fmod v 3).toNat : Int)
  omega
theorem rem_lt (ns : List Int) : ∀ x ∈ remL ns, x < 3 := by
  intro x hx
  obtain ⟨v, _, rfl⟩ := List.mem_map.mp hx
  have := fmod3 v
  show (Int.fmod v 3).toNat < 3
  omega
theorem rem_len (ns : List Int) : (remL ns).length = min 5 ns.length := by simp [remL]
theorem figs0_of {ns : List Int} (h : 0 < ns.length) : figs0 (remL ns) = remL ns := by
  unfold figs0
  have : (remL ns).isEmpty = false := by
    cases e : remL ns with
    | nil => have := rem_len ns; rw [e] at this; simp at this; omega
    | cons a b => rfl
  rw [this]; rfl
theorem figs0_none {ns : List Int} (h : ¬ 0 < ns.length) : iN (figs0 (remL ns)) = [1, 2, 0, 2] := by
  have : ns = [] := List.eq_nil_of_length_eq_zero (by omega)
  subst this
  rfl
theorem sum_iN (l : List Nat) : (iN l).sum = ((l.sum : Nat) : Int) := by
  unfold iN
  induction l with
  | nil => rfl
  | cons x r ih => rw [List.map_cons, List.sum_cons, List.sum_cons, ih]; omega
theorem len_iN (l : List Nat) : (iN l).length = l.length := by simp [iN]
theorem ints_rep (c : Int) (t : Tok) : ∀ k : Nat, IntsAre (List.replicate k [Value.int c t]).flatten (List.replicate k c)
  | 0 => .nil
  | k + 1 => .cons c t (ints_rep c t k)
theorem sum_small (l : List Nat) (h : ∀ x ∈ l, x < 3) : l.sum ≤ 2 * l.length := by
  induction l with
  | nil => simp
  | cons x r ih =>
    have h1 := h x (.head _)
    have h2 := ih fun y hy => h y (.tail _ hy)
    rw [List.sum_cons, List.length_cons]; omega
theorem figs0_small (ns : List Int) : (figs0 (remL ns)).length ≤ 5 ∧ (figs0 (remL ns)).sum ≤ 10 := by
  by_cases h : 0 < ns.length
  · rw [figs0_of h]
    have h1 := rem_len ns
    have h2 := sum_small _ (rem_lt ns)
    omega
  · have : ns = [] := List.eq_nil_of_length_eq_zero (by omega)
    subst this
    decide
theorem figs1_iN (l : List Nat) (M : Int) (hM : M = ((figs0 l).sum : Int) - ((figs0 l).length : Int) + 1) : iN (figs0 l) ++ List.replicate M.toNat 0 ++ List.replicate (-M).toNat 2 = iN (figs1 l) := by
  unfold figs1 iN
  have e1 : M.toNat = (figs0 l).sum + 1 - (figs0 l).length := by omega
  have e2 : (-M).toNat = (figs0 l).length - ((figs0 l).sum + 1) := by omega
  rw [e1, e2, List.map_append, List.map_append, List.map_replicate, List.map_replicate, List.append_assoc]
  rfl
noncomputable def lastB (ns : List Int) : Bool := decide (ns.length % 4 = 3)
noncomputable def figsL (ns : List Int) : List Nat := figsOf (remL ns) (lastB ns)
theorem figsL_good (ns : List Int) : goodI (figsL ns) = true := by
  refine good_of (by rw [rem_len]; omega) (rem_lt ns) fun h => ?_
  rw [rem_len]
  have : ns.length % 4 = 3 := of_decide_eq_true h
  omega
theorem figsL_yes {ns : List Int} (h : ns.length % 4 = 3) : iN (figsL ns) = (iN (figs1 (remL ns))).take ((iN (figs1 (remL ns))).length - 1) := by
  unfold figsL figsOf lastB
  rw [decide_eq_true h, if_pos rfl, ← List.dropLast_eq_take]
  unfold iN
  rw [List.map_dropLast]
theorem figsL_no {ns : List Int} (h : ¬ ns.length % 4 = 3) : figsL ns = figs1 (remL ns) := by
  unfold figsL figsOf lastB
  rw [decide_eq_false h]
  rfl
theorem figs1_len (ns : List Int) : (figs1 (remL ns)).length ≤ 20 := by
  have := figs0_small ns
  unfold figs1
  simp only [List.length_append, List.length_replicate]
  omega
theorem mod4_yes {n : Nat} (h : Int.fmod (n : Int) 4 = 3) : n % 4 = 3 := by
  rw [Int.fmod_eq_emod_of_nonneg _ (by decide)] at h
  omega
theorem mod4_no {n : Nat} (h : Int.fmod (n : Int) 4 ≠ 3) : ¬ n % 4 = 3 := by
  rw [Int.fmod_eq_emod_of_nonneg _ (by decide)] at h
  omega
theorem figs_at {figs : List Nat} {vs : List Value} (h : IntsAre vs (iN figs)) {i : Nat} {v : Value} (e : vs[i]? = some v) : ∃ f t, v = .int ((f : Nat) : Int) t ∧ figs[i]? = some f ∧ figs.getD i 0 = f := by
  obtain ⟨n, t, rfl, e1⟩ := h.at i v e
  unfold iN at e1
  rw [List.getElem?_map] at e1
  cases q : figs[i]? with
  | none => rw [q] at e1; cases e1
  | some f =>
    rw [q] at e1
    cases e1
    exact ⟨f, t, rfl, rfl, by rw [List.getD_eq_getElem?_getD, q]; rfl⟩
theorem figs_lt {figs : List Nat} (h : ∀ f ∈ figs, f < 3) (i : Nat) : figs.getD i 0 < 3 := by
  rw [List.getD_eq_getElem?_getD]
  cases e : figs[i]? with
  | none => simp
  | some f => exact h f (List.mem_of_getElem? e)
end
section
open PyProof.Rows PyProof.Rows.LCg PySem PySem.Calls PySem.W
theorem ln_KuEn_0 : True := by
  k_with_none
  trivial
/-- what a turn leaves behind: the same ledger, and what is to hold of the items -/
noncomputable def EnTurn (h₀ : Heap) (L : Addr) (m : Str → Option Value) (news : List (Addr × Obj)) (P : List Value → Prop) (s : Shared) (ys : List Value) (y : Value) (s₃ : Shared) : Prop :=
  ∃ h' tk', s₃ = { s with heap := h', toks := tk' } ∧ Fr h₀ L h' m ∧ News h₀ L h' news ∧ P (ys ++ [y])
theorem efp (z l b : Nat) (h : l < z) (hb : b ∈ [z + 1, z, l]) : b < z + 2 := by simp at hb; omega
theorem ewr (z b : Nat) (hb : b ∈ [z + 1, z]) : z ≤ b := by simp at hb; omega
section
variable {prog : Program} {w : World} {A : Around} {E : Value → Shared → Prop} {s : Shared} {h₀ : Heap} {L : Addr} {m : Str → Option Value} {env : Env}
theorem enum_compA (hh : A.handled = none) {news : List (Addr × Obj)} (F : Fr h₀ L s.heap m) (N : News h₀ L s.heap news) {l : Addr} {vs : List Value} {n : Nat} (hl : (l, listOf vs.toArray n) ∈ news) (hn : vs.length ≤ 100000)
    {elt : PySem.Expr} {a b yv : Str} {scope : Scope} {cl : List (Str × Addr)} {Q : Flow → Shared → Prop} (P : Nat → List Value → Prop) (h0 : P 0 [])
    (turn : ∀ i ys v t z1 o1 z2 o2 C oC D m₂ h tk (E' : Value → Shared → Prop), vs[i]? = some v → P i ys → NsObj oC m₂ → m₂ a = some (.int (i : Int) t) → m₂ b = some v → Fr h₀ L h m →
      News h₀ L h ((z1, o1) :: (z2, o2) :: (C, oC) :: (D, lst ys) :: news) →
      wpAny (model prog w) A (eval elt (compEnvC scope cl C env)) (EnTurn h₀ L m ((z1, o1) :: (z2, o2) :: (C, oC) :: (D, lst ys) :: news) (P (i + 1)) s ys) E' { s with heap := h, toks := tk })
    (done : ∀ D ys h tk, P vs.length ys → Fr h₀ L h (fun z => if z = yv then some (.ref D) else m z) → News h₀ L h ((D, lst ys) :: news) → (∀ p ∈ news, p.1 ≠ D) → Q .next { s with heap := h, toks := tk }) :
    wpAny (model prog w) A (call (.type "enumerate") [.ref l]) (fun xv s₁ => wpAny (model prog w) A (pyIter xv) (fun it s₂ => CompSrcA prog w A h₀ L m env elt a b scope cl yv Q it s₂) E s₁) E s := by
  have hL : s.heap.IsList l vs.toArray := ⟨_, (N _ hl).1, rfl, n, rfl⟩
  have hlt : l < s.heap.objs.size := Heap.lt_size (N _ hl).1
  have hLlt : L < s.heap.objs.size := F.ns.lt
  refine call_enumerate_list hL fun h' hE hI hsz hk => ?_
  refine wpAny_pyIter_enum hE ?_
  have fresh : ∀ b, s.heap.objs.size ≤ b → b ≠ L ∧ h₀.get? b = none := fun b hb => ⟨Nat.ne_of_gt (Nat.lt_of_lt_of_le hLlt hb), by
    cases e : h₀.get? b with
    | none => rfl
    | some o' => exact absurd (Heap.lt_size (F.keep b o' e)) (Nat.not_lt.mpr hb)⟩
  have old : ∀ p ∈ news, p.1 < s.heap.objs.size := fun p hp => Heap.lt_size (N p hp).1
  have W := (WalksT.enumerate (prog := prog) (w := w) hh (s.heap.objs.size + 1) s.heap.objs.size l (Nat.succ_ne_self _) (Nat.ne_of_lt (Nat.lt_succ_of_lt hlt)) (Nat.ne_of_lt hlt) vs.toArray).toU
  refine ⟨_, _, _, _, _, _, _, news, fun i ys nw => nw = news ∧ P i ys, ⟨rfl, hh, W, ?_, by simpa using hn, ⟨⟨_, hE⟩, hI, hL.at fun o e => hk _ o e⟩, ?_, ?_, ?_, F.keeps hk, N.grown hk, ?_, ?_, ⟨rfl, h0⟩, ?_⟩, ?_⟩
  · rintro i vals ⟨t, x, _, e⟩; exact ⟨_, _, e⟩
  · intro b hb
    show b < h'.objs.size
    rw [hsz]
    exact efp _ _ _ hlt hb
  · intro b hb
    exact fresh b (ewr _ _ hb)
  · rintro i h ⟨⟨old', he⟩, ⟨o4, a4, _⟩, _⟩ b hb
    simp at hb
    rcases hb with rfl | rfl
    · exact ⟨_, he⟩
    · exact ⟨_, a4⟩
  · intro p hp hm
    exact Nat.lt_irrefl _ (Nat.lt_of_lt_of_le (old p hp) (ewr _ _ hm))
  · intro b hb
    simp at hb
    rcases hb with rfl | rfl | rfl
    · exact .inl (by simp)
    · exact .inl (by simp)
    · exact .inr (.inr ⟨_, fun i ys nw hj => by rw [hj.1]; exact hl⟩)
  · rintro i ys v₁ v₂ news₁ own C oC Dd m₂ h tk E' ⟨t, x, hx, e⟩ ⟨rfl, hP⟩ ho hoC hm1 hm2 F' N' hCw hDw hCD off
    obtain ⟨rfl, rfl⟩ : v₁ = .int (i : Int) t ∧ v₂ = x := by
      have := congrArg Array.toList e
      simpa using this
    rcases own with _ | ⟨⟨_, o1⟩, _ | ⟨⟨_, o2⟩, _ | ⟨_, _⟩⟩⟩ <;> simp at ho
    obtain ⟨rfl, rfl⟩ := ho
    refine wpAny_mono (turn i ys v₂ t _ o1 _ o2 C oC Dd m₂ h tk E' (by simpa using hx) hP hoC hm1 hm2 F' N') (fun y s₃ h₃ => ?_) fun _ _ e => e
    obtain ⟨h3, tk', rfl, F3, N3, hP'⟩ := h₃
    exact ⟨h3, tk', _, rfl, F3, N3, off, rfl, hP'⟩
  · rintro Dd ys news₁ h tk ⟨rfl, hP⟩ F' N' off
    exact done Dd ys h tk (by simpa using hP) F' N' off
theorem Comp_ownAF (F₀ : Fr h₀ L s.heap m) {elt iter : PySem.Expr} {x x₂ : Str} {px px₂ tp : Pos} {tk : Nat} {scope : Scope} {cl : List (Str × Addr)} {pos spos py : Pos} {yv : Str} {Q : Flow → Shared → Prop} (hLe : env.locals = L) (hy : env.kindOf yv = some .local) (hp : (env.scope.kind == .class || (env.scope.kind == .module && env.locals != env.globals)) = false)
    (hsw : swapsWith (.ListComp elt [⟨.Tuple [.Name x px, .Name x₂ px₂] tk tp, iter, [], 0⟩] scope pos) (some (.Name yv py)) spos.line env = pure true)
    (hclos : closureFor scope env = pure cl) (hcell : ∀ y ∈ scope.names, y.2 ≠ .cell) (hkind : scope.kind = .function)
    (hnames : ∀ y ∈ scope.names, y.2 = .local → scope.names.lookup y.1 = some .local) (hx : scope.names.lookup x = some .local) (hx₂ : scope.names.lookup x₂ = some .local) (hxx : x ≠ x₂)
    (h : wpAny (model prog w) A (eval iter env) (fun xv s₁ => wpAny (model prog w) A (pyIter xv) (fun it s₂ => CompSrcA prog w A h₀ L m env elt x x₂ scope cl yv Q it s₂) E s₁) E s)
    (hs : ∀ x, foldedSetIterable iter env x = pure x) :
    wpAny (model prog w) A (exec (.Assign [.Name yv py] (.ListComp elt [⟨.Tuple [.Name x px, .Name x₂ px₂] tk tp, iter, [], 0⟩] scope pos) spos) env) Q E s :=
  Comp_ownA hLe hy hp hsw hclos hcell hkind hnames hx hx₂ hxx h hs
end
end
section
open PyProof.Rows PyProof.V PySem PySem.Calls PySem.SeqAt PySem.Spec PySem.W
theorem ln_KuEq_0 : True := by
  k_with_none
  trivial
theorem readsAll_of_strs {h : Heap} : ∀ {vs : List Value} {ys : List Str}, PyProof.Rows.StrsAre vs ys → ReadsAll h vs (ys.map PyData.str) []
  | _, _, .nil => .nil
  | _, _, .cons k t r => by
    have := ReadsAll.cons (Reads.str (h := h) k t) (readsAll_of_strs (h := h) r)
    simpa using this
theorem reads_of_strs {h : Heap} {a : Addr} {its : Array Value} {ys : List Str} (hl : h.IsList a its) (hi : PyProof.Rows.StrsAre its.toList ys) : Reads h (.ref a) (.list (ys.map PyData.str)) [a] := by
  obtain ⟨o, ho, hc, n, hd⟩ := hl
  have hd' : o.data = .seq its.toList.toArray n := by rw [Array.toArray_toList]; exact hd
  exact Reads.list ho hc hd (by simpa using readsAll_of_strs hi)
theorem canLayAll0_strs : ∀ ys : List Str, (∀ y ∈ ys, PyData.canLay0 (.str y) = true) → PyData.canLayAll0 (ys.map PyData.str) = true
  | [], _ => by simp [PyData.canLayAll0]
  | n :: r, h => by simp [PyData.canLayAll0, h n (.head _), canLayAll0_strs r fun y hy => h y (.tail _ hy)]
theorem depthAll_strs : ∀ ys : List Str, PyData.depthAll (ys.map PyData.str) ≤ 1
  | [] => by simp [PyData.depthAll]
  | n :: r => by
    have := depthAll_strs r
    simp only [List.map_cons, PyData.depthAll, PyData.depth]
    omega
theorem shaped_strs (ys : List Str) (h : ∀ y ∈ ys, PyData.canLay0 (.str y) = true) : shaped (.list (ys.map PyData.str)) = true := by
  have h1 := depthAll_strs ys
  have h2 : PyData.depth (.list (ys.map PyData.str)) ≤ 64 := by simp only [PyData.depth]; omega
  show (PyData.canLay0 (.list (ys.map PyData.str)) && decide (PyData.depth (.list (ys.map PyData.str)) ≤ 64)) = true
  rw [Bool.and_eq_true]
  exact ⟨by simp only [PyData.canLay0]; exact canLayAll0_strs ys h, decide_eq_true h2⟩
theorem noMix_strs : ∀ ns ms : List Str, noMixAll (ns.map PyData.str) (ms.map PyData.str) = true
  | [], [] => by simp [noMixAll]
  | [], _ :: _ => by simp [noMixAll]
  | _ :: _, [] => by simp [noMixAll]
  | _ :: r, _ :: q => by simp [noMixAll, noMix, noMix_strs r q]
theorem same_strs : ∀ ns : List Str, PySem.Spec.sameAll (ns.map PyData.str) (ns.map PyData.str) = true
  | [] => by simp [PySem.Spec.sameAll]
  | n :: r => by simp [PySem.Spec.sameAll, PySem.Spec.same, same_strs r]
noncomputable def okS (y : Str) : Prop := ∀ c ∈ y.cps.toList, c < 1114112
theorem canLay_str {y : Str} (h : okS y) : PyData.canLay0 (.str y) = true := by
  simp only [PyData.canLay0, PyData.strOk]
  rw [← Array.all_toList, List.all_eq_true]
  intro c hc
  exact decide_eq_true (h c hc)
theorem okS_jn : ∀ {l : List Str}, (∀ y ∈ l, okS y) → okS (jn l)
  | [], _ => fun c hc => by
    have : (jn []).cps.toList = [] := rfl
    rw [this] at hc; cases hc
  | [x], h => h x (.head _)
  | x :: y :: r, h => by
    have ih := okS_jn (l := y :: r) fun z hz => h z (.tail _ hz)
    have hx := h x (.head _)
    rw [jn_cons2]
    intro c hc
    have e : bl = S [32] := sp_S
    rw [e, of_S x, of_S (jn (y :: r)), S_cat, S_cat] at hc
    simp only [List.mem_append, List.mem_singleton] at hc
    rcases hc with (hc | hc) | hc
    · exact hx c hc
    · omega
    · exact ih c hc
theorem wordL_small : ∀ k : Fin 11, ∀ f : Fin 3, (wordL k.val f.val).all (fun c => decide (c < 1114112)) = true := by decide +kernel
theorem okS_wd {figs : List Nat} (h3 : ∀ f ∈ figs, f < 3) {i : Nat} (hi : i < 11) : okS (wd figs i) := by
  have hf := figs_lt h3 i
  intro c hc
  have h := wordL_small ⟨i, hi⟩ ⟨_, hf⟩
  rw [List.all_eq_true] at h
  exact of_decide_eq_true (h c hc)
section
variable {prog : Program} {w : World} {A : Around} {E : Value → Shared → Prop} {s : Shared}
theorem eq_strsK {a b : Addr} {its its2 : Array Value} {ys : List Str} {Q : Value → Shared → Prop} (hl : s.heap.IsList a its) (hi : PyProof.Rows.StrsAre its.toList ys) (hl' : s.heap.IsList b its2) (hi' : PyProof.Rows.StrsAre its2.toList ys) (hok : ∀ y ∈ ys, okS y) (hu : A.units + 64 < cLine)
    (h : Q (.bool true) s) : wpAny (model prog w) A (compareOp .Eq (.ref a) (.ref b)) Q E s :=
  eq_dataH_same (reads_of_strs hl hi) (reads_of_strs hl' hi') (shaped_strs ys fun y hy => canLay_str (hok y hy)) (shaped_strs ys fun y hy => canLay_str (hok y hy)) hu (by simp only [noMix]; exact noMix_strs ys ys) (by simp only [PySem.Spec.same]; rw [same_strs]; exact h)
theorem ne_strsK {a b : Addr} {its its2 : Array Value} {ys : List Str} {Q : Value → Shared → Prop} (hl : s.heap.IsList a its) (hi : PyProof.Rows.StrsAre its.toList ys) (hl' : s.heap.IsList b its2) (hi' : PyProof.Rows.StrsAre its2.toList ys) (hok : ∀ y ∈ ys, okS y) (hu : A.units + 64 < cLine)
    (h : Q (.bool false) s) : wpAny (model prog w) A (compareOp .NotEq (.ref a) (.ref b)) Q E s :=
  ne_dataH_same (reads_of_strs hl hi) (reads_of_strs hl' hi') (shaped_strs ys fun y hy => canLay_str (hok y hy)) (shaped_strs ys fun y hy => canLay_str (hok y hy)) hu (by simp only [noMix]; exact noMix_strs ys ys) (by simp only [PySem.Spec.same]; rw [same_strs]; exact h)
end
theorem strs_of_mine : ∀ {vs : List Value} {us : List (List Nat)}, Mine.StrsAre vs us → PyProof.Rows.StrsAre vs (us.map fun u => S u)
  | _, _, .nil => .nil
  | _, _, .cons t h => .cons _ t (strs_of_mine h)
theorem jn_jsp : ∀ (us : List (List Nat)), (jn (us.map fun u => S u)).cps.toList = jsp us
  | [] => rfl
  | [u] => rfl
  | u :: v :: r => by
    have ih := jn_jsp (v :: r)
    rw [List.map_cons, List.map_cons, jn_cons2, ← List.map_cons (f := fun u => S u)]
    have e : bl = S [32] := sp_S
    rw [e, of_S (jn ((v :: r).map fun u => S u)), ih, S_cat, S_cat]
    simp [jsp]
noncomputable def okB (c : Nat) : Bool := !([32, 9, 13, 10, 39, 34, 92].contains c)
theorem okc_of {c : Nat} (h : okB c = true) : okc c := by
  unfold okB at h
  unfold okc
  simp at h
  exact h
theorem wordL_all : ∀ k : Fin 11, ∀ f : Fin 3, ((wordL k.val f.val).all okB && decide ((wordL k.val f.val).length ≤ 200)) = true := by decide +kernel
theorem wordL_ok {k f : Nat} (hk : k < 11) (hf : f < 3) : WordL (wordL k f) := by
  have h := wordL_all ⟨k, hk⟩ ⟨f, hf⟩
  rw [Bool.and_eq_true, List.all_eq_true] at h
  refine ⟨(wordL k f).tail, rfl, ?_, fun c hc => okc_of (h.1 c hc)⟩
  have h2 := of_decide_eq_true h.2
  rw [List.length_tail]
  exact Nat.sub_le_of_le_add h2
theorem news_regrown {h₀ h h' : Heap} {L P : Addr} {ps' : Array Value} {o : Obj} {nw : List (Addr × Obj)} (N : News h₀ L h nw) (hP : h₀.get? P = some o) (k : ∀ b o, b ≠ P → h.get? b = some o → h'.get? b = some o) : News (regrown h₀ P ps') L h' nw := by
  intro p hp
  have hne : p.1 ≠ P := fun e => by have := (N p hp).2.2; rw [e, hP] at this; cases this
  exact ⟨k _ _ hne (N p hp).1, (N p hp).2.1, (Heap.get?_update_other _ _ (Ne.symm hne)).trans (N p hp).2.2⟩
noncomputable def codesOf (figs : List Nat) : List (List Nat) := (List.range figs.length).map fun i => wordL i (figs.getD i 0)
theorem codes_S (figs : List Nat) : (codesOf figs).map (fun u => S u) = (List.range figs.length).map (wd figs) := by
  unfold codesOf
  rw [List.map_map]
  rfl
theorem codes_ok {figs : List Nat} (h : ∀ f ∈ figs, f < 3) (hn : figs.length ≤ 11) : ∀ u ∈ codesOf figs, WordL u := by
  intro u hu
  obtain ⟨i, hi, rfl⟩ := List.mem_map.mp hu
  have hi := List.mem_range.mp hi
  refine wordL_ok (by omega) ?_
  rw [List.getD_eq_getElem?_getD, List.getElem?_eq_getElem hi]
  exact h _ (List.getElem_mem hi)
theorem word_enum0 : ∀ i : Nat, i < 11 → ∀ f : Nat, f < 3 → i % 2 = 0 → Str.ofString "/a.b/" ++ Txt.item (Str.ofString "abcdefghijk") (i : Int) ++ Str.ofString (toString (f : Int)) ++ Str.ofString ".py" = S (wordL i f) := by
  have h : ∀ i : Fin 11, ∀ f : Fin 3, i.val % 2 = 0 → Str.ofString "/a.b/" ++ Txt.item (Str.ofString "abcdefghijk") (i.val : Int) ++ Str.ofString (toString (f.val : Int)) ++ Str.ofString ".py" = S (wordL i.val f.val) := by decide +kernel
  exact fun i hi f hf e => h ⟨i, hi⟩ ⟨f, hf⟩ e
theorem word_enum1 : ∀ i : Nat, i < 11 → ∀ f : Nat, f < 3 → i % 2 = 1 → Str.ofString "/a.b/" ++ Txt.item (Str.ofString "abcdefghijk") (i : Int) ++ Str.ofString (toString (f : Int)) ++ Str.ofString ".x" = S (wordL i f) := by
  have h : ∀ i : Fin 11, ∀ f : Fin 3, i.val % 2 = 1 → Str.ofString "/a.b/" ++ Txt.item (Str.ofString "abcdefghijk") (i.val : Int) ++ Str.ofString (toString (f.val : Int)) ++ Str.ofString ".x" = S (wordL i.val f.val) := by decide +kernel
  exact fun i hi f hf e => h ⟨i, hi⟩ ⟨f, hf⟩ e
theorem wordsAre_of {figs : List Nat} {its : List Value} (h : PyProof.Rows.StrsAre its ((List.range figs.length).map (wd figs))) (h3 : ∀ f ∈ figs, f < 3) : WordsAre its.toArray figs := by
  have hl := vals_len h
  refine ⟨by simpa using hl, fun i v e => ?_⟩
  obtain ⟨x, t, rfl, e1⟩ := vals_at h i v (by simpa using e)
  rw [List.getElem?_map] at e1
  have hi : i < figs.length := by
    have := (List.getElem?_eq_some_iff.mp (show its[i]? = some (Value.str x t) by simpa using e)).1
    rw [hl] at this; simpa using this
  rw [List.getElem?_range hi] at e1
  cases e1
  exact ⟨figs[i], t, List.getElem?_eq_getElem hi, h3 _ (List.getElem_mem hi), by
    show Value.str (wd figs i) t = _
    unfold wd
    rw [List.getD_eq_getElem?_getD, List.getElem?_eq_getElem hi]; rfl⟩
theorem jn_len2 (figs : List Nat) (hn : figs.length ≤ 11) : (jn ((List.range figs.length).map (wd figs))).length ≤ 2000 := by
  refine Nat.le_trans (jn_len _) ?_
  have : ∀ l : List Nat, tot (l.map (wd figs)) ≤ 11 * l.length := by
    intro l
    induction l with
    | nil => simp [tot]
    | cons x r ih =>
      have h1 : (wd figs x).length ≤ 10 := word_len _ _
      simp only [tot, List.map_cons, List.sum_cons, List.length_cons] at ih ⊢
      omega
  have := this (List.range figs.length)
  rw [List.length_range] at this
  omega
theorem oldK_end {h₀ h : Heap} {P L : Addr} {ps' : Array Value} {m : Str → Option Value} (B0 : Based h₀ h₀ 795 P #[]) (F : Fr (regrown h₀ P ps') L h m) : OldK h₀ h := by
  have hP : (regrown h₀ P ps').get? P = some { cls := .none, data := .fields ps' } := Heap.get?_update_self _ B0.tab.2 rfl
  refine ⟨fun b o e => ?_, fun b o e => ?_⟩
  · by_cases hb : b = P
    · subst hb
      have e2 := B0.tab.2
      rw [e] at e2
      cases e2
      exact .inr (.inl ⟨B0.tab.isCodeTable, rfl, #[], ps', rfl, by rw [Array.empty_append]; exact F.keep _ _ hP⟩)
    · exact .inl (F.keep _ _ ((Heap.get?_update_other _ _ (Ne.symm hb)).trans e))
  · by_cases hb : b = P
    · subst hb
      exact ⟨_, F.keep _ _ hP⟩
    · exact ⟨o, F.keep _ _ ((Heap.get?_update_other _ _ (Ne.symm hb)).trans e)⟩
theorem words_ok {figs : List Nat} (h3 : ∀ f ∈ figs, f < 3) (hn : figs.length ≤ 11) : ∀ y ∈ (List.range figs.length).map (wd figs), okS y := by
  intro y hy
  obtain ⟨i, hi, rfl⟩ := List.mem_map.mp hy
  have := List.mem_range.mp hi
  exact okS_wd h3 (by omega)
theorem news_split {hb h h' : Heap} {L so : Addr} {m m' : Str → Option Value} {nw : List (Addr × Obj)} {oso : Obj} (F : Fr hb L h m) (N : News hb L h nw) (F' : Fr hb L h' m') (k : ∀ b o, h.get? b = some o → b ≠ L → h'.get? b = some o) (hso : h'.get? so = some oso) (hn : h.get? so = none) : News hb L h' ((so, oso) :: nw) := by
  intro p hp
  rcases List.mem_cons.mp hp with rfl | hp
  · refine ⟨hso, fun e => ?_, ?_⟩
    · obtain ⟨oL, _, _, hL, _⟩ := F.ns
      rw [show so = L from e, hL] at hn; cases hn
    · cases q : hb.get? so with
      | none => rfl
      | some o => rw [F.keep _ _ q] at hn; cases hn
  · exact ⟨k _ _ (N p hp).1 (N p hp).2.1, (N p hp).2⟩
end
section
open PyProof.Rows PyProof.Rows.LCg PySem PySem.Calls PySem.W
theorem ln_KuFc_0 : True := by
  k_with_none
  trivial
noncomputable abbrev tup2 (w : Str) (t1 : Tok) (f : Nat) (t2 : Tok) : Obj := { cls := .type "tuple", data := .seq (List.toArray [Value.str w t1, .int (f : Int) t2]) }
/-- the ledger holds the pairs that a list's items are -/
noncomputable def FilesIn (tn : List (Addr × Obj)) (figs : List Nat) (ys : List Value) : Prop := ∀ (j : Nat) v, ys[j]? = some v → ∃ a t1 t2, v = Value.ref a ∧ (a, tup2 (wd figs j) t1 (figs.getD j 0) t2) ∈ tn
noncomputable def FilesTurn (h₀ : Heap) (L : Addr) (m : Str → Option Value) (s : Shared) (led : List (Addr × Obj)) (w : Str) (f : Nat) (y : Value) (s₃ : Shared) : Prop :=
  ∃ h' tk' a t1 t2, y = .ref a ∧ s₃ = { s with heap := h', toks := tk' } ∧ Fr h₀ L h' m ∧ News h₀ L h' ((a, tup2 w t1 f t2) :: led) ∧ (∀ p ∈ led, p.1 < a)
section
variable {prog : Program} {w : World} {A : Around} {E : Value → Shared → Prop} {s : Shared} {h₀ : Heap} {L : Addr} {m : Str → Option Value} {env : Env}
theorem files_comp (hh : A.handled = none) {news : List (Addr × Obj)} (F : Fr h₀ L s.heap m) (N : News h₀ L s.heap news) {ax : Addr} {its : List Value} {n : Nat} (hl : (ax, listOf its.toArray n) ∈ news) {figs : List Nat} (hW : PyProof.Rows.StrsAre its ((List.range figs.length).map (wd figs))) (hn : figs.length ≤ 11)
    {elt : PySem.Expr} {x : Str} {scope : Scope} {cl : List (Str × Addr)} {Q : Value → Shared → Prop}
    (turn : ∀ i t I oI C oC D ys nw m₂ h tk (E' : Value → Shared → Prop), i < figs.length → NsObj oC m₂ → m₂ x = some (.str (wd figs i) t) → Fr h₀ L h m → News h₀ L h ((I, oI) :: (C, oC) :: (D, lst ys) :: nw) →
      wpAny (model prog w) A (eval elt (compEnvC scope cl C env)) (FilesTurn h₀ L m s ((I, oI) :: (C, oC) :: (D, lst ys) :: nw) (wd figs i) (figs.getD i 0)) E' { s with heap := h, toks := tk })
    (done : ∀ D ys tn h tk, ys.length = figs.length → FilesIn tn figs ys → Fr h₀ L h m → News h₀ L h ((D, lst ys) :: (news ++ tn)) → (∀ p ∈ news ++ tn, p.1 ≠ D) → (∀ p ∈ tn, ∀ q ∈ news, p.1 ≠ q.1) → Q (.ref D) { s with heap := h, toks := tk }) :
    wpAny (model prog w) A (pyIter (.ref ax)) (fun it s₂ => Comp1Src prog w A h₀ L m env elt x scope cl Q it s₂) E s := by
  have hlen : its.length = figs.length := by rw [vals_len hW]; simp
  refine comp1_list (its := its.toArray) hh F N ⟨_, (N _ hl).1, rfl, n, rfl⟩ (by rw [List.size_toArray]; omega)
    (fun i ys nw => ∃ tn, nw = news ++ tn ∧ ys.length = i ∧ FilesIn tn figs ys ∧ ∀ p ∈ tn, ∀ q ∈ news, p.1 ≠ q.1) (.inr ⟨_, fun i ys nw ⟨tn, e, _⟩ => by rw [e]; exact List.mem_append_left _ hl⟩) ⟨[], by simp, rfl, (fun j v e => by cases j <;> cases e), fun p hp => nomatch hp⟩ ?_ ?_
  · rintro i ys v nw I oI C oC D m₂ h tk E' hv ⟨tn, rfl, hi, hin, hap⟩ hC hx F2 N2 hCI hDI hCD off
    have hv' : its[i]? = some v := by simpa using hv
    have hi2 : i < figs.length := by rw [← hlen]; exact (List.getElem?_eq_some_iff.mp hv').1
    obtain ⟨y, t, rfl, e⟩ := vals_at hW i v hv'
    rw [List.getElem?_map, List.getElem?_range hi2] at e
    cases e
    refine wpAny_mono (turn i t I oI C oC D ys _ m₂ h tk E' hi2 hC hx F2 N2) (fun y s₃ h₃ => ?_) fun _ _ e => e
    obtain ⟨h', tk', a, t1, t2, rfl, rfl, F3, N3, l3⟩ := h₃
    have hlt : ∀ p ∈ ((I, oI) :: (C, oC) :: (D, lst ys) :: (news ++ tn)), p.1 ≠ a := fun p hp => Nat.ne_of_lt (l3 p hp)
    refine ⟨h', tk', news ++ ((a, tup2 (wd figs i) t1 (figs.getD i 0) t2) :: tn), rfl, F3, fun p hp => N3 p ?_, ?_, _, rfl, by simp [hi], ?_, ?_⟩
    · simp only [List.mem_cons, List.mem_append] at hp ⊢
      rcases hp with h | h | h | h | h | h <;> simp [h]
    · intro p hp
      simp only [List.mem_append, List.mem_cons] at hp
      rcases hp with hp | rfl | hp
      · exact off p (List.mem_append_left _ hp)
      · exact ⟨Ne.symm (hlt _ (.head _)), Ne.symm (hlt _ (.tail _ (.head _))), Ne.symm (hlt _ (.tail _ (.tail _ (.head _))))⟩
      · exact off p (List.mem_append_right _ hp)
    · intro j v' e
      rcases Nat.lt_or_ge j ys.length with hj | hj
      · rw [List.getElem?_append_left hj] at e
        obtain ⟨a', u1, u2, rfl, hm⟩ := hin j v' e
        exact ⟨a', u1, u2, rfl, .tail _ hm⟩
      · rw [List.getElem?_append_right hj] at e
        have hj0 : j - ys.length = 0 := by
          rcases Nat.eq_zero_or_pos (j - ys.length) with h0 | h0
          · exact h0
          · rw [List.getElem?_eq_none (by simp only [List.length_cons, List.length_nil]; omega)] at e; cases e
        rw [hj0] at e
        cases e
        have : j = i := by omega
        subst this
        exact ⟨a, t1, t2, rfl, .head _⟩
    · intro p hp q hq
      rcases List.mem_cons.mp hp with rfl | hp
      · exact Ne.symm (hlt q (.tail _ (.tail _ (.tail _ (List.mem_append_left _ hq)))))
      · exact hap p hp q hq
  · rintro D ys nw h tk ⟨tn, rfl, hi, hin, hap⟩ F2 N2 off
    exact done D ys tn h tk (by rw [hi, List.size_toArray, hlen]) hin F2 N2 off hap
theorem Comp1_ownF (F₀ : Fr h₀ L s.heap m) {elt iter : PySem.Expr} {x : Str} {px : Pos} {scope : Scope} {cl : List (Str × Addr)} {pos : Pos} {Q : Value → Shared → Prop}
    (hclos : closureFor scope env = pure cl) (hcell : ∀ y ∈ scope.names, y.2 ≠ .cell) (hkind : scope.kind = .function)
    (hnames : ∀ y ∈ scope.names, y.2 = .local → scope.names.lookup y.1 = some .local) (hx : scope.names.lookup x = some .local)
    (h : wpAny (model prog w) A (eval iter env) (fun xv s₁ => wpAny (model prog w) A (pyIter xv) (fun it s₂ => Comp1Src prog w A h₀ L m env elt x scope cl Q it s₂) E s₁) E s)
    (hs : ∀ x, foldedSetIterable iter env x = pure x) :
    wpAny (model prog w) A (eval (.ListComp elt [⟨.Name x px, iter, [], 0⟩] scope pos) env) Q E s := Comp1_own hclos hcell hkind hnames hx h hs
/-- a list's pairs, seen from the ledger -/
theorem files_are {h : Heap} {led tn : List (Addr × Obj)} (N : News h₀ L h led) (hs : ∀ p ∈ tn, p ∈ led) {figs : List Nat} {ys : List Value} (hl : ys.length = figs.length) (hin : FilesIn tn figs ys) : FilesAre h ys ((filesI figs).map fun p => (wd figs p.1, p.2)) := by
  refine ⟨by simp [filesI, hl], fun i v e => ?_⟩
  have hi : i < figs.length := by rw [← hl]; exact (List.getElem?_eq_some_iff.mp e).1
  obtain ⟨a, t1, t2, rfl, hm⟩ := hin i v e
  refine ⟨(wd figs i, figs.getD i 0), a, t1, t2, ?_, rfl, ?_⟩
  · rw [List.getElem?_map]
    have : (filesI figs)[i]? = some (i, figs.getD i 0) := by
      unfold filesI
      rw [List.getElem?_zip_eq_some, List.getElem?_range hi, List.getD_eq_getElem?_getD, List.getElem?_eq_getElem hi]
      exact ⟨rfl, rfl⟩
    rw [this]; rfl
  · exact ⟨_, (N _ (hs _ hm)).1, rfl, _, rfl⟩
theorem FilesAre.app {h : Heap} {a b : List Value} {p q : List (Str × Nat)} (H1 : FilesAre h a p) (H2 : FilesAre h b q) : FilesAre h (a ++ b) (p ++ q) := by
  refine ⟨by simp [H1.1, H2.1], fun i v e => ?_⟩
  rcases Nat.lt_or_ge i a.length with hi | hi
  · rw [List.getElem?_append_left hi] at e
    rw [List.getElem?_append_left (by rw [← H1.1]; exact hi)]
    exact H1.2 i v e
  · rw [List.getElem?_append_right hi] at e
    rw [List.getElem?_append_right (by rw [← H1.1]; exact hi), ← H1.1]
    exact H2.2 _ v e
theorem FilesAre.drop {h : Heap} {a : List Value} {p : List (Str × Nat)} (H1 : FilesAre h a p) (k : Nat) : FilesAre h (a.drop k) (p.drop k) := by
  refine ⟨by simp [H1.1], fun i v e => ?_⟩
  rw [List.getElem?_drop] at e ⊢
  exact H1.2 _ v e
theorem FilesAre.take {h : Heap} {a : List Value} {p : List (Str × Nat)} (H1 : FilesAre h a p) (k : Nat) : FilesAre h (a.take k) (p.take k) := by
  refine ⟨by simp [H1.1], fun i v e => ?_⟩
  rw [List.getElem?_take] at e ⊢
  split at e
  · rename_i hk; rw [if_pos hk]; exact H1.2 _ v e
  · cases e
end
noncomputable def filesS (figs : List Nat) : List (Str × Nat) := (filesI figs).map fun p => (wd figs p.1, p.2)
theorem rot_map {α β : Type} (g : α → β) (k : Nat) (l : List α) : rot k (l.map g) = (rot k l).map g := by
  unfold rot
  rw [List.map_append, List.map_drop, List.map_take]
theorem told_strs (figs : List Nat) : ((List.range figs.length).map fun k => readS (rot k (filesS figs))) = (toldI figs).map (ren? figs) := by
  unfold toldI
  rw [List.map_map]
  apply List.map_congr_left
  intro k _
  unfold filesS
  rw [rot_map, read_link]
  rfl
theorem mem_rot {α : Type} {k : Nat} {l : List α} {x : α} (h : x ∈ rot k l) : x ∈ l := by
  rcases List.mem_append.mp h with h | h
  · exact List.mem_of_mem_drop h
  · exact List.mem_of_mem_take h
theorem filesS_ok {figs : List Nat} (h3 : ∀ f ∈ figs, f < 3) (k : Nat) : ∀ p ∈ rot k (filesS figs), p.1.length ≤ 10 ∧ p.2 < 3 := by
  intro p hp
  obtain ⟨q, hq, rfl⟩ := List.mem_map.mp (mem_rot hp)
  refine ⟨word_len _ _, h3 _ ?_⟩
  unfold filesI at hq
  exact (List.of_mem_zip hq).2
theorem rot_len {α : Type} (k : Nat) (l : List α) : (rot k l).length = l.length := by
  unfold rot
  rw [List.length_append, List.length_drop, List.length_take]
  omega
theorem filesS_len (figs : List Nat) : (filesS figs).length = figs.length := by simp [filesS, filesI]
theorem slice_from (l : List Value) (i : Nat) : (slicePick l.toArray (some (i : Int)) none none).toList = l.drop i := by
  rw [kms_pick_eq]
  show kms_pick l (some (i : Int)) none = _
  unfold kms_pick kms_lo kms_hi
  have h : ¬ ((i : Int) < 0) := by omega
  simp only [h, if_false, Int.toNat_natCast]
  rcases Nat.le_total i l.length with hi | hi
  · rw [Nat.min_eq_left hi, List.take_of_length_le (by rw [List.length_drop]; exact Nat.le_refl _)]
  · rw [Nat.min_eq_right hi, List.drop_of_length_le hi, List.drop_of_length_le (Nat.le_refl _), List.take_nil]
theorem slice_upto (l : List Value) (i : Nat) : (slicePick l.toArray none (some (i : Int)) none).toList = l.take i := by
  rw [kms_pick_eq]
  show kms_pick l none (some (i : Int)) = _
  unfold kms_pick kms_lo kms_hi
  have h : ¬ ((i : Int) < 0) := by omega
  simp only [h, if_false, Int.toNat_natCast, List.drop_zero, Nat.sub_zero]
  rcases Nat.le_total i l.length with hi | hi
  · rw [Nat.min_eq_left hi]
  · rw [Nat.min_eq_right hi, List.take_of_length_le hi, List.take_of_length_le (Nat.le_refl _)]
section
variable {prog : Program} {w : World} {A : Around} {E : Value → Shared → Prop} {s : Shared} {h₀ : Heap} {L : Addr} {m : Str → Option Value} {env : Env}
theorem range_compA (hh : A.handled = none) {news : List (Addr × Obj)} (F : Fr h₀ L s.heap m) (N : News h₀ L s.heap news) {n : Nat} (hn : n ≤ 1000) {t : Tok}
    {elt : PySem.Expr} {x : Str} {scope : Scope} {cl : List (Str × Addr)} {yv : Str} {Q : Flow → Shared → Prop} (P : Nat → List Value → Prop) (h0 : P 0 [])
    (turn : ∀ i ys t I oI C oC D m₂ h tk (E' : Value → Shared → Prop), P i ys → NsObj oC m₂ → m₂ x = some (.int (i : Int) t) → Fr h₀ L h m → News h₀ L h ((I, oI) :: (C, oC) :: (D, lst ys) :: news) →
      wpAny (model prog w) A (eval elt (compEnvC scope cl C env)) (EnTurn h₀ L m ((I, oI) :: (C, oC) :: (D, lst ys) :: news) (P (i + 1)) s ys) E' { s with heap := h, toks := tk })
    (done : ∀ D ys h tk, P n ys → Fr h₀ L h (fun z => if z = yv then some (.ref D) else m z) → News h₀ L h ((D, lst ys) :: news) → (∀ p ∈ news, p.1 ≠ D) → Q .next { s with heap := h, toks := tk }) :
    wpAny (model prog w) A (call (.type "range") [.int (n : Int) t]) (fun xv s₁ => wpAny (model prog w) A (pyIter xv) (fun it s₂ => Comp1SrcA prog w A h₀ L m env elt x scope cl yv Q it s₂) E s₁) E s := by
  refine range1_rows F N fun h1 tk1 r1 r2 r3 R F1 N1 _ => ?_
  have big : ((2 : Int) ^ 62) = 4611686018427387904 := by decide
  refine comp1_rangeA (s := { s with heap := h1, toks := tk1 }) (n := n) hh F1 N1 R (small_one (by omega) (by omega) (by omega) (by omega)) (by rw [rangeSize_nat]; omega) (by omega)
    (fun i ys nw => nw = news ∧ P i ys) ⟨rfl, h0⟩ ?_ ?_
  · rintro i ys v₁ nw I2 oI2 C oC D2 m₂ h tk E' ⟨tv, hv⟩ ⟨rfl, hP⟩ hC hx F2 N2 hCI hDI hCD off
    rw [hv, Int.zero_add] at hx
    refine wpAny_mono (turn i ys tv I2 oI2 C oC D2 m₂ h tk E' hP hC hx F2 N2) (fun y s₃ h₃ => ?_) fun _ _ e => e
    obtain ⟨h', tk', rfl, F', N', hP'⟩ := h₃
    exact ⟨h', tk', _, rfl, F', N', off, rfl, hP'⟩
  · rintro D2 ys nw h tk ⟨rfl, hP⟩ F2 N2 off
    exact done D2 ys h tk hP F2 N2 off
theorem list_compA (hh : A.handled = none) {news : List (Addr × Obj)} (F : Fr h₀ L s.heap m) (N : News h₀ L s.heap news) {ax : Addr} {its : List Value} {n : Nat} (hl : (ax, listOf its.toArray n) ∈ news) (hn : its.length ≤ 1000)
    {elt : PySem.Expr} {x : Str} {scope : Scope} {cl : List (Str × Addr)} {yv : Str} {Q : Flow → Shared → Prop} (P : Nat → List Value → Prop) (h0 : P 0 [])
    (turn : ∀ i ys v I oI C oC D m₂ h tk (E' : Value → Shared → Prop), its[i]? = some v → P i ys → NsObj oC m₂ → m₂ x = some v → Fr h₀ L h m → News h₀ L h ((I, oI) :: (C, oC) :: (D, lst ys) :: news) →
      wpAny (model prog w) A (eval elt (compEnvC scope cl C env)) (EnTurn h₀ L m ((I, oI) :: (C, oC) :: (D, lst ys) :: news) (P (i + 1)) s ys) E' { s with heap := h, toks := tk })
    (done : ∀ D ys h tk, P its.length ys → Fr h₀ L h (fun z => if z = yv then some (.ref D) else m z) → News h₀ L h ((D, lst ys) :: news) → (∀ p ∈ news, p.1 ≠ D) → Q .next { s with heap := h, toks := tk }) :
    wpAny (model prog w) A (pyIter (.ref ax)) (fun it s₂ => Comp1SrcA prog w A h₀ L m env elt x scope cl yv Q it s₂) E s := by
  refine comp1_listA (its := its.toArray) hh F N ⟨_, (N _ hl).1, rfl, n, rfl⟩ (by rw [List.size_toArray]; omega)
    (fun i ys nw => nw = news ∧ P i ys) (.inr ⟨_, fun i ys nw h => by rw [h.1]; exact hl⟩) ⟨rfl, h0⟩ ?_ ?_
  · rintro i ys v nw I oI C oC D m₂ h tk E' hv ⟨rfl, hP⟩ hC hx F2 N2 hCI hDI hCD off
    refine wpAny_mono (turn i ys v I oI C oC D m₂ h tk E' (by simpa using hv) hP hC hx F2 N2) (fun y s₃ h₃ => ?_) fun _ _ e => e
    obtain ⟨h', tk', rfl, F', N', hP'⟩ := h₃
    exact ⟨h', tk', _, rfl, F', N', off, rfl, hP'⟩
  · rintro D2 ys nw h tk ⟨rfl, hP⟩ F2 N2 off
    exact done D2 ys h tk (by simpa using hP) F2 N2 off
end
end
section
open PyProof.Rows PyProof.Rows.LCg PySem PySem.Calls PySem.W
theorem ln_KuSm_0 : True := by
  k_with_none
  trivial
theorem sumsI_len : ∀ (l : List Nat) (a : Int), (sumsI a l).length = l.length + 1
  | [], _ => rfl
  | f :: r, a => by
    show (sumsI (a + f - 1) r).length + 1 = _
    rw [sumsI_len r]; rfl
theorem sumsI_snoc : ∀ (l : List Nat) (a : Int) (f : Nat), sumsI a (l ++ [f]) = sumsI a l ++ [a + (l.sum : Int) - (l.length : Int) + f - 1]
  | [], a, f => by
    show a :: (a + f - 1) :: [] = [a] ++ _
    simp
  | g :: r, a, f => by
    show a :: sumsI (a + g - 1) (r ++ [f]) = (a :: sumsI (a + g - 1) r) ++ _
    rw [sumsI_snoc r (a + g - 1) f, List.sum_cons, List.length_cons, List.cons_append]
    congr 2
    simp only [List.cons.injEq, and_true]
    omega
theorem sumsI_last : ∀ (l : List Nat) (a : Int), (sumsI a l)[l.length]? = some (a + (l.sum : Int) - (l.length : Int))
  | [], a => by
    show some a = _
    simp
  | g :: r, a => by
    show (sumsI (a + g - 1) r)[r.length]? = _
    rw [sumsI_last r (a + g - 1), List.sum_cons, List.length_cons]
    congr 1
    omega
/-- the first place of the least one -/
noncomputable def Least (l : List Int) (j : Nat) (m : Int) : Prop := l[j]? = some m ∧ (∀ x ∈ l, m ≤ x) ∧ ∀ k x, k < j → l[k]? = some x → m < x
theorem least_go : ∀ (rest pre : List Int) (at_ : Nat) (m : Int), Least pre at_ m → ∃ m', Least (pre ++ rest) (leastI rest pre.length at_ m) m'
  | [], pre, at_, m, h => ⟨m, by rw [List.append_nil]; exact h⟩
  | x :: r, pre, at_, m, h => by
    have e : pre ++ x :: r = (pre ++ [x]) ++ r := by simp
    have hl : (pre ++ [x]).length = pre.length + 1 := by simp
    obtain ⟨h1, h2, h3⟩ := h
    have hlt : at_ < pre.length := (List.getElem?_eq_some_iff.mp h1).1
    unfold leastI
    rw [e, ← hl]
    split
    · rename_i hx
      refine least_go r (pre ++ [x]) pre.length x ⟨by simp, fun y hy => ?_, fun k y hk hy => ?_⟩
      · rcases List.mem_append.mp hy with hy | hy
        · have := h2 y hy; omega
        · rw [List.mem_singleton.mp hy]; exact Int.le_refl _
      · rw [List.getElem?_append_left hk] at hy
        have := h2 y (List.mem_of_getElem? hy)
        omega
    · rename_i hx
      refine least_go r (pre ++ [x]) at_ m ⟨by rw [List.getElem?_append_left hlt]; exact h1, fun y hy => ?_, fun k y hk hy => ?_⟩
      · rcases List.mem_append.mp hy with hy | hy
        · exact h2 y hy
        · rw [List.mem_singleton.mp hy]; omega
      · rw [List.getElem?_append_left (by omega)] at hy
        exact h3 k y hk hy
theorem least_sums (l : List Nat) : ∃ m, Least (sumsI 0 l) (leastI (sumsI 0 l) 0 0 0) m := by
  have h0 : Least [0] 0 0 := ⟨rfl, fun x hx => by rw [List.mem_singleton.mp hx]; exact Int.le_refl _, fun k x hk => absurd hk (Nat.not_lt_zero _)⟩
  cases l with
  | nil => exact ⟨0, by show Least [0] (leastI [0] 0 0 0) 0; exact h0⟩
  | cons f r =>
    show ∃ m, Least (0 :: sumsI (0 + f - 1) r) (leastI (0 :: sumsI (0 + f - 1) r) 0 0 0) m
    have : leastI (0 :: sumsI (0 + f - 1) r) 0 0 0 = leastI (sumsI (0 + f - 1) r) [(0 : Int)].length 0 0 := by
      show (if (0 : Int) < 0 then _ else _) = _
      rw [if_neg (by decide)]
      rfl
    rw [this]
    exact least_go (sumsI (0 + f - 1) r) [0] 0 0 h0
noncomputable def SumsEnd (h₀ : Heap) (L : Addr) (m : Str → Option Value) (I : Addr) (oI : Obj) (Sa : Addr) (vsS : List Value) (v : Int) (rest : List (Addr × Obj)) (s : Shared) (fl : Flow) (s₂ : Shared) : Prop :=
  fl = .next ∧ ∃ h' tk' n t, s₂ = { s with heap := h', toks := tk' } ∧ Fr h₀ L h' m ∧ News h₀ L h' ((I, oI) :: (Sa, listOf (List.toArray (vsS ++ [.int v t])) n) :: rest)
theorem ints_snoc {v : Int} {t : Tok} : ∀ {vs : List Value} {ns : List Int}, IntsAre vs ns → IntsAre (vs ++ [.int v t]) (ns ++ [v])
  | _, _, .nil => .cons v t .nil
  | _, _, .cons n u h => .cons n u (ints_snoc h)
section
variable {prog : Program} {w : World} {A : Around} {s : Shared} {env : Env} {h₀ : Heap} {E : Value → Shared → Prop} {mm : Str → Option Value}
theorem sums_src {x : Str} {px : Pos} {body : List Stmt} {Q : Flow → Shared → Prop} (hx : env.kindOf x = some .local) (hcl : (env.scope.kind == .class || (env.scope.kind == .module && env.locals != env.globals)) = false)
    {D8 Sa : Addr} {vs8 : List Value} {n8 n0 : Nat} {t0 : Tok} {figs : List Nat} {rest : List (Addr × Obj)} (F : Fr h₀ env.locals s.heap mm) (N : News h₀ env.locals s.heap ((Sa, listOf #[.int 0 t0] n0) :: rest)) (hD : (D8, listOf vs8.toArray n8) ∈ rest) (I8 : IntsAre vs8 (iN figs))
    (turn : ∀ (i f : Nat) t vsS nS h tk I oI, figs[i]? = some f → IntsAre vsS (sumsI 0 (figs.take i)) → Fr h₀ env.locals h (fun y => if y = x then some (.int (f : Int) t) else mm y) → News h₀ env.locals h ((I, oI) :: (Sa, listOf (List.toArray vsS) nS) :: rest) → Ap Sa I →
      wpAny (model prog w) A (execs body env) (SumsEnd h₀ env.locals (fun y => if y = x then some (.int (f : Int) t) else mm y) I oI Sa vsS (((figs.take i).sum : Int) - (i : Int) + f - 1) rest s) E { s with heap := h, toks := tk })
    (done : ∀ vx vsS nS h tk, IntsAre vsS (sumsI 0 figs) → Fr h₀ env.locals h (fun y => if y = x then vx else mm y) → News h₀ env.locals h ((Sa, listOf (List.toArray vsS) nS) :: rest) → Q .next { s with heap := h, toks := tk }) :
    ForSrc prog w A h₀ env (.Name x px) body Q E (.ref D8) s := by
  have hlen : vs8.length = figs.length := by rw [I8.length, len_iN]
  refine ⟨D8, vs8, mm, _, fun i m' nw => ∃ vx vsS nS, m' = (fun y => if y = x then vx else mm y) ∧ IntsAre vsS (sumsI 0 (figs.take i)) ∧ nw = (Sa, listOf (List.toArray vsS) nS) :: rest, rfl, ⟨_, (N _ (.tail _ hD)).1, rfl, n8, rfl⟩, .inr ⟨(N _ (.tail _ hD)).2.1, n8, ?_⟩, F, N, ⟨mm x, [.int 0 t0], n0, ?_, .cons 0 t0 .nil, rfl⟩, ?_, ?_⟩
  · rintro i m' nw ⟨vx, vsS, nS, _, _, rfl⟩
    exact .tail _ hD
  · funext y
    by_cases e : y = x
    · rw [if_pos e, e]
    · rw [if_neg e]
  · rintro i v m₁ nw h tk I oI hv ⟨vx, vsS, nS, rfl, hS, rfl⟩ F₁ N₁ hI
    obtain ⟨f, t, rfl, hf1, _⟩ := figs_at I8 hv
    have hi : i < figs.length := (List.getElem?_eq_some_iff.mp hf1).1
    refine PyProof.Rows.assign_Name (wpAny_storeName_local hx F₁.ns (fun h' hn hs => ?_) hcl)
    have e : (fun y => if y = x then some (Value.int (f : Int) t) else if y = x then vx else mm y) = fun y => if y = x then some (.int (f : Int) t) else mm y := by
      funext y
      by_cases e : y = x
      · rw [if_pos e, if_pos e]
      · rw [if_neg e, if_neg e, if_neg e]
    have F₂ := F₁.set hn hs
    rw [e] at F₂
    refine wpAny_mono (turn i f t vsS nS h' _ I oI hf1 hS F₂ (N₁.set hs) (hI _ (.head _))) (fun fl s₃ h₃ => ?_) fun _ _ e => e
    obtain ⟨rfl, h3, tk3, n3, t3, rfl, F3, N3⟩ := h₃
    refine ⟨h3, tk3, _, _, rfl, F3, N3, fun p hp => ?_, some (.int (f : Int) t), _, n3, rfl, ?_, rfl⟩
    · rcases List.mem_cons.mp hp with rfl | hp
      · exact hI (Sa, listOf (List.toArray vsS) nS) (.head _)
      · exact hI p (.tail _ hp)
    · rw [take_more hf1, sumsI_snoc, List.length_take, Nat.min_eq_left (Nat.le_of_lt hi), Int.zero_add]
      exact ints_snoc hS
  · rintro m' nw h tk ⟨vx, vsS, nS, rfl, hS, rfl⟩ F₁ N₁
    rw [List.take_of_length_le (by omega)] at hS
    exact done vx vsS nS h tk hS F₁ N₁
end
section
variable {prog : Program} {w : World} {A : Around} {E : Value → Shared → Prop} {s : Shared}
theorem call_index {l : Addr} {vs : List Value} {ns : List Int} {M : Int} {t : Tok} {Q : Value → Shared → Prop} (hl : s.heap.IsList l vs.toArray) (hi : IntsAre vs ns) {j : Nat} (hj : Least ns j M) (hsm : ns.length ≤ 1000)
    (h : ∀ t' tk', Q (.int (j : Int) t') { s with toks := tk' }) : wpAny (model prog w) A (call (.builtin "list.index") [.ref l, .int M t]) Q E s := by
  obtain ⟨⟨c, dd, dt, sl⟩, ho, hc, n, hd⟩ := hl
  replace hc : c = .type "list" := hc
  replace hd : dt = .seq vs.toArray n := hd
  subst hc hd
  obtain ⟨h1, h2, h3⟩ := hj
  have hlen := hi.length
  have hjl : j < ns.length := (List.getElem?_eq_some_iff.mp h1).1
  have key : ∀ (k : Nat) (hk : k < vs.toArray.size), isInt M vs.toArray[k] = (ns.getD k 0 == M) := by
    intro k hk
    have hk' : k < vs.length := by simpa using hk
    obtain ⟨t', e⟩ := hi.int_at k vs[k] (List.getElem?_eq_getElem hk')
    simp only [List.getElem_toArray]
    rw [e]
    rfl
  have big : ((2 : Int) ^ 63) = 9223372036854775808 := by decide
  refine call_meets F.slot_list_index ⟨_, ho, rfl⟩ F.entry_list_index (F.args_list_index_2 _ _)
    (SeqAt.list_indexAt l vs.toArray n dd sl (.int M t) (isInt M) j (by simp only [List.size_toArray]; omega) (by omega) ?_ ?_) ⟨ho, ?_, h _ _⟩
  · rw [key, List.getD_eq_getElem?_getD, h1]
    simp
  · intro m hm hmj
    rw [key m hm]
    have hm2 : m < ns.length := by omega
    have := h3 m ns[m] hmj (List.getElem?_eq_getElem hm2)
    rw [List.getD_eq_getElem?_getD, List.getElem?_eq_getElem hm2]
    simp
    omega
  · intro y hy
    exact (eq_isInt M t hi y (by simpa using hy)).at _ _
end
end
section
open PyProof.Rows PyProof.Rows.LCg PySem PySem.Calls PySem.W
theorem ln_KuFin_0 : True := by
  k_with_none
  trivial
noncomputable def dueS (figs : List Nat) : List Str := (dueI figs).map (ren? figs)
theorem due_no {figs : List Nat} (h : totalI figs ≠ -1) : List.replicate figs.length (Str.ofString "") = dueS figs := by
  unfold dueS dueI
  rw [List.map_map]
  apply List.ext_getElem?
  intro i
  rw [List.getElem?_map, List.getElem?_replicate]
  by_cases hi : i < figs.length
  · rw [if_pos hi, List.getElem?_range hi]
    show _ = some (ren? figs (if totalI figs = -1 ∧ i = placeI figs then _ else none))
    rw [if_neg (fun e => h e.1)]
    rfl
  · rw [if_neg hi, List.getElem?_eq_none (by rw [List.length_range]; omega)]
    rfl
theorem due_yes {figs : List Nat} (h : totalI figs = -1) : (List.replicate figs.length (Str.ofString "")).set (placeI figs) (jn (rot (placeI figs) ((List.range figs.length).map (wd figs)))) = dueS figs := by
  unfold dueS dueI
  rw [List.map_map]
  apply List.ext_getElem?
  intro i
  rw [List.getElem?_map, List.getElem?_set, List.getElem?_replicate, List.length_replicate]
  by_cases hi : i < figs.length
  · rw [List.getElem?_range hi]
    show _ = some (ren? figs (if totalI figs = -1 ∧ i = placeI figs then _ else none))
    by_cases hp : placeI figs = i
    · rw [if_pos hp, if_pos (by rw [hp]; exact hi), if_pos ⟨h, hp.symm⟩, rot_map]
      rfl
    · rw [if_neg hp, if_pos hi, if_neg (fun e => hp e.2.symm)]
      rfl
  · rw [List.getElem?_eq_none (l := List.range figs.length) (by rw [List.length_range]; omega)]
    by_cases hp : placeI figs = i
    · rw [if_pos hp, if_neg (by rw [hp]; exact hi)]; rfl
    · rw [if_neg hp, if_neg hi]; rfl
theorem dueS_ok {figs : List Nat} (h3 : ∀ f ∈ figs, f < 3) (hn : figs.length ≤ 11) : ∀ y ∈ dueS figs, okS y := by
  intro y hy
  obtain ⟨d, hd, rfl⟩ := List.mem_map.mp hy
  obtain ⟨k, hk, rfl⟩ := List.mem_map.mp hd
  split
  · show okS (jn _)
    refine okS_jn fun z hz => ?_
    obtain ⟨i, hi, rfl⟩ := List.mem_map.mp hz
    have := List.mem_range.mp (mem_rot hi)
    exact okS_wd h3 (by omega)
  · intro c hc
    have : (Str.ofString "").cps.toList = [] := by decide +kernel
    rw [show ren? figs none = Str.ofString "" from rfl, this] at hc
    cases hc
theorem rot_strs {vs : List Value} {ys : List Str} (h : PyProof.Rows.StrsAre vs ys) (k : Nat) : PyProof.Rows.StrsAre (rot k vs) (rot k ys) := vals_app (vals_drop k h) (vals_take k h)
theorem vals_set {x : Str} {t : Tok} : ∀ {vs : List Value} {ys : List Str} (k : Nat), PyProof.Rows.StrsAre vs ys → PyProof.Rows.StrsAre (vs.set k (.str x t)) (ys.set k x)
  | _, _, _, .nil => .nil
  | _, _, 0, .cons y u h => .cons x t h
  | _, _, k + 1, .cons y u h => .cons y u (vals_set k h)
theorem tot_rot (figs : List Nat) (hn : figs.length ≤ 11) (k : Nat) : tot (rot k ((List.range figs.length).map (wd figs))) ≤ 200 := by
  have h1 : tot (rot k ((List.range figs.length).map (wd figs))) = tot ((List.range figs.length).map (wd figs)) := by
    have := tot_split ((List.range figs.length).map (wd figs)) k
    unfold rot
    unfold tot at this ⊢
    rw [List.map_append, List.sum_append]
    omega
  have h2 : ∀ l : List Nat, tot (l.map (wd figs)) ≤ 11 * l.length := by
    intro l
    induction l with
    | nil => simp [tot]
    | cons x r ih =>
      have h1 : (wd figs x).length ≤ 10 := word_len _ _
      simp only [tot, List.map_cons, List.sum_cons, List.length_cons] at ih ⊢
      omega
  have := h2 (List.range figs.length)
  rw [List.length_range] at this
  omega
theorem total_sums (figs : List Nat) : (sumsI 0 figs)[figs.length]? = some (totalI figs) := by
  rw [sumsI_last, Int.zero_add]; rfl
theorem place_lt {figs : List Nat} (h : 0 < figs.length) : placeI figs < figs.length := Nat.mod_lt _ h
theorem fmod_nat {j n : Nat} : Int.fmod (j : Int) (n : Int) = ((j % n : Nat) : Int) := by
  rw [Int.fmod_eq_emod_of_nonneg _ (Int.natCast_nonneg n)]; rfl
section
variable {prog : Program} {w : World} {A : Around} {E : Value → Shared → Prop} {s : Shared} {h₀ : Heap} {L : Addr} {m : Str → Option Value}
theorem item_last {value slice : PySem.Expr} {l : Addr} {vs : List Value} {ns : List Int} {k : Nat} {u : Tok} {x : Int} {Q : Value → Shared → Prop} (hl : s.heap.IsList l vs.toArray) (hi : IntsAre vs ns) (hk : ns.length = k + 1) (hx : ns[k]? = some x) (h : ∀ t, Q (.int x t) s)
    (hs : subscripted slice false (.ref l) (.int (-1) u) = operate [.ref l, .int (-1) u] (getItem (.ref l) (.int (-1) u)) := by with_unfolding_all rfl) :
    wpAny (model prog w) A (subscriptTail value slice (.ref l) (.int (-1) u)) Q E s := by
  obtain ⟨t, e⟩ := hi.get k x hx
  have hlen := hi.length
  refine tail_any hl.typeIs slot_list_getitem.lookup (wpAny_getItem_list_neg hl (by decide) (by simp only [List.size_toArray]; omega) (by decide) (x := .int x t) ?_ (h t)) hs
  rw [List.size_toArray, hlen, hk, show ((-1 : Int) + ((k + 1 : Nat) : Int)).toNat = k by omega]
  simpa using e
theorem set_any {D : Addr} {vs : List Value} {n k : Nat} {t : Tok} {v : Value} {news news' : List (Addr × Obj)} {Q : Unit → Shared → Prop} (F : Fr h₀ L s.heap m) (N : News h₀ L s.heap news) (U : Upd D (listOf vs.toArray n) (listOf (vs.set k v).toArray n) news news') (hk : k < vs.length) (hsm : vs.length ≤ 1000)
    (h : ∀ h', Fr h₀ L h' m → News h₀ L h' news' → Q () { s with heap := h' }) : wpAny (model prog w) A (setItem (.ref D) (.int (k : Int) t) v) Q E s := by
  obtain ⟨pre, post, rfl, rfl, a, b⟩ := U.split
  have z := N (D, listOf vs.toArray n) (List.mem_append.mpr (.inr (.head _)))
  have big : ((2 : Int) ^ 63) = 9223372036854775808 := by decide
  refine ki_setAt z.1 (Int.natCast_nonneg k) (by omega) (by simp only [List.size_toArray]; omega) (h _ (F.change (Heap.SameBut.update ..) z.2.1 z.2.2) (ki_turn _ N a b ?_ ?_))
  · show vs.toArray.setIfInBounds ((k : Int)).toNat v = (vs.set k v).toArray
    apply Array.toList_inj.mp
    simp
  · simp
end
theorem allLt_ne {d : Addr} : ∀ {l : List (Addr × Obj)}, AllLt d l → ∀ p ∈ l, p.1 ≠ d
  | [], _ => fun p hp => nomatch hp
  | q :: r, h => fun p hp => by
    rcases List.mem_cons.mp hp with rfl | hp
    · exact Nat.ne_of_lt h.1
    · exact allLt_ne h.2 p hp
end
section
open PyProof.Rows PySem PySem.Calls PySem.W
theorem ln_KuEnd_0 : True := by
  k_with_none
  trivial
theorem good_end {cl : Str → Option Addr} {mean : ExcName → Option Value} {ns : List Int} {s₁ s' : Shared} (old : OldK s₁.heap s'.heap) (ho : s'.os = s₁.os) (hg : AllBare s'.gens) : GoodWG PySem.Challenge.rw_ku0029_01.row.claim cl mean [ofPy (PyData.list (List.map PyData.int ns))] s₁ (.ok (.ret (.bool true))) s' :=
  ⟨.inl ⟨_, .bool true, [], rfl, raisesW_false (by wrow_none_raised), .bool true, by wrow_post, fun _ => ⟨List.nodup_nil, fun a ha => nomatch ha⟩⟩, old, ho, hg⟩
end
section
open PyProof.Rows PySem PySem.Calls PySem.W
open PyProof.Rows.LCg (lst NsObj)
/-- a list of ints made -/
noncomputable def FigPost (h₀ : Heap) (L : Addr) (m : Str → Option Value) (s : Shared) (news : List (Addr × Obj)) (F : List Int) (v : Value) (s' : Shared) : Prop :=
  ∃ D vs n h' tk', v = .ref D ∧ s' = { s with heap := h', toks := tk' } ∧ Fr h₀ L h' m ∧ News h₀ L h' ((D, listOf (List.toArray vs) n) :: news) ∧ IntsAre vs F
theorem if_fig {M : Model} {A : Around} {E : Value → Shared → Prop} {s : Shared} {h₀ : Heap} {L : Addr} {m : Str → Option Value} {news : List (Addr × Obj)} {Q : Value → Shared → Prop} {t : Sem Value} (F : Fr h₀ L s.heap m) (N : News h₀ L s.heap news) (Fv : List Int) (h1 : wpAny M A t (FigPost h₀ L m s news Fv) E s)
    (h2 : ∀ D vs n h' tk', Fr h₀ L h' m → News h₀ L h' ((D, listOf (List.toArray vs) n) :: news) → IntsAre vs Fv → Q (.ref D) { s with heap := h', toks := tk' }) : wpAny M A t Q E s :=
  wpAny_mono h1 (fun v s' ⟨D, vs, n, h', tk', e1, e2, F', N', I'⟩ => by subst e1 e2; exact h2 D vs n h' tk' F' N' I') fun _ _ e => e
theorem figpost_of {h₀ h' : Heap} {L D : Addr} {m : Str → Option Value} {s : Shared} {news nw : List (Addr × Obj)} {Fv : List Int} {vs : List Value} {n : Nat} {tk' : Nat} (F : Fr h₀ L h' m) (N : News h₀ L h' nw) (hm : (D, listOf (List.toArray vs) n) ∈ nw) (hr : ∀ p ∈ news, p ∈ nw) (I : IntsAre vs Fv) : FigPost h₀ L m s news Fv (.ref D) { s with heap := h', toks := tk' } :=
  ⟨D, vs, n, h', tk', rfl, rfl, F, fun p hp => by
    rcases List.mem_cons.mp hp with rfl | hp
    · exact N _ hm
    · exact N _ (hr p hp), I⟩
theorem ln_KuLb_1 : True := by
  k_with_none
  k_with "ktr_rel" => (first | exact List.forall_mem_nil _ | (refine' List.forall_mem_cons.mpr ⟨?za, ?zb⟩; (case za => k_mem); (case zb => ktr_rel)))
  k_with "exec Assign cons ListComp" => ((refine Hold.of ?_))
  k_with "subscriptTail Name Slice ref ref" => (((fail_if_success (with_reducible show wpAny _ _ (subscriptTail (Expr.Name (Str.ofString "script") _) _ _ _) _ _ _)); refine Hold.of ?_))
  k_with "call type:enumerate" => ((refine Hold.of ?_))
  trivial
theorem enturn_of {h₀ h' : Heap} {L : Addr} {m : Str → Option Value} {news nw : List (Addr × Obj)} {P : List Value → Prop} {s : Shared} {ys : List Value} {y : Value} {tk' : Nat} (F : Fr h₀ L h' m) (N : News h₀ L h' nw) (hr : ∀ p ∈ news, p ∈ nw) (hP : P (ys ++ [y])) : EnTurn h₀ L m news P s ys y { s with heap := h', toks := tk' } :=
  ⟨h', tk', rfl, F, fun p hp => N p (hr p hp), hP⟩
theorem mod2_0 {i : Nat} (h : Int.fmod (i : Int) 2 = 0) : i % 2 = 0 := by
  rw [Int.fmod_eq_emod_of_nonneg _ (by decide)] at h; omega
theorem mod2_1 {i : Nat} (h : Int.fmod (i : Int) 2 = 1) : i % 2 = 1 := by
  rw [Int.fmod_eq_emod_of_nonneg _ (by decide)] at h; omega
theorem ln_KuLb_2 : True := by
  k_with "call ref" => (((with_reducible show wpAny _ _ (call (Value.ref 796) _ _) _ _ _); refine Hold.of ?_))
  k_with "call ref" => (((with_reducible show wpAny _ _ (call (Value.ref 789) _ _) _ _ _); refine Hold.of ?_))
  k_with "call ref" => (((with_reducible show wpAny _ _ (call (Value.ref 809) _ _) _ _ _); refine Hold.of ?_))
  k_with "call ref" => (((with_reducible show wpAny _ _ (call (Value.ref 814) _ _) _ _ _); refine Hold.of ?_))
  k_with "compareOp NotEq ref ref" => ((refine Hold.of ?_))
  k_with "compareOp Eq ref ref" => ((refine Hold.of ?_))
  k_with "pyIter ref" => ((refine Hold.of ?_))
  k_with "newTuple" => ((refine Hold.of ?_))
  k_with "call type:range" => ((refine Hold.of ?_))
  k_with "k_ne" => ((refine neN ?_; (try dsimp only); first | exact Ap.ne (by assumption) | exact Ap.en (by assumption) | omega))
  k_with "k_all" => (with_reducible assumption)
  trivial
theorem ne_cell {h₀ h : Heap} {L D c : Addr} {news : List (Addr × Obj)} {o1 oc : Obj} {vs : Array Value} {n : Nat} {x : Option Value} (N : News h₀ L h news) (h1 : (D, o1) ∈ news) (h2 : (c, oc) ∈ news) (hd1 : o1.data = .seq vs n) (hd : oc.data = .cell x) : Ap D c := fun e => by
  have a1 := (N _ h1).1
  have a2 := (N _ h2).1
  rw [show D = c from e, a2] at a1
  cases a1
  rw [hd] at hd1
  cases hd1
theorem use_lf {PG : Program} {LS : List Str} {w : World} {mean : ExcName → Option Value} {mg mb : Str → Option Value} {dp un : Nat} {gd : Option (List Code)} {env : Env} {outer : List Env} {A₀ : Around} {base h₀ : Heap} {L : Addr} {m : Str → Option Value} {s : Shared} {Q : Value → Shared → Prop} {E : Value → Shared → Prop}
   (B : Below A₀ base outer h₀) (F : Fr h₀ L s.heap m) (X : (hd.heap_1 w.params).In h₀) (T : Top PG LS mean mg mb h₀) (hf : env.frame = some L) (hk : env.scope.kind = .function) (hdp : dp + 60 < recursionLimit) (hu : un + 400 < cLine)
   {k f : Nat} (hk1 : k < 11) (hf1 : f < 3) {tx : Tok} {news : List (Addr × Obj)} (N : News h₀ L s.heap news)
   (q : ∀ t' h' tk', Fr h₀ L h' m → News h₀ L h' news → Q (.int (f : Int) t') {s with heap := h', toks := tk'}) :
   wpAny (model PySem.Challenge.pw_ku0029_01 w) (⟨none, dp, some (env :: outer), gd, un⟩ : Around) (call (.ref 809) [.str (S (wordL k f)) tx]) Q E s := by
  refine lf_spec w mean mg mb dp un gd env outer A₀ base h₀ L m s Q E B F X T hf hk hdp hu k f hk1 hf1 tx ?_ News.nil
  intro t' h' tk' t
  have z := touch_back (N₁ := []) (rest := news) F N (fun p hp => nomatch hp) (fun p hp => ⟨hp, fun q hq => nomatch hq⟩) t
  exact q t' h' tk' z.1 z.2
theorem use_lr {PG : Program} {LS : List Str} {w : World} {mean : ExcName → Option Value} {mg mb : Str → Option Value} {dp un : Nat} {gd : Option (List Code)} {env : Env} {outer : List Env} {A₀ : Around} {base h₀ : Heap} {L : Addr} {m : Str → Option Value} {s : Shared} {Q : Value → Shared → Prop} {E : Value → Shared → Prop}
   (B : Below A₀ base outer h₀) (F : Fr h₀ L s.heap m) (X : (hd.heap_1 w.params).In h₀) (T : Top PG LS mean mg mb h₀) (hf : env.frame = some L) (hk : env.scope.kind = .function) (hdp : dp + 60 < recursionLimit) (hu : un + 600 < cLine)
   {l : Addr} {its : List Value} (files : List (Str × Nat)) (hl : s.heap.IsList l its.toArray) (hfi : FilesAre s.heap its files) (hne : files ≠ []) (hlen : its.length ≤ 11) (hw : ∀ p ∈ files, p.1.length ≤ 10 ∧ p.2 < 3) {news : List (Addr × Obj)} (N : News h₀ L s.heap news)
   (q : ∀ t' h' tk', Fr h₀ L h' m → News h₀ L h' news → Q (.str (readS files) t') {s with heap := h', toks := tk'}) :
   wpAny (model PySem.Challenge.pw_ku0029_01 w) (⟨none, dp, some (env :: outer), gd, un⟩ : Around) (call (.ref 814) [.ref l]) Q E s := by
  refine lr_spec w mean mg mb dp un gd env outer A₀ base h₀ L m s Q E B F X T hf hk hdp hu l its files hl hfi hne hlen hw ?_ News.nil
  intro t' h' tk' t
  have z := touch_back (N₁ := []) (rest := news) F N (fun p hp => nomatch hp) (fun p hp => ⟨hp, fun q hq => nomatch hq⟩) t
  exact q t' h' tk' z.1 z.2
theorem in_tail {led : List (Addr × Obj)} (tn : List (Addr × Obj)) (h : tn.Sublist led) : ∀ p ∈ tn, p ∈ led := fun _ hp => h.subset hp
theorem ln_KuLb_3 : True := by
  k_with "ktr_rel" => ((refine in_tail _ ?_; repeat (first | exact List.Sublist.refl _ | refine List.Sublist.cons _ ?_)))
  k_with "ktr_rel" => (first | exact List.forall_mem_nil _ | (refine' List.forall_mem_cons.mpr ⟨?za, ?zb⟩; (case za => k_mem); (case zb => ktr_rel)))
  k_with "exec For Name Name cons nil" => ((refine Hold.of ?_))
  k_with "call builtin:min" => ((refine Hold.of ?_))
  k_with "call builtin:list.index" => ((refine Hold.of ?_))
  k_with "call builtin:list.append" => ((refine Hold.of ?_))
  k_with "call builtin:str.join" => ((refine Hold.of ?_))
  k_with "setItem ref int" => ((refine Hold.of ?_))
  k_with "subscriptTail Name UnaryOp ref int" => ((refine Hold.of ?_))
  k_with "subscriptTail" => (((with_reducible show wpAny _ _ (subscriptTail (Expr.Name (Str.ofString "sums") _) _ (Value.ref _) (Value.int _ _)) _ _ _); refine Hold.of ?_))
  trivial
theorem gen_postE {α : Type} {M : Model} {A : Around} {env : Env} {t : Sem α} {Q : α → Shared → Prop} {E : Value → Shared → Prop} {s : Shared} (hE : PassesOwn M A env E) (H : ∀ (Q' : α → Shared → Prop) (E' : Value → Shared → Prop), (∀ v s', Q v s' → Q' v s') → PassesOwn M A env E' → wpAny M A t Q' E' s) : wpAny M A t Q E s := H Q E (fun _ _ h => h) hE
theorem re_fig {h₀ h : Heap} {L : Addr} {m : Str → Option Value} {x : Str} {v : Value} (F : Fr h₀ L h (fun y => if y = x then some v else m y)) : ∃ mr : Str → Option Value, Fr h₀ L h (fun y => if y = x then some v else mr y) := ⟨m, F⟩
theorem ln_KuLb_4 : True := by
  k_with "call builtin:sum" => ((refine Hold.of ?_))
  k_with "call builtin:len" => ((refine Hold.of ?_))
  k_with "binaryOp Mult ref int" => ((refine Hold.of ?_))
  k_with "binaryOp Add ref ref" => ((refine Hold.of ?_))
  k_with "eval IfExp" => (((with_reducible show wpAny _ _ (eval (Expr.IfExp _ _ _ _) _) _ _ _); (fail_if_success (with_reducible show wpAny _ _ _ (FigPost _ _ _ _ _ _) _ _)); refine Hold.of ?_))
  trivial
theorem b11 : 11 ≤ sizeLine := by rw [sizeLine_eq]; decide
theorem sle {n k B : Nat} (e : n = k) (h : k ≤ 11) (hB : 11 ≤ B) : n ≤ B := e ▸ Nat.le_trans h hB
theorem slt63 {n k : Nat} (e : n = k) (h : k ≤ 11) : (n : Int) < 2 ^ 63 := by omega
theorem split_le {a b i : Nat} (e : a = b) (h : b ≤ 11) : a - i + min i a ≤ sizeLine := by rw [sizeLine_eq]; omega
theorem m_ab {a b c : Nat} (h : a ≤ 5 ∧ b ≤ 10) (e : c = a) : -5 ≤ (b : Int) - (c : Int) + 1 ∧ (b : Int) - (c : Int) + 1 ≤ 11 := by omega
theorem m_lo {M : Int} (h : -5 ≤ M ∧ M ≤ 11) : -2 ^ 63 ≤ M ∧ -2 ^ 63 ≤ -M := by omega
theorem m_hi {M : Int} (h : -5 ≤ M ∧ M ≤ 11) : M < 2 ^ 63 ∧ -M < 2 ^ 63 := by omega
theorem m_nn {M : Int} (h : -5 ≤ M ∧ M ≤ 11) : M.toNat ≤ 11 ∧ (-M).toNat ≤ 5 := by omega
theorem m_mul {k B : Nat} (h : k ≤ B) (hB : B ≤ 256) : (0 + 1) * k ≤ 256 := by omega
theorem add_sz {a b c d : Nat} (ha : a ≤ c) (hb : b ≤ d) (h : c + d ≤ 16777216) : a + b ≤ 16777216 := Nat.le_trans (Nat.add_le_add ha hb) h
set_option maxHeartbeats 400000 in
theorem law_holds : PySem.Challenge.rw_ku0029_01.Holds := hd (by
  k_fill
  intro w s₀ s₁ mg mb G Y fa o pm cd doc dV kV ho hd hcd hD hmg hg args vals as hpre hlay hrd hwl hlo
  have KX := km_in_of Y
  have V := (Ground.X G).2
  refine Ground.open G ?_
  intro T B D TE TW
  try (refine guard_noD D (by decide +kernel) ?_; clear D)
  clear hmg
  wrow_args hpre hlay hrd hwl hlo
  first | refine callC_kw (enter_call ?_) | refine enter_call ?_
  w_top on
  w_call any ho hd hcd hD T F
  clear hd
  k_drop
  with_reducible rename IntsAre _ _ => hI
  with_reducible rename Heap.IsList _ _ _ => hL
  with_reducible rename (¬ _) => hlen
  (try (with_reducible rename Ground _ _ _ _ _ _ _ _ _ => zG; clear zG))
  (try (with_reducible rename Heap.CodeRec _ _ _ => zC; clear zC))
  (try (with_reducible rename Dflts _ _ _ _ _ => zD; clear zD))
  (try (with_reducible rename CellsAre _ _ _ => zA; clear zA))
  (try (with_reducible rename Tables _ _ _ _ => zT; clear zT))
  (try (with_reducible rename TopE _ _ _ _ => zE; clear zE))
  (try (with_reducible rename TopW _ _ _ => zW; clear zW))
  (try (with_reducible rename Well _ _ _ _ => zw; clear zw))
  (try (with_reducible rename Reads _ _ _ _ => zr; clear zr))
  (try (with_reducible rename ReadsAll _ _ _ _ => zra; clear zra))
  (try (with_reducible rename ReadsAllW _ _ _ _ _ _ => zrw; clear zrw))
  (try (with_reducible rename Flt.MathXP _ _ _ => zX; clear zX))
  (try (with_reducible rename LooseAre _ _ _ => zV; clear zV))
  with_reducible rename List Int => ns
  with_reducible rename List Value => sv
  with_reducible rename Obj => oc
  clear Y
  refine gen_postE (by passes_own) ?_
  intro PQ PE hPQ hPE
  have K0 := below_caller s₁.heap
  have hN : ns.length ≤ 63 := by omega
  with_reducible rename (oc.data = _) => hoc
  with_reducible rename News _ _ _ _ => N
  have hs5 := figs0_small ns
  k_steps
  refine Hold.mk ?_
  refine if_fig F N (iN (figs0 (remL ns))) ?_ (fun D1 vs1 n1 h1 tk1 F1 N1 I1 => ?_)
  · k_steps
    · refine figpost_of (by assumption) (by assumption) (.head _) (by ktr_rel) ?_
      rw [figs0_of (by assumption), ← rem_of]; assumption
    · refine figpost_of (by assumption) (by assumption) (.head _) (by ktr_rel) ?_
      rw [figs0_none (by assumption)]; exact .cons _ _ (.cons _ _ (.cons _ _ (.cons _ _ .nil)))
  have e1 : vs1.length = (figs0 (remL ns)).length := by rw [I1.length, len_iN]
  k_steps
  refine Hold.mk ?_
  refine LSm.sum_ints (by assumption) (by assumption) rfl (News.isList (by assumption) (by k_mem)) I1 (fun h2 tk2 t2 F2 N2 => ?_)
  k_steps
  refine Hold.mk ?_
  refine len_list (News.isList (by assumption) (by k_mem)) (slt63 e1 (Nat.le_trans hs5.1 (by decide))) ?_
  (try dsimp only)
  k_steps
  refine Hold.mk ?_
  have hM : -5 ≤ (iN (figs0 (remL ns))).sum - ↑vs1.toArray.size + 1 ∧ (iN (figs0 (remL ns))).sum - ↑vs1.toArray.size + 1 ≤ 11 := by
    rw [sum_iN]; exact m_ab hs5 e1
  refine KMa.mul (by assumption) (by assumption) (News.isList (by assumption) (by k_mem)) (m_lo hM).1 (m_hi hM).1 (by simp only [List.length_cons, List.length_nil]; exact m_mul (m_nn hM).1 (by decide)) rfl (fun D2 h3 F3 N3 l3 => ?_)
  (try k_lt l3)
  k_steps
  refine Hold.mk ?_
  refine kmk_add_ints (by assumption) (by assumption) (News.isList (by assumption) (by k_mem)) (News.isList (by assumption) (by k_mem)) I1 (ints_rep _ _ _) (fun D3 us3 h4 F4 N4 l4 I4 => ?_) (by rw [len_iN, List.length_replicate, sizeLine_eq]; exact add_sz hs5.1 (m_nn hM).1 (by decide))
  (try k_lt l4)
  k_steps
  refine Hold.mk ?_
  refine KMa.mul (by assumption) (by assumption) (News.isList (by assumption) (by k_mem)) (m_lo hM).2 (m_hi hM).2 (by simp only [List.length_cons, List.length_nil]; exact m_mul (m_nn hM).2 (by decide)) rfl (fun D5 h5 F5 N5 l5 => ?_)
  (try k_lt l5)
  k_steps
  refine Hold.mk ?_
  refine kmk_add_ints (by assumption) (by assumption) (News.isList (by assumption) (by k_mem)) (News.isList (by assumption) (by k_mem)) I4 (ints_rep _ _ _) (fun D6 us6 h6 F6 N6 l6 I6 => ?_) (by rw [List.length_append, len_iN, List.length_replicate, List.length_replicate, sizeLine_eq]; exact add_sz (Nat.add_le_add hs5.1 (m_nn hM).1) (m_nn hM).2 (by decide))
  (try k_lt l6)
  rw [figs1_iN _ _ (by rw [sum_iN, List.size_toArray, e1])] at I6
  k_steps
  refine Hold.mk ?_
  with_reducible rename News _ _ _ _ => Nz
  refine if_fig (news := [(s₁.heap.objs.size + 1, oc)]) (by assumption) (fun p hp => Nz p (by revert p; ktr_rel)) (iN (figsL ns)) ?_ (fun D8 vs8 n8 h8 tk8 F8 N8 I8 => ?_)
  · k_steps
    refine Hold.mk ?_
    refine len_list (hL.at fun o e => Fr.keep (by assumption) _ _ e) (by simp only [List.size_toArray, hI.length]; omega) ?_
    rw [show (List.toArray sv).size = ns.length from by rw [List.size_toArray, hI.length]]
    (try dsimp only)
    k_steps
    · refine Hold.mk ?_
      refine kmk_slice_ints (c := _) (by assumption) (by assumption) (News.isList (by assumption) (by k_mem)) .none (IsPart.int _ _) I6 (kmk_upto_neg I6 (by decide)) rfl (fun D' ws' h' F' N' l1 hI' hC' hL' => ?_) (by with_unfolding_all rfl) (by kmk_pure) (kmk_sz I6 (by rw [sizeLine_eq, len_iN]; exact Nat.le_trans (figs1_len ns) (by decide)))
      k_steps
      refine figpost_of (by assumption) (by assumption) (.head _) (by ktr_rel) ?_
      rw [figsL_yes (mod4_yes (by assumption))]
      exact hI'
    · refine figpost_of (by assumption) (by assumption) (by k_mem) (by ktr_rel) ?_
      rw [figsL_no (mod4_no (by assumption))]
      exact I6
  k_steps
  refine Hold.mk ?_
  obtain ⟨gd1, gd2, gd3, gd4⟩ := good_told (figsL_good ns)
  generalize figsL ns = figs at I8 gd1 gd2 gd3 gd4
  with_reducible rename Fr _ _ _ _ => Fz
  with_reducible rename News _ _ _ _ => Nz
  obtain ⟨mr, F9⟩ := re_fig Fz
  clear Fz
  have len8 : vs8.length = figs.length := by rw [I8.length, len_iN]
  refine' Comp_ownAF F9 rfl ?c1 ?c2 ?c3 ?c4 ?c5 ?c6 ?c7 ?c8 ?c9 ?c10 ?_ ?c11
  case c1 => exact rfl
  case c2 => exact rfl
  case c3 => with_unfolding_all rfl
  case c4 => with_unfolding_all rfl
  case c5 => decide
  case c6 => exact rfl
  case c7 => decide
  case c8 => exact rfl
  case c9 => exact rfl
  case c10 => decide
  case c11 => intro _; exact rfl
  k_steps
  refine Hold.mk ?_
  refine enum_compA (vs := vs8) rfl (by assumption) (by assumption) (by k_mem) (sle len8 gd3 (by decide)) (fun i ys => PyProof.Rows.StrsAre ys ((List.range i).map (wd figs))) .nil ?turn ?_
  case turn =>
    intro i ys v t z1 o1 z2 o2 C oC D m₂ h tk E' hv hP hC hm1 hm2 F2 N2
    obtain ⟨f, tf, rfl, hf1, hf2⟩ := figs_at I8 hv
    have hf3 : f < 3 := gd2 f (List.mem_of_getElem? hf1)
    have hi : i < 11 := by
      exact Nat.lt_of_lt_of_le (List.getElem?_eq_some_iff.mp hf1).1 gd3
    k_steps
    · refine enturn_of (by assumption) (by assumption) (by ktr_rel) ?_
      rw [List.range_succ, List.map_append, word_enum0 i hi f hf3 (mod2_0 (by assumption))]
      subst hf2
      exact vals_snoc hP
    · refine enturn_of (by assumption) (by assumption) (by ktr_rel) ?_
      rw [List.range_succ, List.map_append, word_enum1 i hi f hf3 (mod2_1 (by assumption))]
      subst hf2
      exact vals_snoc hP
  intro D9 ws9 h9 tk9 hW F9' N9 o9
  rw [len8] at hW
  clear F9
  (try dsimp only)
  k_steps
  refine Hold.mk ?_
  refine' join_spec w _ _ _ _ _ _ _ _ _ _ _ _ _ _ ?F KX T ?hG ?hdp ?hu D9 ws9.toArray (News.isList (by assumption) (by k_mem)) figs (wordsAre_of hW gd2) gd3 ?_
  case F => k_asm
  case hG => exact AllBare.of_eq hg
  case hdp => decide +kernel
  case hu => decide +kernel
  intro P ps' s2 t2 B0 F10 keep10 G10 os10
  with_reducible rename News _ _ _ _ => Nz
  have N10 := news_regrown (ps' := ps') Nz B0.tab.2 keep10
  have X10 := in_grown (ps' := ps') B0 KX T.g
  have T10 := top_grown (ps' := ps') B0 (top_light T)
  have K10 := below_caller (regrown s₁.heap P ps')
  have old : ∀ {m' h'}, Fr (regrown s₁.heap P ps') s₁.heap.objs.size h' m' → OldK s₁.heap h' := fun F => oldK_end B0 F
  generalize regrown s₁.heap P ps' = hb at F10 N10 X10 T10 K10 old
  clear Nz B0 keep10
  (try dsimp only)
  k_steps
  refine Hold.mk ?_
  have hcn : (codesOf figs).length = figs.length := by simp [codesOf]
  obtain ⟨u0, ur, hcu⟩ : ∃ u0 ur, codesOf figs = u0 :: ur := by
    cases e : codesOf figs with
    | nil => rw [e] at hcn; exact absurd hcn.symm (Nat.ne_of_gt gd4)
    | cons a b => exact ⟨a, b, rfl⟩
  rw [hcu] at hcn
  have hjn : Txt.join (Str.ofString " ") ((List.range figs.length).map fun i => S (wordL i (figs.getD i 0))) = jn ((codesOf figs).map fun u => S u) := by rw [codes_S]; exact txt_jn _
  rw [hjn]
  refine' split_spec w _ _ _ _ _ _ _ hb _ _ _ _ _ ?F X10 T10 rfl rfl ?hdp ?hu _ _ ?hx u0 ur ?hok ?hl ?hlen ?_
  case F => k_asm
  case hdp => decide +kernel
  case hu => decide +kernel
  case hx => rw [codes_S]; exact jn_len2 figs gd3
  case hok => rw [← hcu]; exact codes_ok gd2 gd3
  case hl => rw [jn_jsp, hcu]
  case hlen => rw [List.length_cons] at hcn; exact sle hcn gd3 (by decide)
  intro so vals nsp h11 tk11 hsv F11 keep11 hso hnew
  have N11 := news_split F10 N10 F11 keep11 hso hnew
  clear keep11 N10
  (try dsimp only)
  k_steps
  refine Hold.mk ?_
  refine ne_strsK (ys := (List.range figs.length).map (wd figs)) (News.isList (by assumption) (by k_mem)) ?hv1 (News.isList (by assumption) (by k_mem)) hW (words_ok gd2 gd3) (by (try simp only [units_in1, units_deeper, Around.mark_units, units_caller]); decide +kernel) ?_
  case hv1 =>
    have := strs_of_mine hsv
    rw [← hcu, codes_S] at this
    exact this
  (try dsimp only)
  k_steps
  refine Hold.mk ?_
  refine wpAny_Assign_Name ?_ (by with_unfolding_all rfl)
  refine' Comp1_ownF F11 ?c1 ?c2 ?c3 ?c4 ?c5 ?_ ?c6
  case c1 => with_unfolding_all rfl
  case c2 => decide
  case c3 => exact rfl
  case c4 => decide
  case c5 => exact rfl
  case c6 => intro _; exact rfl
  have N12 : News hb s₁.heap.objs.size h11 [(D9, lst ws9), (D8, listOf vs8.toArray n8), (s₁.heap.objs.size + 1, oc)] := fun p hp => N11 p (.tail _ hp)
  clear N11
  k_steps
  refine Hold.mk ?_
  refine' files_comp (figs := figs) rfl F11 N12 (.head _) hW gd3 ?turn ?_
  case turn =>
    intro i t I oI C oC D ys nw m₂ h tk E' hi hC hm F2 N2
    k_steps
    refine Hold.mk ?_
    refine use_lf K10 (by assumption) X10 T10 rfl rfl (by decide +kernel) (by decide +kernel) (k := i) (f := figs.getD i 0) (Nat.lt_of_lt_of_le hi gd3) (figs_lt gd2 i) (by assumption) (fun t3 h3 tk3 F3 N3 => ?_)
    (try dsimp only)
    k_steps
    refine Hold.mk ?_
    refine kup_newTuple (by assumption) (by assumption) (fun a h4 F4 N4 l4 => ?_) (by rw [sizeLine_eq, List.length_cons, List.length_cons, List.length_nil]; decide)
    (try dsimp only)
    k_steps
    exact ⟨h4, _, a, _, _, rfl, rfl, F4, N4, l4⟩
  intro D12 ys12 tn h12 tk12 hl12 hin F13 N13 o13 hap
  simp only [List.cons_append, List.nil_append] at N13
  have c12 := ne_cell N13 (.head _) (.tail _ (.tail _ (.tail _ (.head _)))) rfl hoc
  have c9 := ne_cell N13 (.tail _ (.head _)) (.tail _ (.tail _ (.tail _ (.head _)))) rfl hoc
  have c8 := ne_cell N13 (.tail _ (.tail _ (.head _))) (.tail _ (.tail _ (.tail _ (.head _)))) rfl hoc
  have ctn : ∀ p ∈ tn, p.1 ≠ s₁.heap.objs.size + 1 := fun p hp => hap p hp _ (.tail _ (.tail _ (.head _)))
  (try dsimp only)
  k_steps
  refine Hold.mk ?_
  with_reducible rename Fr _ _ _ _ => F14
  with_reducible rename News _ _ _ _ => N14
  with_reducible rename (_ = Data.cell (some (Value.ref D12))) => hoc2
  refine' Comp1_ownAF F14 rfl ?c1 ?c2 ?c3 ?c4 ?c5 ?c6 ?c7 ?c8 ?_ ?c9
  case c1 => exact rfl
  case c2 => exact rfl
  case c3 => with_unfolding_all rfl
  case c4 => with_unfolding_all rfl
  case c5 => decide
  case c6 => exact rfl
  case c7 => decide
  case c8 => exact rfl
  case c9 => intro _; exact rfl
  k_steps
  refine Hold.mk ?_
  refine len_list (News.isList (by assumption) (.head _)) (slt63 hl12 gd3) ?_
  rw [show (List.toArray ys12).size = figs.length from by rw [List.size_toArray, hl12]]
  (try dsimp only)
  k_steps
  refine Hold.mk ?_
  refine range_compA (news := (D12, lst ys12) :: (D9, lst ws9) :: (D8, listOf vs8.toArray n8) :: (s₁.heap.objs.size + 1, _) :: tn) rfl (by assumption) (by assumption) (Nat.le_trans gd3 (by decide)) (fun i ys => PyProof.Rows.StrsAre ys ((List.range i).map fun k => readS (rot k (filesS figs)))) .nil ?turn ?_
  case turn =>
    intro i ys t I oI C oC D m₂ h tk E' hP hC hm F2 N2
    k_steps
    refine Hold.mk ?_
    refine kmk_slice_lit (zs := ys12.drop i) (by assumption) (by assumption) (News.isList (by assumption) (by k_mem)) (IsPart.int _ _) .none (slice_from ys12 i) (fun D3 h3 F3 N3 l3 => ?_) (by with_unfolding_all rfl) (by kmk_pure) (sle hl12 gd3 b11)
    (try dsimp only)
    k_steps
    refine Hold.mk ?_
    refine kmk_slice_lit (zs := ys12.take i) (by assumption) (by assumption) (News.isList (by assumption) (by k_mem)) .none (IsPart.int _ _) (slice_upto ys12 i) (fun D4 h4 F4 N4 l4 => ?_) (by with_unfolding_all rfl) (by kmk_pure) (sle hl12 gd3 b11)
    (try dsimp only)
    k_steps
    refine Hold.mk ?_
    refine kmk_add_lit (zs := rot i ys12) (by assumption) (by assumption) (News.isList (by assumption) (by k_mem)) (News.isList (by assumption) (by k_mem)) rfl (fun D5 h5 F5 N5 l5 => ?_) (by show (ys12.drop i).length + (ys12.take i).length ≤ sizeLine; rw [List.length_drop, List.length_take]; exact split_le hl12 gd3)
    (try dsimp only)
    k_steps
    refine Hold.mk ?_
    have fa := files_are N5 (in_tail tn (by repeat (first | exact List.Sublist.refl _ | refine List.Sublist.cons _ ?_))) hl12 hin
    refine use_lr K10 (by assumption) X10 T10 rfl rfl (by decide +kernel) (by decide +kernel) (rot i (filesS figs)) (News.isList N5 (.head _)) ((fa.drop i).app (fa.take i)) (fun e => by have := congrArg List.length e; rw [rot_len, filesS_len, List.length_nil] at this; exact absurd this (Nat.ne_of_gt gd4)) (by rw [rot_len]; exact sle hl12 gd3 (Nat.le_refl 11)) (filesS_ok gd2 i) N5 (fun t6 h6 tk6 F6 N6 => ?_)
    (try dsimp only)
    k_steps
    refine enturn_of (by assumption) (by assumption) ?_ ?_
    · ktr_rel
    · rw [List.range_succ, List.map_append]
      exact vals_snoc hP
  intro D15 ys15 h15 tk15 hT F15 N15 o15
  rw [told_strs] at hT
  (try dsimp only)
  k_steps
  refine Hold.mk ?_
  with_reducible rename (_ ∧ _ ∧ _ ∧ _ ∧ _ ∧ AllLt _ tn) => l16
  obtain ⟨l16a, l16b, l16c, l16d, l16e, l16f⟩ := l16
  have htS := allLt_ne l16f
  with_reducible rename Fr _ _ _ _ => F16
  with_reducible rename News _ _ _ _ => N16
  refine' For_ownF (hE := hPE) F16 rfl ?_ (fun _ => rfl)
  k_steps
  refine sums_src (by exact rfl) (by exact rfl) (by assumption) N16 (by k_mem) I8 ?turn ?_
  case turn =>
    intro i f t vsS nS h tk I oI hf hS F2 N2 aI
    have hiS : (sumsI 0 (figs.take i)).length = i + 1 := by
      rw [sumsI_len, List.length_take, Nat.min_eq_left (Nat.le_of_lt (List.getElem?_eq_some_iff.mp hf).1)]
    have hlast : (sumsI 0 (figs.take i))[i]? = some (((figs.take i).sum : Int) - (i : Int)) := by
      have h1 := (List.getElem?_eq_some_iff.mp hf).1
      have := sumsI_last (figs.take i) 0
      rw [List.length_take, Nat.min_eq_left (Nat.le_of_lt h1), Int.zero_add] at this
      exact this
    k_steps
    refine Hold.mk ?_
    refine item_last (News.isList (by assumption) (.tail _ (.head _))) hS hiS hlast (fun t2 => ?_)
    (try dsimp only)
    k_steps
    refine Hold.mk ?_
    refine' append_K (its := vsS.toArray) (n := nS) ?F ?N ?U ?_ ?hz
    case F => k_asm
    case N => k_asm
    case U => exact .tail (Ap.en aI) (.head (allLt_ne ⟨l16a, l16b, l16c, l16d, l16e, l16f⟩))
    case hz => rw [List.size_toArray, hS.length, hiS]; exact Nat.le_trans (Nat.le_trans (List.getElem?_eq_some_iff.mp hf).1 gd3) b11
    intro h3 F3 N3
    (try dsimp only)
    k_steps
    with_reducible rename News _ _ _ _ => Nz
    rw [List.push_toArray] at Nz
    exact ⟨rfl, _, _, _, _, rfl, by assumption, Nz⟩
  intro vx vsS nS h17 tk17 hS F17 N17
  have lenS : vsS.length = figs.length + 1 := by rw [hS.length, sumsI_len]
  (try dsimp only)
  k_steps
  refine Hold.mk ?_
  refine min_list_N rfl (by assumption) (by assumption) (News.isList (by assumption) (.head _)) hS (by rw [sumsI_len]; exact Nat.succ_pos _) (fun h18 M tM tk18 F18 N18 hM1 hM2 => ?_)
  obtain ⟨m0, hm0⟩ := least_sums figs
  have hMm : M = m0 := by
    have a1 := hM2 m0 (List.mem_of_getElem? hm0.1)
    have a2 := hm0.2.1 M hM1
    exact Int.le_antisymm a1 a2
  subst hMm
  (try dsimp only)
  k_steps
  refine Hold.mk ?_
  refine call_index (News.isList (by assumption) (.head _)) hS hm0 (by rw [sumsI_len]; exact Nat.le_trans (Nat.succ_le_succ gd3) (by decide)) (fun t19 tk19 => ?_)
  (try dsimp only)
  k_steps
  refine Hold.mk ?_
  refine len_list (News.isList (by assumption) (by k_mem)) (slt63 (by rw [List.size_toArray, vals_len hW, List.length_map, List.length_range]) gd3) ?_
  rw [show (List.toArray ws9).size = figs.length from by rw [List.size_toArray, vals_len hW, List.length_map, List.length_range]]
  (try dsimp only)
  k_steps
  refine Hold.mk ?_
  with_reducible rename Fr _ _ _ _ => F20
  with_reducible rename News _ _ _ _ => N20
  rw [fmod_nat, show leastI (sumsI 0 figs) 0 0 0 % figs.length = placeI figs from rfl] at F20
  have lenW : ws9.length = figs.length := by rw [vals_len hW, List.length_map, List.length_range]
  refine' Comp1_ownAF F20 rfl ?c1 ?c2 ?c3 ?c4 ?c5 ?c6 ?c7 ?c8 ?_ ?c9
  case c1 => exact rfl
  case c2 => exact rfl
  case c3 => with_unfolding_all rfl
  case c4 => with_unfolding_all rfl
  case c5 => decide
  case c6 => exact rfl
  case c7 => decide
  case c8 => exact rfl
  case c9 => intro _; exact rfl
  k_steps
  refine Hold.mk ?_
  refine list_compA (its := ws9) rfl (by assumption) (by assumption) (by k_mem) (sle lenW gd3 (by decide)) (fun i ys => PyProof.Rows.StrsAre ys (List.replicate i (Str.ofString ""))) .nil ?turn ?_
  case turn =>
    intro i ys v I oI C oC D m₂ h tk E' hv hP hC hm F2 N2
    k_steps
    refine enturn_of (by assumption) (by assumption) ?_ ?_
    · ktr_rel
    · rw [List.replicate_succ']; exact vals_snoc hP
  intro D21 ys21 h21 tk21 hDu F21 N21 o21
  rw [lenW] at hDu
  have lenD : ys21.length = figs.length := by rw [vals_len hDu, List.length_replicate]
  have hT2 : PyProof.Rows.StrsAre ys15 (dueS figs) := by rw [gd1] at hT; exact hT
  have hpl := place_lt gd4
  (try dsimp only)
  k_steps
  refine Hold.mk ?_
  refine item_last (News.isList (by assumption) (.tail _ (.head _))) hS (sumsI_len _ _) (total_sums figs) (fun t22 => ?_)
  (try dsimp only)
  k_steps
  · refine Hold.mk ?_
    refine kmk_slice_lit (zs := ws9.drop (placeI figs)) (by assumption) (by assumption) (News.isList (by assumption) (by k_mem)) (IsPart.int _ _) .none (slice_from ws9 _) (fun D23 h23 F23 N23 l23 => ?_) (by with_unfolding_all rfl) (by kmk_pure) (sle lenW gd3 b11)
    (try k_lt l23)
    (try dsimp only)
    k_steps
    refine Hold.mk ?_
    refine kmk_slice_lit (zs := ws9.take (placeI figs)) (by assumption) (by assumption) (News.isList (by assumption) (by k_mem)) .none (IsPart.int _ _) (slice_upto ws9 _) (fun D24 h24 F24 N24 l24 => ?_) (by with_unfolding_all rfl) (by kmk_pure) (sle lenW gd3 b11)
    (try k_lt l24)
    (try dsimp only)
    k_steps
    refine Hold.mk ?_
    refine kmk_add_lit (zs := rot (placeI figs) ws9) (by assumption) (by assumption) (News.isList (by assumption) (by k_mem)) (News.isList (by assumption) (by k_mem)) rfl (fun D25 h25 F25 N25 l25 => ?_) (by show (ws9.drop _).length + (ws9.take _).length ≤ sizeLine; rw [List.length_drop, List.length_take]; exact split_le lenW gd3)
    (try k_lt l25)
    (try dsimp only)
    k_steps
    refine Hold.mk ?_
    refine join_jn (ys := rot (placeI figs) ((List.range figs.length).map (wd figs))) (News.isList (by assumption) (.head _)) (rot_strs hW _) (tot_rot figs gd3 _) (fun t26 tk26 => ?_)
    (try dsimp only)
    k_steps
    refine Hold.mk ?_
    refine' set_any (vs := ys21) (k := placeI figs) ?F ?N ?U (by rw [lenD]; exact hpl) (sle lenD gd3 (by decide)) ?_
    case F => k_asm
    case N => k_asm
    case U => k_upd
    intro h27 F27 N27
    (try dsimp only)
    k_steps
    refine Hold.mk ?_
    refine eq_strsK (ys := dueS figs) (News.isList (by assumption) (by k_mem)) hT2 (News.isList (by assumption) (by k_mem)) ?hd (dueS_ok gd2 gd3) (by (try simp only [units_in1, units_deeper, Around.mark_units, units_caller]); decide +kernel) ?_
    case hd => rw [← due_yes (by assumption)]; exact vals_set _ hDu
    (try dsimp only)
    k_steps
    refine hPQ _ _ ?_
    (try dsimp only)
    exact good_end (old (by assumption)) os10 G10
  · refine Hold.mk ?_
    refine eq_strsK (ys := dueS figs) (News.isList (by assumption) (by k_mem)) hT2 (News.isList (by assumption) (.head _)) ?hd (dueS_ok gd2 gd3) (by (try simp only [units_in1, units_deeper, Around.mark_units, units_caller]); decide +kernel) ?_
    case hd => rw [← due_no (by assumption)]; exact hDu
    (try dsimp only)
    k_steps
    refine hPQ _ _ ?_
    (try dsimp only)
    exact good_end (old (by assumption)) os10 G10)
end
end Mine
theorem PySem.Challenge.cw_ku0029_01_holds : PySem.Challenge.rw_ku0029_01.Holds := by
  exact Mine.law_holds
