import PyProof.Rows.All
import Wide.All
import OpenK.AllK
import Wide.FinOn
import KE.KxBytes
import KE.KxDecode
import Lean
import PySem.Challenge.RW_re0070_01
set_option autoImplicit false
set_option linter.unusedVariables false
set_option linter.unusedSimpArgs false
set_option Elab.async false
namespace Mine
open PySem PySem.Calls PyProof.Rows PySem.W
noncomputable abbrev pg : Program := PySem.Challenge.pw_re0070_01
noncomputable def bd : List Stmt := behindTheImports pg
noncomputable def st (i : Nat) : Stmt := match bd.drop i with
  | x :: _ => x
  | [] => .Pass ⟨0, 0, 0, 0⟩
noncomputable def fnP : Stmt → Arguments
  | .FunctionDef _ a _ _ _ _ _ _ _ _ => a
  | _ => default
noncomputable def fnB : Stmt → List Stmt
  | .FunctionDef _ _ b _ _ _ _ _ _ _ => b
  | _ => []
noncomputable def fnS : Stmt → Scope
  | .FunctionDef _ _ _ _ _ _ s _ _ _ => s
  | _ => default
noncomputable abbrev de (P : Params) (x : Str) (t : Nat) (v : Value) : DictEntry := ⟨PyData.keyHash P x, .str x t, v⟩
noncomputable abbrev se (h : Int) (t : Nat) : Int × Value := (h, .int h t)
noncomputable abbrev N := BT.node
noncomputable def Tz (P : Params) : BT := .nil
noncomputable def o0 (P : Params) : Obj := ⟨(.type "dict"), none, (.dict #[(de P (Str.ofString "__name__") 1 (.str (Str.ofString "builtins") 160)), (de P (Str.ofString "__doc__") 2 (.builtin "builtins.__doc__:str#opaque")), (de P (Str.ofString "__package__") 3 (.builtin "builtins.__package__:str#opaque")), (de P (Str.ofString "__loader__") 4 (.builtin "builtins.__loader__:shared#opaque")), (de P (Str.ofString "__spec__") 5 (.builtin "builtins.__spec__#opaque")), (de P (Str.ofString "__build_class__") 6 (.builtin "__build_class__")), (de P (Str.ofString "__import__") 7 (.builtin "__import__")), (de P (Str.ofString "abs") 8 (.builtin "abs")), (de P (Str.ofString "all") 9 (.builtin "all")), (de P (Str.ofString "any") 10 (.builtin "any")), (de P (Str.ofString "ascii") 11 (.builtin "ascii")), (de P (Str.ofString "bin") 12 (.builtin "bin")), (de P (Str.ofString "breakpoint") 13 (.builtin "breakpoint")), (de P (Str.ofString "callable") 14 (.builtin "callable")), (de P (Str.ofString "chr") 15 (.builtin "chr")), (de P (Str.ofString "compile") 16 (.builtin "compile")), (de P (Str.ofString "delattr") 17 (.builtin "delattr")), (de P (Str.ofString "dir") 18 (.builtin "dir")), (de P (Str.ofString "divmod") 19 (.builtin "divmod")), (de P (Str.ofString "eval") 20 (.builtin "eval")), (de P (Str.ofString "exec") 21 (.builtin "exec")), (de P (Str.ofString "format") 22 (.builtin "format")), (de P (Str.ofString "getattr") 23 (.builtin "getattr")), (de P (Str.ofString "globals") 24 (.builtin "globals")), (de P (Str.ofString "hasattr") 25 (.builtin "hasattr")), (de P (Str.ofString "hash") 26 (.builtin "hash")), (de P (Str.ofString "hex") 27 (.builtin "hex")), (de P (Str.ofString "id") 28 (.builtin "id")), (de P (Str.ofString "input") 29 (.builtin "input")), (de P (Str.ofString "isinstance") 30 (.builtin "isinstance")), (de P (Str.ofString "issubclass") 31 (.builtin "issubclass")), (de P (Str.ofString "iter") 32 (.builtin "iter")), (de P (Str.ofString "aiter") 33 (.builtin "aiter")), (de P (Str.ofString "len") 34 (.builtin "len")), (de P (Str.ofString "locals") 35 (.builtin "locals")), (de P (Str.ofString "max") 36 (.builtin "max")), (de P (Str.ofString "min") 37 (.builtin "min")), (de P (Str.ofString "next") 38 (.builtin "next")), (de P (Str.ofString "anext") 39 (.builtin "anext")), (de P (Str.ofString "oct") 40 (.builtin "oct")), (de P (Str.ofString "ord") 41 (.builtin "ord")), (de P (Str.ofString "pow") 42 (.builtin "pow")), (de P (Str.ofString "print") 43 (.builtin "print")), (de P (Str.ofString "repr") 44 (.builtin "repr")), (de P (Str.ofString "round") 45 (.builtin "round")), (de P (Str.ofString "setattr") 46 (.builtin "setattr")), (de P (Str.ofString "sorted") 47 (.builtin "sorted")), (de P (Str.ofString "sum") 48 (.builtin "sum")), (de P (Str.ofString "vars") 49 (.builtin "vars")), (de P (Str.ofString "None") 50 .none), (de P (Str.ofString "Ellipsis") 51 .ellipsis), (de P (Str.ofString "NotImplemented") 52 .notImplemented), (de P (Str.ofString "False") 53 (.bool false)), (de P (Str.ofString "True") 54 (.bool true)), (de P (Str.ofString "bool") 55 (.type "bool")), (de P (Str.ofString "memoryview") 56 (.type "memoryview")), (de P (Str.ofString "bytearray") 57 (.type "bytearray")), (de P (Str.ofString "bytes") 58 (.type "bytes")), (de P (Str.ofString "classmethod") 59 (.type "classmethod")), (de P (Str.ofString "complex") 60 (.type "complex")), (de P (Str.ofString "dict") 61 (.type "dict")), (de P (Str.ofString "enumerate") 62 (.type "enumerate")), (de P (Str.ofString "filter") 63 (.type "filter")), (de P (Str.ofString "float") 64 (.type "float")), (de P (Str.ofString "frozenset") 65 (.type "frozenset")), (de P (Str.ofString "property") 66 (.type "property")), (de P (Str.ofString "int") 67 (.type "int")), (de P (Str.ofString "list") 68 (.type "list")), (de P (Str.ofString "map") 69 (.type "map")), (de P (Str.ofString "object") 70 (.type "object")), (de P (Str.ofString "range") 71 (.type "range")), (de P (Str.ofString "reversed") 72 (.type "reversed")), (de P (Str.ofString "set") 73 (.type "set")), (de P (Str.ofString "slice") 74 (.type "slice")), (de P (Str.ofString "staticmethod") 75 (.type "staticmethod")), (de P (Str.ofString "str") 76 (.type "str")), (de P (Str.ofString "super") 77 (.type "super")), (de P (Str.ofString "tuple") 78 (.type "tuple")), (de P (Str.ofString "type") 79 (.type "type")), (de P (Str.ofString "zip") 80 (.type "zip")), (de P (Str.ofString "__debug__") 81 (.bool true)), (de P (Str.ofString "BaseException") 82 (.type "BaseException")), (de P (Str.ofString "BaseExceptionGroup") 83 (.type "BaseExceptionGroup")), (de P (Str.ofString "Exception") 84 (.type "Exception")), (de P (Str.ofString "GeneratorExit") 85 (.type "GeneratorExit")), (de P (Str.ofString "KeyboardInterrupt") 86 (.type "KeyboardInterrupt")), (de P (Str.ofString "SystemExit") 87 (.type "SystemExit")), (de P (Str.ofString "ArithmeticError") 88 (.type "ArithmeticError")), (de P (Str.ofString "AssertionError") 89 (.type "AssertionError")), (de P (Str.ofString "AttributeError") 90 (.type "AttributeError")), (de P (Str.ofString "BufferError") 91 (.type "BufferError")), (de P (Str.ofString "EOFError") 92 (.type "EOFError")), (de P (Str.ofString "ImportError") 93 (.type "ImportError")), (de P (Str.ofString "LookupError") 94 (.type "LookupError")), (de P (Str.ofString "MemoryError") 95 (.type "MemoryError")), (de P (Str.ofString "NameError") 96 (.type "NameError")), (de P (Str.ofString "OSError") 97 (.type "OSError")), (de P (Str.ofString "ReferenceError") 98 (.type "ReferenceError")), (de P (Str.ofString "RuntimeError") 99 (.type "RuntimeError")), (de P (Str.ofString "StopAsyncIteration") 100 (.type "StopAsyncIteration")), (de P (Str.ofString "StopIteration") 101 (.type "StopIteration")), (de P (Str.ofString "SyntaxError") 102 (.type "SyntaxError")), (de P (Str.ofString "SystemError") 103 (.type "SystemError")), (de P (Str.ofString "TypeError") 104 (.type "TypeError")), (de P (Str.ofString "ValueError") 105 (.type "ValueError")), (de P (Str.ofString "Warning") 106 (.type "Warning")), (de P (Str.ofString "FloatingPointError") 107 (.type "FloatingPointError")), (de P (Str.ofString "OverflowError") 108 (.type "OverflowError")), (de P (Str.ofString "ZeroDivisionError") 109 (.type "ZeroDivisionError")), (de P (Str.ofString "BytesWarning") 110 (.type "BytesWarning")), (de P (Str.ofString "DeprecationWarning") 111 (.type "DeprecationWarning")), (de P (Str.ofString "EncodingWarning") 112 (.type "EncodingWarning")), (de P (Str.ofString "FutureWarning") 113 (.type "FutureWarning")), (de P (Str.ofString "ImportWarning") 114 (.type "ImportWarning")), (de P (Str.ofString "PendingDeprecationWarning") 115 (.type "PendingDeprecationWarning")), (de P (Str.ofString "ResourceWarning") 116 (.type "ResourceWarning")), (de P (Str.ofString "RuntimeWarning") 117 (.type "RuntimeWarning")), (de P (Str.ofString "SyntaxWarning") 118 (.type "SyntaxWarning")), (de P (Str.ofString "UnicodeWarning") 119 (.type "UnicodeWarning")), (de P (Str.ofString "UserWarning") 120 (.type "UserWarning")), (de P (Str.ofString "BlockingIOError") 121 (.type "BlockingIOError")), (de P (Str.ofString "ChildProcessError") 122 (.type "ChildProcessError")), (de P (Str.ofString "ConnectionError") 123 (.type "ConnectionError")), (de P (Str.ofString "FileExistsError") 124 (.type "FileExistsError")), (de P (Str.ofString "FileNotFoundError") 125 (.type "FileNotFoundError")), (de P (Str.ofString "InterruptedError") 126 (.type "InterruptedError")), (de P (Str.ofString "IsADirectoryError") 127 (.type "IsADirectoryError")), (de P (Str.ofString "NotADirectoryError") 128 (.type "NotADirectoryError")), (de P (Str.ofString "PermissionError") 129 (.type "PermissionError")), (de P (Str.ofString "ProcessLookupError") 130 (.type "ProcessLookupError")), (de P (Str.ofString "TimeoutError") 131 (.type "TimeoutError")), (de P (Str.ofString "IndentationError") 132 (.type "IndentationError")), (de P (Str.ofString "_IncompleteInputError") 133 (.type "_IncompleteInputError")), (de P (Str.ofString "IndexError") 134 (.type "IndexError")), (de P (Str.ofString "KeyError") 135 (.type "KeyError")), (de P (Str.ofString "ModuleNotFoundError") 136 (.type "ModuleNotFoundError")), (de P (Str.ofString "NotImplementedError") 137 (.type "NotImplementedError")), (de P (Str.ofString "PythonFinalizationError") 138 (.type "PythonFinalizationError")), (de P (Str.ofString "RecursionError") 139 (.type "RecursionError")), (de P (Str.ofString "UnboundLocalError") 140 (.type "UnboundLocalError")), (de P (Str.ofString "UnicodeError") 141 (.type "UnicodeError")), (de P (Str.ofString "BrokenPipeError") 142 (.type "BrokenPipeError")), (de P (Str.ofString "ConnectionAbortedError") 143 (.type "ConnectionAbortedError")), (de P (Str.ofString "ConnectionRefusedError") 144 (.type "ConnectionRefusedError")), (de P (Str.ofString "ConnectionResetError") 145 (.type "ConnectionResetError")), (de P (Str.ofString "TabError") 146 (.type "TabError")), (de P (Str.ofString "UnicodeDecodeError") 147 (.type "UnicodeDecodeError")), (de P (Str.ofString "UnicodeEncodeError") 148 (.type "UnicodeEncodeError")), (de P (Str.ofString "UnicodeTranslateError") 149 (.type "UnicodeTranslateError")), (de P (Str.ofString "ExceptionGroup") 150 (.type "ExceptionGroup")), (de P (Str.ofString "EnvironmentError") 151 (.type "OSError")), (de P (Str.ofString "IOError") 152 (.type "OSError")), (de P (Str.ofString "open") 153 (.builtin "open")), (de P (Str.ofString "quit") 154 (.builtin "builtins.quit#opaque")), (de P (Str.ofString "exit") 155 (.builtin "builtins.exit#opaque")), (de P (Str.ofString "copyright") 156 (.builtin "builtins.copyright#opaque")), (de P (Str.ofString "credits") 157 (.builtin "builtins.credits#opaque")), (de P (Str.ofString "license") 158 (.builtin "builtins.license#opaque")), (de P (Str.ofString "help") 159 (.builtin "builtins.help#opaque"))] 159), #[]⟩
noncomputable def o1 (P : Params) : Obj := ⟨(.type "dict"), none, (.dict #[(de P (Str.ofString "builtins") 162 (.ref 4)), (de P (Str.ofString "__main__") 163 (.ref 5)), (de P (Str.ofString "_sre") 244 (.ref 12))] 3), #[]⟩
noncomputable def o2 (P : Params) : Obj := ⟨.none, none, (.dict #[(de P (Str.mk #[105, 109, 112, 111, 114, 116, 46, 108, 111, 97, 100, 101, 100, 46, 95, 115, 114, 101]) 183 (.bool true)), (de P (Str.ofString "class._frozen_importlib.BuiltinImporter") 185 (.ref 14)), (de P (Str.mk #[119, 97, 116, 99, 104, 101, 100, 46, 105, 109, 112, 111, 114, 116]) 206 (.ref 18)), (de P (Str.ofString "class._frozen_importlib.ModuleSpec") 216 (.ref 22)), (de P (Str.ofString "sys.modules.booked-epoch") 245 (.int (3) 0)), (de P (Str.mk #[105, 109, 112, 111, 114, 116, 46, 108, 97, 116, 101, 114, 45, 108, 97, 105, 100, 46, 95, 115, 114, 101]) 270 (.bool true)), (de P (Str.ofString "watched.library") 272 (.ref 27)), (de P (Str.ofString "watched.library-objects") 0 (.str (Str.mk #[12]) 0)), (de P (Str.ofString "watched.library-deep._sre") 273 (.str (Str.mk #[4, 0, 0, 11, 4, 0, 0, 11, 4, 0, 0, 3, 4, 0, 0, 11, 8, 4, 100, 105, 99, 116, 2]) 0))] 9), #[]⟩
noncomputable def o3 (P : Params) : Obj := ⟨(.type "dict"), none, (.dict #[(de P (Str.ofString "__name__") 165 (.str (Str.ofString "__main__") 164)), (de P (Str.ofString "__doc__") 166 .none), (de P (Str.ofString "__package__") 167 .none), (de P (Str.ofString "__loader__") 168 (.builtin "__main__.__loader__#opaque")), (de P (Str.ofString "__spec__") 169 .none), (de P (Str.ofString "__annotations__") 170 (.ref 6)), (de P (Str.ofString "__builtins__") 171 (.ref 4)), (de P (Str.ofString "__file__") 173 (.str (Str.ofString "/claim/cut.py") 172)), (de P (Str.ofString "__cached__") 174 .none), (de P (Str.ofString "_sre") 275 (.ref 12))] 10), #[]⟩
noncomputable def o4 (P : Params) : Obj := ⟨(.type "module"), (some 0), .plain, #[]⟩
noncomputable def o5 (P : Params) : Obj := ⟨(.type "module"), (some 3), .plain, #[]⟩
noncomputable def o6 (P : Params) : Obj := ⟨(.type "dict"), none, (.dict #[] 0), #[]⟩
noncomputable def o7 (P : Params) : Obj := ⟨(.type "tuple"), none, (.seq #[] 0), #[]⟩
noncomputable def o8 (P : Params) : Obj := ⟨.none, none, (.fields #[]), #[]⟩
noncomputable def o9 (P : Params) : Obj := ⟨(.type "code"), none, (.fields #[(.str (Str.ofString "<module>") 176), (.str (Str.ofString "<module>") 177), (.str (Str.ofString "/claim/cut.py") 178), (.int (1) 0), (.int (0) 0), (.int (0) 0), (.int (0) 0), (.int (0) 0), (.ref 7), (.bool false), (.int (175) 0), (.ref 8), .none, .none, .none, .none, (.int (179) 0), (.int (1) 0), (.str (Str.ofString "/claim/cut.py") 180)]), #[]⟩
noncomputable def o10 (P : Params) : Obj := ⟨(.type "frame"), none, .plain, #[(some (.ref 9)), (some (.ref 3)), (some (.ref 3)), none, (some (.str (Str.ofString "__main__") 164)), none, (some (.ref 0))]⟩
noncomputable def o11 (P : Params) : Obj := ⟨(.type "dict"), none, (.dict #[(de P (Str.ofString "__name__") 247 (.str (Str.ofString "_sre") 246)), (de P (Str.ofString "__doc__") 248 .none), (de P (Str.ofString "__package__") 250 (.str (Str.ofString "") 249)), (de P (Str.ofString "__loader__") 251 (.builtin "off-the-table:_sre.__loader__:shared#opaque")), (de P (Str.ofString "__spec__") 252 (.builtin "off-the-table:_sre.__spec__:shared#opaque")), (de P (Str.ofString "compile") 253 (.builtin "_sre.compile")), (de P (Str.ofString "template") 254 (.builtin "off-the-table:_sre.template:shared#opaque")), (de P (Str.ofString "getcodesize") 255 (.builtin "off-the-table:_sre.getcodesize:shared#opaque")), (de P (Str.ofString "ascii_iscased") 256 (.builtin "off-the-table:_sre.ascii_iscased:shared#opaque")), (de P (Str.ofString "unicode_iscased") 257 (.builtin "off-the-table:_sre.unicode_iscased:shared#opaque")), (de P (Str.ofString "ascii_tolower") 258 (.builtin "off-the-table:_sre.ascii_tolower:shared#opaque")), (de P (Str.ofString "unicode_tolower") 259 (.builtin "off-the-table:_sre.unicode_tolower:shared#opaque")), (de P (Str.ofString "MAGIC") 261 (.int (20230612) 260)), (de P (Str.ofString "CODESIZE") 263 (.int (4) 262)), (de P (Str.ofString "MAXREPEAT") 265 (.int (4294967295) 264)), (de P (Str.ofString "MAXGROUPS") 267 (.int (1073741823) 266)), (de P (Str.ofString "copyright") 269 (.str (Str.ofString " SRE 2.2.2 Copyright (c) 1997-2002 by Secret Labs AB ") 268))] 17), #[]⟩
noncomputable def o12 (P : Params) : Obj := ⟨(.type "module"), (some 11), .plain, #[]⟩
noncomputable def o13 (P : Params) : Obj := ⟨(.type "dict"), none, (.dict #[(de P (Str.ofString "__module__") 189 (.str (Str.ofString "_frozen_importlib") 186)), (de P (Str.ofString "__firstlineno__") 190 (.int (971) 187)), (de P (Str.ofString "__doc__") 191 (.builtin "_frozen_importlib.BuiltinImporter.__doc__:str#opaque")), (de P (Str.ofString "_ORIGIN") 192 (.str (Str.ofString "built-in") 188)), (de P (Str.ofString "find_spec") 193 (.builtin "_frozen_importlib.BuiltinImporter.find_spec#opaque")), (de P (Str.ofString "create_module") 194 (.builtin "_frozen_importlib.BuiltinImporter.create_module#opaque")), (de P (Str.ofString "exec_module") 195 (.builtin "_frozen_importlib.BuiltinImporter.exec_module#opaque")), (de P (Str.ofString "get_code") 196 (.builtin "_frozen_importlib.BuiltinImporter.get_code#opaque")), (de P (Str.ofString "get_source") 197 (.builtin "_frozen_importlib.BuiltinImporter.get_source#opaque")), (de P (Str.ofString "is_package") 198 (.builtin "_frozen_importlib.BuiltinImporter.is_package#opaque")), (de P (Str.ofString "load_module") 199 (.builtin "_frozen_importlib.BuiltinImporter.load_module#opaque")), (de P (Str.ofString "__static_attributes__") 200 (.ref 15)), (de P (Str.ofString "__dict__") 202 (.ref 16)), (de P (Str.ofString "__weakref__") 204 (.ref 17))] 14), #[]⟩
noncomputable def o14 (P : Params) : Obj := ⟨(.type "type"), none, (.cls ⟨(Str.ofString "BuiltinImporter"), [(.type "object")], [(.ref 14), (.type "object")], 13, (Str.ofString "BuiltinImporter"), true, [], [], false, none, false⟩), #[]⟩
noncomputable def o15 (P : Params) : Obj := ⟨(.type "getset_descriptor"), none, (.fields #[(.str (Str.ofString "__dict__") 201), (.ref 14), (.builtin "function.__dict__"), (.builtin "function.__dict__#set")]), #[]⟩
noncomputable def o16 (P : Params) : Obj := ⟨(.type "getset_descriptor"), none, (.fields #[(.str (Str.ofString "__weakref__") 203), (.ref 14), (.builtin "ExceptionGroup.__weakref__"), .none]), #[]⟩
noncomputable def o17 (P : Params) : Obj := ⟨.none, none, (.seq #[(.int (13) 0), (.str (Str.mk #[6, 189, 10, 95, 95, 109, 111, 100, 117, 108, 101, 95, 95, 6, 186, 17, 95, 102, 114, 111, 122, 101, 110, 95, 105, 109, 112, 111, 114, 116, 108, 105, 98, 6, 190, 15, 95, 95, 102, 105, 114, 115, 116, 108, 105, 110, 101, 110, 111, 95, 95, 4, 187, 0, 971, 6, 191, 7, 95, 95, 100, 111, 99, 95, 95, 9, 52, 95, 102, 114, 111, 122, 101, 110, 95, 105, 109, 112, 111, 114, 116, 108, 105, 98, 46, 66, 117, 105, 108, 116, 105, 110, 73, 109, 112, 111, 114, 116, 101, 114, 46, 95, 95, 100, 111, 99, 95, 95, 58, 115, 116, 114, 35, 111, 112, 97, 113, 117, 101, 6, 192, 7, 95, 79, 82, 73, 71, 73, 78, 6, 188, 8, 98, 117, 105, 108, 116, 45, 105, 110, 6, 193, 9, 102, 105, 110, 100, 95, 115, 112, 101, 99, 9, 50, 95, 102, 114, 111, 122, 101, 110, 95, 105, 109, 112, 111, 114, 116, 108, 105, 98, 46, 66, 117, 105, 108, 116, 105, 110, 73, 109, 112, 111, 114, 116, 101, 114, 46, 102, 105, 110, 100, 95, 115, 112, 101, 99, 35, 111, 112, 97, 113, 117, 101, 6, 194, 13, 99, 114, 101, 97, 116, 101, 95, 109, 111, 100, 117, 108, 101, 9, 54, 95, 102, 114, 111, 122, 101, 110, 95, 105, 109, 112, 111, 114, 116, 108, 105, 98, 46, 66, 117, 105, 108, 116, 105, 110, 73, 109, 112, 111, 114, 116, 101, 114, 46, 99, 114, 101, 97, 116, 101, 95, 109, 111, 100, 117, 108, 101, 35, 111, 112, 97, 113, 117, 101, 6, 195, 11, 101, 120, 101, 99, 95, 109, 111, 100, 117, 108, 101, 9, 52, 95, 102, 114, 111, 122, 101, 110, 95, 105, 109, 112, 111, 114, 116, 108, 105, 98, 46, 66, 117, 105, 108, 116, 105, 110, 73, 109, 112, 111, 114, 116, 101, 114, 46, 101, 120, 101, 99, 95, 109, 111, 100, 117, 108, 101, 35, 111, 112, 97, 113, 117, 101, 6, 196, 8, 103, 101, 116, 95, 99, 111, 100, 101, 9, 49, 95, 102, 114, 111, 122, 101, 110, 95, 105, 109, 112, 111, 114, 116, 108, 105, 98, 46, 66, 117, 105, 108, 116, 105, 110, 73, 109, 112, 111, 114, 116, 101, 114, 46, 103, 101, 116, 95, 99, 111, 100, 101, 35, 111, 112, 97, 113, 117, 101, 6, 197, 10, 103, 101, 116, 95, 115, 111, 117, 114, 99, 101, 9, 51, 95, 102, 114, 111, 122, 101, 110, 95, 105, 109, 112, 111, 114, 116, 108, 105, 98, 46, 66, 117, 105, 108, 116, 105, 110, 73, 109, 112, 111, 114, 116, 101, 114, 46, 103, 101, 116, 95, 115, 111, 117, 114, 99, 101, 35, 111, 112, 97, 113, 117, 101, 6, 198, 10, 105, 115, 95, 112, 97, 99, 107, 97, 103, 101, 9, 51, 95, 102, 114, 111, 122, 101, 110, 95, 105, 109, 112, 111, 114, 116, 108, 105, 98, 46, 66, 117, 105, 108, 116, 105, 110, 73, 109, 112, 111, 114, 116, 101, 114, 46, 105, 115, 95, 112, 97, 99, 107, 97, 103, 101, 35, 111, 112, 97, 113, 117, 101, 6, 199, 11, 108, 111, 97, 100, 95, 109, 111, 100, 117, 108, 101, 9, 52, 95, 102, 114, 111, 122, 101, 110, 95, 105, 109, 112, 111, 114, 116, 108, 105, 98, 46, 66, 117, 105, 108, 116, 105, 110, 73, 109, 112, 111, 114, 116, 101, 114, 46, 108, 111, 97, 100, 95, 109, 111, 100, 117, 108, 101, 35, 111, 112, 97, 113, 117, 101, 6, 200, 21, 95, 95, 115, 116, 97, 116, 105, 99, 95, 97, 116, 116, 114, 105, 98, 117, 116, 101, 115, 95, 95, 4, 0, 0, 15, 6, 202, 8, 95, 95, 100, 105, 99, 116, 95, 95, 4, 0, 0, 16, 6, 204, 11, 95, 95, 119, 101, 97, 107, 114, 101, 102, 95, 95, 4, 0, 0, 17]) 0), (.bool true), (.bool true), (.str (Str.ofString "") 205), (.int (21) 0), (.str (Str.mk #[6, 227, 10, 95, 95, 109, 111, 100, 117, 108, 101, 95, 95, 6, 217, 17, 95, 102, 114, 111, 122, 101, 110, 95, 105, 109, 112, 111, 114, 116, 108, 105, 98, 6, 228, 15, 95, 95, 102, 105, 114, 115, 116, 108, 105, 110, 101, 110, 111, 95, 95, 4, 218, 0, 562, 6, 229, 7, 95, 95, 100, 111, 99, 95, 95, 9, 47, 95, 102, 114, 111, 122, 101, 110, 95, 105, 109, 112, 111, 114, 116, 108, 105, 98, 46, 77, 111, 100, 117, 108, 101, 83, 112, 101, 99, 46, 95, 95, 100, 111, 99, 95, 95, 58, 115, 116, 114, 35, 111, 112, 97, 113, 117, 101, 6, 230, 8, 95, 95, 105, 110, 105, 116, 95, 95, 9, 44, 95, 102, 114, 111, 122, 101, 110, 95, 105, 109, 112, 111, 114, 116, 108, 105, 98, 46, 77, 111, 100, 117, 108, 101, 83, 112, 101, 99, 46, 95, 95, 105, 110, 105, 116, 95, 95, 35, 111, 112, 97, 113, 117, 101, 6, 231, 8, 95, 95, 114, 101, 112, 114, 95, 95, 9, 44, 95, 102, 114, 111, 122, 101, 110, 95, 105, 109, 112, 111, 114, 116, 108, 105, 98, 46, 77, 111, 100, 117, 108, 101, 83, 112, 101, 99, 46, 95, 95, 114, 101, 112, 114, 95, 95, 35, 111, 112, 97, 113, 117, 101, 6, 232, 6, 95, 95, 101, 113, 95, 95, 9, 42, 95, 102, 114, 111, 122, 101, 110, 95, 105, 109, 112, 111, 114, 116, 108, 105, 98, 46, 77, 111, 100, 117, 108, 101, 83, 112, 101, 99, 46, 95, 95, 101, 113, 95, 95, 35, 111, 112, 97, 113, 117, 101, 6, 233, 6, 99, 97, 99, 104, 101, 100, 9, 42, 95, 102, 114, 111, 122, 101, 110, 95, 105, 109, 112, 111, 114, 116, 108, 105, 98, 46, 77, 111, 100, 117, 108, 101, 83, 112, 101, 99, 46, 99, 97, 99, 104, 101, 100, 35, 111, 112, 97, 113, 117, 101, 6, 234, 6, 112, 97, 114, 101, 110, 116, 9, 42, 95, 102, 114, 111, 122, 101, 110, 95, 105, 109, 112, 111, 114, 116, 108, 105, 98, 46, 77, 111, 100, 117, 108, 101, 83, 112, 101, 99, 46, 112, 97, 114, 101, 110, 116, 35, 111, 112, 97, 113, 117, 101, 6, 235, 12, 104, 97, 115, 95, 108, 111, 99, 97, 116, 105, 111, 110, 9, 48, 95, 102, 114, 111, 122, 101, 110, 95, 105, 109, 112, 111, 114, 116, 108, 105, 98, 46, 77, 111, 100, 117, 108, 101, 83, 112, 101, 99, 46, 104, 97, 115, 95, 108, 111, 99, 97, 116, 105, 111, 110, 35, 111, 112, 97, 113, 117, 101, 6, 236, 21, 95, 95, 115, 116, 97, 116, 105, 99, 95, 97, 116, 116, 114, 105, 98, 117, 116, 101, 115, 95, 95, 4, 0, 0, 23, 6, 238, 8, 95, 95, 100, 105, 99, 116, 95, 95, 4, 0, 0, 24, 6, 240, 11, 95, 95, 119, 101, 97, 107, 114, 101, 102, 95, 95, 4, 0, 0, 25, 6, 241, 8, 95, 95, 104, 97, 115, 104, 95, 95, 0]) 0), (.bool true), (.bool true), (.str (Str.ofString "") 242)] 1), #[]⟩
noncomputable def o18 (P : Params) : Obj := ⟨(.type "list"), none, (.seq #[] 0), #[]⟩
noncomputable def o19 (P : Params) : Obj := ⟨(.type "dict"), none, (.dict #[(de P (Str.ofString "name") 208 (.str (Str.ofString "_sre") 207)), (de P (Str.ofString "loader") 209 (.ref 14)), (de P (Str.ofString "origin") 210 (.str (Str.ofString "built-in") 184)), (de P (Str.ofString "loader_state") 211 .none), (de P (Str.ofString "submodule_search_locations") 212 .none), (de P (Str.ofString "_uninitialized_submodules") 213 (.ref 19)), (de P (Str.ofString "_set_fileattr") 214 (.bool false)), (de P (Str.ofString "_cached") 215 .none), (de P (Str.ofString "_initializing") 243 (.bool false))] 9), #[]⟩
noncomputable def o20 (P : Params) : Obj := ⟨(.type "dict"), none, (.dict #[(de P (Str.ofString "__module__") 227 (.str (Str.ofString "_frozen_importlib") 217)), (de P (Str.ofString "__firstlineno__") 228 (.int (562) 218)), (de P (Str.ofString "__doc__") 229 (.builtin "_frozen_importlib.ModuleSpec.__doc__:str#opaque")), (de P (Str.ofString "__init__") 230 (.builtin "_frozen_importlib.ModuleSpec.__init__#opaque")), (de P (Str.ofString "__repr__") 231 (.builtin "_frozen_importlib.ModuleSpec.__repr__#opaque")), (de P (Str.ofString "__eq__") 232 (.builtin "_frozen_importlib.ModuleSpec.__eq__#opaque")), (de P (Str.ofString "cached") 233 (.builtin "_frozen_importlib.ModuleSpec.cached#opaque")), (de P (Str.ofString "parent") 234 (.builtin "_frozen_importlib.ModuleSpec.parent#opaque")), (de P (Str.ofString "has_location") 235 (.builtin "_frozen_importlib.ModuleSpec.has_location#opaque")), (de P (Str.ofString "__static_attributes__") 236 (.ref 23)), (de P (Str.ofString "__dict__") 238 (.ref 24)), (de P (Str.ofString "__weakref__") 240 (.ref 25)), (de P (Str.ofString "__hash__") 241 .none)] 13), #[]⟩
noncomputable def o21 (P : Params) : Obj := ⟨(.type "type"), none, (.cls ⟨(Str.ofString "ModuleSpec"), [(.type "object")], [(.ref 22), (.type "object")], 21, (Str.ofString "ModuleSpec"), true, [], [], false, none, false⟩), #[]⟩
noncomputable def o22 (P : Params) : Obj := ⟨(.type "tuple"), none, (.seq #[(.str (Str.ofString "_cached") 219), (.str (Str.ofString "_set_fileattr") 220), (.str (Str.ofString "_uninitialized_submodules") 221), (.str (Str.ofString "loader") 222), (.str (Str.ofString "loader_state") 223), (.str (Str.ofString "name") 224), (.str (Str.ofString "origin") 225), (.str (Str.ofString "submodule_search_locations") 226)] 0), #[]⟩
noncomputable def o23 (P : Params) : Obj := ⟨(.type "getset_descriptor"), none, (.fields #[(.str (Str.ofString "__dict__") 237), (.ref 22), (.builtin "function.__dict__"), (.builtin "function.__dict__#set")]), #[]⟩
noncomputable def o24 (P : Params) : Obj := ⟨(.type "getset_descriptor"), none, (.fields #[(.str (Str.ofString "__weakref__") 239), (.ref 22), (.builtin "ExceptionGroup.__weakref__"), .none]), #[]⟩
noncomputable def o25 (P : Params) : Obj := ⟨(.ref 22), (some 20), .plain, #[]⟩
noncomputable def o26 (P : Params) : Obj := ⟨.none, none, (.seq #[(.int (11) 0), (.str (Str.mk #[6, 247, 8, 95, 95, 110, 97, 109, 101, 95, 95, 6, 246, 4, 95, 115, 114, 101, 6, 248, 7, 95, 95, 100, 111, 99, 95, 95, 0, 6, 250, 11, 95, 95, 112, 97, 99, 107, 97, 103, 101, 95, 95, 6, 249, 0, 6, 251, 10, 95, 95, 108, 111, 97, 100, 101, 114, 95, 95, 4, 0, 0, 14, 6, 252, 8, 95, 95, 115, 112, 101, 99, 95, 95, 4, 0, 0, 26, 6, 253, 7, 99, 111, 109, 112, 105, 108, 101, 9, 12, 95, 115, 114, 101, 46, 99, 111, 109, 112, 105, 108, 101, 6, 254, 8, 116, 101, 109, 112, 108, 97, 116, 101, 9, 13, 95, 115, 114, 101, 46, 116, 101, 109, 112, 108, 97, 116, 101, 6, 255, 11, 103, 101, 116, 99, 111, 100, 101, 115, 105, 122, 101, 9, 16, 95, 115, 114, 101, 46, 103, 101, 116, 99, 111, 100, 101, 115, 105, 122, 101, 6, 256, 13, 97, 115, 99, 105, 105, 95, 105, 115, 99, 97, 115, 101, 100, 9, 18, 95, 115, 114, 101, 46, 97, 115, 99, 105, 105, 95, 105, 115, 99, 97, 115, 101, 100, 6, 257, 15, 117, 110, 105, 99, 111, 100, 101, 95, 105, 115, 99, 97, 115, 101, 100, 9, 20, 95, 115, 114, 101, 46, 117, 110, 105, 99, 111, 100, 101, 95, 105, 115, 99, 97, 115, 101, 100, 6, 258, 13, 97, 115, 99, 105, 105, 95, 116, 111, 108, 111, 119, 101, 114, 9, 18, 95, 115, 114, 101, 46, 97, 115, 99, 105, 105, 95, 116, 111, 108, 111, 119, 101, 114, 6, 259, 15, 117, 110, 105, 99, 111, 100, 101, 95, 116, 111, 108, 111, 119, 101, 114, 9, 20, 95, 115, 114, 101, 46, 117, 110, 105, 99, 111, 100, 101, 95, 116, 111, 108, 111, 119, 101, 114, 6, 261, 5, 77, 65, 71, 73, 67, 4, 260, 0, 20230612, 6, 263, 8, 67, 79, 68, 69, 83, 73, 90, 69, 4, 262, 0, 4, 6, 265, 9, 77, 65, 88, 82, 69, 80, 69, 65, 84, 4, 264, 0, 4294967295, 6, 267, 9, 77, 65, 88, 71, 82, 79, 85, 80, 83, 4, 266, 0, 1073741823, 6, 269, 9, 99, 111, 112, 121, 114, 105, 103, 104, 116, 6, 268, 53, 32, 83, 82, 69, 32, 50, 46, 50, 46, 50, 32, 67, 111, 112, 121, 114, 105, 103, 104, 116, 32, 40, 99, 41, 32, 49, 57, 57, 55, 45, 50, 48, 48, 50, 32, 98, 121, 32, 83, 101, 99, 114, 101, 116, 32, 76, 97, 98, 115, 32, 65, 66, 32]) 0), (.bool true), (.bool false), (.str (Str.ofString "_sre") 271)] 0), #[]⟩
noncomputable def H0 (P : Params) : Heap := ⟨#[o0 P, o1 P, o2 P, o3 P, o4 P, o5 P, o6 P, o7 P, o8 P, o9 P, o10 P, o11 P, o12 P, o13 P, o14 P, o7 P, o15 P, o16 P, o17 P, o18 P, o19 P, o20 P, o21 P, o22 P, o23 P, o24 P, o25 P, o26 P], ⟨[], [], [], 0, [], [], false, #[], [], 0, false, false, false, 0, [2000, 10, 10], false, 0, true, [], [], 0, false⟩⟩
noncomputable def o27 (P : Params) : Obj := ⟨(.type "code"), none, (.fields #[(.str (Str.ofString "<module>") 277), (.str (Str.ofString "<module>") 278), (.str (Str.ofString "/claim/cut.py") 279), (.int (1) 0), (.int (0) 0), (.int (0) 0), (.int (0) 0), (.int (0) 0), (.ref 28), (.bool false), (.int (276) 0), (.ref 29), .none, .none, .none, .none, (.int (280) 0), (.int (1) 0), (.str (Str.ofString "/claim/cut.py") 281)]), #[]⟩
noncomputable def o28 (P : Params) : Obj := ⟨(.type "frame"), none, .plain, #[(some (.ref 30)), (some (.ref 3)), (some (.ref 3)), none, (some (.str (Str.ofString "__main__") 164)), none, (some (.ref 0))]⟩
noncomputable def Ha (P : Params) : Heap := ⟨#[o0 P, o1 P, o2 P, o3 P, o4 P, o5 P, o6 P, o7 P, o8 P, o9 P, o10 P, o11 P, o12 P, o13 P, o14 P, o7 P, o15 P, o16 P, o17 P, o18 P, o19 P, o20 P, o21 P, o22 P, o23 P, o24 P, o25 P, o26 P, o7 P, o8 P, o27 P, o28 P], ⟨[], [], [], 0, [], [], false, #[], [], 0, false, false, false, 0, [2000, 10, 10], false, 0, true, [], [], 0, false⟩⟩
noncomputable def Tb (P : Params) : BT := (N (o0 P) (N (o1 P) (N (o3 P) (N (o7 P) (N (o7 P) (N (o28 P) .nil .nil) .nil) (N (o22 P) .nil .nil)) (N (o11 P) (N (o18 P) .nil .nil) (N (o26 P) .nil .nil))) (N (o5 P) (N (o9 P) (N (o16 P) .nil .nil) (N (o24 P) .nil .nil)) (N (o13 P) (N (o20 P) .nil .nil) (N (o8 P) .nil .nil)))) (N (o2 P) (N (o4 P) (N (o8 P) (N (o15 P) .nil .nil) (N (o23 P) .nil .nil)) (N (o12 P) (N (o19 P) .nil .nil) (N (o7 P) .nil .nil))) (N (o6 P) (N (o10 P) (N (o17 P) .nil .nil) (N (o25 P) .nil .nil)) (N (o14 P) (N (o21 P) .nil .nil) (N (o27 P) .nil .nil)))))
noncomputable def o29 (P : Params) : Obj := ⟨(.type "dict"), none, (.dict #[(de P (Str.ofString "__name__") 165 (.str (Str.ofString "cpy313.stringprep") 381)), (de P (Str.ofString "__doc__") 166 .none), (de P (Str.ofString "__package__") 167 .none), (de P (Str.ofString "__loader__") 168 (.builtin "__main__.__loader__#opaque")), (de P (Str.ofString "__spec__") 169 .none), (de P (Str.ofString "__annotations__") 170 (.ref 6)), (de P (Str.ofString "__builtins__") 171 (.ref 4)), (de P (Str.ofString "__file__") 173 (.str (Str.ofString "/claim/cut.py") 172)), (de P (Str.ofString "__cached__") 174 .none), (de P (Str.ofString "_sre") 275 (.ref 12)), (de P (Str.ofString "_twin_re_1") 299 (.ref 36)), (de P (Str.ofString "_twin_re_2") 315 (.ref 41)), (de P (Str.ofString "_twin_re_3") 357 (.ref 46)), (de P (Str.ofString "CRLF") 359 (.str (Str.ofString "\x0d\n") 358)), (de P (Str.ofString "quotedata") 366 (.ref 53)), (de P (Str.ofString "_quote_periods") 373 (.ref 60)), (de P (Str.ofString "_fix_eols") 380 (.ref 67))] 17), #[]⟩
noncomputable def o30 (P : Params) : Obj := ⟨.none, none, (.fields #[(.int (7) 0), (.int (0) 0), (.ref 52), (.int (9) 0), (.int (0) 0), (.ref 59), (.int (11) 0), (.int (0) 0), (.ref 66)]), #[]⟩
noncomputable def o31 (P : Params) : Obj := ⟨(.type "list"), none, (.seq #[(.int (14) 287), (.int (4) 288), (.int (0) 289), (.int (1) 290), (.int (1) 291), (.int (6) 292), (.int (1) 293), (.int (16) 294), (.int (46) 295), (.int (1) 296)] 0), #[]⟩
noncomputable def o32 (P : Params) : Obj := ⟨(.type "tuple"), none, (.seq #[.none] 0), #[]⟩
noncomputable def o33 (P : Params) : Obj := ⟨(.type "tuple"), none, (.seq #[(.int (14) 0), (.int (4) 0), (.int (0) 0), (.int (1) 0), (.int (1) 0), (.int (6) 0), (.int (1) 0), (.int (16) 0), (.int (46) 0), (.int (1) 0)] 0), #[]⟩
noncomputable def o34 (P : Params) : Obj := ⟨(.type "re.Pattern"), none, (.fields #[(.str (Str.ofString "(?m)^\\.") 285), (.int (40) 298), (.int (0) 0), .none, .none, (.ref 35), (.int (0) 0)]), #[]⟩
noncomputable def o35 (P : Params) : Obj := ⟨(.type "list"), none, (.seq #[(.int (14) 303), (.int (4) 304), (.int (0) 305), (.int (1) 306), (.int (1) 307), (.int (6) 308), (.int (1) 309), (.int (16) 310), (.int (46) 311), (.int (1) 312)] 0), #[]⟩
noncomputable def o36 (P : Params) : Obj := ⟨(.type "re.Pattern"), none, (.fields #[(.bytes #[40, 63, 109, 41, 94, 92, 46] 301), (.int (8) 314), (.int (0) 0), .none, .none, (.ref 40), (.int (1) 0)]), #[]⟩
noncomputable def o37 (P : Params) : Obj := ⟨(.type "list"), none, (.seq #[(.int (14) 319), (.int (9) 320), (.int (4) 321), (.int (1) 322), (.int (2) 323), (.int (16) 324), (.int (10) 325), (.int (16) 326), (.int (13) 327), (.int (0) 328), (.int (7) 329), (.int (7) 330), (.int (16) 331), (.int (13) 332), (.int (16) 333), (.int (10) 334), (.int (15) 335), (.int (18) 336), (.int (5) 337), (.int (16) 338), (.int (10) 339), (.int (15) 340), (.int (13) 341), (.int (11) 342), (.int (16) 343), (.int (13) 344), (.int (5) 345), (.int (5) 346), (.int (0) 347), (.int (16) 348), (.int (10) 349), (.int (1) 350), (.int (15) 351), (.int (2) 352), (.int (0) 353), (.int (1) 354)] 0), #[]⟩
noncomputable def o38 (P : Params) : Obj := ⟨(.type "tuple"), none, (.seq #[(.int (14) 0), (.int (9) 0), (.int (4) 0), (.int (1) 0), (.int (2) 0), (.int (16) 0), (.int (10) 0), (.int (16) 0), (.int (13) 0), (.int (0) 0), (.int (7) 0), (.int (7) 0), (.int (16) 0), (.int (13) 0), (.int (16) 0), (.int (10) 0), (.int (15) 0), (.int (18) 0), (.int (5) 0), (.int (16) 0), (.int (10) 0), (.int (15) 0), (.int (13) 0), (.int (11) 0), (.int (16) 0), (.int (13) 0), (.int (5) 0), (.int (5) 0), (.int (0) 0), (.int (16) 0), (.int (10) 0), (.int (1) 0), (.int (15) 0), (.int (2) 0), (.int (0) 0), (.int (1) 0)] 0), #[]⟩
noncomputable def o39 (P : Params) : Obj := ⟨(.type "re.Pattern"), none, (.fields #[(.str (Str.ofString "(?:\\r\\n|\\n|\\r(?!\\n))") 317), (.int (32) 356), (.int (0) 0), .none, .none, (.ref 45), (.int (0) 0)]), #[]⟩
noncomputable def o40 (P : Params) : Obj := ⟨(.type "tuple"), none, (.seq #[(.str (Str.ofString "data") 363)] 0), #[]⟩
noncomputable def o41 (P : Params) : Obj := ⟨.none, none, (.func ⟨(Str.ofString "quotedata"), (Str.ofString "quotedata"), fnP (st 5), .stmts (fnB (st 5)), fnS (st 5), 0, [], .none, .none, .none, .none, none, .none, .none, 0⟩), #[]⟩
noncomputable def o42 (P : Params) : Obj := ⟨(.type "code"), none, (.fields #[(.str (Str.ofString "quotedata") 360), (.str (Str.ofString "quotedata") 361), (.str (Str.ofString "/claim/cut.py") 362), (.int (7) 0), (.int (1) 0), (.int (0) 0), (.int (0) 0), (.int (3) 0), (.ref 47), (.bool true), (.int (276) 0), (.ref 48), .none, (.ref 49), (.ref 50), (.ref 51), (.int (364) 0), (.int (7) 0), (.str (Str.ofString "/claim/cut.py") 365)]), #[]⟩
noncomputable def o43 (P : Params) : Obj := ⟨(.type "function"), none, (.func ⟨(Str.ofString "quotedata"), (Str.ofString "quotedata"), fnP (st 5), .stmts (fnB (st 5)), fnS (st 5), 3, [], .none, .none, .none, (.str (Str.ofString "cpy313.smtplib") 282), none, (.ref 52), .none, 0⟩), #[]⟩
noncomputable def o44 (P : Params) : Obj := ⟨(.type "tuple"), none, (.seq #[(.str (Str.ofString "bindata") 370)] 0), #[]⟩
noncomputable def o45 (P : Params) : Obj := ⟨.none, none, (.func ⟨(Str.ofString "_quote_periods"), (Str.ofString "_quote_periods"), fnP (st 6), .stmts (fnB (st 6)), fnS (st 6), 0, [], .none, .none, .none, .none, none, .none, .none, 0⟩), #[]⟩
noncomputable def o46 (P : Params) : Obj := ⟨(.type "code"), none, (.fields #[(.str (Str.ofString "_quote_periods") 367), (.str (Str.ofString "_quote_periods") 368), (.str (Str.ofString "/claim/cut.py") 369), (.int (9) 0), (.int (1) 0), (.int (0) 0), (.int (0) 0), (.int (3) 0), (.ref 54), (.bool true), (.int (276) 0), (.ref 55), .none, (.ref 56), (.ref 57), (.ref 58), (.int (371) 0), (.int (9) 0), (.str (Str.ofString "/claim/cut.py") 372)]), #[]⟩
noncomputable def o47 (P : Params) : Obj := ⟨(.type "function"), none, (.func ⟨(Str.ofString "_quote_periods"), (Str.ofString "_quote_periods"), fnP (st 6), .stmts (fnB (st 6)), fnS (st 6), 3, [], .none, .none, .none, (.str (Str.ofString "cpy313.smtplib") 282), none, (.ref 59), .none, 0⟩), #[]⟩
noncomputable def o48 (P : Params) : Obj := ⟨(.type "tuple"), none, (.seq #[(.str (Str.ofString "data") 377)] 0), #[]⟩
noncomputable def o49 (P : Params) : Obj := ⟨.none, none, (.func ⟨(Str.ofString "_fix_eols"), (Str.ofString "_fix_eols"), fnP (st 7), .stmts (fnB (st 7)), fnS (st 7), 0, [], .none, .none, .none, .none, none, .none, .none, 0⟩), #[]⟩
noncomputable def o50 (P : Params) : Obj := ⟨(.type "code"), none, (.fields #[(.str (Str.ofString "_fix_eols") 374), (.str (Str.ofString "_fix_eols") 375), (.str (Str.ofString "/claim/cut.py") 376), (.int (11) 0), (.int (1) 0), (.int (0) 0), (.int (0) 0), (.int (3) 0), (.ref 61), (.bool true), (.int (276) 0), (.ref 62), .none, (.ref 63), (.ref 64), (.ref 65), (.int (378) 0), (.int (11) 0), (.str (Str.ofString "/claim/cut.py") 379)]), #[]⟩
noncomputable def o51 (P : Params) : Obj := ⟨(.type "function"), none, (.func ⟨(Str.ofString "_fix_eols"), (Str.ofString "_fix_eols"), fnP (st 7), .stmts (fnB (st 7)), fnS (st 7), 3, [], .none, .none, .none, (.str (Str.ofString "cpy313.smtplib") 282), none, (.ref 66), .none, 0⟩), #[]⟩
noncomputable def T1 (P : Params) : BT := (N (o0 P) (N (o1 P) (N (o29 P) (N (o7 P) (N (o7 P) (N (o28 P) (N (o48 P) .nil .nil) .nil) (N (o7 P) .nil .nil)) (N (o22 P) (N (o32 P) .nil .nil) (N (o8 P) .nil .nil))) (N (o11 P) (N (o18 P) (N (o33 P) (N (o51 P) .nil .nil) .nil) (N (o41 P) .nil .nil)) (N (o26 P) (N (o6 P) .nil .nil) (N (o46 P) .nil .nil)))) (N (o5 P) (N (o9 P) (N (o16 P) (N (o6 P) (N (o49 P) .nil .nil) .nil) (N (o40 P) .nil .nil)) (N (o24 P) (N (o36 P) .nil .nil) (N (o7 P) .nil .nil))) (N (o13 P) (N (o20 P) (N (o35 P) .nil .nil) (N (o43 P) .nil .nil)) (N (o30 P) (N (o38 P) .nil .nil) (N (o7 P) .nil .nil))))) (N (o2 P) (N (o4 P) (N (o8 P) (N (o15 P) (N (o31 P) (N (o7 P) .nil .nil) .nil) (N (o8 P) .nil .nil)) (N (o23 P) (N (o33 P) .nil .nil) (N (o44 P) .nil .nil))) (N (o12 P) (N (o19 P) (N (o34 P) .nil .nil) (N (o42 P) .nil .nil)) (N (o7 P) (N (o32 P) .nil .nil) (N (o47 P) .nil .nil)))) (N (o6 P) (N (o10 P) (N (o17 P) (N (o32 P) (N (o50 P) .nil .nil) .nil) (N (o7 P) .nil .nil)) (N (o25 P) (N (o37 P) .nil .nil) (N (o45 P) .nil .nil))) (N (o14 P) (N (o21 P) (N (o6 P) .nil .nil) (N (o7 P) .nil .nil)) (N (o27 P) (N (o39 P) .nil .nil) (N (o8 P) .nil .nil))))))
noncomputable def o52 (P : Params) : Obj := ⟨(.type "dict"), none, (.dict #[(de P (Str.ofString "__name__") 165 (.str (Str.ofString "cpy313.stringprep") 381)), (de P (Str.ofString "__doc__") 166 .none), (de P (Str.ofString "__package__") 167 .none), (de P (Str.ofString "__loader__") 168 (.builtin "__main__.__loader__#opaque")), (de P (Str.ofString "__spec__") 169 .none), (de P (Str.ofString "__annotations__") 170 (.ref 6)), (de P (Str.ofString "__builtins__") 171 (.ref 4)), (de P (Str.ofString "__file__") 173 (.str (Str.ofString "/claim/cut.py") 172)), (de P (Str.ofString "__cached__") 174 .none), (de P (Str.ofString "_sre") 275 (.ref 12)), (de P (Str.ofString "_twin_re_1") 299 (.ref 36)), (de P (Str.ofString "_twin_re_2") 315 (.ref 41)), (de P (Str.ofString "_twin_re_3") 357 (.ref 46)), (de P (Str.ofString "CRLF") 359 (.str (Str.ofString "\x0d\n") 358)), (de P (Str.ofString "quotedata") 366 (.ref 53)), (de P (Str.ofString "_quote_periods") 373 (.ref 60)), (de P (Str.ofString "_fix_eols") 380 (.ref 67)), (de P (Str.ofString "b1_set") 442 (.ref 75))] 18), #[]⟩
noncomputable def o53 (P : Params) : Obj := ⟨(.type "list"), none, (.seq #[(.int (173) 383), (.int (847) 384), (.int (6150) 385), (.int (6155) 386), (.int (6156) 387), (.int (6157) 388), (.int (8203) 389), (.int (8204) 390), (.int (8205) 391), (.int (8288) 392), (.int (65279) 393)] 0), #[]⟩
noncomputable def o54 (P : Params) : Obj := ⟨(.type "range"), none, (.fields #[(.int (65024) 394), (.int (65040) 395), (.int (1) 396)]), #[]⟩
noncomputable def o55 (P : Params) : Obj := ⟨(.type "list"), none, (.seq #[(.int (65024) 399), (.int (65025) 400), (.int (65026) 401), (.int (65027) 402), (.int (65028) 403), (.int (65029) 404), (.int (65030) 405), (.int (65031) 406), (.int (65032) 407), (.int (65033) 408), (.int (65034) 409), (.int (65035) 410), (.int (65036) 411), (.int (65037) 412), (.int (65038) 413), (.int (65039) 414)] 18), #[]⟩
noncomputable def o56 (P : Params) : Obj := ⟨(.type "range_iterator"), none, (.fields #[(.int (65040) 0), (.int (0) 0), (.int (1) 0)]), #[]⟩
noncomputable def o57 (P : Params) : Obj := ⟨(.type "StopIteration"), none, (.fields #[(.ref 72), .none, .none, .none, (.bool false), .none]), #[]⟩
noncomputable def o58 (P : Params) : Obj := ⟨(.type "list"), none, (.seq #[(.int (173) 383), (.int (847) 384), (.int (6150) 385), (.int (6155) 386), (.int (6156) 387), (.int (6157) 388), (.int (8203) 389), (.int (8204) 390), (.int (8205) 391), (.int (8288) 392), (.int (65279) 393), (.int (65024) 399), (.int (65025) 400), (.int (65026) 401), (.int (65027) 402), (.int (65028) 403), (.int (65029) 404), (.int (65030) 405), (.int (65031) 406), (.int (65032) 407), (.int (65033) 408), (.int (65034) 409), (.int (65035) 410), (.int (65036) 411), (.int (65037) 412), (.int (65038) 413), (.int (65039) 414)] 0), #[]⟩
noncomputable def o59 (P : Params) : Obj := ⟨(.type "set"), none, (.set #[se 65024 399, se 65025 400, se 65026 401, se 65027 402, se 65028 403, se 65029 404, se 6150 385, se 65030 405, se 65031 406, se 65032 407, se 65033 408, se 6155 386, se 6156 387, se 6157 388, se 8203 389, se 8204 390, se 8205 391, se 65034 409, se 65035 410, se 65036 411, se 65037 412, se 65038 413, se 65039 414, se 173 383, se 847 384, se 8288 392, se 65279 393] 29 ⟨127, #[0, 1, 2, 3, 4, 5, 6, 7, 8, 9, 10, 11, 12, 13, 14, 15, 16, 17, 18, 19, 20, 21, 22, 45, 79, 96, 127], #[], 0, !P.followText "set-order", 2, true⟩), #[]⟩
noncomputable def o60 (P : Params) : Obj := ⟨(.type "list_iterator"), none, (.fields #[.none, (.int (27) 0)]), #[]⟩
noncomputable def o61 (P : Params) : Obj := ⟨(.type "StopIteration"), none, (.fields #[(.ref 77), .none, .none, .none, (.bool false), .none]), #[]⟩
noncomputable def T2 (P : Params) : BT := (N (o0 P) (N (o1 P) (N (o52 P) (N (o7 P) (N (o7 P) (N (o28 P) (N (o48 P) .nil .nil) .nil) (N (o7 P) .nil .nil)) (N (o22 P) (N (o32 P) (N (o56 P) .nil .nil) .nil) (N (o8 P) .nil .nil))) (N (o11 P) (N (o18 P) (N (o33 P) (N (o51 P) .nil .nil) .nil) (N (o41 P) .nil .nil)) (N (o26 P) (N (o6 P) (N (o59 P) .nil .nil) .nil) (N (o46 P) .nil .nil)))) (N (o5 P) (N (o9 P) (N (o16 P) (N (o6 P) (N (o49 P) .nil .nil) .nil) (N (o40 P) .nil .nil)) (N (o24 P) (N (o36 P) (N (o57 P) .nil .nil) .nil) (N (o7 P) .nil .nil))) (N (o13 P) (N (o20 P) (N (o35 P) (N (o54 P) .nil .nil) .nil) (N (o43 P) .nil .nil)) (N (o30 P) (N (o38 P) (N (o7 P) .nil .nil) .nil) (N (o7 P) .nil .nil))))) (N (o2 P) (N (o4 P) (N (o8 P) (N (o15 P) (N (o31 P) (N (o7 P) .nil .nil) .nil) (N (o8 P) .nil .nil)) (N (o23 P) (N (o33 P) (N (o7 P) .nil .nil) .nil) (N (o44 P) .nil .nil))) (N (o12 P) (N (o19 P) (N (o34 P) (N (o53 P) .nil .nil) .nil) (N (o42 P) .nil .nil)) (N (o7 P) (N (o32 P) (N (o60 P) .nil .nil) .nil) (N (o47 P) .nil .nil)))) (N (o6 P) (N (o10 P) (N (o17 P) (N (o32 P) (N (o50 P) .nil .nil) .nil) (N (o7 P) .nil .nil)) (N (o25 P) (N (o37 P) (N (o58 P) .nil .nil) .nil) (N (o45 P) .nil .nil))) (N (o14 P) (N (o21 P) (N (o6 P) (N (o55 P) .nil .nil) .nil) (N (o7 P) .nil .nil)) (N (o27 P) (N (o39 P) (N (o61 P) .nil .nil) .nil) (N (o8 P) .nil .nil))))))
noncomputable def o62 (P : Params) : Obj := ⟨(.type "dict"), none, (.dict #[(de P (Str.ofString "__name__") 165 (.str (Str.ofString "cpy313.stringprep") 381)), (de P (Str.ofString "__doc__") 166 .none), (de P (Str.ofString "__package__") 167 .none), (de P (Str.ofString "__loader__") 168 (.builtin "__main__.__loader__#opaque")), (de P (Str.ofString "__spec__") 169 .none), (de P (Str.ofString "__annotations__") 170 (.ref 6)), (de P (Str.ofString "__builtins__") 171 (.ref 4)), (de P (Str.ofString "__file__") 173 (.str (Str.ofString "/claim/cut.py") 172)), (de P (Str.ofString "__cached__") 174 .none), (de P (Str.ofString "_sre") 275 (.ref 12)), (de P (Str.ofString "_twin_re_1") 299 (.ref 36)), (de P (Str.ofString "_twin_re_2") 315 (.ref 41)), (de P (Str.ofString "_twin_re_3") 357 (.ref 46)), (de P (Str.ofString "CRLF") 359 (.str (Str.ofString "\x0d\n") 358)), (de P (Str.ofString "quotedata") 366 (.ref 53)), (de P (Str.ofString "_quote_periods") 373 (.ref 60)), (de P (Str.ofString "_fix_eols") 380 (.ref 67)), (de P (Str.ofString "b1_set") 442 (.ref 75)), (de P (Str.ofString "in_table_b1") 449 (.ref 85)), (de P (Str.ofString "in_table_c11") 456 (.ref 92)), (de P (Str.ofString "in_table_c4") 464 (.ref 99))] 21), #[]⟩
noncomputable def o63 (P : Params) : Obj := ⟨.none, none, (.fields #[(.int (7) 0), (.int (0) 0), (.ref 52), (.int (9) 0), (.int (0) 0), (.ref 59), (.int (11) 0), (.int (0) 0), (.ref 66), (.int (15) 0), (.int (0) 0), (.ref 84), (.int (17) 0), (.int (0) 0), (.ref 91), (.int (19) 0), (.int (0) 0), (.ref 98)]), #[]⟩
noncomputable def o64 (P : Params) : Obj := ⟨(.type "tuple"), none, (.seq #[(.str (Str.ofString "code") 446)] 0), #[]⟩
noncomputable def o65 (P : Params) : Obj := ⟨.none, none, (.func ⟨(Str.ofString "in_table_b1"), (Str.ofString "in_table_b1"), fnP (st 10), .stmts (fnB (st 10)), fnS (st 10), 0, [], .none, .none, .none, .none, none, .none, .none, 0⟩), #[]⟩
noncomputable def o66 (P : Params) : Obj := ⟨(.type "code"), none, (.fields #[(.str (Str.ofString "in_table_b1") 443), (.str (Str.ofString "in_table_b1") 444), (.str (Str.ofString "/claim/cut.py") 445), (.int (15) 0), (.int (1) 0), (.int (0) 0), (.int (0) 0), (.int (3) 0), (.ref 79), (.bool true), (.int (276) 0), (.ref 80), .none, (.ref 81), (.ref 82), (.ref 83), (.int (447) 0), (.int (15) 0), (.str (Str.ofString "/claim/cut.py") 448)]), #[]⟩
noncomputable def o67 (P : Params) : Obj := ⟨(.type "function"), none, (.func ⟨(Str.ofString "in_table_b1"), (Str.ofString "in_table_b1"), fnP (st 10), .stmts (fnB (st 10)), fnS (st 10), 3, [], .none, .none, .none, (.str (Str.ofString "cpy313.stringprep") 381), none, (.ref 84), .none, 0⟩), #[]⟩
noncomputable def o68 (P : Params) : Obj := ⟨(.type "tuple"), none, (.seq #[(.str (Str.ofString "code") 453)] 0), #[]⟩
noncomputable def o69 (P : Params) : Obj := ⟨.none, none, (.func ⟨(Str.ofString "in_table_c11"), (Str.ofString "in_table_c11"), fnP (st 11), .stmts (fnB (st 11)), fnS (st 11), 0, [], .none, .none, .none, .none, none, .none, .none, 0⟩), #[]⟩
noncomputable def o70 (P : Params) : Obj := ⟨(.type "code"), none, (.fields #[(.str (Str.ofString "in_table_c11") 450), (.str (Str.ofString "in_table_c11") 451), (.str (Str.ofString "/claim/cut.py") 452), (.int (17) 0), (.int (1) 0), (.int (0) 0), (.int (0) 0), (.int (3) 0), (.ref 86), (.bool true), (.int (276) 0), (.ref 87), .none, (.ref 88), (.ref 89), (.ref 90), (.int (454) 0), (.int (17) 0), (.str (Str.ofString "/claim/cut.py") 455)]), #[]⟩
noncomputable def o71 (P : Params) : Obj := ⟨(.type "function"), none, (.func ⟨(Str.ofString "in_table_c11"), (Str.ofString "in_table_c11"), fnP (st 11), .stmts (fnB (st 11)), fnS (st 11), 3, [], .none, .none, .none, (.str (Str.ofString "cpy313.stringprep") 381), none, (.ref 91), .none, 0⟩), #[]⟩
noncomputable def o72 (P : Params) : Obj := ⟨(.type "tuple"), none, (.seq #[(.str (Str.ofString "code") 460), (.str (Str.ofString "c") 461)] 0), #[]⟩
noncomputable def o73 (P : Params) : Obj := ⟨.none, none, (.func ⟨(Str.ofString "in_table_c4"), (Str.ofString "in_table_c4"), fnP (st 12), .stmts (fnB (st 12)), fnS (st 12), 0, [], .none, .none, .none, .none, none, .none, .none, 0⟩), #[]⟩
noncomputable def o74 (P : Params) : Obj := ⟨(.type "code"), none, (.fields #[(.str (Str.ofString "in_table_c4") 457), (.str (Str.ofString "in_table_c4") 458), (.str (Str.ofString "/claim/cut.py") 459), (.int (19) 0), (.int (1) 0), (.int (0) 0), (.int (0) 0), (.int (3) 0), (.ref 93), (.bool true), (.int (276) 0), (.ref 94), .none, (.ref 95), (.ref 96), (.ref 97), (.int (462) 0), (.int (19) 0), (.str (Str.ofString "/claim/cut.py") 463)]), #[]⟩
noncomputable def o75 (P : Params) : Obj := ⟨(.type "function"), none, (.func ⟨(Str.ofString "in_table_c4"), (Str.ofString "in_table_c4"), fnP (st 12), .stmts (fnB (st 12)), fnS (st 12), 3, [], .none, .none, .none, (.str (Str.ofString "cpy313.stringprep") 381), none, (.ref 98), .none, 0⟩), #[]⟩
noncomputable def T3 (P : Params) : BT := (N (o0 P) (N (o1 P) (N (o62 P) (N (o7 P) (N (o7 P) (N (o28 P) (N (o48 P) .nil .nil) (N (o72 P) .nil .nil)) (N (o7 P) (N (o7 P) .nil .nil) .nil)) (N (o22 P) (N (o32 P) (N (o56 P) .nil .nil) .nil) (N (o8 P) (N (o8 P) .nil .nil) .nil))) (N (o11 P) (N (o18 P) (N (o33 P) (N (o51 P) .nil .nil) (N (o75 P) .nil .nil)) (N (o41 P) (N (o65 P) .nil .nil) .nil)) (N (o26 P) (N (o6 P) (N (o59 P) .nil .nil) .nil) (N (o46 P) (N (o70 P) .nil .nil) .nil)))) (N (o5 P) (N (o9 P) (N (o16 P) (N (o6 P) (N (o49 P) .nil .nil) (N (o73 P) .nil .nil)) (N (o40 P) (N (o64 P) .nil .nil) .nil)) (N (o24 P) (N (o36 P) (N (o57 P) .nil .nil) .nil) (N (o7 P) (N (o7 P) .nil .nil) .nil))) (N (o13 P) (N (o20 P) (N (o35 P) (N (o54 P) .nil .nil) .nil) (N (o43 P) (N (o67 P) .nil .nil) .nil)) (N (o63 P) (N (o38 P) (N (o7 P) .nil .nil) .nil) (N (o7 P) (N (o7 P) .nil .nil) .nil))))) (N (o2 P) (N (o4 P) (N (o8 P) (N (o15 P) (N (o31 P) (N (o7 P) .nil .nil) (N (o7 P) .nil .nil)) (N (o8 P) (N (o8 P) .nil .nil) .nil)) (N (o23 P) (N (o33 P) (N (o7 P) .nil .nil) .nil) (N (o44 P) (N (o68 P) .nil .nil) .nil))) (N (o12 P) (N (o19 P) (N (o34 P) (N (o53 P) .nil .nil) .nil) (N (o42 P) (N (o66 P) .nil .nil) .nil)) (N (o7 P) (N (o32 P) (N (o60 P) .nil .nil) .nil) (N (o47 P) (N (o71 P) .nil .nil) .nil)))) (N (o6 P) (N (o10 P) (N (o17 P) (N (o32 P) (N (o50 P) .nil .nil) (N (o74 P) .nil .nil)) (N (o7 P) (N (o7 P) .nil .nil) .nil)) (N (o25 P) (N (o37 P) (N (o58 P) .nil .nil) .nil) (N (o45 P) (N (o69 P) .nil .nil) .nil))) (N (o14 P) (N (o21 P) (N (o6 P) (N (o55 P) .nil .nil) .nil) (N (o7 P) (N (o7 P) .nil .nil) .nil)) (N (o27 P) (N (o39 P) (N (o61 P) .nil .nil) .nil) (N (o8 P) (N (o8 P) .nil .nil) .nil))))))
noncomputable def o76 (P : Params) : Obj := ⟨(.type "dict"), none, (.dict #[(de P (Str.ofString "__name__") 165 (.str (Str.ofString "cpy313.stringprep") 381)), (de P (Str.ofString "__doc__") 166 .none), (de P (Str.ofString "__package__") 167 .none), (de P (Str.ofString "__loader__") 168 (.builtin "__main__.__loader__#opaque")), (de P (Str.ofString "__spec__") 169 .none), (de P (Str.ofString "__annotations__") 170 (.ref 6)), (de P (Str.ofString "__builtins__") 171 (.ref 4)), (de P (Str.ofString "__file__") 173 (.str (Str.ofString "/claim/cut.py") 172)), (de P (Str.ofString "__cached__") 174 .none), (de P (Str.ofString "_sre") 275 (.ref 12)), (de P (Str.ofString "_twin_re_1") 299 (.ref 36)), (de P (Str.ofString "_twin_re_2") 315 (.ref 41)), (de P (Str.ofString "_twin_re_3") 357 (.ref 46)), (de P (Str.ofString "CRLF") 359 (.str (Str.ofString "\x0d\n") 358)), (de P (Str.ofString "quotedata") 366 (.ref 53)), (de P (Str.ofString "_quote_periods") 373 (.ref 60)), (de P (Str.ofString "_fix_eols") 380 (.ref 67)), (de P (Str.ofString "b1_set") 442 (.ref 75)), (de P (Str.ofString "in_table_b1") 449 (.ref 85)), (de P (Str.ofString "in_table_c11") 456 (.ref 92)), (de P (Str.ofString "in_table_c4") 464 (.ref 99)), (de P (Str.ofString "c6_set") 478 (.ref 101)), (de P (Str.ofString "in_table_c6") 485 (.ref 111))] 23), #[]⟩
noncomputable def o77 (P : Params) : Obj := ⟨.none, none, (.fields #[(.int (7) 0), (.int (0) 0), (.ref 52), (.int (9) 0), (.int (0) 0), (.ref 59), (.int (11) 0), (.int (0) 0), (.ref 66), (.int (15) 0), (.int (0) 0), (.ref 84), (.int (17) 0), (.int (0) 0), (.ref 91), (.int (19) 0), (.int (0) 0), (.ref 98), (.int (27) 0), (.int (0) 0), (.ref 110)]), #[]⟩
noncomputable def o78 (P : Params) : Obj := ⟨(.type "range"), none, (.fields #[(.int (65529) 465), (.int (65534) 466), (.int (1) 467)]), #[]⟩
noncomputable def o79 (P : Params) : Obj := ⟨(.type "set"), none, (.set #[se 65529 468, se 65530 470, se 65531 472, se 65532 474, se 65533 476] 6 ⟨31, #[25, 26, 27, 28, 29], #[], 0, !P.followText "set-order", 1, true⟩), #[]⟩
noncomputable def o80 (P : Params) : Obj := ⟨(.type "range_iterator"), none, (.fields #[(.int (65534) 0), (.int (0) 0), (.int (1) 0)]), #[]⟩
noncomputable def o81 (P : Params) : Obj := ⟨(.type "StopIteration"), none, (.fields #[(.ref 103), .none, .none, .none, (.bool false), .none]), #[]⟩
noncomputable def o82 (P : Params) : Obj := ⟨(.type "tuple"), none, (.seq #[(.str (Str.ofString "code") 482)] 0), #[]⟩
noncomputable def o83 (P : Params) : Obj := ⟨.none, none, (.func ⟨(Str.ofString "in_table_c6"), (Str.ofString "in_table_c6"), fnP (st 14), .stmts (fnB (st 14)), fnS (st 14), 0, [], .none, .none, .none, .none, none, .none, .none, 0⟩), #[]⟩
noncomputable def o84 (P : Params) : Obj := ⟨(.type "code"), none, (.fields #[(.str (Str.ofString "in_table_c6") 479), (.str (Str.ofString "in_table_c6") 480), (.str (Str.ofString "/claim/cut.py") 481), (.int (27) 0), (.int (1) 0), (.int (0) 0), (.int (0) 0), (.int (3) 0), (.ref 105), (.bool true), (.int (276) 0), (.ref 106), .none, (.ref 107), (.ref 108), (.ref 109), (.int (483) 0), (.int (27) 0), (.str (Str.ofString "/claim/cut.py") 484)]), #[]⟩
noncomputable def o85 (P : Params) : Obj := ⟨(.type "function"), none, (.func ⟨(Str.ofString "in_table_c6"), (Str.ofString "in_table_c6"), fnP (st 14), .stmts (fnB (st 14)), fnS (st 14), 3, [], .none, .none, .none, (.str (Str.ofString "cpy313.stringprep") 381), none, (.ref 110), .none, 0⟩), #[]⟩
noncomputable def T4 (P : Params) : BT := (N (o0 P) (N (o1 P) (N (o76 P) (N (o7 P) (N (o7 P) (N (o28 P) (N (o48 P) .nil .nil) (N (o72 P) .nil .nil)) (N (o7 P) (N (o7 P) .nil .nil) (N (o85 P) .nil .nil))) (N (o22 P) (N (o32 P) (N (o56 P) .nil .nil) (N (o7 P) .nil .nil)) (N (o8 P) (N (o8 P) .nil .nil) .nil))) (N (o11 P) (N (o18 P) (N (o33 P) (N (o51 P) .nil .nil) (N (o75 P) .nil .nil)) (N (o41 P) (N (o65 P) .nil .nil) .nil)) (N (o26 P) (N (o6 P) (N (o59 P) .nil .nil) (N (o82 P) .nil .nil)) (N (o46 P) (N (o70 P) .nil .nil) .nil)))) (N (o5 P) (N (o9 P) (N (o16 P) (N (o6 P) (N (o49 P) .nil .nil) (N (o73 P) .nil .nil)) (N (o40 P) (N (o64 P) .nil .nil) .nil)) (N (o24 P) (N (o36 P) (N (o57 P) .nil .nil) (N (o7 P) .nil .nil)) (N (o7 P) (N (o7 P) .nil .nil) .nil))) (N (o13 P) (N (o20 P) (N (o35 P) (N (o54 P) .nil .nil) (N (o79 P) .nil .nil)) (N (o43 P) (N (o67 P) .nil .nil) .nil)) (N (o77 P) (N (o38 P) (N (o7 P) .nil .nil) (N (o83 P) .nil .nil)) (N (o7 P) (N (o7 P) .nil .nil) .nil))))) (N (o2 P) (N (o4 P) (N (o8 P) (N (o15 P) (N (o31 P) (N (o7 P) .nil .nil) (N (o7 P) .nil .nil)) (N (o8 P) (N (o8 P) .nil .nil) .nil)) (N (o23 P) (N (o33 P) (N (o7 P) .nil .nil) (N (o81 P) .nil .nil)) (N (o44 P) (N (o68 P) .nil .nil) .nil))) (N (o12 P) (N (o19 P) (N (o34 P) (N (o53 P) .nil .nil) (N (o78 P) .nil .nil)) (N (o42 P) (N (o66 P) .nil .nil) .nil)) (N (o7 P) (N (o32 P) (N (o60 P) .nil .nil) (N (o7 P) .nil .nil)) (N (o47 P) (N (o71 P) .nil .nil) .nil)))) (N (o6 P) (N (o10 P) (N (o17 P) (N (o32 P) (N (o50 P) .nil .nil) (N (o74 P) .nil .nil)) (N (o7 P) (N (o7 P) .nil .nil) .nil)) (N (o25 P) (N (o37 P) (N (o58 P) .nil .nil) (N (o8 P) .nil .nil)) (N (o45 P) (N (o69 P) .nil .nil) .nil))) (N (o14 P) (N (o21 P) (N (o6 P) (N (o55 P) .nil .nil) (N (o80 P) .nil .nil)) (N (o7 P) (N (o7 P) .nil .nil) .nil)) (N (o27 P) (N (o39 P) (N (o61 P) .nil .nil) (N (o84 P) .nil .nil)) (N (o8 P) (N (o8 P) .nil .nil) .nil))))))
noncomputable def o86 (P : Params) : Obj := ⟨(.type "dict"), none, (.dict #[(de P (Str.ofString "__name__") 165 (.str (Str.ofString "cpy313.stringprep") 381)), (de P (Str.ofString "__doc__") 166 .none), (de P (Str.ofString "__package__") 167 .none), (de P (Str.ofString "__loader__") 168 (.builtin "__main__.__loader__#opaque")), (de P (Str.ofString "__spec__") 169 .none), (de P (Str.ofString "__annotations__") 170 (.ref 6)), (de P (Str.ofString "__builtins__") 171 (.ref 4)), (de P (Str.ofString "__file__") 173 (.str (Str.ofString "/claim/cut.py") 172)), (de P (Str.ofString "__cached__") 174 .none), (de P (Str.ofString "_sre") 275 (.ref 12)), (de P (Str.ofString "_twin_re_1") 299 (.ref 36)), (de P (Str.ofString "_twin_re_2") 315 (.ref 41)), (de P (Str.ofString "_twin_re_3") 357 (.ref 46)), (de P (Str.ofString "CRLF") 359 (.str (Str.ofString "\x0d\n") 358)), (de P (Str.ofString "quotedata") 366 (.ref 53)), (de P (Str.ofString "_quote_periods") 373 (.ref 60)), (de P (Str.ofString "_fix_eols") 380 (.ref 67)), (de P (Str.ofString "b1_set") 442 (.ref 75)), (de P (Str.ofString "in_table_b1") 449 (.ref 85)), (de P (Str.ofString "in_table_c11") 456 (.ref 92)), (de P (Str.ofString "in_table_c4") 464 (.ref 99)), (de P (Str.ofString "c6_set") 478 (.ref 101)), (de P (Str.ofString "in_table_c6") 485 (.ref 111)), (de P (Str.ofString "c7_set") 513 (.ref 113)), (de P (Str.ofString "in_table_c7") 520 (.ref 123))] 25), #[]⟩
noncomputable def o87 (P : Params) : Obj := ⟨.none, none, (.fields #[(.int (7) 0), (.int (0) 0), (.ref 52), (.int (9) 0), (.int (0) 0), (.ref 59), (.int (11) 0), (.int (0) 0), (.ref 66), (.int (15) 0), (.int (0) 0), (.ref 84), (.int (17) 0), (.int (0) 0), (.ref 91), (.int (19) 0), (.int (0) 0), (.ref 98), (.int (27) 0), (.int (0) 0), (.ref 110), (.int (30) 0), (.int (0) 0), (.ref 122)]), #[]⟩
noncomputable def o88 (P : Params) : Obj := ⟨(.type "range"), none, (.fields #[(.int (12272) 486), (.int (12284) 487), (.int (1) 488)]), #[]⟩
noncomputable def o89 (P : Params) : Obj := ⟨(.type "set"), none, (.set #[se 12272 489, se 12273 491, se 12274 493, se 12275 495, se 12276 497, se 12277 499, se 12278 501, se 12279 503, se 12280 505, se 12281 507, se 12282 509, se 12283 511] 13 ⟨31, #[16, 17, 18, 19, 20, 21, 22, 23, 24, 25, 26, 27], #[], 0, !P.followText "set-order", 1, true⟩), #[]⟩
noncomputable def o90 (P : Params) : Obj := ⟨(.type "range_iterator"), none, (.fields #[(.int (12284) 0), (.int (0) 0), (.int (1) 0)]), #[]⟩
noncomputable def o91 (P : Params) : Obj := ⟨(.type "StopIteration"), none, (.fields #[(.ref 115), .none, .none, .none, (.bool false), .none]), #[]⟩
noncomputable def o92 (P : Params) : Obj := ⟨(.type "tuple"), none, (.seq #[(.str (Str.ofString "code") 517)] 0), #[]⟩
noncomputable def o93 (P : Params) : Obj := ⟨.none, none, (.func ⟨(Str.ofString "in_table_c7"), (Str.ofString "in_table_c7"), fnP (st 16), .stmts (fnB (st 16)), fnS (st 16), 0, [], .none, .none, .none, .none, none, .none, .none, 0⟩), #[]⟩
noncomputable def o94 (P : Params) : Obj := ⟨(.type "code"), none, (.fields #[(.str (Str.ofString "in_table_c7") 514), (.str (Str.ofString "in_table_c7") 515), (.str (Str.ofString "/claim/cut.py") 516), (.int (30) 0), (.int (1) 0), (.int (0) 0), (.int (0) 0), (.int (3) 0), (.ref 117), (.bool true), (.int (276) 0), (.ref 118), .none, (.ref 119), (.ref 120), (.ref 121), (.int (518) 0), (.int (30) 0), (.str (Str.ofString "/claim/cut.py") 519)]), #[]⟩
noncomputable def o95 (P : Params) : Obj := ⟨(.type "function"), none, (.func ⟨(Str.ofString "in_table_c7"), (Str.ofString "in_table_c7"), fnP (st 16), .stmts (fnB (st 16)), fnS (st 16), 3, [], .none, .none, .none, (.str (Str.ofString "cpy313.stringprep") 381), none, (.ref 122), .none, 0⟩), #[]⟩
noncomputable def T5 (P : Params) : BT := (N (o0 P) (N (o1 P) (N (o86 P) (N (o7 P) (N (o7 P) (N (o28 P) (N (o48 P) .nil .nil) (N (o72 P) .nil .nil)) (N (o7 P) (N (o7 P) .nil .nil) (N (o85 P) .nil .nil))) (N (o22 P) (N (o32 P) (N (o56 P) .nil .nil) (N (o7 P) .nil .nil)) (N (o8 P) (N (o8 P) .nil .nil) (N (o92 P) .nil .nil)))) (N (o11 P) (N (o18 P) (N (o33 P) (N (o51 P) .nil .nil) (N (o75 P) .nil .nil)) (N (o41 P) (N (o65 P) .nil .nil) (N (o7 P) .nil .nil))) (N (o26 P) (N (o6 P) (N (o59 P) .nil .nil) (N (o82 P) .nil .nil)) (N (o46 P) (N (o70 P) .nil .nil) (N (o95 P) .nil .nil))))) (N (o5 P) (N (o9 P) (N (o16 P) (N (o6 P) (N (o49 P) .nil .nil) (N (o73 P) .nil .nil)) (N (o40 P) (N (o64 P) .nil .nil) (N (o89 P) .nil .nil))) (N (o24 P) (N (o36 P) (N (o57 P) .nil .nil) (N (o7 P) .nil .nil)) (N (o7 P) (N (o7 P) .nil .nil) (N (o93 P) .nil .nil)))) (N (o13 P) (N (o20 P) (N (o35 P) (N (o54 P) .nil .nil) (N (o79 P) .nil .nil)) (N (o43 P) (N (o67 P) .nil .nil) (N (o7 P) .nil .nil))) (N (o87 P) (N (o38 P) (N (o7 P) .nil .nil) (N (o83 P) .nil .nil)) (N (o7 P) (N (o7 P) .nil .nil) .nil))))) (N (o2 P) (N (o4 P) (N (o8 P) (N (o15 P) (N (o31 P) (N (o7 P) .nil .nil) (N (o7 P) .nil .nil)) (N (o8 P) (N (o8 P) .nil .nil) (N (o88 P) .nil .nil))) (N (o23 P) (N (o33 P) (N (o7 P) .nil .nil) (N (o81 P) .nil .nil)) (N (o44 P) (N (o68 P) .nil .nil) (N (o7 P) .nil .nil)))) (N (o12 P) (N (o19 P) (N (o34 P) (N (o53 P) .nil .nil) (N (o78 P) .nil .nil)) (N (o42 P) (N (o66 P) .nil .nil) (N (o91 P) .nil .nil))) (N (o7 P) (N (o32 P) (N (o60 P) .nil .nil) (N (o7 P) .nil .nil)) (N (o47 P) (N (o71 P) .nil .nil) .nil)))) (N (o6 P) (N (o10 P) (N (o17 P) (N (o32 P) (N (o50 P) .nil .nil) (N (o74 P) .nil .nil)) (N (o7 P) (N (o7 P) .nil .nil) (N (o90 P) .nil .nil))) (N (o25 P) (N (o37 P) (N (o58 P) .nil .nil) (N (o8 P) .nil .nil)) (N (o45 P) (N (o69 P) .nil .nil) (N (o94 P) .nil .nil)))) (N (o14 P) (N (o21 P) (N (o6 P) (N (o55 P) .nil .nil) (N (o80 P) .nil .nil)) (N (o7 P) (N (o7 P) .nil .nil) (N (o8 P) .nil .nil))) (N (o27 P) (N (o39 P) (N (o61 P) .nil .nil) (N (o84 P) .nil .nil)) (N (o8 P) (N (o8 P) .nil .nil) .nil))))))
noncomputable def o96 (P : Params) : Obj := ⟨(.type "dict"), none, (.dict #[(de P (Str.ofString "__name__") 165 (.str (Str.ofString "cpy313.stringprep") 381)), (de P (Str.ofString "__doc__") 166 .none), (de P (Str.ofString "__package__") 167 .none), (de P (Str.ofString "__loader__") 168 (.builtin "__main__.__loader__#opaque")), (de P (Str.ofString "__spec__") 169 .none), (de P (Str.ofString "__annotations__") 170 (.ref 6)), (de P (Str.ofString "__builtins__") 171 (.ref 4)), (de P (Str.ofString "__file__") 173 (.str (Str.ofString "/claim/cut.py") 172)), (de P (Str.ofString "__cached__") 174 .none), (de P (Str.ofString "_sre") 275 (.ref 12)), (de P (Str.ofString "_twin_re_1") 299 (.ref 36)), (de P (Str.ofString "_twin_re_2") 315 (.ref 41)), (de P (Str.ofString "_twin_re_3") 357 (.ref 46)), (de P (Str.ofString "CRLF") 359 (.str (Str.ofString "\x0d\n") 358)), (de P (Str.ofString "quotedata") 366 (.ref 53)), (de P (Str.ofString "_quote_periods") 373 (.ref 60)), (de P (Str.ofString "_fix_eols") 380 (.ref 67)), (de P (Str.ofString "b1_set") 442 (.ref 75)), (de P (Str.ofString "in_table_b1") 449 (.ref 85)), (de P (Str.ofString "in_table_c11") 456 (.ref 92)), (de P (Str.ofString "in_table_c4") 464 (.ref 99)), (de P (Str.ofString "c6_set") 478 (.ref 101)), (de P (Str.ofString "in_table_c6") 485 (.ref 111)), (de P (Str.ofString "c7_set") 513 (.ref 113)), (de P (Str.ofString "in_table_c7") 520 (.ref 123)), (de P (Str.ofString "c8_set") 561 (.ref 137))] 26), #[]⟩
noncomputable def o97 (P : Params) : Obj := ⟨(.type "list"), none, (.seq #[(.int (832) 521), (.int (833) 522), (.int (8206) 523), (.int (8207) 524)] 0), #[]⟩
noncomputable def o98 (P : Params) : Obj := ⟨(.type "range"), none, (.fields #[(.int (8234) 525), (.int (8239) 526), (.int (1) 527)]), #[]⟩
noncomputable def o99 (P : Params) : Obj := ⟨(.type "list"), none, (.seq #[(.int (8234) 530), (.int (8235) 531), (.int (8236) 532), (.int (8237) 533), (.int (8238) 534)] 7), #[]⟩
noncomputable def o100 (P : Params) : Obj := ⟨(.type "range_iterator"), none, (.fields #[(.int (8239) 0), (.int (0) 0), (.int (1) 0)]), #[]⟩
noncomputable def o101 (P : Params) : Obj := ⟨(.type "StopIteration"), none, (.fields #[(.ref 128), .none, .none, .none, (.bool false), .none]), #[]⟩
noncomputable def o102 (P : Params) : Obj := ⟨(.type "list"), none, (.seq #[(.int (832) 521), (.int (833) 522), (.int (8206) 523), (.int (8207) 524), (.int (8234) 530), (.int (8235) 531), (.int (8236) 532), (.int (8237) 533), (.int (8238) 534)] 0), #[]⟩
noncomputable def o103 (P : Params) : Obj := ⟨(.type "range"), none, (.fields #[(.int (8298) 535), (.int (8304) 536), (.int (1) 537)]), #[]⟩
noncomputable def o104 (P : Params) : Obj := ⟨(.type "list"), none, (.seq #[(.int (8298) 540), (.int (8299) 541), (.int (8300) 542), (.int (8301) 543), (.int (8302) 544), (.int (8303) 545)] 8), #[]⟩
noncomputable def o105 (P : Params) : Obj := ⟨(.type "range_iterator"), none, (.fields #[(.int (8304) 0), (.int (0) 0), (.int (1) 0)]), #[]⟩
noncomputable def o106 (P : Params) : Obj := ⟨(.type "StopIteration"), none, (.fields #[(.ref 134), .none, .none, .none, (.bool false), .none]), #[]⟩
noncomputable def o107 (P : Params) : Obj := ⟨(.type "list"), none, (.seq #[(.int (832) 521), (.int (833) 522), (.int (8206) 523), (.int (8207) 524), (.int (8234) 530), (.int (8235) 531), (.int (8236) 532), (.int (8237) 533), (.int (8238) 534), (.int (8298) 540), (.int (8299) 541), (.int (8300) 542), (.int (8301) 543), (.int (8302) 544), (.int (8303) 545)] 0), #[]⟩
noncomputable def o108 (P : Params) : Obj := ⟨(.type "set"), none, (.set #[se 832 521, se 833 522, se 8234 530, se 8235 531, se 8236 532, se 8237 533, se 8206 523, se 8207 524, se 8238 534, se 8298 540, se 8299 541, se 8300 542, se 8301 543, se 8302 544, se 8303 545] 16 ⟨31, #[0, 1, 10, 11, 12, 13, 14, 15, 16, 17, 18, 19, 20, 21, 22], #[], 0, !P.followText "set-order", 1, true⟩), #[]⟩
noncomputable def o109 (P : Params) : Obj := ⟨(.type "list_iterator"), none, (.fields #[.none, (.int (15) 0)]), #[]⟩
noncomputable def o110 (P : Params) : Obj := ⟨(.type "StopIteration"), none, (.fields #[(.ref 139), .none, .none, .none, (.bool false), .none]), #[]⟩
noncomputable def T6 (P : Params) : BT := (N (o0 P) (N (o1 P) (N (o96 P) (N (o7 P) (N (o7 P) (N (o28 P) (N (o48 P) (N (o100 P) .nil .nil) .nil) (N (o72 P) .nil .nil)) (N (o7 P) (N (o7 P) .nil .nil) (N (o85 P) .nil .nil))) (N (o22 P) (N (o32 P) (N (o56 P) (N (o106 P) .nil .nil) .nil) (N (o7 P) .nil .nil)) (N (o8 P) (N (o8 P) .nil .nil) (N (o92 P) .nil .nil)))) (N (o11 P) (N (o18 P) (N (o33 P) (N (o51 P) (N (o103 P) .nil .nil) .nil) (N (o75 P) .nil .nil)) (N (o41 P) (N (o65 P) .nil .nil) (N (o7 P) .nil .nil))) (N (o26 P) (N (o6 P) (N (o59 P) (N (o7 P) .nil .nil) .nil) (N (o82 P) .nil .nil)) (N (o46 P) (N (o70 P) .nil .nil) (N (o95 P) .nil .nil))))) (N (o5 P) (N (o9 P) (N (o16 P) (N (o6 P) (N (o49 P) (N (o101 P) .nil .nil) .nil) (N (o73 P) .nil .nil)) (N (o40 P) (N (o64 P) .nil .nil) (N (o89 P) .nil .nil))) (N (o24 P) (N (o36 P) (N (o57 P) (N (o108 P) .nil .nil) .nil) (N (o7 P) .nil .nil)) (N (o7 P) (N (o7 P) .nil .nil) (N (o93 P) .nil .nil)))) (N (o13 P) (N (o20 P) (N (o35 P) (N (o54 P) (N (o105 P) .nil .nil) .nil) (N (o79 P) .nil .nil)) (N (o43 P) (N (o67 P) .nil .nil) (N (o7 P) .nil .nil))) (N (o87 P) (N (o38 P) (N (o7 P) .nil .nil) (N (o83 P) .nil .nil)) (N (o7 P) (N (o7 P) .nil .nil) (N (o98 P) .nil .nil)))))) (N (o2 P) (N (o4 P) (N (o8 P) (N (o15 P) (N (o31 P) (N (o7 P) (N (o7 P) .nil .nil) .nil) (N (o7 P) .nil .nil)) (N (o8 P) (N (o8 P) .nil .nil) (N (o88 P) .nil .nil))) (N (o23 P) (N (o33 P) (N (o7 P) (N (o107 P) .nil .nil) .nil) (N (o81 P) .nil .nil)) (N (o44 P) (N (o68 P) .nil .nil) (N (o7 P) .nil .nil)))) (N (o12 P) (N (o19 P) (N (o34 P) (N (o53 P) (N (o104 P) .nil .nil) .nil) (N (o78 P) .nil .nil)) (N (o42 P) (N (o66 P) .nil .nil) (N (o91 P) .nil .nil))) (N (o7 P) (N (o32 P) (N (o60 P) (N (o110 P) .nil .nil) .nil) (N (o7 P) .nil .nil)) (N (o47 P) (N (o71 P) .nil .nil) (N (o97 P) .nil .nil))))) (N (o6 P) (N (o10 P) (N (o17 P) (N (o32 P) (N (o50 P) (N (o102 P) .nil .nil) .nil) (N (o74 P) .nil .nil)) (N (o7 P) (N (o7 P) .nil .nil) (N (o90 P) .nil .nil))) (N (o25 P) (N (o37 P) (N (o58 P) (N (o109 P) .nil .nil) .nil) (N (o8 P) .nil .nil)) (N (o45 P) (N (o69 P) .nil .nil) (N (o94 P) .nil .nil)))) (N (o14 P) (N (o21 P) (N (o6 P) (N (o55 P) (N (o7 P) .nil .nil) .nil) (N (o80 P) .nil .nil)) (N (o7 P) (N (o7 P) .nil .nil) (N (o8 P) .nil .nil))) (N (o27 P) (N (o39 P) (N (o61 P) .nil .nil) (N (o84 P) .nil .nil)) (N (o8 P) (N (o8 P) .nil .nil) (N (o99 P) .nil .nil)))))))
noncomputable def o111 (P : Params) : Obj := ⟨(.type "dict"), none, (.dict #[(de P (Str.ofString "__name__") 165 (.str (Str.ofString "cpy313.stringprep") 381)), (de P (Str.ofString "__doc__") 166 .none), (de P (Str.ofString "__package__") 167 .none), (de P (Str.ofString "__loader__") 168 (.builtin "__main__.__loader__#opaque")), (de P (Str.ofString "__spec__") 169 .none), (de P (Str.ofString "__annotations__") 170 (.ref 6)), (de P (Str.ofString "__builtins__") 171 (.ref 4)), (de P (Str.ofString "__file__") 173 (.str (Str.ofString "/claim/cut.py") 172)), (de P (Str.ofString "__cached__") 174 .none), (de P (Str.ofString "_sre") 275 (.ref 12)), (de P (Str.ofString "_twin_re_1") 299 (.ref 36)), (de P (Str.ofString "_twin_re_2") 315 (.ref 41)), (de P (Str.ofString "_twin_re_3") 357 (.ref 46)), (de P (Str.ofString "CRLF") 359 (.str (Str.ofString "\x0d\n") 358)), (de P (Str.ofString "quotedata") 366 (.ref 53)), (de P (Str.ofString "_quote_periods") 373 (.ref 60)), (de P (Str.ofString "_fix_eols") 380 (.ref 67)), (de P (Str.ofString "b1_set") 442 (.ref 75)), (de P (Str.ofString "in_table_b1") 449 (.ref 85)), (de P (Str.ofString "in_table_c11") 456 (.ref 92)), (de P (Str.ofString "in_table_c4") 464 (.ref 99)), (de P (Str.ofString "c6_set") 478 (.ref 101)), (de P (Str.ofString "in_table_c6") 485 (.ref 111)), (de P (Str.ofString "c7_set") 513 (.ref 113)), (de P (Str.ofString "in_table_c7") 520 (.ref 123)), (de P (Str.ofString "c8_set") 561 (.ref 137)), (de P (Str.ofString "in_table_c8") 568 (.ref 147))] 27), #[]⟩
noncomputable def o112 (P : Params) : Obj := ⟨.none, none, (.fields #[(.int (7) 0), (.int (0) 0), (.ref 52), (.int (9) 0), (.int (0) 0), (.ref 59), (.int (11) 0), (.int (0) 0), (.ref 66), (.int (15) 0), (.int (0) 0), (.ref 84), (.int (17) 0), (.int (0) 0), (.ref 91), (.int (19) 0), (.int (0) 0), (.ref 98), (.int (27) 0), (.int (0) 0), (.ref 110), (.int (30) 0), (.int (0) 0), (.ref 122), (.int (33) 0), (.int (0) 0), (.ref 146)]), #[]⟩
noncomputable def o113 (P : Params) : Obj := ⟨(.type "tuple"), none, (.seq #[(.str (Str.ofString "code") 565)] 0), #[]⟩
noncomputable def o114 (P : Params) : Obj := ⟨.none, none, (.func ⟨(Str.ofString "in_table_c8"), (Str.ofString "in_table_c8"), fnP (st 18), .stmts (fnB (st 18)), fnS (st 18), 0, [], .none, .none, .none, .none, none, .none, .none, 0⟩), #[]⟩
noncomputable def o115 (P : Params) : Obj := ⟨(.type "code"), none, (.fields #[(.str (Str.ofString "in_table_c8") 562), (.str (Str.ofString "in_table_c8") 563), (.str (Str.ofString "/claim/cut.py") 564), (.int (33) 0), (.int (1) 0), (.int (0) 0), (.int (0) 0), (.int (3) 0), (.ref 141), (.bool true), (.int (276) 0), (.ref 142), .none, (.ref 143), (.ref 144), (.ref 145), (.int (566) 0), (.int (33) 0), (.str (Str.ofString "/claim/cut.py") 567)]), #[]⟩
noncomputable def o116 (P : Params) : Obj := ⟨(.type "function"), none, (.func ⟨(Str.ofString "in_table_c8"), (Str.ofString "in_table_c8"), fnP (st 18), .stmts (fnB (st 18)), fnS (st 18), 3, [], .none, .none, .none, (.str (Str.ofString "cpy313.stringprep") 381), none, (.ref 146), .none, 0⟩), #[]⟩
noncomputable def T7 (P : Params) : BT := (N (o0 P) (N (o1 P) (N (o111 P) (N (o7 P) (N (o7 P) (N (o28 P) (N (o48 P) (N (o100 P) .nil .nil) .nil) (N (o72 P) .nil .nil)) (N (o7 P) (N (o7 P) (N (o113 P) .nil .nil) .nil) (N (o85 P) .nil .nil))) (N (o22 P) (N (o32 P) (N (o56 P) (N (o106 P) .nil .nil) .nil) (N (o7 P) .nil .nil)) (N (o8 P) (N (o8 P) .nil .nil) (N (o92 P) .nil .nil)))) (N (o11 P) (N (o18 P) (N (o33 P) (N (o51 P) (N (o103 P) .nil .nil) .nil) (N (o75 P) .nil .nil)) (N (o41 P) (N (o65 P) (N (o116 P) .nil .nil) .nil) (N (o7 P) .nil .nil))) (N (o26 P) (N (o6 P) (N (o59 P) (N (o7 P) .nil .nil) .nil) (N (o82 P) .nil .nil)) (N (o46 P) (N (o70 P) .nil .nil) (N (o95 P) .nil .nil))))) (N (o5 P) (N (o9 P) (N (o16 P) (N (o6 P) (N (o49 P) (N (o101 P) .nil .nil) .nil) (N (o73 P) .nil .nil)) (N (o40 P) (N (o64 P) (N (o114 P) .nil .nil) .nil) (N (o89 P) .nil .nil))) (N (o24 P) (N (o36 P) (N (o57 P) (N (o108 P) .nil .nil) .nil) (N (o7 P) .nil .nil)) (N (o7 P) (N (o7 P) .nil .nil) (N (o93 P) .nil .nil)))) (N (o13 P) (N (o20 P) (N (o35 P) (N (o54 P) (N (o105 P) .nil .nil) .nil) (N (o79 P) .nil .nil)) (N (o43 P) (N (o67 P) .nil .nil) (N (o7 P) .nil .nil))) (N (o112 P) (N (o38 P) (N (o7 P) (N (o7 P) .nil .nil) .nil) (N (o83 P) .nil .nil)) (N (o7 P) (N (o7 P) .nil .nil) (N (o98 P) .nil .nil)))))) (N (o2 P) (N (o4 P) (N (o8 P) (N (o15 P) (N (o31 P) (N (o7 P) (N (o7 P) .nil .nil) .nil) (N (o7 P) .nil .nil)) (N (o8 P) (N (o8 P) (N (o7 P) .nil .nil) .nil) (N (o88 P) .nil .nil))) (N (o23 P) (N (o33 P) (N (o7 P) (N (o107 P) .nil .nil) .nil) (N (o81 P) .nil .nil)) (N (o44 P) (N (o68 P) .nil .nil) (N (o7 P) .nil .nil)))) (N (o12 P) (N (o19 P) (N (o34 P) (N (o53 P) (N (o104 P) .nil .nil) .nil) (N (o78 P) .nil .nil)) (N (o42 P) (N (o66 P) .nil .nil) (N (o91 P) .nil .nil))) (N (o7 P) (N (o32 P) (N (o60 P) (N (o110 P) .nil .nil) .nil) (N (o7 P) .nil .nil)) (N (o47 P) (N (o71 P) .nil .nil) (N (o97 P) .nil .nil))))) (N (o6 P) (N (o10 P) (N (o17 P) (N (o32 P) (N (o50 P) (N (o102 P) .nil .nil) .nil) (N (o74 P) .nil .nil)) (N (o7 P) (N (o7 P) (N (o115 P) .nil .nil) .nil) (N (o90 P) .nil .nil))) (N (o25 P) (N (o37 P) (N (o58 P) (N (o109 P) .nil .nil) .nil) (N (o8 P) .nil .nil)) (N (o45 P) (N (o69 P) .nil .nil) (N (o94 P) .nil .nil)))) (N (o14 P) (N (o21 P) (N (o6 P) (N (o55 P) (N (o7 P) .nil .nil) .nil) (N (o80 P) .nil .nil)) (N (o7 P) (N (o7 P) .nil .nil) (N (o8 P) .nil .nil))) (N (o27 P) (N (o39 P) (N (o61 P) (N (o8 P) .nil .nil) .nil) (N (o84 P) .nil .nil)) (N (o8 P) (N (o8 P) .nil .nil) (N (o99 P) .nil .nil)))))))
noncomputable def o117 (P : Params) : Obj := ⟨(.type "dict"), none, (.dict #[(de P (Str.ofString "__name__") 165 (.str (Str.ofString "cpy313.stringprep") 381)), (de P (Str.ofString "__doc__") 166 .none), (de P (Str.ofString "__package__") 167 .none), (de P (Str.ofString "__loader__") 168 (.builtin "__main__.__loader__#opaque")), (de P (Str.ofString "__spec__") 169 .none), (de P (Str.ofString "__annotations__") 170 (.ref 6)), (de P (Str.ofString "__builtins__") 171 (.ref 4)), (de P (Str.ofString "__file__") 173 (.str (Str.ofString "/claim/cut.py") 172)), (de P (Str.ofString "__cached__") 174 .none), (de P (Str.ofString "_sre") 275 (.ref 12)), (de P (Str.ofString "_twin_re_1") 299 (.ref 36)), (de P (Str.ofString "_twin_re_2") 315 (.ref 41)), (de P (Str.ofString "_twin_re_3") 357 (.ref 46)), (de P (Str.ofString "CRLF") 359 (.str (Str.ofString "\x0d\n") 358)), (de P (Str.ofString "quotedata") 366 (.ref 53)), (de P (Str.ofString "_quote_periods") 373 (.ref 60)), (de P (Str.ofString "_fix_eols") 380 (.ref 67)), (de P (Str.ofString "b1_set") 442 (.ref 75)), (de P (Str.ofString "in_table_b1") 449 (.ref 85)), (de P (Str.ofString "in_table_c11") 456 (.ref 92)), (de P (Str.ofString "in_table_c4") 464 (.ref 99)), (de P (Str.ofString "c6_set") 478 (.ref 101)), (de P (Str.ofString "in_table_c6") 485 (.ref 111)), (de P (Str.ofString "c7_set") 513 (.ref 113)), (de P (Str.ofString "in_table_c7") 520 (.ref 123)), (de P (Str.ofString "c8_set") 561 (.ref 137)), (de P (Str.ofString "in_table_c8") 568 (.ref 147)), (de P (Str.ofString "c9_set") 768 (.ref 155))] 28), #[]⟩
noncomputable def o118 (P : Params) : Obj := ⟨(.type "list"), none, (.seq #[(.int (917505) 569)] 0), #[]⟩
noncomputable def o119 (P : Params) : Obj := ⟨(.type "range"), none, (.fields #[(.int (917536) 570), (.int (917632) 571), (.int (1) 572)]), #[]⟩
noncomputable def o120 (P : Params) : Obj := ⟨(.type "list"), none, (.seq #[(.int (917536) 575), (.int (917537) 576), (.int (917538) 577), (.int (917539) 578), (.int (917540) 579), (.int (917541) 580), (.int (917542) 581), (.int (917543) 582), (.int (917544) 583), (.int (917545) 584), (.int (917546) 585), (.int (917547) 586), (.int (917548) 587), (.int (917549) 588), (.int (917550) 589), (.int (917551) 590), (.int (917552) 591), (.int (917553) 592), (.int (917554) 593), (.int (917555) 594), (.int (917556) 595), (.int (917557) 596), (.int (917558) 597), (.int (917559) 598), (.int (917560) 599), (.int (917561) 600), (.int (917562) 601), (.int (917563) 602), (.int (917564) 603), (.int (917565) 604), (.int (917566) 605), (.int (917567) 606), (.int (917568) 607), (.int (917569) 608), (.int (917570) 609), (.int (917571) 610), (.int (917572) 611), (.int (917573) 612), (.int (917574) 613), (.int (917575) 614), (.int (917576) 615), (.int (917577) 616), (.int (917578) 617), (.int (917579) 618), (.int (917580) 619), (.int (917581) 620), (.int (917582) 621), (.int (917583) 622), (.int (917584) 623), (.int (917585) 624), (.int (917586) 625), (.int (917587) 626), (.int (917588) 627), (.int (917589) 628), (.int (917590) 629), (.int (917591) 630), (.int (917592) 631), (.int (917593) 632), (.int (917594) 633), (.int (917595) 634), (.int (917596) 635), (.int (917597) 636), (.int (917598) 637), (.int (917599) 638), (.int (917600) 639), (.int (917601) 640), (.int (917602) 641), (.int (917603) 642), (.int (917604) 643), (.int (917605) 644), (.int (917606) 645), (.int (917607) 646), (.int (917608) 647), (.int (917609) 648), (.int (917610) 649), (.int (917611) 650), (.int (917612) 651), (.int (917613) 652), (.int (917614) 653), (.int (917615) 654), (.int (917616) 655), (.int (917617) 656), (.int (917618) 657), (.int (917619) 658), (.int (917620) 659), (.int (917621) 660), (.int (917622) 661), (.int (917623) 662), (.int (917624) 663), (.int (917625) 664), (.int (917626) 665), (.int (917627) 666), (.int (917628) 667), (.int (917629) 668), (.int (917630) 669), (.int (917631) 670)] 98), #[]⟩
noncomputable def o121 (P : Params) : Obj := ⟨(.type "range_iterator"), none, (.fields #[(.int (917632) 0), (.int (0) 0), (.int (1) 0)]), #[]⟩
noncomputable def o122 (P : Params) : Obj := ⟨(.type "StopIteration"), none, (.fields #[(.ref 152), .none, .none, .none, (.bool false), .none]), #[]⟩
noncomputable def o123 (P : Params) : Obj := ⟨(.type "list"), none, (.seq #[(.int (917505) 569), (.int (917536) 575), (.int (917537) 576), (.int (917538) 577), (.int (917539) 578), (.int (917540) 579), (.int (917541) 580), (.int (917542) 581), (.int (917543) 582), (.int (917544) 583), (.int (917545) 584), (.int (917546) 585), (.int (917547) 586), (.int (917548) 587), (.int (917549) 588), (.int (917550) 589), (.int (917551) 590), (.int (917552) 591), (.int (917553) 592), (.int (917554) 593), (.int (917555) 594), (.int (917556) 595), (.int (917557) 596), (.int (917558) 597), (.int (917559) 598), (.int (917560) 599), (.int (917561) 600), (.int (917562) 601), (.int (917563) 602), (.int (917564) 603), (.int (917565) 604), (.int (917566) 605), (.int (917567) 606), (.int (917568) 607), (.int (917569) 608), (.int (917570) 609), (.int (917571) 610), (.int (917572) 611), (.int (917573) 612), (.int (917574) 613), (.int (917575) 614), (.int (917576) 615), (.int (917577) 616), (.int (917578) 617), (.int (917579) 618), (.int (917580) 619), (.int (917581) 620), (.int (917582) 621), (.int (917583) 622), (.int (917584) 623), (.int (917585) 624), (.int (917586) 625), (.int (917587) 626), (.int (917588) 627), (.int (917589) 628), (.int (917590) 629), (.int (917591) 630), (.int (917592) 631), (.int (917593) 632), (.int (917594) 633), (.int (917595) 634), (.int (917596) 635), (.int (917597) 636), (.int (917598) 637), (.int (917599) 638), (.int (917600) 639), (.int (917601) 640), (.int (917602) 641), (.int (917603) 642), (.int (917604) 643), (.int (917605) 644), (.int (917606) 645), (.int (917607) 646), (.int (917608) 647), (.int (917609) 648), (.int (917610) 649), (.int (917611) 650), (.int (917612) 651), (.int (917613) 652), (.int (917614) 653), (.int (917615) 654), (.int (917616) 655), (.int (917617) 656), (.int (917618) 657), (.int (917619) 658), (.int (917620) 659), (.int (917621) 660), (.int (917622) 661), (.int (917623) 662), (.int (917624) 663), (.int (917625) 664), (.int (917626) 665), (.int (917627) 666), (.int (917628) 667), (.int (917629) 668), (.int (917630) 669), (.int (917631) 670)] 0), #[]⟩
noncomputable def o124 (P : Params) : Obj := ⟨(.type "set"), none, (.set #[se 917505 569, se 917536 575, se 917537 576, se 917538 577, se 917539 578, se 917540 579, se 917541 580, se 917542 581, se 917543 582, se 917544 583, se 917545 584, se 917546 585, se 917547 586, se 917548 587, se 917549 588, se 917550 589, se 917551 590, se 917552 591, se 917553 592, se 917554 593, se 917555 594, se 917556 595, se 917557 596, se 917558 597, se 917559 598, se 917560 599, se 917561 600, se 917562 601, se 917563 602, se 917564 603, se 917565 604, se 917566 605, se 917567 606, se 917568 607, se 917569 608, se 917570 609, se 917571 610, se 917572 611, se 917573 612, se 917574 613, se 917575 614, se 917576 615, se 917577 616, se 917578 617, se 917579 618, se 917580 619, se 917581 620, se 917582 621, se 917583 622, se 917584 623, se 917585 624, se 917586 625, se 917587 626, se 917588 627, se 917589 628, se 917590 629, se 917591 630, se 917592 631, se 917593 632, se 917594 633, se 917595 634, se 917596 635, se 917597 636, se 917598 637, se 917599 638, se 917600 639, se 917601 640, se 917602 641, se 917603 642, se 917604 643, se 917605 644, se 917606 645, se 917607 646, se 917608 647, se 917609 648, se 917610 649, se 917611 650, se 917612 651, se 917613 652, se 917614 653, se 917615 654, se 917616 655, se 917617 656, se 917618 657, se 917619 658, se 917620 659, se 917621 660, se 917622 661, se 917623 662, se 917624 663, se 917625 664, se 917626 665, se 917627 666, se 917628 667, se 917629 668, se 917630 669, se 917631 670] 100 ⟨511, #[1, 32, 33, 34, 35, 36, 37, 38, 39, 40, 41, 42, 43, 44, 45, 46, 47, 48, 49, 50, 51, 52, 53, 54, 55, 56, 57, 58, 59, 60, 61, 62, 63, 64, 65, 66, 67, 68, 69, 70, 71, 72, 73, 74, 75, 76, 77, 78, 79, 80, 81, 82, 83, 84, 85, 86, 87, 88, 89, 90, 91, 92, 93, 94, 95, 96, 97, 98, 99, 100, 101, 102, 103, 104, 105, 106, 107, 108, 109, 110, 111, 112, 113, 114, 115, 116, 117, 118, 119, 120, 121, 122, 123, 124, 125, 126, 127], #[], 0, !P.followText "set-order", 3, true⟩), #[]⟩
noncomputable def o125 (P : Params) : Obj := ⟨(.type "list_iterator"), none, (.fields #[.none, (.int (97) 0)]), #[]⟩
noncomputable def o126 (P : Params) : Obj := ⟨(.type "StopIteration"), none, (.fields #[(.ref 157), .none, .none, .none, (.bool false), .none]), #[]⟩
noncomputable def T8 (P : Params) : BT := (N (o0 P) (N (o1 P) (N (o117 P) (N (o7 P) (N (o7 P) (N (o28 P) (N (o48 P) (N (o100 P) .nil .nil) .nil) (N (o72 P) .nil .nil)) (N (o7 P) (N (o7 P) (N (o113 P) .nil .nil) .nil) (N (o85 P) .nil .nil))) (N (o22 P) (N (o32 P) (N (o56 P) (N (o106 P) .nil .nil) .nil) (N (o7 P) .nil .nil)) (N (o8 P) (N (o8 P) (N (o121 P) .nil .nil) .nil) (N (o92 P) .nil .nil)))) (N (o11 P) (N (o18 P) (N (o33 P) (N (o51 P) (N (o103 P) .nil .nil) .nil) (N (o75 P) .nil .nil)) (N (o41 P) (N (o65 P) (N (o116 P) .nil .nil) .nil) (N (o7 P) .nil .nil))) (N (o26 P) (N (o6 P) (N (o59 P) (N (o7 P) .nil .nil) .nil) (N (o82 P) .nil .nil)) (N (o46 P) (N (o70 P) (N (o124 P) .nil .nil) .nil) (N (o95 P) .nil .nil))))) (N (o5 P) (N (o9 P) (N (o16 P) (N (o6 P) (N (o49 P) (N (o101 P) .nil .nil) .nil) (N (o73 P) .nil .nil)) (N (o40 P) (N (o64 P) (N (o114 P) .nil .nil) .nil) (N (o89 P) .nil .nil))) (N (o24 P) (N (o36 P) (N (o57 P) (N (o108 P) .nil .nil) .nil) (N (o7 P) .nil .nil)) (N (o7 P) (N (o7 P) (N (o122 P) .nil .nil) .nil) (N (o93 P) .nil .nil)))) (N (o13 P) (N (o20 P) (N (o35 P) (N (o54 P) (N (o105 P) .nil .nil) .nil) (N (o79 P) .nil .nil)) (N (o43 P) (N (o67 P) (N (o119 P) .nil .nil) .nil) (N (o7 P) .nil .nil))) (N (o112 P) (N (o38 P) (N (o7 P) (N (o7 P) .nil .nil) .nil) (N (o83 P) .nil .nil)) (N (o7 P) (N (o7 P) (N (o7 P) .nil .nil) .nil) (N (o98 P) .nil .nil)))))) (N (o2 P) (N (o4 P) (N (o8 P) (N (o15 P) (N (o31 P) (N (o7 P) (N (o7 P) .nil .nil) .nil) (N (o7 P) .nil .nil)) (N (o8 P) (N (o8 P) (N (o7 P) .nil .nil) .nil) (N (o88 P) .nil .nil))) (N (o23 P) (N (o33 P) (N (o7 P) (N (o107 P) .nil .nil) .nil) (N (o81 P) .nil .nil)) (N (o44 P) (N (o68 P) (N (o7 P) .nil .nil) .nil) (N (o7 P) .nil .nil)))) (N (o12 P) (N (o19 P) (N (o34 P) (N (o53 P) (N (o104 P) .nil .nil) .nil) (N (o78 P) .nil .nil)) (N (o42 P) (N (o66 P) (N (o118 P) .nil .nil) .nil) (N (o91 P) .nil .nil))) (N (o7 P) (N (o32 P) (N (o60 P) (N (o110 P) .nil .nil) .nil) (N (o7 P) .nil .nil)) (N (o47 P) (N (o71 P) (N (o125 P) .nil .nil) .nil) (N (o97 P) .nil .nil))))) (N (o6 P) (N (o10 P) (N (o17 P) (N (o32 P) (N (o50 P) (N (o102 P) .nil .nil) .nil) (N (o74 P) .nil .nil)) (N (o7 P) (N (o7 P) (N (o115 P) .nil .nil) .nil) (N (o90 P) .nil .nil))) (N (o25 P) (N (o37 P) (N (o58 P) (N (o109 P) .nil .nil) .nil) (N (o8 P) .nil .nil)) (N (o45 P) (N (o69 P) (N (o123 P) .nil .nil) .nil) (N (o94 P) .nil .nil)))) (N (o14 P) (N (o21 P) (N (o6 P) (N (o55 P) (N (o7 P) .nil .nil) .nil) (N (o80 P) .nil .nil)) (N (o7 P) (N (o7 P) (N (o120 P) .nil .nil) .nil) (N (o8 P) .nil .nil))) (N (o27 P) (N (o39 P) (N (o61 P) (N (o8 P) .nil .nil) .nil) (N (o84 P) .nil .nil)) (N (o8 P) (N (o8 P) (N (o126 P) .nil .nil) .nil) (N (o99 P) .nil .nil)))))))
noncomputable def o127 (P : Params) : Obj := ⟨(.type "dict"), none, (.dict #[(de P (Str.ofString "__name__") 165 (.str (Str.ofString "cpy313.token") 776)), (de P (Str.ofString "__doc__") 166 .none), (de P (Str.ofString "__package__") 167 .none), (de P (Str.ofString "__loader__") 168 (.builtin "__main__.__loader__#opaque")), (de P (Str.ofString "__spec__") 169 .none), (de P (Str.ofString "__annotations__") 170 (.ref 6)), (de P (Str.ofString "__builtins__") 171 (.ref 4)), (de P (Str.ofString "__file__") 173 (.str (Str.ofString "/claim/cut.py") 172)), (de P (Str.ofString "__cached__") 174 .none), (de P (Str.ofString "_sre") 275 (.ref 12)), (de P (Str.ofString "_twin_re_1") 299 (.ref 36)), (de P (Str.ofString "_twin_re_2") 315 (.ref 41)), (de P (Str.ofString "_twin_re_3") 357 (.ref 46)), (de P (Str.ofString "CRLF") 359 (.str (Str.ofString "\x0d\n") 358)), (de P (Str.ofString "quotedata") 366 (.ref 53)), (de P (Str.ofString "_quote_periods") 373 (.ref 60)), (de P (Str.ofString "_fix_eols") 380 (.ref 67)), (de P (Str.ofString "b1_set") 442 (.ref 75)), (de P (Str.ofString "in_table_b1") 449 (.ref 85)), (de P (Str.ofString "in_table_c11") 456 (.ref 92)), (de P (Str.ofString "in_table_c4") 464 (.ref 99)), (de P (Str.ofString "c6_set") 478 (.ref 101)), (de P (Str.ofString "in_table_c6") 485 (.ref 111)), (de P (Str.ofString "c7_set") 513 (.ref 113)), (de P (Str.ofString "in_table_c7") 520 (.ref 123)), (de P (Str.ofString "c8_set") 561 (.ref 137)), (de P (Str.ofString "in_table_c8") 568 (.ref 147)), (de P (Str.ofString "c9_set") 768 (.ref 155)), (de P (Str.ofString "in_table_c9") 775 (.ref 165)), (de P (Str.ofString "ENDMARKER") 779 (.int (0) 778)), (de P (Str.ofString "LPAR") 781 (.int (7) 780)), (de P (Str.ofString "RPAR") 783 (.int (8) 782)), (de P (Str.ofString "LSQB") 785 (.int (9) 784)), (de P (Str.ofString "RSQB") 787 (.int (10) 786)), (de P (Str.ofString "COLON") 789 (.int (11) 788)), (de P (Str.ofString "COMMA") 791 (.int (12) 790)), (de P (Str.ofString "SEMI") 793 (.int (13) 792)), (de P (Str.ofString "PLUS") 795 (.int (14) 794)), (de P (Str.ofString "MINUS") 797 (.int (15) 796)), (de P (Str.ofString "STAR") 799 (.int (16) 798)), (de P (Str.ofString "SLASH") 801 (.int (17) 800)), (de P (Str.ofString "VBAR") 803 (.int (18) 802)), (de P (Str.ofString "AMPER") 805 (.int (19) 804)), (de P (Str.ofString "LESS") 807 (.int (20) 806)), (de P (Str.ofString "GREATER") 809 (.int (21) 808)), (de P (Str.ofString "EQUAL") 811 (.int (22) 810)), (de P (Str.ofString "DOT") 813 (.int (23) 812)), (de P (Str.ofString "PERCENT") 815 (.int (24) 814)), (de P (Str.ofString "LBRACE") 817 (.int (25) 816)), (de P (Str.ofString "RBRACE") 819 (.int (26) 818)), (de P (Str.ofString "EQEQUAL") 821 (.int (27) 820)), (de P (Str.ofString "NOTEQUAL") 823 (.int (28) 822)), (de P (Str.ofString "LESSEQUAL") 825 (.int (29) 824)), (de P (Str.ofString "GREATEREQUAL") 827 (.int (30) 826)), (de P (Str.ofString "TILDE") 829 (.int (31) 828)), (de P (Str.ofString "CIRCUMFLEX") 831 (.int (32) 830)), (de P (Str.ofString "LEFTSHIFT") 833 (.int (33) 832)), (de P (Str.ofString "RIGHTSHIFT") 835 (.int (34) 834)), (de P (Str.ofString "DOUBLESTAR") 837 (.int (35) 836)), (de P (Str.ofString "PLUSEQUAL") 839 (.int (36) 838)), (de P (Str.ofString "MINEQUAL") 841 (.int (37) 840)), (de P (Str.ofString "STAREQUAL") 843 (.int (38) 842)), (de P (Str.ofString "SLASHEQUAL") 845 (.int (39) 844)), (de P (Str.ofString "PERCENTEQUAL") 847 (.int (40) 846)), (de P (Str.ofString "AMPEREQUAL") 849 (.int (41) 848)), (de P (Str.ofString "VBAREQUAL") 851 (.int (42) 850)), (de P (Str.ofString "CIRCUMFLEXEQUAL") 853 (.int (43) 852)), (de P (Str.ofString "LEFTSHIFTEQUAL") 855 (.int (44) 854)), (de P (Str.ofString "RIGHTSHIFTEQUAL") 857 (.int (45) 856))] 69), #[]⟩
noncomputable def o128 (P : Params) : Obj := ⟨.none, none, (.fields #[(.int (7) 0), (.int (0) 0), (.ref 52), (.int (9) 0), (.int (0) 0), (.ref 59), (.int (11) 0), (.int (0) 0), (.ref 66), (.int (15) 0), (.int (0) 0), (.ref 84), (.int (17) 0), (.int (0) 0), (.ref 91), (.int (19) 0), (.int (0) 0), (.ref 98), (.int (27) 0), (.int (0) 0), (.ref 110), (.int (30) 0), (.int (0) 0), (.ref 122), (.int (33) 0), (.int (0) 0), (.ref 146), (.int (36) 0), (.int (0) 0), (.ref 164)]), #[]⟩
noncomputable def o129 (P : Params) : Obj := ⟨(.type "tuple"), none, (.seq #[(.str (Str.ofString "code") 772)] 0), #[]⟩
noncomputable def o130 (P : Params) : Obj := ⟨.none, none, (.func ⟨(Str.ofString "in_table_c9"), (Str.ofString "in_table_c9"), fnP (st 20), .stmts (fnB (st 20)), fnS (st 20), 0, [], .none, .none, .none, .none, none, .none, .none, 0⟩), #[]⟩
noncomputable def o131 (P : Params) : Obj := ⟨(.type "code"), none, (.fields #[(.str (Str.ofString "in_table_c9") 769), (.str (Str.ofString "in_table_c9") 770), (.str (Str.ofString "/claim/cut.py") 771), (.int (36) 0), (.int (1) 0), (.int (0) 0), (.int (0) 0), (.int (3) 0), (.ref 159), (.bool true), (.int (276) 0), (.ref 160), .none, (.ref 161), (.ref 162), (.ref 163), (.int (773) 0), (.int (36) 0), (.str (Str.ofString "/claim/cut.py") 774)]), #[]⟩
noncomputable def o132 (P : Params) : Obj := ⟨(.type "function"), none, (.func ⟨(Str.ofString "in_table_c9"), (Str.ofString "in_table_c9"), fnP (st 20), .stmts (fnB (st 20)), fnS (st 20), 3, [], .none, .none, .none, (.str (Str.ofString "cpy313.stringprep") 381), none, (.ref 164), .none, 0⟩), #[]⟩
noncomputable def T9 (P : Params) : BT := (N (o0 P) (N (o1 P) (N (o127 P) (N (o7 P) (N (o7 P) (N (o28 P) (N (o48 P) (N (o100 P) .nil .nil) .nil) (N (o72 P) (N (o7 P) .nil .nil) .nil)) (N (o7 P) (N (o7 P) (N (o113 P) .nil .nil) .nil) (N (o85 P) .nil .nil))) (N (o22 P) (N (o32 P) (N (o56 P) (N (o106 P) .nil .nil) .nil) (N (o7 P) .nil .nil)) (N (o8 P) (N (o8 P) (N (o121 P) .nil .nil) .nil) (N (o92 P) .nil .nil)))) (N (o11 P) (N (o18 P) (N (o33 P) (N (o51 P) (N (o103 P) .nil .nil) .nil) (N (o75 P) (N (o130 P) .nil .nil) .nil)) (N (o41 P) (N (o65 P) (N (o116 P) .nil .nil) .nil) (N (o7 P) .nil .nil))) (N (o26 P) (N (o6 P) (N (o59 P) (N (o7 P) .nil .nil) .nil) (N (o82 P) .nil .nil)) (N (o46 P) (N (o70 P) (N (o124 P) .nil .nil) .nil) (N (o95 P) .nil .nil))))) (N (o5 P) (N (o9 P) (N (o16 P) (N (o6 P) (N (o49 P) (N (o101 P) .nil .nil) .nil) (N (o73 P) (N (o129 P) .nil .nil) .nil)) (N (o40 P) (N (o64 P) (N (o114 P) .nil .nil) .nil) (N (o89 P) .nil .nil))) (N (o24 P) (N (o36 P) (N (o57 P) (N (o108 P) .nil .nil) .nil) (N (o7 P) .nil .nil)) (N (o7 P) (N (o7 P) (N (o122 P) .nil .nil) .nil) (N (o93 P) .nil .nil)))) (N (o13 P) (N (o20 P) (N (o35 P) (N (o54 P) (N (o105 P) .nil .nil) .nil) (N (o79 P) (N (o132 P) .nil .nil) .nil)) (N (o43 P) (N (o67 P) (N (o119 P) .nil .nil) .nil) (N (o7 P) .nil .nil))) (N (o128 P) (N (o38 P) (N (o7 P) (N (o7 P) .nil .nil) .nil) (N (o83 P) .nil .nil)) (N (o7 P) (N (o7 P) (N (o7 P) .nil .nil) .nil) (N (o98 P) .nil .nil)))))) (N (o2 P) (N (o4 P) (N (o8 P) (N (o15 P) (N (o31 P) (N (o7 P) (N (o7 P) .nil .nil) .nil) (N (o7 P) (N (o8 P) .nil .nil) .nil)) (N (o8 P) (N (o8 P) (N (o7 P) .nil .nil) .nil) (N (o88 P) .nil .nil))) (N (o23 P) (N (o33 P) (N (o7 P) (N (o107 P) .nil .nil) .nil) (N (o81 P) .nil .nil)) (N (o44 P) (N (o68 P) (N (o7 P) .nil .nil) .nil) (N (o7 P) .nil .nil)))) (N (o12 P) (N (o19 P) (N (o34 P) (N (o53 P) (N (o104 P) .nil .nil) .nil) (N (o78 P) (N (o131 P) .nil .nil) .nil)) (N (o42 P) (N (o66 P) (N (o118 P) .nil .nil) .nil) (N (o91 P) .nil .nil))) (N (o7 P) (N (o32 P) (N (o60 P) (N (o110 P) .nil .nil) .nil) (N (o7 P) .nil .nil)) (N (o47 P) (N (o71 P) (N (o125 P) .nil .nil) .nil) (N (o97 P) .nil .nil))))) (N (o6 P) (N (o10 P) (N (o17 P) (N (o32 P) (N (o50 P) (N (o102 P) .nil .nil) .nil) (N (o74 P) (N (o7 P) .nil .nil) .nil)) (N (o7 P) (N (o7 P) (N (o115 P) .nil .nil) .nil) (N (o90 P) .nil .nil))) (N (o25 P) (N (o37 P) (N (o58 P) (N (o109 P) .nil .nil) .nil) (N (o8 P) .nil .nil)) (N (o45 P) (N (o69 P) (N (o123 P) .nil .nil) .nil) (N (o94 P) .nil .nil)))) (N (o14 P) (N (o21 P) (N (o6 P) (N (o55 P) (N (o7 P) .nil .nil) .nil) (N (o80 P) .nil .nil)) (N (o7 P) (N (o7 P) (N (o120 P) .nil .nil) .nil) (N (o8 P) .nil .nil))) (N (o27 P) (N (o39 P) (N (o61 P) (N (o8 P) .nil .nil) .nil) (N (o84 P) .nil .nil)) (N (o8 P) (N (o8 P) (N (o126 P) .nil .nil) .nil) (N (o99 P) .nil .nil)))))))
noncomputable def o133 (P : Params) : Obj := ⟨(.type "dict"), none, (.dict #[(de P (Str.ofString "__name__") 165 (.str (Str.ofString "cpy313.token") 776)), (de P (Str.ofString "__doc__") 166 .none), (de P (Str.ofString "__package__") 167 .none), (de P (Str.ofString "__loader__") 168 (.builtin "__main__.__loader__#opaque")), (de P (Str.ofString "__spec__") 169 .none), (de P (Str.ofString "__annotations__") 170 (.ref 6)), (de P (Str.ofString "__builtins__") 171 (.ref 4)), (de P (Str.ofString "__file__") 173 (.str (Str.ofString "/claim/cut.py") 172)), (de P (Str.ofString "__cached__") 174 .none), (de P (Str.ofString "_sre") 275 (.ref 12)), (de P (Str.ofString "_twin_re_1") 299 (.ref 36)), (de P (Str.ofString "_twin_re_2") 315 (.ref 41)), (de P (Str.ofString "_twin_re_3") 357 (.ref 46)), (de P (Str.ofString "CRLF") 359 (.str (Str.ofString "\x0d\n") 358)), (de P (Str.ofString "quotedata") 366 (.ref 53)), (de P (Str.ofString "_quote_periods") 373 (.ref 60)), (de P (Str.ofString "_fix_eols") 380 (.ref 67)), (de P (Str.ofString "b1_set") 442 (.ref 75)), (de P (Str.ofString "in_table_b1") 449 (.ref 85)), (de P (Str.ofString "in_table_c11") 456 (.ref 92)), (de P (Str.ofString "in_table_c4") 464 (.ref 99)), (de P (Str.ofString "c6_set") 478 (.ref 101)), (de P (Str.ofString "in_table_c6") 485 (.ref 111)), (de P (Str.ofString "c7_set") 513 (.ref 113)), (de P (Str.ofString "in_table_c7") 520 (.ref 123)), (de P (Str.ofString "c8_set") 561 (.ref 137)), (de P (Str.ofString "in_table_c8") 568 (.ref 147)), (de P (Str.ofString "c9_set") 768 (.ref 155)), (de P (Str.ofString "in_table_c9") 775 (.ref 165)), (de P (Str.ofString "ENDMARKER") 779 (.int (0) 778)), (de P (Str.ofString "LPAR") 781 (.int (7) 780)), (de P (Str.ofString "RPAR") 783 (.int (8) 782)), (de P (Str.ofString "LSQB") 785 (.int (9) 784)), (de P (Str.ofString "RSQB") 787 (.int (10) 786)), (de P (Str.ofString "COLON") 789 (.int (11) 788)), (de P (Str.ofString "COMMA") 791 (.int (12) 790)), (de P (Str.ofString "SEMI") 793 (.int (13) 792)), (de P (Str.ofString "PLUS") 795 (.int (14) 794)), (de P (Str.ofString "MINUS") 797 (.int (15) 796)), (de P (Str.ofString "STAR") 799 (.int (16) 798)), (de P (Str.ofString "SLASH") 801 (.int (17) 800)), (de P (Str.ofString "VBAR") 803 (.int (18) 802)), (de P (Str.ofString "AMPER") 805 (.int (19) 804)), (de P (Str.ofString "LESS") 807 (.int (20) 806)), (de P (Str.ofString "GREATER") 809 (.int (21) 808)), (de P (Str.ofString "EQUAL") 811 (.int (22) 810)), (de P (Str.ofString "DOT") 813 (.int (23) 812)), (de P (Str.ofString "PERCENT") 815 (.int (24) 814)), (de P (Str.ofString "LBRACE") 817 (.int (25) 816)), (de P (Str.ofString "RBRACE") 819 (.int (26) 818)), (de P (Str.ofString "EQEQUAL") 821 (.int (27) 820)), (de P (Str.ofString "NOTEQUAL") 823 (.int (28) 822)), (de P (Str.ofString "LESSEQUAL") 825 (.int (29) 824)), (de P (Str.ofString "GREATEREQUAL") 827 (.int (30) 826)), (de P (Str.ofString "TILDE") 829 (.int (31) 828)), (de P (Str.ofString "CIRCUMFLEX") 831 (.int (32) 830)), (de P (Str.ofString "LEFTSHIFT") 833 (.int (33) 832)), (de P (Str.ofString "RIGHTSHIFT") 835 (.int (34) 834)), (de P (Str.ofString "DOUBLESTAR") 837 (.int (35) 836)), (de P (Str.ofString "PLUSEQUAL") 839 (.int (36) 838)), (de P (Str.ofString "MINEQUAL") 841 (.int (37) 840)), (de P (Str.ofString "STAREQUAL") 843 (.int (38) 842)), (de P (Str.ofString "SLASHEQUAL") 845 (.int (39) 844)), (de P (Str.ofString "PERCENTEQUAL") 847 (.int (40) 846)), (de P (Str.ofString "AMPEREQUAL") 849 (.int (41) 848)), (de P (Str.ofString "VBAREQUAL") 851 (.int (42) 850)), (de P (Str.ofString "CIRCUMFLEXEQUAL") 853 (.int (43) 852)), (de P (Str.ofString "LEFTSHIFTEQUAL") 855 (.int (44) 854)), (de P (Str.ofString "RIGHTSHIFTEQUAL") 857 (.int (45) 856)), (de P (Str.ofString "DOUBLESTAREQUAL") 859 (.int (46) 858)), (de P (Str.ofString "DOUBLESLASH") 861 (.int (47) 860)), (de P (Str.ofString "DOUBLESLASHEQUAL") 863 (.int (48) 862)), (de P (Str.ofString "AT") 865 (.int (49) 864)), (de P (Str.ofString "ATEQUAL") 867 (.int (50) 866)), (de P (Str.ofString "RARROW") 869 (.int (51) 868)), (de P (Str.ofString "ELLIPSIS") 871 (.int (52) 870)), (de P (Str.ofString "COLONEQUAL") 873 (.int (53) 872)), (de P (Str.ofString "EXCLAMATION") 875 (.int (54) 874)), (de P (Str.ofString "NT_OFFSET") 877 (.int (256) 876))] 79), #[]⟩
noncomputable def T10 (P : Params) : BT := (N (o0 P) (N (o1 P) (N (o133 P) (N (o7 P) (N (o7 P) (N (o28 P) (N (o48 P) (N (o100 P) .nil .nil) .nil) (N (o72 P) (N (o7 P) .nil .nil) .nil)) (N (o7 P) (N (o7 P) (N (o113 P) .nil .nil) .nil) (N (o85 P) .nil .nil))) (N (o22 P) (N (o32 P) (N (o56 P) (N (o106 P) .nil .nil) .nil) (N (o7 P) .nil .nil)) (N (o8 P) (N (o8 P) (N (o121 P) .nil .nil) .nil) (N (o92 P) .nil .nil)))) (N (o11 P) (N (o18 P) (N (o33 P) (N (o51 P) (N (o103 P) .nil .nil) .nil) (N (o75 P) (N (o130 P) .nil .nil) .nil)) (N (o41 P) (N (o65 P) (N (o116 P) .nil .nil) .nil) (N (o7 P) .nil .nil))) (N (o26 P) (N (o6 P) (N (o59 P) (N (o7 P) .nil .nil) .nil) (N (o82 P) .nil .nil)) (N (o46 P) (N (o70 P) (N (o124 P) .nil .nil) .nil) (N (o95 P) .nil .nil))))) (N (o5 P) (N (o9 P) (N (o16 P) (N (o6 P) (N (o49 P) (N (o101 P) .nil .nil) .nil) (N (o73 P) (N (o129 P) .nil .nil) .nil)) (N (o40 P) (N (o64 P) (N (o114 P) .nil .nil) .nil) (N (o89 P) .nil .nil))) (N (o24 P) (N (o36 P) (N (o57 P) (N (o108 P) .nil .nil) .nil) (N (o7 P) .nil .nil)) (N (o7 P) (N (o7 P) (N (o122 P) .nil .nil) .nil) (N (o93 P) .nil .nil)))) (N (o13 P) (N (o20 P) (N (o35 P) (N (o54 P) (N (o105 P) .nil .nil) .nil) (N (o79 P) (N (o132 P) .nil .nil) .nil)) (N (o43 P) (N (o67 P) (N (o119 P) .nil .nil) .nil) (N (o7 P) .nil .nil))) (N (o128 P) (N (o38 P) (N (o7 P) (N (o7 P) .nil .nil) .nil) (N (o83 P) .nil .nil)) (N (o7 P) (N (o7 P) (N (o7 P) .nil .nil) .nil) (N (o98 P) .nil .nil)))))) (N (o2 P) (N (o4 P) (N (o8 P) (N (o15 P) (N (o31 P) (N (o7 P) (N (o7 P) .nil .nil) .nil) (N (o7 P) (N (o8 P) .nil .nil) .nil)) (N (o8 P) (N (o8 P) (N (o7 P) .nil .nil) .nil) (N (o88 P) .nil .nil))) (N (o23 P) (N (o33 P) (N (o7 P) (N (o107 P) .nil .nil) .nil) (N (o81 P) .nil .nil)) (N (o44 P) (N (o68 P) (N (o7 P) .nil .nil) .nil) (N (o7 P) .nil .nil)))) (N (o12 P) (N (o19 P) (N (o34 P) (N (o53 P) (N (o104 P) .nil .nil) .nil) (N (o78 P) (N (o131 P) .nil .nil) .nil)) (N (o42 P) (N (o66 P) (N (o118 P) .nil .nil) .nil) (N (o91 P) .nil .nil))) (N (o7 P) (N (o32 P) (N (o60 P) (N (o110 P) .nil .nil) .nil) (N (o7 P) .nil .nil)) (N (o47 P) (N (o71 P) (N (o125 P) .nil .nil) .nil) (N (o97 P) .nil .nil))))) (N (o6 P) (N (o10 P) (N (o17 P) (N (o32 P) (N (o50 P) (N (o102 P) .nil .nil) .nil) (N (o74 P) (N (o7 P) .nil .nil) .nil)) (N (o7 P) (N (o7 P) (N (o115 P) .nil .nil) .nil) (N (o90 P) .nil .nil))) (N (o25 P) (N (o37 P) (N (o58 P) (N (o109 P) .nil .nil) .nil) (N (o8 P) .nil .nil)) (N (o45 P) (N (o69 P) (N (o123 P) .nil .nil) .nil) (N (o94 P) .nil .nil)))) (N (o14 P) (N (o21 P) (N (o6 P) (N (o55 P) (N (o7 P) .nil .nil) .nil) (N (o80 P) .nil .nil)) (N (o7 P) (N (o7 P) (N (o120 P) .nil .nil) .nil) (N (o8 P) .nil .nil))) (N (o27 P) (N (o39 P) (N (o61 P) (N (o8 P) .nil .nil) .nil) (N (o84 P) .nil .nil)) (N (o8 P) (N (o8 P) (N (o126 P) .nil .nil) .nil) (N (o99 P) .nil .nil)))))))
noncomputable def o134 (P : Params) : Obj := ⟨(.type "dict"), none, (.dict #[(de P (Str.ofString "__name__") 165 (.str (Str.ofString "cpy313.token") 776)), (de P (Str.ofString "__doc__") 166 .none), (de P (Str.ofString "__package__") 167 .none), (de P (Str.ofString "__loader__") 168 (.builtin "__main__.__loader__#opaque")), (de P (Str.ofString "__spec__") 169 .none), (de P (Str.ofString "__annotations__") 170 (.ref 6)), (de P (Str.ofString "__builtins__") 171 (.ref 4)), (de P (Str.ofString "__file__") 173 (.str (Str.ofString "/claim/cut.py") 172)), (de P (Str.ofString "__cached__") 174 .none), (de P (Str.ofString "_sre") 275 (.ref 12)), (de P (Str.ofString "_twin_re_1") 299 (.ref 36)), (de P (Str.ofString "_twin_re_2") 315 (.ref 41)), (de P (Str.ofString "_twin_re_3") 357 (.ref 46)), (de P (Str.ofString "CRLF") 359 (.str (Str.ofString "\x0d\n") 358)), (de P (Str.ofString "quotedata") 366 (.ref 53)), (de P (Str.ofString "_quote_periods") 373 (.ref 60)), (de P (Str.ofString "_fix_eols") 380 (.ref 67)), (de P (Str.ofString "b1_set") 442 (.ref 75)), (de P (Str.ofString "in_table_b1") 449 (.ref 85)), (de P (Str.ofString "in_table_c11") 456 (.ref 92)), (de P (Str.ofString "in_table_c4") 464 (.ref 99)), (de P (Str.ofString "c6_set") 478 (.ref 101)), (de P (Str.ofString "in_table_c6") 485 (.ref 111)), (de P (Str.ofString "c7_set") 513 (.ref 113)), (de P (Str.ofString "in_table_c7") 520 (.ref 123)), (de P (Str.ofString "c8_set") 561 (.ref 137)), (de P (Str.ofString "in_table_c8") 568 (.ref 147)), (de P (Str.ofString "c9_set") 768 (.ref 155)), (de P (Str.ofString "in_table_c9") 775 (.ref 165)), (de P (Str.ofString "ENDMARKER") 779 (.int (0) 778)), (de P (Str.ofString "LPAR") 781 (.int (7) 780)), (de P (Str.ofString "RPAR") 783 (.int (8) 782)), (de P (Str.ofString "LSQB") 785 (.int (9) 784)), (de P (Str.ofString "RSQB") 787 (.int (10) 786)), (de P (Str.ofString "COLON") 789 (.int (11) 788)), (de P (Str.ofString "COMMA") 791 (.int (12) 790)), (de P (Str.ofString "SEMI") 793 (.int (13) 792)), (de P (Str.ofString "PLUS") 795 (.int (14) 794)), (de P (Str.ofString "MINUS") 797 (.int (15) 796)), (de P (Str.ofString "STAR") 799 (.int (16) 798)), (de P (Str.ofString "SLASH") 801 (.int (17) 800)), (de P (Str.ofString "VBAR") 803 (.int (18) 802)), (de P (Str.ofString "AMPER") 805 (.int (19) 804)), (de P (Str.ofString "LESS") 807 (.int (20) 806)), (de P (Str.ofString "GREATER") 809 (.int (21) 808)), (de P (Str.ofString "EQUAL") 811 (.int (22) 810)), (de P (Str.ofString "DOT") 813 (.int (23) 812)), (de P (Str.ofString "PERCENT") 815 (.int (24) 814)), (de P (Str.ofString "LBRACE") 817 (.int (25) 816)), (de P (Str.ofString "RBRACE") 819 (.int (26) 818)), (de P (Str.ofString "EQEQUAL") 821 (.int (27) 820)), (de P (Str.ofString "NOTEQUAL") 823 (.int (28) 822)), (de P (Str.ofString "LESSEQUAL") 825 (.int (29) 824)), (de P (Str.ofString "GREATEREQUAL") 827 (.int (30) 826)), (de P (Str.ofString "TILDE") 829 (.int (31) 828)), (de P (Str.ofString "CIRCUMFLEX") 831 (.int (32) 830)), (de P (Str.ofString "LEFTSHIFT") 833 (.int (33) 832)), (de P (Str.ofString "RIGHTSHIFT") 835 (.int (34) 834)), (de P (Str.ofString "DOUBLESTAR") 837 (.int (35) 836)), (de P (Str.ofString "PLUSEQUAL") 839 (.int (36) 838)), (de P (Str.ofString "MINEQUAL") 841 (.int (37) 840)), (de P (Str.ofString "STAREQUAL") 843 (.int (38) 842)), (de P (Str.ofString "SLASHEQUAL") 845 (.int (39) 844)), (de P (Str.ofString "PERCENTEQUAL") 847 (.int (40) 846)), (de P (Str.ofString "AMPEREQUAL") 849 (.int (41) 848)), (de P (Str.ofString "VBAREQUAL") 851 (.int (42) 850)), (de P (Str.ofString "CIRCUMFLEXEQUAL") 853 (.int (43) 852)), (de P (Str.ofString "LEFTSHIFTEQUAL") 855 (.int (44) 854)), (de P (Str.ofString "RIGHTSHIFTEQUAL") 857 (.int (45) 856)), (de P (Str.ofString "DOUBLESTAREQUAL") 859 (.int (46) 858)), (de P (Str.ofString "DOUBLESLASH") 861 (.int (47) 860)), (de P (Str.ofString "DOUBLESLASHEQUAL") 863 (.int (48) 862)), (de P (Str.ofString "AT") 865 (.int (49) 864)), (de P (Str.ofString "ATEQUAL") 867 (.int (50) 866)), (de P (Str.ofString "RARROW") 869 (.int (51) 868)), (de P (Str.ofString "ELLIPSIS") 871 (.int (52) 870)), (de P (Str.ofString "COLONEQUAL") 873 (.int (53) 872)), (de P (Str.ofString "EXCLAMATION") 875 (.int (54) 874)), (de P (Str.ofString "NT_OFFSET") 877 (.int (256) 876)), (de P (Str.ofString "EXACT_TOKEN_TYPES") 974 (.ref 166))] 80), #[]⟩
noncomputable def o135 (P : Params) : Obj := ⟨(.type "dict"), none, (.dict #[(de P (Str.ofString "!") 878 (.int (54) 874)), (de P (Str.ofString "!=") 880 (.int (28) 822)), (de P (Str.ofString "%") 882 (.int (24) 814)), (de P (Str.ofString "%=") 884 (.int (40) 846)), (de P (Str.ofString "&") 886 (.int (19) 804)), (de P (Str.ofString "&=") 888 (.int (41) 848)), (de P (Str.ofString "(") 890 (.int (7) 780)), (de P (Str.ofString ")") 892 (.int (8) 782)), (de P (Str.ofString "*") 894 (.int (16) 798)), (de P (Str.ofString "**") 896 (.int (35) 836)), (de P (Str.ofString "**=") 898 (.int (46) 858)), (de P (Str.ofString "*=") 900 (.int (38) 842)), (de P (Str.ofString "+") 902 (.int (14) 794)), (de P (Str.ofString "+=") 904 (.int (36) 838)), (de P (Str.ofString ",") 906 (.int (12) 790)), (de P (Str.ofString "-") 908 (.int (15) 796)), (de P (Str.ofString "-=") 910 (.int (37) 840)), (de P (Str.ofString "->") 912 (.int (51) 868)), (de P (Str.ofString ".") 914 (.int (23) 812)), (de P (Str.ofString "...") 916 (.int (52) 870)), (de P (Str.ofString "/") 918 (.int (17) 800)), (de P (Str.ofString "//") 920 (.int (47) 860)), (de P (Str.ofString "//=") 922 (.int (48) 862)), (de P (Str.ofString "/=") 924 (.int (39) 844)), (de P (Str.ofString ":") 926 (.int (11) 788)), (de P (Str.ofString ":=") 928 (.int (53) 872)), (de P (Str.ofString ";") 930 (.int (13) 792)), (de P (Str.ofString "<") 932 (.int (20) 806)), (de P (Str.ofString "<<") 934 (.int (33) 832)), (de P (Str.ofString "<<=") 936 (.int (44) 854)), (de P (Str.ofString "<=") 938 (.int (29) 824)), (de P (Str.ofString "=") 940 (.int (22) 810)), (de P (Str.ofString "==") 942 (.int (27) 820)), (de P (Str.ofString ">") 944 (.int (21) 808)), (de P (Str.ofString ">=") 946 (.int (30) 826)), (de P (Str.ofString ">>") 947 (.int (34) 834)), (de P (Str.ofString ">>=") 948 (.int (45) 856)), (de P (Str.ofString "@") 949 (.int (49) 864)), (de P (Str.ofString "@=") 950 (.int (50) 866)), (de P (Str.ofString "[") 951 (.int (9) 784)), (de P (Str.ofString "]") 952 (.int (10) 786)), (de P (Str.ofString "^") 953 (.int (32) 830)), (de P (Str.ofString "^=") 954 (.int (43) 852)), (de P (Str.ofString "{") 955 (.int (25) 816)), (de P (Str.ofString "|") 956 (.int (18) 802)), (de P (Str.ofString "|=") 957 (.int (42) 850)), (de P (Str.ofString "}") 958 (.int (26) 818)), (de P (Str.ofString "~") 959 (.int (31) 828))] 48), #[]⟩
noncomputable def o136 (P : Params) : Obj := ⟨(.type "dict"), none, (.dict #[(de P (Str.ofString "->") 912 (.int (51) 868)), (de P (Str.ofString ".") 914 (.int (23) 812)), (de P (Str.ofString "...") 916 (.int (52) 870)), (de P (Str.ofString "/") 918 (.int (17) 800)), (de P (Str.ofString "//") 920 (.int (47) 860)), (de P (Str.ofString "//=") 922 (.int (48) 862)), (de P (Str.ofString "/=") 924 (.int (39) 844)), (de P (Str.ofString ":") 926 (.int (11) 788)), (de P (Str.ofString ":=") 928 (.int (53) 872)), (de P (Str.ofString ";") 930 (.int (13) 792)), (de P (Str.ofString "<") 932 (.int (20) 806)), (de P (Str.ofString "<<") 934 (.int (33) 832)), (de P (Str.ofString "<<=") 936 (.int (44) 854)), (de P (Str.ofString "<=") 938 (.int (29) 824)), (de P (Str.ofString "=") 940 (.int (22) 810)), (de P (Str.ofString "==") 942 (.int (27) 820)), (de P (Str.ofString ">") 944 (.int (21) 808))] 17), #[]⟩
noncomputable def o137 (P : Params) : Obj := ⟨(.type "dict"), none, (.dict #[(de P (Str.ofString ">=") 946 (.int (30) 826)), (de P (Str.ofString ">>") 947 (.int (34) 834)), (de P (Str.ofString ">>=") 948 (.int (45) 856)), (de P (Str.ofString "@") 949 (.int (49) 864)), (de P (Str.ofString "@=") 950 (.int (50) 866)), (de P (Str.ofString "[") 951 (.int (9) 784)), (de P (Str.ofString "]") 952 (.int (10) 786)), (de P (Str.ofString "^") 953 (.int (32) 830)), (de P (Str.ofString "^=") 954 (.int (43) 852)), (de P (Str.ofString "{") 955 (.int (25) 816)), (de P (Str.ofString "|") 956 (.int (18) 802)), (de P (Str.ofString "|=") 957 (.int (42) 850)), (de P (Str.ofString "}") 958 (.int (26) 818)), (de P (Str.ofString "~") 959 (.int (31) 828))] 14), #[]⟩
noncomputable def T11 (P : Params) : BT := (N (o0 P) (N (o1 P) (N (o134 P) (N (o7 P) (N (o7 P) (N (o28 P) (N (o48 P) (N (o100 P) .nil .nil) .nil) (N (o72 P) (N (o7 P) .nil .nil) .nil)) (N (o7 P) (N (o7 P) (N (o113 P) .nil .nil) .nil) (N (o85 P) .nil .nil))) (N (o22 P) (N (o32 P) (N (o56 P) (N (o106 P) .nil .nil) .nil) (N (o7 P) (N (o136 P) .nil .nil) .nil)) (N (o8 P) (N (o8 P) (N (o121 P) .nil .nil) .nil) (N (o92 P) .nil .nil)))) (N (o11 P) (N (o18 P) (N (o33 P) (N (o51 P) (N (o103 P) .nil .nil) .nil) (N (o75 P) (N (o130 P) .nil .nil) .nil)) (N (o41 P) (N (o65 P) (N (o116 P) .nil .nil) .nil) (N (o7 P) .nil .nil))) (N (o26 P) (N (o6 P) (N (o59 P) (N (o7 P) .nil .nil) .nil) (N (o82 P) .nil .nil)) (N (o46 P) (N (o70 P) (N (o124 P) .nil .nil) .nil) (N (o95 P) .nil .nil))))) (N (o5 P) (N (o9 P) (N (o16 P) (N (o6 P) (N (o49 P) (N (o101 P) .nil .nil) .nil) (N (o73 P) (N (o129 P) .nil .nil) .nil)) (N (o40 P) (N (o64 P) (N (o114 P) .nil .nil) .nil) (N (o89 P) .nil .nil))) (N (o24 P) (N (o36 P) (N (o57 P) (N (o108 P) .nil .nil) .nil) (N (o7 P) .nil .nil)) (N (o7 P) (N (o7 P) (N (o122 P) .nil .nil) .nil) (N (o93 P) .nil .nil)))) (N (o13 P) (N (o20 P) (N (o35 P) (N (o54 P) (N (o105 P) .nil .nil) .nil) (N (o79 P) (N (o132 P) .nil .nil) .nil)) (N (o43 P) (N (o67 P) (N (o119 P) .nil .nil) .nil) (N (o7 P) .nil .nil))) (N (o128 P) (N (o38 P) (N (o7 P) (N (o7 P) .nil .nil) .nil) (N (o83 P) .nil .nil)) (N (o7 P) (N (o7 P) (N (o7 P) .nil .nil) .nil) (N (o98 P) .nil .nil)))))) (N (o2 P) (N (o4 P) (N (o8 P) (N (o15 P) (N (o31 P) (N (o7 P) (N (o7 P) .nil .nil) .nil) (N (o7 P) (N (o8 P) .nil .nil) .nil)) (N (o8 P) (N (o8 P) (N (o7 P) .nil .nil) .nil) (N (o88 P) .nil .nil))) (N (o23 P) (N (o33 P) (N (o7 P) (N (o107 P) .nil .nil) .nil) (N (o81 P) (N (o137 P) .nil .nil) .nil)) (N (o44 P) (N (o68 P) (N (o7 P) .nil .nil) .nil) (N (o7 P) .nil .nil)))) (N (o12 P) (N (o19 P) (N (o34 P) (N (o53 P) (N (o104 P) .nil .nil) .nil) (N (o78 P) (N (o131 P) .nil .nil) .nil)) (N (o42 P) (N (o66 P) (N (o118 P) .nil .nil) .nil) (N (o91 P) .nil .nil))) (N (o7 P) (N (o32 P) (N (o60 P) (N (o110 P) .nil .nil) .nil) (N (o7 P) .nil .nil)) (N (o47 P) (N (o71 P) (N (o125 P) .nil .nil) .nil) (N (o97 P) .nil .nil))))) (N (o6 P) (N (o10 P) (N (o17 P) (N (o32 P) (N (o50 P) (N (o102 P) .nil .nil) .nil) (N (o74 P) (N (o7 P) .nil .nil) .nil)) (N (o7 P) (N (o7 P) (N (o115 P) .nil .nil) .nil) (N (o90 P) .nil .nil))) (N (o25 P) (N (o37 P) (N (o58 P) (N (o109 P) .nil .nil) .nil) (N (o8 P) .nil .nil)) (N (o45 P) (N (o69 P) (N (o123 P) .nil .nil) .nil) (N (o94 P) .nil .nil)))) (N (o14 P) (N (o21 P) (N (o6 P) (N (o55 P) (N (o7 P) .nil .nil) .nil) (N (o80 P) (N (o135 P) .nil .nil) .nil)) (N (o7 P) (N (o7 P) (N (o120 P) .nil .nil) .nil) (N (o8 P) .nil .nil))) (N (o27 P) (N (o39 P) (N (o61 P) (N (o8 P) .nil .nil) .nil) (N (o84 P) .nil .nil)) (N (o8 P) (N (o8 P) (N (o126 P) .nil .nil) .nil) (N (o99 P) .nil .nil)))))))
noncomputable def o138 (P : Params) : Obj := ⟨(.type "dict"), none, (.dict #[(de P (Str.ofString "__name__") 165 (.str (Str.ofString "law_re0070_01") 996)), (de P (Str.ofString "__doc__") 166 .none), (de P (Str.ofString "__package__") 167 .none), (de P (Str.ofString "__loader__") 168 (.builtin "__main__.__loader__#opaque")), (de P (Str.ofString "__spec__") 169 .none), (de P (Str.ofString "__annotations__") 170 (.ref 6)), (de P (Str.ofString "__builtins__") 171 (.ref 4)), (de P (Str.ofString "__file__") 173 (.str (Str.ofString "/claim/cut.py") 172)), (de P (Str.ofString "__cached__") 174 .none), (de P (Str.ofString "_sre") 275 (.ref 12)), (de P (Str.ofString "_twin_re_1") 299 (.ref 36)), (de P (Str.ofString "_twin_re_2") 315 (.ref 41)), (de P (Str.ofString "_twin_re_3") 357 (.ref 46)), (de P (Str.ofString "CRLF") 359 (.str (Str.ofString "\x0d\n") 358)), (de P (Str.ofString "quotedata") 366 (.ref 53)), (de P (Str.ofString "_quote_periods") 373 (.ref 60)), (de P (Str.ofString "_fix_eols") 380 (.ref 67)), (de P (Str.ofString "b1_set") 442 (.ref 75)), (de P (Str.ofString "in_table_b1") 449 (.ref 85)), (de P (Str.ofString "in_table_c11") 456 (.ref 92)), (de P (Str.ofString "in_table_c4") 464 (.ref 99)), (de P (Str.ofString "c6_set") 478 (.ref 101)), (de P (Str.ofString "in_table_c6") 485 (.ref 111)), (de P (Str.ofString "c7_set") 513 (.ref 113)), (de P (Str.ofString "in_table_c7") 520 (.ref 123)), (de P (Str.ofString "c8_set") 561 (.ref 137)), (de P (Str.ofString "in_table_c8") 568 (.ref 147)), (de P (Str.ofString "c9_set") 768 (.ref 155)), (de P (Str.ofString "in_table_c9") 775 (.ref 165)), (de P (Str.ofString "ENDMARKER") 779 (.int (0) 778)), (de P (Str.ofString "LPAR") 781 (.int (7) 780)), (de P (Str.ofString "RPAR") 783 (.int (8) 782)), (de P (Str.ofString "LSQB") 785 (.int (9) 784)), (de P (Str.ofString "RSQB") 787 (.int (10) 786)), (de P (Str.ofString "COLON") 789 (.int (11) 788)), (de P (Str.ofString "COMMA") 791 (.int (12) 790)), (de P (Str.ofString "SEMI") 793 (.int (13) 792)), (de P (Str.ofString "PLUS") 795 (.int (14) 794)), (de P (Str.ofString "MINUS") 797 (.int (15) 796)), (de P (Str.ofString "STAR") 799 (.int (16) 798)), (de P (Str.ofString "SLASH") 801 (.int (17) 800)), (de P (Str.ofString "VBAR") 803 (.int (18) 802)), (de P (Str.ofString "AMPER") 805 (.int (19) 804)), (de P (Str.ofString "LESS") 807 (.int (20) 806)), (de P (Str.ofString "GREATER") 809 (.int (21) 808)), (de P (Str.ofString "EQUAL") 811 (.int (22) 810)), (de P (Str.ofString "DOT") 813 (.int (23) 812)), (de P (Str.ofString "PERCENT") 815 (.int (24) 814)), (de P (Str.ofString "LBRACE") 817 (.int (25) 816)), (de P (Str.ofString "RBRACE") 819 (.int (26) 818)), (de P (Str.ofString "EQEQUAL") 821 (.int (27) 820)), (de P (Str.ofString "NOTEQUAL") 823 (.int (28) 822)), (de P (Str.ofString "LESSEQUAL") 825 (.int (29) 824)), (de P (Str.ofString "GREATEREQUAL") 827 (.int (30) 826)), (de P (Str.ofString "TILDE") 829 (.int (31) 828)), (de P (Str.ofString "CIRCUMFLEX") 831 (.int (32) 830)), (de P (Str.ofString "LEFTSHIFT") 833 (.int (33) 832)), (de P (Str.ofString "RIGHTSHIFT") 835 (.int (34) 834)), (de P (Str.ofString "DOUBLESTAR") 837 (.int (35) 836)), (de P (Str.ofString "PLUSEQUAL") 839 (.int (36) 838)), (de P (Str.ofString "MINEQUAL") 841 (.int (37) 840)), (de P (Str.ofString "STAREQUAL") 843 (.int (38) 842)), (de P (Str.ofString "SLASHEQUAL") 845 (.int (39) 844)), (de P (Str.ofString "PERCENTEQUAL") 847 (.int (40) 846)), (de P (Str.ofString "AMPEREQUAL") 849 (.int (41) 848)), (de P (Str.ofString "VBAREQUAL") 851 (.int (42) 850)), (de P (Str.ofString "CIRCUMFLEXEQUAL") 853 (.int (43) 852)), (de P (Str.ofString "LEFTSHIFTEQUAL") 855 (.int (44) 854)), (de P (Str.ofString "RIGHTSHIFTEQUAL") 857 (.int (45) 856)), (de P (Str.ofString "DOUBLESTAREQUAL") 859 (.int (46) 858)), (de P (Str.ofString "DOUBLESLASH") 861 (.int (47) 860)), (de P (Str.ofString "DOUBLESLASHEQUAL") 863 (.int (48) 862)), (de P (Str.ofString "AT") 865 (.int (49) 864)), (de P (Str.ofString "ATEQUAL") 867 (.int (50) 866)), (de P (Str.ofString "RARROW") 869 (.int (51) 868)), (de P (Str.ofString "ELLIPSIS") 871 (.int (52) 870)), (de P (Str.ofString "COLONEQUAL") 873 (.int (53) 872)), (de P (Str.ofString "EXCLAMATION") 875 (.int (54) 874)), (de P (Str.ofString "NT_OFFSET") 877 (.int (256) 876)), (de P (Str.ofString "EXACT_TOKEN_TYPES") 974 (.ref 166)), (de P (Str.ofString "ISTERMINAL") 981 (.ref 175)), (de P (Str.ofString "ISNONTERMINAL") 988 (.ref 182)), (de P (Str.ofString "ISEOF") 995 (.ref 189)), (de P (Str.ofString "_law_sign") 1006 (.ref 196)), (de P (Str.ofString "_law_held") 1013 (.ref 203)), (de P (Str.ofString "_law_mail") 1023 (.ref 210)), (de P (Str.ofString "_law_places") 1029 (.ref 215)), (de P (Str.ofString "_law_worth") 1040 (.ref 222)), (de P (Str.ofString "law") 1046 (.ref 227))] 89), #[]⟩
noncomputable def o139 (P : Params) : Obj := ⟨.none, none, (.fields #[(.int (7) 0), (.int (0) 0), (.ref 52), (.int (9) 0), (.int (0) 0), (.ref 59), (.int (11) 0), (.int (0) 0), (.ref 66), (.int (15) 0), (.int (0) 0), (.ref 84), (.int (17) 0), (.int (0) 0), (.ref 91), (.int (19) 0), (.int (0) 0), (.ref 98), (.int (27) 0), (.int (0) 0), (.ref 110), (.int (30) 0), (.int (0) 0), (.ref 122), (.int (33) 0), (.int (0) 0), (.ref 146), (.int (36) 0), (.int (0) 0), (.ref 164), (.int (90) 0), (.int (0) 0), (.ref 174), (.int (92) 0), (.int (0) 0), (.ref 181), (.int (94) 0), (.int (0) 0), (.ref 188), (.int (97) 0), (.int (0) 0), (.ref 195), (.int (101) 0), (.int (0) 0), (.ref 202), (.int (105) 0), (.int (0) 0), (.ref 209), (.int (115) 0), (.int (0) 0), (.ref 214), (.int (126) 0), (.int (0) 0), (.ref 221), (.int (134) 0), (.int (0) 0), (.ref 226)]), #[]⟩
noncomputable def o140 (P : Params) : Obj := ⟨(.type "tuple"), none, (.seq #[(.str (Str.ofString "x") 978)] 0), #[]⟩
noncomputable def o141 (P : Params) : Obj := ⟨.none, none, (.func ⟨(Str.ofString "ISTERMINAL"), (Str.ofString "ISTERMINAL"), fnP (st 73), .stmts (fnB (st 73)), fnS (st 73), 0, [], .none, .none, .none, .none, none, .none, .none, 0⟩), #[]⟩
noncomputable def o142 (P : Params) : Obj := ⟨(.type "code"), none, (.fields #[(.str (Str.ofString "ISTERMINAL") 975), (.str (Str.ofString "ISTERMINAL") 976), (.str (Str.ofString "/claim/cut.py") 977), (.int (90) 0), (.int (1) 0), (.int (0) 0), (.int (0) 0), (.int (3) 0), (.ref 169), (.bool true), (.int (276) 0), (.ref 170), .none, (.ref 171), (.ref 172), (.ref 173), (.int (979) 0), (.int (90) 0), (.str (Str.ofString "/claim/cut.py") 980)]), #[]⟩
noncomputable def o143 (P : Params) : Obj := ⟨(.type "function"), none, (.func ⟨(Str.ofString "ISTERMINAL"), (Str.ofString "ISTERMINAL"), fnP (st 73), .stmts (fnB (st 73)), fnS (st 73), 3, [], .none, .none, .none, (.str (Str.ofString "cpy313.token") 776), none, (.ref 174), .none, 0⟩), #[]⟩
noncomputable def o144 (P : Params) : Obj := ⟨(.type "tuple"), none, (.seq #[(.str (Str.ofString "x") 985)] 0), #[]⟩
noncomputable def o145 (P : Params) : Obj := ⟨.none, none, (.func ⟨(Str.ofString "ISNONTERMINAL"), (Str.ofString "ISNONTERMINAL"), fnP (st 74), .stmts (fnB (st 74)), fnS (st 74), 0, [], .none, .none, .none, .none, none, .none, .none, 0⟩), #[]⟩
noncomputable def o146 (P : Params) : Obj := ⟨(.type "code"), none, (.fields #[(.str (Str.ofString "ISNONTERMINAL") 982), (.str (Str.ofString "ISNONTERMINAL") 983), (.str (Str.ofString "/claim/cut.py") 984), (.int (92) 0), (.int (1) 0), (.int (0) 0), (.int (0) 0), (.int (3) 0), (.ref 176), (.bool true), (.int (276) 0), (.ref 177), .none, (.ref 178), (.ref 179), (.ref 180), (.int (986) 0), (.int (92) 0), (.str (Str.ofString "/claim/cut.py") 987)]), #[]⟩
noncomputable def o147 (P : Params) : Obj := ⟨(.type "function"), none, (.func ⟨(Str.ofString "ISNONTERMINAL"), (Str.ofString "ISNONTERMINAL"), fnP (st 74), .stmts (fnB (st 74)), fnS (st 74), 3, [], .none, .none, .none, (.str (Str.ofString "cpy313.token") 776), none, (.ref 181), .none, 0⟩), #[]⟩
noncomputable def o148 (P : Params) : Obj := ⟨(.type "tuple"), none, (.seq #[(.str (Str.ofString "x") 992)] 0), #[]⟩
noncomputable def o149 (P : Params) : Obj := ⟨.none, none, (.func ⟨(Str.ofString "ISEOF"), (Str.ofString "ISEOF"), fnP (st 75), .stmts (fnB (st 75)), fnS (st 75), 0, [], .none, .none, .none, .none, none, .none, .none, 0⟩), #[]⟩
noncomputable def o150 (P : Params) : Obj := ⟨(.type "code"), none, (.fields #[(.str (Str.ofString "ISEOF") 989), (.str (Str.ofString "ISEOF") 990), (.str (Str.ofString "/claim/cut.py") 991), (.int (94) 0), (.int (1) 0), (.int (0) 0), (.int (0) 0), (.int (3) 0), (.ref 183), (.bool true), (.int (276) 0), (.ref 184), .none, (.ref 185), (.ref 186), (.ref 187), (.int (993) 0), (.int (94) 0), (.str (Str.ofString "/claim/cut.py") 994)]), #[]⟩
noncomputable def o151 (P : Params) : Obj := ⟨(.type "function"), none, (.func ⟨(Str.ofString "ISEOF"), (Str.ofString "ISEOF"), fnP (st 75), .stmts (fnB (st 75)), fnS (st 75), 3, [], .none, .none, .none, (.str (Str.ofString "cpy313.token") 776), none, (.ref 188), .none, 0⟩), #[]⟩
noncomputable def o152 (P : Params) : Obj := ⟨(.type "tuple"), none, (.seq #[(.str (Str.ofString "x") 1001), (.str (Str.ofString "stocks") 1002), (.str (Str.ofString "stock") 1003)] 0), #[]⟩
noncomputable def o153 (P : Params) : Obj := ⟨.none, none, (.func ⟨(Str.ofString "_law_sign"), (Str.ofString "_law_sign"), fnP (st 77), .stmts (fnB (st 77)), fnS (st 77), 0, [], .none, .none, .none, .none, none, .none, .none, 0⟩), #[]⟩
noncomputable def o154 (P : Params) : Obj := ⟨(.type "code"), none, (.fields #[(.str (Str.ofString "_law_sign") 998), (.str (Str.ofString "_law_sign") 999), (.str (Str.ofString "/claim/cut.py") 1000), (.int (97) 0), (.int (1) 0), (.int (0) 0), (.int (0) 0), (.int (3) 0), (.ref 190), (.bool true), (.int (276) 0), (.ref 191), .none, (.ref 192), (.ref 193), (.ref 194), (.int (1004) 0), (.int (97) 0), (.str (Str.ofString "/claim/cut.py") 1005)]), #[]⟩
noncomputable def o155 (P : Params) : Obj := ⟨(.type "function"), none, (.func ⟨(Str.ofString "_law_sign"), (Str.ofString "_law_sign"), fnP (st 77), .stmts (fnB (st 77)), fnS (st 77), 3, [], .none, .none, .none, (.str (Str.ofString "law_re0070_01") 996), none, (.ref 195), .none, 0⟩), #[]⟩
noncomputable def o156 (P : Params) : Obj := ⟨(.type "tuple"), none, (.seq #[(.str (Str.ofString "sign") 1010)] 0), #[]⟩
noncomputable def o157 (P : Params) : Obj := ⟨.none, none, (.func ⟨(Str.ofString "_law_held"), (Str.ofString "_law_held"), fnP (st 78), .stmts (fnB (st 78)), fnS (st 78), 0, [], .none, .none, .none, .none, none, .none, .none, 0⟩), #[]⟩
noncomputable def o158 (P : Params) : Obj := ⟨(.type "code"), none, (.fields #[(.str (Str.ofString "_law_held") 1007), (.str (Str.ofString "_law_held") 1008), (.str (Str.ofString "/claim/cut.py") 1009), (.int (101) 0), (.int (1) 0), (.int (0) 0), (.int (0) 0), (.int (3) 0), (.ref 197), (.bool true), (.int (276) 0), (.ref 198), .none, (.ref 199), (.ref 200), (.ref 201), (.int (1011) 0), (.int (101) 0), (.str (Str.ofString "/claim/cut.py") 1012)]), #[]⟩
noncomputable def o159 (P : Params) : Obj := ⟨(.type "function"), none, (.func ⟨(Str.ofString "_law_held"), (Str.ofString "_law_held"), fnP (st 78), .stmts (fnB (st 78)), fnS (st 78), 3, [], .none, .none, .none, (.str (Str.ofString "law_re0070_01") 996), none, (.ref 202), .none, 0⟩), #[]⟩
noncomputable def o160 (P : Params) : Obj := ⟨(.type "tuple"), none, (.seq #[(.str (Str.ofString "coins") 1017), (.str (Str.ofString "halves") 1018), (.str (Str.ofString "mail") 1019), (.str (Str.ofString "coin") 1020)] 0), #[]⟩
noncomputable def o161 (P : Params) : Obj := ⟨.none, none, (.func ⟨(Str.ofString "_law_mail"), (Str.ofString "_law_mail"), fnP (st 79), .stmts (fnB (st 79)), fnS (st 79), 0, [], .none, .none, .none, .none, none, .none, .none, 0⟩), #[]⟩
noncomputable def o162 (P : Params) : Obj := ⟨(.type "code"), none, (.fields #[(.str (Str.ofString "_law_mail") 1014), (.str (Str.ofString "_law_mail") 1015), (.str (Str.ofString "/claim/cut.py") 1016), (.int (105) 0), (.int (2) 0), (.int (0) 0), (.int (0) 0), (.int (3) 0), (.ref 204), (.bool true), (.int (276) 0), (.ref 205), .none, (.ref 206), (.ref 207), (.ref 208), (.int (1021) 0), (.int (105) 0), (.str (Str.ofString "/claim/cut.py") 1022)]), #[]⟩
noncomputable def o163 (P : Params) : Obj := ⟨(.type "function"), none, (.func ⟨(Str.ofString "_law_mail"), (Str.ofString "_law_mail"), fnP (st 79), .stmts (fnB (st 79)), fnS (st 79), 3, [], .none, .none, .none, (.str (Str.ofString "law_re0070_01") 996), none, (.ref 209), .none, 0⟩), #[]⟩
noncomputable def o164 (P : Params) : Obj := ⟨.none, none, (.func ⟨(Str.ofString "_law_places"), (Str.ofString "_law_places"), fnP (st 80), .stmts (fnB (st 80)), fnS (st 80), 0, [], .none, .none, .none, .none, none, .none, .none, 0⟩), #[]⟩
noncomputable def o165 (P : Params) : Obj := ⟨(.type "code"), none, (.fields #[(.str (Str.ofString "_law_places") 1024), (.str (Str.ofString "_law_places") 1025), (.str (Str.ofString "/claim/cut.py") 1026), (.int (115) 0), (.int (1) 0), (.int (0) 0), (.int (0) 0), (.int (3) 0), (.ref 211), (.bool true), (.int (276) 0), (.ref 212), .none, .none, .none, (.ref 213), (.int (1027) 0), (.int (115) 0), (.str (Str.ofString "/claim/cut.py") 1028)]), #[]⟩
noncomputable def o166 (P : Params) : Obj := ⟨(.type "function"), none, (.func ⟨(Str.ofString "_law_places"), (Str.ofString "_law_places"), fnP (st 80), .stmts (fnB (st 80)), fnS (st 80), 3, [], .none, .none, .none, (.str (Str.ofString "law_re0070_01") 996), none, (.ref 214), .none, 0⟩), #[]⟩
noncomputable def o167 (P : Params) : Obj := ⟨(.type "tuple"), none, (.seq #[(.str (Str.ofString "coins") 1033), (.str (Str.ofString "told") 1034), (.str (Str.ofString "k") 1035), (.str (Str.ofString "other") 1036), (.str (Str.ofString "gap") 1037)] 0), #[]⟩
noncomputable def o168 (P : Params) : Obj := ⟨.none, none, (.func ⟨(Str.ofString "_law_worth"), (Str.ofString "_law_worth"), fnP (st 81), .stmts (fnB (st 81)), fnS (st 81), 0, [], .none, .none, .none, .none, none, .none, .none, 0⟩), #[]⟩
noncomputable def o169 (P : Params) : Obj := ⟨(.type "code"), none, (.fields #[(.str (Str.ofString "_law_worth") 1030), (.str (Str.ofString "_law_worth") 1031), (.str (Str.ofString "/claim/cut.py") 1032), (.int (126) 0), (.int (1) 0), (.int (0) 0), (.int (0) 0), (.int (3) 0), (.ref 216), (.bool true), (.int (276) 0), (.ref 217), .none, (.ref 218), (.ref 219), (.ref 220), (.int (1038) 0), (.int (126) 0), (.str (Str.ofString "/claim/cut.py") 1039)]), #[]⟩
noncomputable def o170 (P : Params) : Obj := ⟨(.type "function"), none, (.func ⟨(Str.ofString "_law_worth"), (Str.ofString "_law_worth"), fnP (st 81), .stmts (fnB (st 81)), fnS (st 81), 3, [], .none, .none, .none, (.str (Str.ofString "law_re0070_01") 996), none, (.ref 221), .none, 0⟩), #[]⟩
noncomputable def o171 (P : Params) : Obj := ⟨.none, none, (.func ⟨(Str.ofString "law"), (Str.ofString "law"), fnP (st 82), .stmts (fnB (st 82)), fnS (st 82), 0, [], .none, .none, .none, .none, none, .none, .none, 0⟩), #[]⟩
noncomputable def o172 (P : Params) : Obj := ⟨(.type "code"), none, (.fields #[(.str (Str.ofString "law") 1041), (.str (Str.ofString "law") 1042), (.str (Str.ofString "/claim/cut.py") 1043), (.int (134) 0), (.int (1) 0), (.int (0) 0), (.int (0) 0), (.int (3) 0), (.ref 223), (.bool true), (.int (276) 0), (.ref 224), .none, .none, .none, (.ref 225), (.int (1044) 0), (.int (134) 0), (.str (Str.ofString "/claim/cut.py") 1045)]), #[]⟩
noncomputable def o173 (P : Params) : Obj := ⟨(.type "function"), none, (.func ⟨(Str.ofString "law"), (Str.ofString "law"), fnP (st 82), .stmts (fnB (st 82)), fnS (st 82), 3, [], .none, .none, .none, (.str (Str.ofString "law_re0070_01") 996), none, (.ref 226), .none, 0⟩), #[]⟩
noncomputable def T12 (P : Params) : BT := (N (o0 P) (N (o1 P) (N (o138 P) (N (o7 P) (N (o7 P) (N (o28 P) (N (o48 P) (N (o100 P) .nil .nil) (N (o8 P) .nil .nil)) (N (o72 P) (N (o7 P) .nil .nil) (N (o7 P) .nil .nil))) (N (o7 P) (N (o7 P) (N (o113 P) .nil .nil) (N (o7 P) .nil .nil)) (N (o85 P) (N (o143 P) .nil .nil) .nil))) (N (o22 P) (N (o32 P) (N (o56 P) (N (o106 P) .nil .nil) (N (o156 P) .nil .nil)) (N (o7 P) (N (o136 P) .nil .nil) .nil)) (N (o8 P) (N (o8 P) (N (o121 P) .nil .nil) (N (o166 P) .nil .nil)) (N (o92 P) (N (o7 P) .nil .nil) .nil)))) (N (o11 P) (N (o18 P) (N (o33 P) (N (o51 P) (N (o103 P) .nil .nil) (N (o154 P) .nil .nil)) (N (o75 P) (N (o130 P) .nil .nil) (N (o173 P) .nil .nil))) (N (o41 P) (N (o65 P) (N (o116 P) .nil .nil) (N (o7 P) .nil .nil)) (N (o7 P) (N (o7 P) .nil .nil) .nil))) (N (o26 P) (N (o6 P) (N (o59 P) (N (o7 P) .nil .nil) (N (o159 P) .nil .nil)) (N (o82 P) (N (o140 P) .nil .nil) .nil)) (N (o46 P) (N (o70 P) (N (o124 P) .nil .nil) (N (o7 P) .nil .nil)) (N (o95 P) (N (o149 P) .nil .nil) .nil))))) (N (o5 P) (N (o9 P) (N (o16 P) (N (o6 P) (N (o49 P) (N (o101 P) .nil .nil) (N (o7 P) .nil .nil)) (N (o73 P) (N (o129 P) .nil .nil) (N (o171 P) .nil .nil))) (N (o40 P) (N (o64 P) (N (o114 P) .nil .nil) (N (o162 P) .nil .nil)) (N (o89 P) (N (o8 P) .nil .nil) .nil))) (N (o24 P) (N (o36 P) (N (o57 P) (N (o108 P) .nil .nil) (N (o157 P) .nil .nil)) (N (o7 P) (N (o7 P) .nil .nil) .nil)) (N (o7 P) (N (o7 P) (N (o122 P) .nil .nil) (N (o8 P) .nil .nil)) (N (o93 P) (N (o148 P) .nil .nil) .nil)))) (N (o13 P) (N (o20 P) (N (o35 P) (N (o54 P) (N (o105 P) .nil .nil) (N (o7 P) .nil .nil)) (N (o79 P) (N (o132 P) .nil .nil) .nil)) (N (o43 P) (N (o67 P) (N (o119 P) .nil .nil) (N (o164 P) .nil .nil)) (N (o7 P) (N (o146 P) .nil .nil) .nil))) (N (o139 P) (N (o38 P) (N (o7 P) (N (o7 P) .nil .nil) (N (o8 P) .nil .nil)) (N (o83 P) (N (o141 P) .nil .nil) .nil)) (N (o7 P) (N (o7 P) (N (o7 P) .nil .nil) (N (o169 P) .nil .nil)) (N (o98 P) (N (o151 P) .nil .nil) .nil)))))) (N (o2 P) (N (o4 P) (N (o8 P) (N (o15 P) (N (o31 P) (N (o7 P) (N (o7 P) .nil .nil) (N (o152 P) .nil .nil)) (N (o7 P) (N (o8 P) .nil .nil) (N (o8 P) .nil .nil))) (N (o8 P) (N (o8 P) (N (o7 P) .nil .nil) (N (o161 P) .nil .nil)) (N (o88 P) (N (o7 P) .nil .nil) .nil))) (N (o23 P) (N (o33 P) (N (o7 P) (N (o107 P) .nil .nil) (N (o7 P) .nil .nil)) (N (o81 P) (N (o137 P) .nil .nil) .nil)) (N (o44 P) (N (o68 P) (N (o7 P) .nil .nil) (N (o7 P) .nil .nil)) (N (o7 P) (N (o8 P) .nil .nil) .nil)))) (N (o12 P) (N (o19 P) (N (o34 P) (N (o53 P) (N (o104 P) .nil .nil) (N (o155 P) .nil .nil)) (N (o78 P) (N (o131 P) .nil .nil) .nil)) (N (o42 P) (N (o66 P) (N (o118 P) .nil .nil) (N (o8 P) .nil .nil)) (N (o91 P) (N (o145 P) .nil .nil) .nil))) (N (o7 P) (N (o32 P) (N (o60 P) (N (o110 P) .nil .nil) (N (o7 P) .nil .nil)) (N (o7 P) (N (o7 P) .nil .nil) .nil)) (N (o47 P) (N (o71 P) (N (o125 P) .nil .nil) (N (o168 P) .nil .nil)) (N (o97 P) (N (o150 P) .nil .nil) .nil))))) (N (o6 P) (N (o10 P) (N (o17 P) (N (o32 P) (N (o50 P) (N (o102 P) .nil .nil) (N (o153 P) .nil .nil)) (N (o74 P) (N (o7 P) .nil .nil) (N (o172 P) .nil .nil))) (N (o7 P) (N (o7 P) (N (o115 P) .nil .nil) (N (o163 P) .nil .nil)) (N (o90 P) (N (o144 P) .nil .nil) .nil))) (N (o25 P) (N (o37 P) (N (o58 P) (N (o109 P) .nil .nil) (N (o158 P) .nil .nil)) (N (o8 P) (N (o8 P) .nil .nil) .nil)) (N (o45 P) (N (o69 P) (N (o123 P) .nil .nil) (N (o167 P) .nil .nil)) (N (o94 P) (N (o7 P) .nil .nil) .nil)))) (N (o14 P) (N (o21 P) (N (o6 P) (N (o55 P) (N (o7 P) .nil .nil) (N (o8 P) .nil .nil)) (N (o80 P) (N (o135 P) .nil .nil) .nil)) (N (o7 P) (N (o7 P) (N (o120 P) .nil .nil) (N (o165 P) .nil .nil)) (N (o8 P) (N (o147 P) .nil .nil) .nil))) (N (o27 P) (N (o39 P) (N (o61 P) (N (o8 P) .nil .nil) (N (o160 P) .nil .nil)) (N (o84 P) (N (o142 P) .nil .nil) .nil)) (N (o8 P) (N (o8 P) (N (o126 P) .nil .nil) (N (o170 P) .nil .nil)) (N (o99 P) (N (o7 P) .nil .nil) .nil)))))))
noncomputable def Hf (P : Params) : Heap := ⟨#[o0 P, o1 P, o2 P, o138 P, o4 P, o5 P, o6 P, o7 P, o8 P, o9 P, o10 P, o11 P, o12 P, o13 P, o14 P, o7 P, o15 P, o16 P, o17 P, o18 P, o19 P, o20 P, o21 P, o22 P, o23 P, o24 P, o25 P, o26 P, o7 P, o139 P, o27 P, o28 P, o31 P, o6 P, o32 P, o33 P, o34 P, o35 P, o6 P, o32 P, o33 P, o36 P, o37 P, o6 P, o32 P, o38 P, o39 P, o7 P, o8 P, o40 P, o7 P, o41 P, o42 P, o43 P, o7 P, o8 P, o44 P, o7 P, o45 P, o46 P, o47 P, o7 P, o8 P, o48 P, o7 P, o49 P, o50 P, o51 P, o53 P, o54 P, o55 P, o56 P, o7 P, o57 P, o58 P, o59 P, o60 P, o7 P, o61 P, o7 P, o8 P, o64 P, o7 P, o65 P, o66 P, o67 P, o7 P, o8 P, o68 P, o7 P, o69 P, o70 P, o71 P, o7 P, o8 P, o72 P, o7 P, o73 P, o74 P, o75 P, o78 P, o79 P, o80 P, o7 P, o81 P, o7 P, o8 P, o82 P, o7 P, o83 P, o84 P, o85 P, o88 P, o89 P, o90 P, o7 P, o91 P, o7 P, o8 P, o92 P, o7 P, o93 P, o94 P, o95 P, o97 P, o98 P, o99 P, o100 P, o7 P, o101 P, o102 P, o103 P, o104 P, o105 P, o7 P, o106 P, o107 P, o108 P, o109 P, o7 P, o110 P, o7 P, o8 P, o113 P, o7 P, o114 P, o115 P, o116 P, o118 P, o119 P, o120 P, o121 P, o7 P, o122 P, o123 P, o124 P, o125 P, o7 P, o126 P, o7 P, o8 P, o129 P, o7 P, o130 P, o131 P, o132 P, o135 P, o136 P, o137 P, o7 P, o8 P, o140 P, o7 P, o141 P, o142 P, o143 P, o7 P, o8 P, o144 P, o7 P, o145 P, o146 P, o147 P, o7 P, o8 P, o148 P, o7 P, o149 P, o150 P, o151 P, o7 P, o8 P, o152 P, o7 P, o153 P, o154 P, o155 P, o7 P, o8 P, o156 P, o7 P, o157 P, o158 P, o159 P, o7 P, o8 P, o160 P, o7 P, o161 P, o162 P, o163 P, o7 P, o8 P, o164 P, o165 P, o166 P, o7 P, o8 P, o167 P, o7 P, o168 P, o169 P, o170 P, o7 P, o8 P, o171 P, o172 P, o173 P], ⟨[], [], [], 0, [], [], false, #[], [], 0, false, false, false, 0, [2000, 10, 10], false, 0, true, [], [], 0, false⟩⟩
noncomputable def o174 (P : Params) : Obj := ⟨(.type "set"), none, (.set #[se 917536 575, se 917505 569, se 917538 577, se 917539 578, se 917537 576] 6 ⟨31, #[0, 1, 2, 3, 4], #[], 0, !P.followText "set-order", 1, true⟩), #[]⟩
noncomputable def o175 (P : Params) : Obj := ⟨(.type "list_iterator"), none, (.fields #[(.ref 154), (.int (5) 0)]), #[]⟩
noncomputable def TX (P : Params) (x0 : Obj) (x1 : Obj) : BT := (N (o0 P) (N (o1 P) (N (o111 P) (N (o7 P) (N (o7 P) (N (o28 P) (N (o48 P) (N (o100 P) .nil .nil) .nil) (N (o72 P) .nil .nil)) (N (o7 P) (N (o7 P) (N (o113 P) .nil .nil) .nil) (N (o85 P) .nil .nil))) (N (o22 P) (N (o32 P) (N (o56 P) (N (o106 P) .nil .nil) .nil) (N (o7 P) .nil .nil)) (N (o8 P) (N (o8 P) (N (o121 P) .nil .nil) .nil) (N (o92 P) .nil .nil)))) (N (o11 P) (N (o18 P) (N (o33 P) (N (o51 P) (N (o103 P) .nil .nil) .nil) (N (o75 P) .nil .nil)) (N (o41 P) (N (o65 P) (N (o116 P) .nil .nil) .nil) (N (o7 P) .nil .nil))) (N (o26 P) (N (o6 P) (N (o59 P) (N (o7 P) .nil .nil) .nil) (N (o82 P) .nil .nil)) (N (o46 P) (N (o70 P) (N x0 .nil .nil) .nil) (N (o95 P) .nil .nil))))) (N (o5 P) (N (o9 P) (N (o16 P) (N (o6 P) (N (o49 P) (N (o101 P) .nil .nil) .nil) (N (o73 P) .nil .nil)) (N (o40 P) (N (o64 P) (N (o114 P) .nil .nil) .nil) (N (o89 P) .nil .nil))) (N (o24 P) (N (o36 P) (N (o57 P) (N (o108 P) .nil .nil) .nil) (N (o7 P) .nil .nil)) (N (o7 P) (N (o7 P) (N (o122 P) .nil .nil) .nil) (N (o93 P) .nil .nil)))) (N (o13 P) (N (o20 P) (N (o35 P) (N (o54 P) (N (o105 P) .nil .nil) .nil) (N (o79 P) .nil .nil)) (N (o43 P) (N (o67 P) (N (o119 P) .nil .nil) .nil) (N (o7 P) .nil .nil))) (N (o112 P) (N (o38 P) (N (o7 P) (N (o7 P) .nil .nil) .nil) (N (o83 P) .nil .nil)) (N (o7 P) (N (o7 P) .nil .nil) (N (o98 P) .nil .nil)))))) (N (o2 P) (N (o4 P) (N (o8 P) (N (o15 P) (N (o31 P) (N (o7 P) (N (o7 P) .nil .nil) .nil) (N (o7 P) .nil .nil)) (N (o8 P) (N (o8 P) (N (o7 P) .nil .nil) .nil) (N (o88 P) .nil .nil))) (N (o23 P) (N (o33 P) (N (o7 P) (N (o107 P) .nil .nil) .nil) (N (o81 P) .nil .nil)) (N (o44 P) (N (o68 P) (N (o7 P) .nil .nil) .nil) (N (o7 P) .nil .nil)))) (N (o12 P) (N (o19 P) (N (o34 P) (N (o53 P) (N (o104 P) .nil .nil) .nil) (N (o78 P) .nil .nil)) (N (o42 P) (N (o66 P) (N (o118 P) .nil .nil) .nil) (N (o91 P) .nil .nil))) (N (o7 P) (N (o32 P) (N (o60 P) (N (o110 P) .nil .nil) .nil) (N (o7 P) .nil .nil)) (N (o47 P) (N (o71 P) (N x1 .nil .nil) .nil) (N (o97 P) .nil .nil))))) (N (o6 P) (N (o10 P) (N (o17 P) (N (o32 P) (N (o50 P) (N (o102 P) .nil .nil) .nil) (N (o74 P) .nil .nil)) (N (o7 P) (N (o7 P) (N (o115 P) .nil .nil) .nil) (N (o90 P) .nil .nil))) (N (o25 P) (N (o37 P) (N (o58 P) (N (o109 P) .nil .nil) .nil) (N (o8 P) .nil .nil)) (N (o45 P) (N (o69 P) (N (o123 P) .nil .nil) .nil) (N (o94 P) .nil .nil)))) (N (o14 P) (N (o21 P) (N (o6 P) (N (o55 P) (N (o7 P) .nil .nil) .nil) (N (o80 P) .nil .nil)) (N (o7 P) (N (o7 P) (N (o120 P) .nil .nil) .nil) (N (o8 P) .nil .nil))) (N (o27 P) (N (o39 P) (N (o61 P) (N (o8 P) .nil .nil) .nil) (N (o84 P) .nil .nil)) (N (o8 P) (N (o8 P) .nil .nil) (N (o99 P) .nil .nil)))))))
noncomputable def TL0 (P : Params) : BT := TX P (o174 P) (o175 P)
noncomputable def o176 (P : Params) : Obj := ⟨(.type "set"), none, (.set #[se 917536 575, se 917505 569, se 917538 577, se 917539 578, se 917537 576, se 917540 579] 7 ⟨31, #[0, 1, 2, 3, 4, 5], #[], 0, !P.followText "set-order", 1, true⟩), #[]⟩
noncomputable def o177 (P : Params) : Obj := ⟨(.type "list_iterator"), none, (.fields #[(.ref 154), (.int (6) 0)]), #[]⟩
noncomputable def TL1 (P : Params) : BT := TX P (o176 P) (o177 P)
noncomputable def o178 (P : Params) : Obj := ⟨(.type "set"), none, (.set #[se 917536 575, se 917505 569, se 917538 577, se 917539 578, se 917537 576, se 917540 579, se 917541 580] 8 ⟨31, #[0, 1, 2, 3, 4, 5, 6], #[], 0, !P.followText "set-order", 1, true⟩), #[]⟩
noncomputable def o179 (P : Params) : Obj := ⟨(.type "list_iterator"), none, (.fields #[(.ref 154), (.int (7) 0)]), #[]⟩
noncomputable def TL2 (P : Params) : BT := TX P (o178 P) (o179 P)
noncomputable def o180 (P : Params) : Obj := ⟨(.type "set"), none, (.set #[se 917536 575, se 917505 569, se 917538 577, se 917539 578, se 917537 576, se 917540 579, se 917541 580, se 917542 581] 9 ⟨31, #[0, 1, 2, 3, 4, 5, 6, 7], #[], 0, !P.followText "set-order", 1, true⟩), #[]⟩
noncomputable def o181 (P : Params) : Obj := ⟨(.type "list_iterator"), none, (.fields #[(.ref 154), (.int (8) 0)]), #[]⟩
noncomputable def TL3 (P : Params) : BT := TX P (o180 P) (o181 P)
noncomputable def o182 (P : Params) : Obj := ⟨(.type "set"), none, (.set #[se 917536 575, se 917505 569, se 917538 577, se 917539 578, se 917537 576, se 917540 579, se 917541 580, se 917542 581, se 917543 582] 10 ⟨31, #[0, 1, 2, 3, 4, 5, 6, 7, 8], #[], 0, !P.followText "set-order", 1, true⟩), #[]⟩
noncomputable def o183 (P : Params) : Obj := ⟨(.type "list_iterator"), none, (.fields #[(.ref 154), (.int (9) 0)]), #[]⟩
noncomputable def TL4 (P : Params) : BT := TX P (o182 P) (o183 P)
noncomputable def o184 (P : Params) : Obj := ⟨(.type "set"), none, (.set #[se 917536 575, se 917505 569, se 917538 577, se 917539 578, se 917537 576, se 917540 579, se 917541 580, se 917542 581, se 917543 582, se 917544 583] 11 ⟨31, #[0, 1, 2, 3, 4, 5, 6, 7, 8, 9], #[], 0, !P.followText "set-order", 1, true⟩), #[]⟩
noncomputable def o185 (P : Params) : Obj := ⟨(.type "list_iterator"), none, (.fields #[(.ref 154), (.int (10) 0)]), #[]⟩
noncomputable def TL5 (P : Params) : BT := TX P (o184 P) (o185 P)
noncomputable def o186 (P : Params) : Obj := ⟨(.type "set"), none, (.set #[se 917536 575, se 917505 569, se 917538 577, se 917539 578, se 917537 576, se 917540 579, se 917541 580, se 917542 581, se 917543 582, se 917544 583, se 917545 584] 12 ⟨31, #[0, 1, 2, 3, 4, 5, 6, 7, 8, 9, 10], #[], 0, !P.followText "set-order", 1, true⟩), #[]⟩
noncomputable def o187 (P : Params) : Obj := ⟨(.type "list_iterator"), none, (.fields #[(.ref 154), (.int (11) 0)]), #[]⟩
noncomputable def TL6 (P : Params) : BT := TX P (o186 P) (o187 P)
noncomputable def o188 (P : Params) : Obj := ⟨(.type "set"), none, (.set #[se 917536 575, se 917505 569, se 917538 577, se 917539 578, se 917537 576, se 917540 579, se 917541 580, se 917542 581, se 917543 582, se 917544 583, se 917545 584, se 917546 585] 13 ⟨31, #[0, 1, 2, 3, 4, 5, 6, 7, 8, 9, 10, 11], #[], 0, !P.followText "set-order", 1, true⟩), #[]⟩
noncomputable def o189 (P : Params) : Obj := ⟨(.type "list_iterator"), none, (.fields #[(.ref 154), (.int (12) 0)]), #[]⟩
noncomputable def TL7 (P : Params) : BT := TX P (o188 P) (o189 P)
noncomputable def o190 (P : Params) : Obj := ⟨(.type "set"), none, (.set #[se 917536 575, se 917505 569, se 917538 577, se 917539 578, se 917537 576, se 917540 579, se 917541 580, se 917542 581, se 917543 582, se 917544 583, se 917545 584, se 917546 585, se 917547 586] 14 ⟨31, #[0, 1, 2, 3, 4, 5, 6, 7, 8, 9, 10, 11, 12], #[], 0, !P.followText "set-order", 1, true⟩), #[]⟩
noncomputable def o191 (P : Params) : Obj := ⟨(.type "list_iterator"), none, (.fields #[(.ref 154), (.int (13) 0)]), #[]⟩
noncomputable def TL8 (P : Params) : BT := TX P (o190 P) (o191 P)
noncomputable def o192 (P : Params) : Obj := ⟨(.type "set"), none, (.set #[se 917536 575, se 917505 569, se 917538 577, se 917539 578, se 917537 576, se 917540 579, se 917541 580, se 917542 581, se 917543 582, se 917544 583, se 917545 584, se 917546 585, se 917547 586, se 917548 587] 15 ⟨31, #[0, 1, 2, 3, 4, 5, 6, 7, 8, 9, 10, 11, 12, 13], #[], 0, !P.followText "set-order", 1, true⟩), #[]⟩
noncomputable def o193 (P : Params) : Obj := ⟨(.type "list_iterator"), none, (.fields #[(.ref 154), (.int (14) 0)]), #[]⟩
noncomputable def TL9 (P : Params) : BT := TX P (o192 P) (o193 P)
noncomputable def o194 (P : Params) : Obj := ⟨(.type "set"), none, (.set #[se 917536 575, se 917505 569, se 917538 577, se 917539 578, se 917537 576, se 917540 579, se 917541 580, se 917542 581, se 917543 582, se 917544 583, se 917545 584, se 917546 585, se 917547 586, se 917548 587, se 917549 588] 16 ⟨31, #[0, 1, 2, 3, 4, 5, 6, 7, 8, 9, 10, 11, 12, 13, 14], #[], 0, !P.followText "set-order", 1, true⟩), #[]⟩
noncomputable def o195 (P : Params) : Obj := ⟨(.type "list_iterator"), none, (.fields #[(.ref 154), (.int (15) 0)]), #[]⟩
noncomputable def TL10 (P : Params) : BT := TX P (o194 P) (o195 P)
noncomputable def o196 (P : Params) : Obj := ⟨(.type "set"), none, (.set #[se 917536 575, se 917505 569, se 917538 577, se 917539 578, se 917537 576, se 917540 579, se 917541 580, se 917542 581, se 917543 582, se 917544 583, se 917545 584, se 917546 585, se 917547 586, se 917548 587, se 917549 588, se 917550 589] 17 ⟨31, #[0, 1, 2, 3, 4, 5, 6, 7, 8, 9, 10, 11, 12, 13, 14, 15], #[], 0, !P.followText "set-order", 1, true⟩), #[]⟩
noncomputable def o197 (P : Params) : Obj := ⟨(.type "list_iterator"), none, (.fields #[(.ref 154), (.int (16) 0)]), #[]⟩
noncomputable def TL11 (P : Params) : BT := TX P (o196 P) (o197 P)
noncomputable def o198 (P : Params) : Obj := ⟨(.type "set"), none, (.set #[se 917536 575, se 917505 569, se 917538 577, se 917539 578, se 917537 576, se 917540 579, se 917541 580, se 917542 581, se 917543 582, se 917544 583, se 917545 584, se 917546 585, se 917547 586, se 917548 587, se 917549 588, se 917550 589, se 917551 590] 18 ⟨31, #[0, 1, 2, 3, 4, 5, 6, 7, 8, 9, 10, 11, 12, 13, 14, 15, 16], #[], 0, !P.followText "set-order", 1, true⟩), #[]⟩
noncomputable def o199 (P : Params) : Obj := ⟨(.type "list_iterator"), none, (.fields #[(.ref 154), (.int (17) 0)]), #[]⟩
noncomputable def TL12 (P : Params) : BT := TX P (o198 P) (o199 P)
noncomputable def o200 (P : Params) : Obj := ⟨(.type "set"), none, (.set #[se 917536 575, se 917505 569, se 917538 577, se 917539 578, se 917537 576, se 917540 579, se 917541 580, se 917542 581, se 917543 582, se 917544 583, se 917545 584, se 917546 585, se 917547 586, se 917548 587, se 917549 588, se 917550 589, se 917551 590, se 917552 591] 19 ⟨31, #[0, 1, 2, 3, 4, 5, 6, 7, 8, 9, 10, 11, 12, 13, 14, 15, 16, 17], #[], 0, !P.followText "set-order", 1, true⟩), #[]⟩
noncomputable def o201 (P : Params) : Obj := ⟨(.type "list_iterator"), none, (.fields #[(.ref 154), (.int (18) 0)]), #[]⟩
noncomputable def TL13 (P : Params) : BT := TX P (o200 P) (o201 P)
noncomputable def o202 (P : Params) : Obj := ⟨(.type "set"), none, (.set #[se 917505 569, se 917536 575, se 917537 576, se 917538 577, se 917539 578, se 917540 579, se 917541 580, se 917542 581, se 917543 582, se 917544 583, se 917545 584, se 917546 585, se 917547 586, se 917548 587, se 917549 588, se 917550 589, se 917551 590, se 917552 591, se 917553 592] 21 ⟨127, #[1, 32, 33, 34, 35, 36, 37, 38, 39, 40, 41, 42, 43, 44, 45, 46, 47, 48, 49], #[], 0, !P.followText "set-order", 2, true⟩), #[]⟩
noncomputable def o203 (P : Params) : Obj := ⟨(.type "list_iterator"), none, (.fields #[(.ref 154), (.int (19) 0)]), #[]⟩
noncomputable def TL14 (P : Params) : BT := TX P (o202 P) (o203 P)
noncomputable def o204 (P : Params) : Obj := ⟨(.type "set"), none, (.set #[se 917505 569, se 917536 575, se 917537 576, se 917538 577, se 917539 578, se 917540 579, se 917541 580, se 917542 581, se 917543 582, se 917544 583, se 917545 584, se 917546 585, se 917547 586, se 917548 587, se 917549 588, se 917550 589, se 917551 590, se 917552 591, se 917553 592, se 917554 593] 22 ⟨127, #[1, 32, 33, 34, 35, 36, 37, 38, 39, 40, 41, 42, 43, 44, 45, 46, 47, 48, 49, 50], #[], 0, !P.followText "set-order", 2, true⟩), #[]⟩
noncomputable def o205 (P : Params) : Obj := ⟨(.type "list_iterator"), none, (.fields #[(.ref 154), (.int (20) 0)]), #[]⟩
noncomputable def TL15 (P : Params) : BT := TX P (o204 P) (o205 P)
noncomputable def o206 (P : Params) : Obj := ⟨(.type "set"), none, (.set #[se 917505 569, se 917536 575, se 917537 576, se 917538 577, se 917539 578, se 917540 579, se 917541 580, se 917542 581, se 917543 582, se 917544 583, se 917545 584, se 917546 585, se 917547 586, se 917548 587, se 917549 588, se 917550 589, se 917551 590, se 917552 591, se 917553 592, se 917554 593, se 917555 594] 23 ⟨127, #[1, 32, 33, 34, 35, 36, 37, 38, 39, 40, 41, 42, 43, 44, 45, 46, 47, 48, 49, 50, 51], #[], 0, !P.followText "set-order", 2, true⟩), #[]⟩
noncomputable def o207 (P : Params) : Obj := ⟨(.type "list_iterator"), none, (.fields #[(.ref 154), (.int (21) 0)]), #[]⟩
noncomputable def TL16 (P : Params) : BT := TX P (o206 P) (o207 P)
noncomputable def o208 (P : Params) : Obj := ⟨(.type "set"), none, (.set #[se 917505 569, se 917536 575, se 917537 576, se 917538 577, se 917539 578, se 917540 579, se 917541 580, se 917542 581, se 917543 582, se 917544 583, se 917545 584, se 917546 585, se 917547 586, se 917548 587, se 917549 588, se 917550 589, se 917551 590, se 917552 591, se 917553 592, se 917554 593, se 917555 594, se 917556 595] 24 ⟨127, #[1, 32, 33, 34, 35, 36, 37, 38, 39, 40, 41, 42, 43, 44, 45, 46, 47, 48, 49, 50, 51, 52], #[], 0, !P.followText "set-order", 2, true⟩), #[]⟩
noncomputable def o209 (P : Params) : Obj := ⟨(.type "list_iterator"), none, (.fields #[(.ref 154), (.int (22) 0)]), #[]⟩
noncomputable def TL17 (P : Params) : BT := TX P (o208 P) (o209 P)
noncomputable def o210 (P : Params) : Obj := ⟨(.type "set"), none, (.set #[se 917505 569, se 917536 575, se 917537 576, se 917538 577, se 917539 578, se 917540 579, se 917541 580, se 917542 581, se 917543 582, se 917544 583, se 917545 584, se 917546 585, se 917547 586, se 917548 587, se 917549 588, se 917550 589, se 917551 590, se 917552 591, se 917553 592, se 917554 593, se 917555 594, se 917556 595, se 917557 596] 25 ⟨127, #[1, 32, 33, 34, 35, 36, 37, 38, 39, 40, 41, 42, 43, 44, 45, 46, 47, 48, 49, 50, 51, 52, 53], #[], 0, !P.followText "set-order", 2, true⟩), #[]⟩
noncomputable def o211 (P : Params) : Obj := ⟨(.type "list_iterator"), none, (.fields #[(.ref 154), (.int (23) 0)]), #[]⟩
noncomputable def TL18 (P : Params) : BT := TX P (o210 P) (o211 P)
noncomputable def o212 (P : Params) : Obj := ⟨(.type "set"), none, (.set #[se 917505 569, se 917536 575, se 917537 576, se 917538 577, se 917539 578, se 917540 579, se 917541 580, se 917542 581, se 917543 582, se 917544 583, se 917545 584, se 917546 585, se 917547 586, se 917548 587, se 917549 588, se 917550 589, se 917551 590, se 917552 591, se 917553 592, se 917554 593, se 917555 594, se 917556 595, se 917557 596, se 917558 597] 26 ⟨127, #[1, 32, 33, 34, 35, 36, 37, 38, 39, 40, 41, 42, 43, 44, 45, 46, 47, 48, 49, 50, 51, 52, 53, 54], #[], 0, !P.followText "set-order", 2, true⟩), #[]⟩
noncomputable def o213 (P : Params) : Obj := ⟨(.type "list_iterator"), none, (.fields #[(.ref 154), (.int (24) 0)]), #[]⟩
noncomputable def TL19 (P : Params) : BT := TX P (o212 P) (o213 P)
noncomputable def o214 (P : Params) : Obj := ⟨(.type "set"), none, (.set #[se 917505 569, se 917536 575, se 917537 576, se 917538 577, se 917539 578, se 917540 579, se 917541 580, se 917542 581, se 917543 582, se 917544 583, se 917545 584, se 917546 585, se 917547 586, se 917548 587, se 917549 588, se 917550 589, se 917551 590, se 917552 591, se 917553 592, se 917554 593, se 917555 594, se 917556 595, se 917557 596, se 917558 597, se 917559 598] 27 ⟨127, #[1, 32, 33, 34, 35, 36, 37, 38, 39, 40, 41, 42, 43, 44, 45, 46, 47, 48, 49, 50, 51, 52, 53, 54, 55], #[], 0, !P.followText "set-order", 2, true⟩), #[]⟩
noncomputable def o215 (P : Params) : Obj := ⟨(.type "list_iterator"), none, (.fields #[(.ref 154), (.int (25) 0)]), #[]⟩
noncomputable def TL20 (P : Params) : BT := TX P (o214 P) (o215 P)
noncomputable def o216 (P : Params) : Obj := ⟨(.type "set"), none, (.set #[se 917505 569, se 917536 575, se 917537 576, se 917538 577, se 917539 578, se 917540 579, se 917541 580, se 917542 581, se 917543 582, se 917544 583, se 917545 584, se 917546 585, se 917547 586, se 917548 587, se 917549 588, se 917550 589, se 917551 590, se 917552 591, se 917553 592, se 917554 593, se 917555 594, se 917556 595, se 917557 596, se 917558 597, se 917559 598, se 917560 599] 28 ⟨127, #[1, 32, 33, 34, 35, 36, 37, 38, 39, 40, 41, 42, 43, 44, 45, 46, 47, 48, 49, 50, 51, 52, 53, 54, 55, 56], #[], 0, !P.followText "set-order", 2, true⟩), #[]⟩
noncomputable def o217 (P : Params) : Obj := ⟨(.type "list_iterator"), none, (.fields #[(.ref 154), (.int (26) 0)]), #[]⟩
noncomputable def TL21 (P : Params) : BT := TX P (o216 P) (o217 P)
noncomputable def o218 (P : Params) : Obj := ⟨(.type "set"), none, (.set #[se 917505 569, se 917536 575, se 917537 576, se 917538 577, se 917539 578, se 917540 579, se 917541 580, se 917542 581, se 917543 582, se 917544 583, se 917545 584, se 917546 585, se 917547 586, se 917548 587, se 917549 588, se 917550 589, se 917551 590, se 917552 591, se 917553 592, se 917554 593, se 917555 594, se 917556 595, se 917557 596, se 917558 597, se 917559 598, se 917560 599, se 917561 600] 29 ⟨127, #[1, 32, 33, 34, 35, 36, 37, 38, 39, 40, 41, 42, 43, 44, 45, 46, 47, 48, 49, 50, 51, 52, 53, 54, 55, 56, 57], #[], 0, !P.followText "set-order", 2, true⟩), #[]⟩
noncomputable def o219 (P : Params) : Obj := ⟨(.type "list_iterator"), none, (.fields #[(.ref 154), (.int (27) 0)]), #[]⟩
noncomputable def TL22 (P : Params) : BT := TX P (o218 P) (o219 P)
noncomputable def o220 (P : Params) : Obj := ⟨(.type "set"), none, (.set #[se 917505 569, se 917536 575, se 917537 576, se 917538 577, se 917539 578, se 917540 579, se 917541 580, se 917542 581, se 917543 582, se 917544 583, se 917545 584, se 917546 585, se 917547 586, se 917548 587, se 917549 588, se 917550 589, se 917551 590, se 917552 591, se 917553 592, se 917554 593, se 917555 594, se 917556 595, se 917557 596, se 917558 597, se 917559 598, se 917560 599, se 917561 600, se 917562 601] 30 ⟨127, #[1, 32, 33, 34, 35, 36, 37, 38, 39, 40, 41, 42, 43, 44, 45, 46, 47, 48, 49, 50, 51, 52, 53, 54, 55, 56, 57, 58], #[], 0, !P.followText "set-order", 2, true⟩), #[]⟩
noncomputable def o221 (P : Params) : Obj := ⟨(.type "list_iterator"), none, (.fields #[(.ref 154), (.int (28) 0)]), #[]⟩
noncomputable def TL23 (P : Params) : BT := TX P (o220 P) (o221 P)
noncomputable def o222 (P : Params) : Obj := ⟨(.type "set"), none, (.set #[se 917505 569, se 917536 575, se 917537 576, se 917538 577, se 917539 578, se 917540 579, se 917541 580, se 917542 581, se 917543 582, se 917544 583, se 917545 584, se 917546 585, se 917547 586, se 917548 587, se 917549 588, se 917550 589, se 917551 590, se 917552 591, se 917553 592, se 917554 593, se 917555 594, se 917556 595, se 917557 596, se 917558 597, se 917559 598, se 917560 599, se 917561 600, se 917562 601, se 917563 602] 31 ⟨127, #[1, 32, 33, 34, 35, 36, 37, 38, 39, 40, 41, 42, 43, 44, 45, 46, 47, 48, 49, 50, 51, 52, 53, 54, 55, 56, 57, 58, 59], #[], 0, !P.followText "set-order", 2, true⟩), #[]⟩
noncomputable def o223 (P : Params) : Obj := ⟨(.type "list_iterator"), none, (.fields #[(.ref 154), (.int (29) 0)]), #[]⟩
noncomputable def TL24 (P : Params) : BT := TX P (o222 P) (o223 P)
noncomputable def o224 (P : Params) : Obj := ⟨(.type "set"), none, (.set #[se 917505 569, se 917536 575, se 917537 576, se 917538 577, se 917539 578, se 917540 579, se 917541 580, se 917542 581, se 917543 582, se 917544 583, se 917545 584, se 917546 585, se 917547 586, se 917548 587, se 917549 588, se 917550 589, se 917551 590, se 917552 591, se 917553 592, se 917554 593, se 917555 594, se 917556 595, se 917557 596, se 917558 597, se 917559 598, se 917560 599, se 917561 600, se 917562 601, se 917563 602, se 917564 603] 32 ⟨127, #[1, 32, 33, 34, 35, 36, 37, 38, 39, 40, 41, 42, 43, 44, 45, 46, 47, 48, 49, 50, 51, 52, 53, 54, 55, 56, 57, 58, 59, 60], #[], 0, !P.followText "set-order", 2, true⟩), #[]⟩
noncomputable def o225 (P : Params) : Obj := ⟨(.type "list_iterator"), none, (.fields #[(.ref 154), (.int (30) 0)]), #[]⟩
noncomputable def TL25 (P : Params) : BT := TX P (o224 P) (o225 P)
noncomputable def o226 (P : Params) : Obj := ⟨(.type "set"), none, (.set #[se 917505 569, se 917536 575, se 917537 576, se 917538 577, se 917539 578, se 917540 579, se 917541 580, se 917542 581, se 917543 582, se 917544 583, se 917545 584, se 917546 585, se 917547 586, se 917548 587, se 917549 588, se 917550 589, se 917551 590, se 917552 591, se 917553 592, se 917554 593, se 917555 594, se 917556 595, se 917557 596, se 917558 597, se 917559 598, se 917560 599, se 917561 600, se 917562 601, se 917563 602, se 917564 603, se 917565 604] 33 ⟨127, #[1, 32, 33, 34, 35, 36, 37, 38, 39, 40, 41, 42, 43, 44, 45, 46, 47, 48, 49, 50, 51, 52, 53, 54, 55, 56, 57, 58, 59, 60, 61], #[], 0, !P.followText "set-order", 2, true⟩), #[]⟩
noncomputable def o227 (P : Params) : Obj := ⟨(.type "list_iterator"), none, (.fields #[(.ref 154), (.int (31) 0)]), #[]⟩
noncomputable def TL26 (P : Params) : BT := TX P (o226 P) (o227 P)
noncomputable def o228 (P : Params) : Obj := ⟨(.type "set"), none, (.set #[se 917505 569, se 917536 575, se 917537 576, se 917538 577, se 917539 578, se 917540 579, se 917541 580, se 917542 581, se 917543 582, se 917544 583, se 917545 584, se 917546 585, se 917547 586, se 917548 587, se 917549 588, se 917550 589, se 917551 590, se 917552 591, se 917553 592, se 917554 593, se 917555 594, se 917556 595, se 917557 596, se 917558 597, se 917559 598, se 917560 599, se 917561 600, se 917562 601, se 917563 602, se 917564 603, se 917565 604, se 917566 605] 34 ⟨127, #[1, 32, 33, 34, 35, 36, 37, 38, 39, 40, 41, 42, 43, 44, 45, 46, 47, 48, 49, 50, 51, 52, 53, 54, 55, 56, 57, 58, 59, 60, 61, 62], #[], 0, !P.followText "set-order", 2, true⟩), #[]⟩
noncomputable def o229 (P : Params) : Obj := ⟨(.type "list_iterator"), none, (.fields #[(.ref 154), (.int (32) 0)]), #[]⟩
noncomputable def TL27 (P : Params) : BT := TX P (o228 P) (o229 P)
noncomputable def o230 (P : Params) : Obj := ⟨(.type "set"), none, (.set #[se 917505 569, se 917536 575, se 917537 576, se 917538 577, se 917539 578, se 917540 579, se 917541 580, se 917542 581, se 917543 582, se 917544 583, se 917545 584, se 917546 585, se 917547 586, se 917548 587, se 917549 588, se 917550 589, se 917551 590, se 917552 591, se 917553 592, se 917554 593, se 917555 594, se 917556 595, se 917557 596, se 917558 597, se 917559 598, se 917560 599, se 917561 600, se 917562 601, se 917563 602, se 917564 603, se 917565 604, se 917566 605, se 917567 606] 35 ⟨127, #[1, 32, 33, 34, 35, 36, 37, 38, 39, 40, 41, 42, 43, 44, 45, 46, 47, 48, 49, 50, 51, 52, 53, 54, 55, 56, 57, 58, 59, 60, 61, 62, 63], #[], 0, !P.followText "set-order", 2, true⟩), #[]⟩
noncomputable def o231 (P : Params) : Obj := ⟨(.type "list_iterator"), none, (.fields #[(.ref 154), (.int (33) 0)]), #[]⟩
noncomputable def TL28 (P : Params) : BT := TX P (o230 P) (o231 P)
noncomputable def o232 (P : Params) : Obj := ⟨(.type "set"), none, (.set #[se 917505 569, se 917536 575, se 917537 576, se 917538 577, se 917539 578, se 917540 579, se 917541 580, se 917542 581, se 917543 582, se 917544 583, se 917545 584, se 917546 585, se 917547 586, se 917548 587, se 917549 588, se 917550 589, se 917551 590, se 917552 591, se 917553 592, se 917554 593, se 917555 594, se 917556 595, se 917557 596, se 917558 597, se 917559 598, se 917560 599, se 917561 600, se 917562 601, se 917563 602, se 917564 603, se 917565 604, se 917566 605, se 917567 606, se 917568 607] 36 ⟨127, #[1, 32, 33, 34, 35, 36, 37, 38, 39, 40, 41, 42, 43, 44, 45, 46, 47, 48, 49, 50, 51, 52, 53, 54, 55, 56, 57, 58, 59, 60, 61, 62, 63, 64], #[], 0, !P.followText "set-order", 2, true⟩), #[]⟩
noncomputable def o233 (P : Params) : Obj := ⟨(.type "list_iterator"), none, (.fields #[(.ref 154), (.int (34) 0)]), #[]⟩
noncomputable def TL29 (P : Params) : BT := TX P (o232 P) (o233 P)
noncomputable def o234 (P : Params) : Obj := ⟨(.type "set"), none, (.set #[se 917505 569, se 917536 575, se 917537 576, se 917538 577, se 917539 578, se 917540 579, se 917541 580, se 917542 581, se 917543 582, se 917544 583, se 917545 584, se 917546 585, se 917547 586, se 917548 587, se 917549 588, se 917550 589, se 917551 590, se 917552 591, se 917553 592, se 917554 593, se 917555 594, se 917556 595, se 917557 596, se 917558 597, se 917559 598, se 917560 599, se 917561 600, se 917562 601, se 917563 602, se 917564 603, se 917565 604, se 917566 605, se 917567 606, se 917568 607, se 917569 608] 37 ⟨127, #[1, 32, 33, 34, 35, 36, 37, 38, 39, 40, 41, 42, 43, 44, 45, 46, 47, 48, 49, 50, 51, 52, 53, 54, 55, 56, 57, 58, 59, 60, 61, 62, 63, 64, 65], #[], 0, !P.followText "set-order", 2, true⟩), #[]⟩
noncomputable def o235 (P : Params) : Obj := ⟨(.type "list_iterator"), none, (.fields #[(.ref 154), (.int (35) 0)]), #[]⟩
noncomputable def TL30 (P : Params) : BT := TX P (o234 P) (o235 P)
noncomputable def o236 (P : Params) : Obj := ⟨(.type "set"), none, (.set #[se 917505 569, se 917536 575, se 917537 576, se 917538 577, se 917539 578, se 917540 579, se 917541 580, se 917542 581, se 917543 582, se 917544 583, se 917545 584, se 917546 585, se 917547 586, se 917548 587, se 917549 588, se 917550 589, se 917551 590, se 917552 591, se 917553 592, se 917554 593, se 917555 594, se 917556 595, se 917557 596, se 917558 597, se 917559 598, se 917560 599, se 917561 600, se 917562 601, se 917563 602, se 917564 603, se 917565 604, se 917566 605, se 917567 606, se 917568 607, se 917569 608, se 917570 609] 38 ⟨127, #[1, 32, 33, 34, 35, 36, 37, 38, 39, 40, 41, 42, 43, 44, 45, 46, 47, 48, 49, 50, 51, 52, 53, 54, 55, 56, 57, 58, 59, 60, 61, 62, 63, 64, 65, 66], #[], 0, !P.followText "set-order", 2, true⟩), #[]⟩
noncomputable def o237 (P : Params) : Obj := ⟨(.type "list_iterator"), none, (.fields #[(.ref 154), (.int (36) 0)]), #[]⟩
noncomputable def TL31 (P : Params) : BT := TX P (o236 P) (o237 P)
noncomputable def o238 (P : Params) : Obj := ⟨(.type "set"), none, (.set #[se 917505 569, se 917536 575, se 917537 576, se 917538 577, se 917539 578, se 917540 579, se 917541 580, se 917542 581, se 917543 582, se 917544 583, se 917545 584, se 917546 585, se 917547 586, se 917548 587, se 917549 588, se 917550 589, se 917551 590, se 917552 591, se 917553 592, se 917554 593, se 917555 594, se 917556 595, se 917557 596, se 917558 597, se 917559 598, se 917560 599, se 917561 600, se 917562 601, se 917563 602, se 917564 603, se 917565 604, se 917566 605, se 917567 606, se 917568 607, se 917569 608, se 917570 609, se 917571 610] 39 ⟨127, #[1, 32, 33, 34, 35, 36, 37, 38, 39, 40, 41, 42, 43, 44, 45, 46, 47, 48, 49, 50, 51, 52, 53, 54, 55, 56, 57, 58, 59, 60, 61, 62, 63, 64, 65, 66, 67], #[], 0, !P.followText "set-order", 2, true⟩), #[]⟩
noncomputable def o239 (P : Params) : Obj := ⟨(.type "list_iterator"), none, (.fields #[(.ref 154), (.int (37) 0)]), #[]⟩
noncomputable def TL32 (P : Params) : BT := TX P (o238 P) (o239 P)
noncomputable def o240 (P : Params) : Obj := ⟨(.type "set"), none, (.set #[se 917505 569, se 917536 575, se 917537 576, se 917538 577, se 917539 578, se 917540 579, se 917541 580, se 917542 581, se 917543 582, se 917544 583, se 917545 584, se 917546 585, se 917547 586, se 917548 587, se 917549 588, se 917550 589, se 917551 590, se 917552 591, se 917553 592, se 917554 593, se 917555 594, se 917556 595, se 917557 596, se 917558 597, se 917559 598, se 917560 599, se 917561 600, se 917562 601, se 917563 602, se 917564 603, se 917565 604, se 917566 605, se 917567 606, se 917568 607, se 917569 608, se 917570 609, se 917571 610, se 917572 611] 40 ⟨127, #[1, 32, 33, 34, 35, 36, 37, 38, 39, 40, 41, 42, 43, 44, 45, 46, 47, 48, 49, 50, 51, 52, 53, 54, 55, 56, 57, 58, 59, 60, 61, 62, 63, 64, 65, 66, 67, 68], #[], 0, !P.followText "set-order", 2, true⟩), #[]⟩
noncomputable def o241 (P : Params) : Obj := ⟨(.type "list_iterator"), none, (.fields #[(.ref 154), (.int (38) 0)]), #[]⟩
noncomputable def TL33 (P : Params) : BT := TX P (o240 P) (o241 P)
noncomputable def o242 (P : Params) : Obj := ⟨(.type "set"), none, (.set #[se 917505 569, se 917536 575, se 917537 576, se 917538 577, se 917539 578, se 917540 579, se 917541 580, se 917542 581, se 917543 582, se 917544 583, se 917545 584, se 917546 585, se 917547 586, se 917548 587, se 917549 588, se 917550 589, se 917551 590, se 917552 591, se 917553 592, se 917554 593, se 917555 594, se 917556 595, se 917557 596, se 917558 597, se 917559 598, se 917560 599, se 917561 600, se 917562 601, se 917563 602, se 917564 603, se 917565 604, se 917566 605, se 917567 606, se 917568 607, se 917569 608, se 917570 609, se 917571 610, se 917572 611, se 917573 612] 41 ⟨127, #[1, 32, 33, 34, 35, 36, 37, 38, 39, 40, 41, 42, 43, 44, 45, 46, 47, 48, 49, 50, 51, 52, 53, 54, 55, 56, 57, 58, 59, 60, 61, 62, 63, 64, 65, 66, 67, 68, 69], #[], 0, !P.followText "set-order", 2, true⟩), #[]⟩
noncomputable def o243 (P : Params) : Obj := ⟨(.type "list_iterator"), none, (.fields #[(.ref 154), (.int (39) 0)]), #[]⟩
noncomputable def TL34 (P : Params) : BT := TX P (o242 P) (o243 P)
noncomputable def o244 (P : Params) : Obj := ⟨(.type "set"), none, (.set #[se 917505 569, se 917536 575, se 917537 576, se 917538 577, se 917539 578, se 917540 579, se 917541 580, se 917542 581, se 917543 582, se 917544 583, se 917545 584, se 917546 585, se 917547 586, se 917548 587, se 917549 588, se 917550 589, se 917551 590, se 917552 591, se 917553 592, se 917554 593, se 917555 594, se 917556 595, se 917557 596, se 917558 597, se 917559 598, se 917560 599, se 917561 600, se 917562 601, se 917563 602, se 917564 603, se 917565 604, se 917566 605, se 917567 606, se 917568 607, se 917569 608, se 917570 609, se 917571 610, se 917572 611, se 917573 612, se 917574 613] 42 ⟨127, #[1, 32, 33, 34, 35, 36, 37, 38, 39, 40, 41, 42, 43, 44, 45, 46, 47, 48, 49, 50, 51, 52, 53, 54, 55, 56, 57, 58, 59, 60, 61, 62, 63, 64, 65, 66, 67, 68, 69, 70], #[], 0, !P.followText "set-order", 2, true⟩), #[]⟩
noncomputable def o245 (P : Params) : Obj := ⟨(.type "list_iterator"), none, (.fields #[(.ref 154), (.int (40) 0)]), #[]⟩
noncomputable def TL35 (P : Params) : BT := TX P (o244 P) (o245 P)
noncomputable def o246 (P : Params) : Obj := ⟨(.type "set"), none, (.set #[se 917505 569, se 917536 575, se 917537 576, se 917538 577, se 917539 578, se 917540 579, se 917541 580, se 917542 581, se 917543 582, se 917544 583, se 917545 584, se 917546 585, se 917547 586, se 917548 587, se 917549 588, se 917550 589, se 917551 590, se 917552 591, se 917553 592, se 917554 593, se 917555 594, se 917556 595, se 917557 596, se 917558 597, se 917559 598, se 917560 599, se 917561 600, se 917562 601, se 917563 602, se 917564 603, se 917565 604, se 917566 605, se 917567 606, se 917568 607, se 917569 608, se 917570 609, se 917571 610, se 917572 611, se 917573 612, se 917574 613, se 917575 614] 43 ⟨127, #[1, 32, 33, 34, 35, 36, 37, 38, 39, 40, 41, 42, 43, 44, 45, 46, 47, 48, 49, 50, 51, 52, 53, 54, 55, 56, 57, 58, 59, 60, 61, 62, 63, 64, 65, 66, 67, 68, 69, 70, 71], #[], 0, !P.followText "set-order", 2, true⟩), #[]⟩
noncomputable def o247 (P : Params) : Obj := ⟨(.type "list_iterator"), none, (.fields #[(.ref 154), (.int (41) 0)]), #[]⟩
noncomputable def TL36 (P : Params) : BT := TX P (o246 P) (o247 P)
noncomputable def o248 (P : Params) : Obj := ⟨(.type "set"), none, (.set #[se 917505 569, se 917536 575, se 917537 576, se 917538 577, se 917539 578, se 917540 579, se 917541 580, se 917542 581, se 917543 582, se 917544 583, se 917545 584, se 917546 585, se 917547 586, se 917548 587, se 917549 588, se 917550 589, se 917551 590, se 917552 591, se 917553 592, se 917554 593, se 917555 594, se 917556 595, se 917557 596, se 917558 597, se 917559 598, se 917560 599, se 917561 600, se 917562 601, se 917563 602, se 917564 603, se 917565 604, se 917566 605, se 917567 606, se 917568 607, se 917569 608, se 917570 609, se 917571 610, se 917572 611, se 917573 612, se 917574 613, se 917575 614, se 917576 615] 44 ⟨127, #[1, 32, 33, 34, 35, 36, 37, 38, 39, 40, 41, 42, 43, 44, 45, 46, 47, 48, 49, 50, 51, 52, 53, 54, 55, 56, 57, 58, 59, 60, 61, 62, 63, 64, 65, 66, 67, 68, 69, 70, 71, 72], #[], 0, !P.followText "set-order", 2, true⟩), #[]⟩
noncomputable def o249 (P : Params) : Obj := ⟨(.type "list_iterator"), none, (.fields #[(.ref 154), (.int (42) 0)]), #[]⟩
noncomputable def TL37 (P : Params) : BT := TX P (o248 P) (o249 P)
noncomputable def o250 (P : Params) : Obj := ⟨(.type "set"), none, (.set #[se 917505 569, se 917536 575, se 917537 576, se 917538 577, se 917539 578, se 917540 579, se 917541 580, se 917542 581, se 917543 582, se 917544 583, se 917545 584, se 917546 585, se 917547 586, se 917548 587, se 917549 588, se 917550 589, se 917551 590, se 917552 591, se 917553 592, se 917554 593, se 917555 594, se 917556 595, se 917557 596, se 917558 597, se 917559 598, se 917560 599, se 917561 600, se 917562 601, se 917563 602, se 917564 603, se 917565 604, se 917566 605, se 917567 606, se 917568 607, se 917569 608, se 917570 609, se 917571 610, se 917572 611, se 917573 612, se 917574 613, se 917575 614, se 917576 615, se 917577 616] 45 ⟨127, #[1, 32, 33, 34, 35, 36, 37, 38, 39, 40, 41, 42, 43, 44, 45, 46, 47, 48, 49, 50, 51, 52, 53, 54, 55, 56, 57, 58, 59, 60, 61, 62, 63, 64, 65, 66, 67, 68, 69, 70, 71, 72, 73], #[], 0, !P.followText "set-order", 2, true⟩), #[]⟩
noncomputable def o251 (P : Params) : Obj := ⟨(.type "list_iterator"), none, (.fields #[(.ref 154), (.int (43) 0)]), #[]⟩
noncomputable def TL38 (P : Params) : BT := TX P (o250 P) (o251 P)
noncomputable def o252 (P : Params) : Obj := ⟨(.type "set"), none, (.set #[se 917505 569, se 917536 575, se 917537 576, se 917538 577, se 917539 578, se 917540 579, se 917541 580, se 917542 581, se 917543 582, se 917544 583, se 917545 584, se 917546 585, se 917547 586, se 917548 587, se 917549 588, se 917550 589, se 917551 590, se 917552 591, se 917553 592, se 917554 593, se 917555 594, se 917556 595, se 917557 596, se 917558 597, se 917559 598, se 917560 599, se 917561 600, se 917562 601, se 917563 602, se 917564 603, se 917565 604, se 917566 605, se 917567 606, se 917568 607, se 917569 608, se 917570 609, se 917571 610, se 917572 611, se 917573 612, se 917574 613, se 917575 614, se 917576 615, se 917577 616, se 917578 617] 46 ⟨127, #[1, 32, 33, 34, 35, 36, 37, 38, 39, 40, 41, 42, 43, 44, 45, 46, 47, 48, 49, 50, 51, 52, 53, 54, 55, 56, 57, 58, 59, 60, 61, 62, 63, 64, 65, 66, 67, 68, 69, 70, 71, 72, 73, 74], #[], 0, !P.followText "set-order", 2, true⟩), #[]⟩
noncomputable def o253 (P : Params) : Obj := ⟨(.type "list_iterator"), none, (.fields #[(.ref 154), (.int (44) 0)]), #[]⟩
noncomputable def TL39 (P : Params) : BT := TX P (o252 P) (o253 P)
noncomputable def o254 (P : Params) : Obj := ⟨(.type "set"), none, (.set #[se 917505 569, se 917536 575, se 917537 576, se 917538 577, se 917539 578, se 917540 579, se 917541 580, se 917542 581, se 917543 582, se 917544 583, se 917545 584, se 917546 585, se 917547 586, se 917548 587, se 917549 588, se 917550 589, se 917551 590, se 917552 591, se 917553 592, se 917554 593, se 917555 594, se 917556 595, se 917557 596, se 917558 597, se 917559 598, se 917560 599, se 917561 600, se 917562 601, se 917563 602, se 917564 603, se 917565 604, se 917566 605, se 917567 606, se 917568 607, se 917569 608, se 917570 609, se 917571 610, se 917572 611, se 917573 612, se 917574 613, se 917575 614, se 917576 615, se 917577 616, se 917578 617, se 917579 618] 47 ⟨127, #[1, 32, 33, 34, 35, 36, 37, 38, 39, 40, 41, 42, 43, 44, 45, 46, 47, 48, 49, 50, 51, 52, 53, 54, 55, 56, 57, 58, 59, 60, 61, 62, 63, 64, 65, 66, 67, 68, 69, 70, 71, 72, 73, 74, 75], #[], 0, !P.followText "set-order", 2, true⟩), #[]⟩
noncomputable def o255 (P : Params) : Obj := ⟨(.type "list_iterator"), none, (.fields #[(.ref 154), (.int (45) 0)]), #[]⟩
noncomputable def TL40 (P : Params) : BT := TX P (o254 P) (o255 P)
noncomputable def o256 (P : Params) : Obj := ⟨(.type "set"), none, (.set #[se 917505 569, se 917536 575, se 917537 576, se 917538 577, se 917539 578, se 917540 579, se 917541 580, se 917542 581, se 917543 582, se 917544 583, se 917545 584, se 917546 585, se 917547 586, se 917548 587, se 917549 588, se 917550 589, se 917551 590, se 917552 591, se 917553 592, se 917554 593, se 917555 594, se 917556 595, se 917557 596, se 917558 597, se 917559 598, se 917560 599, se 917561 600, se 917562 601, se 917563 602, se 917564 603, se 917565 604, se 917566 605, se 917567 606, se 917568 607, se 917569 608, se 917570 609, se 917571 610, se 917572 611, se 917573 612, se 917574 613, se 917575 614, se 917576 615, se 917577 616, se 917578 617, se 917579 618, se 917580 619] 48 ⟨127, #[1, 32, 33, 34, 35, 36, 37, 38, 39, 40, 41, 42, 43, 44, 45, 46, 47, 48, 49, 50, 51, 52, 53, 54, 55, 56, 57, 58, 59, 60, 61, 62, 63, 64, 65, 66, 67, 68, 69, 70, 71, 72, 73, 74, 75, 76], #[], 0, !P.followText "set-order", 2, true⟩), #[]⟩
noncomputable def o257 (P : Params) : Obj := ⟨(.type "list_iterator"), none, (.fields #[(.ref 154), (.int (46) 0)]), #[]⟩
noncomputable def TL41 (P : Params) : BT := TX P (o256 P) (o257 P)
noncomputable def o258 (P : Params) : Obj := ⟨(.type "set"), none, (.set #[se 917505 569, se 917536 575, se 917537 576, se 917538 577, se 917539 578, se 917540 579, se 917541 580, se 917542 581, se 917543 582, se 917544 583, se 917545 584, se 917546 585, se 917547 586, se 917548 587, se 917549 588, se 917550 589, se 917551 590, se 917552 591, se 917553 592, se 917554 593, se 917555 594, se 917556 595, se 917557 596, se 917558 597, se 917559 598, se 917560 599, se 917561 600, se 917562 601, se 917563 602, se 917564 603, se 917565 604, se 917566 605, se 917567 606, se 917568 607, se 917569 608, se 917570 609, se 917571 610, se 917572 611, se 917573 612, se 917574 613, se 917575 614, se 917576 615, se 917577 616, se 917578 617, se 917579 618, se 917580 619, se 917581 620] 49 ⟨127, #[1, 32, 33, 34, 35, 36, 37, 38, 39, 40, 41, 42, 43, 44, 45, 46, 47, 48, 49, 50, 51, 52, 53, 54, 55, 56, 57, 58, 59, 60, 61, 62, 63, 64, 65, 66, 67, 68, 69, 70, 71, 72, 73, 74, 75, 76, 77], #[], 0, !P.followText "set-order", 2, true⟩), #[]⟩
noncomputable def o259 (P : Params) : Obj := ⟨(.type "list_iterator"), none, (.fields #[(.ref 154), (.int (47) 0)]), #[]⟩
noncomputable def TL42 (P : Params) : BT := TX P (o258 P) (o259 P)
noncomputable def o260 (P : Params) : Obj := ⟨(.type "set"), none, (.set #[se 917505 569, se 917536 575, se 917537 576, se 917538 577, se 917539 578, se 917540 579, se 917541 580, se 917542 581, se 917543 582, se 917544 583, se 917545 584, se 917546 585, se 917547 586, se 917548 587, se 917549 588, se 917550 589, se 917551 590, se 917552 591, se 917553 592, se 917554 593, se 917555 594, se 917556 595, se 917557 596, se 917558 597, se 917559 598, se 917560 599, se 917561 600, se 917562 601, se 917563 602, se 917564 603, se 917565 604, se 917566 605, se 917567 606, se 917568 607, se 917569 608, se 917570 609, se 917571 610, se 917572 611, se 917573 612, se 917574 613, se 917575 614, se 917576 615, se 917577 616, se 917578 617, se 917579 618, se 917580 619, se 917581 620, se 917582 621] 50 ⟨127, #[1, 32, 33, 34, 35, 36, 37, 38, 39, 40, 41, 42, 43, 44, 45, 46, 47, 48, 49, 50, 51, 52, 53, 54, 55, 56, 57, 58, 59, 60, 61, 62, 63, 64, 65, 66, 67, 68, 69, 70, 71, 72, 73, 74, 75, 76, 77, 78], #[], 0, !P.followText "set-order", 2, true⟩), #[]⟩
noncomputable def o261 (P : Params) : Obj := ⟨(.type "list_iterator"), none, (.fields #[(.ref 154), (.int (48) 0)]), #[]⟩
noncomputable def TL43 (P : Params) : BT := TX P (o260 P) (o261 P)
noncomputable def o262 (P : Params) : Obj := ⟨(.type "set"), none, (.set #[se 917505 569, se 917536 575, se 917537 576, se 917538 577, se 917539 578, se 917540 579, se 917541 580, se 917542 581, se 917543 582, se 917544 583, se 917545 584, se 917546 585, se 917547 586, se 917548 587, se 917549 588, se 917550 589, se 917551 590, se 917552 591, se 917553 592, se 917554 593, se 917555 594, se 917556 595, se 917557 596, se 917558 597, se 917559 598, se 917560 599, se 917561 600, se 917562 601, se 917563 602, se 917564 603, se 917565 604, se 917566 605, se 917567 606, se 917568 607, se 917569 608, se 917570 609, se 917571 610, se 917572 611, se 917573 612, se 917574 613, se 917575 614, se 917576 615, se 917577 616, se 917578 617, se 917579 618, se 917580 619, se 917581 620, se 917582 621, se 917583 622] 51 ⟨127, #[1, 32, 33, 34, 35, 36, 37, 38, 39, 40, 41, 42, 43, 44, 45, 46, 47, 48, 49, 50, 51, 52, 53, 54, 55, 56, 57, 58, 59, 60, 61, 62, 63, 64, 65, 66, 67, 68, 69, 70, 71, 72, 73, 74, 75, 76, 77, 78, 79], #[], 0, !P.followText "set-order", 2, true⟩), #[]⟩
noncomputable def o263 (P : Params) : Obj := ⟨(.type "list_iterator"), none, (.fields #[(.ref 154), (.int (49) 0)]), #[]⟩
noncomputable def TL44 (P : Params) : BT := TX P (o262 P) (o263 P)
noncomputable def o264 (P : Params) : Obj := ⟨(.type "set"), none, (.set #[se 917505 569, se 917536 575, se 917537 576, se 917538 577, se 917539 578, se 917540 579, se 917541 580, se 917542 581, se 917543 582, se 917544 583, se 917545 584, se 917546 585, se 917547 586, se 917548 587, se 917549 588, se 917550 589, se 917551 590, se 917552 591, se 917553 592, se 917554 593, se 917555 594, se 917556 595, se 917557 596, se 917558 597, se 917559 598, se 917560 599, se 917561 600, se 917562 601, se 917563 602, se 917564 603, se 917565 604, se 917566 605, se 917567 606, se 917568 607, se 917569 608, se 917570 609, se 917571 610, se 917572 611, se 917573 612, se 917574 613, se 917575 614, se 917576 615, se 917577 616, se 917578 617, se 917579 618, se 917580 619, se 917581 620, se 917582 621, se 917583 622, se 917584 623] 52 ⟨127, #[1, 32, 33, 34, 35, 36, 37, 38, 39, 40, 41, 42, 43, 44, 45, 46, 47, 48, 49, 50, 51, 52, 53, 54, 55, 56, 57, 58, 59, 60, 61, 62, 63, 64, 65, 66, 67, 68, 69, 70, 71, 72, 73, 74, 75, 76, 77, 78, 79, 80], #[], 0, !P.followText "set-order", 2, true⟩), #[]⟩
noncomputable def o265 (P : Params) : Obj := ⟨(.type "list_iterator"), none, (.fields #[(.ref 154), (.int (50) 0)]), #[]⟩
noncomputable def TL45 (P : Params) : BT := TX P (o264 P) (o265 P)
noncomputable def o266 (P : Params) : Obj := ⟨(.type "set"), none, (.set #[se 917505 569, se 917536 575, se 917537 576, se 917538 577, se 917539 578, se 917540 579, se 917541 580, se 917542 581, se 917543 582, se 917544 583, se 917545 584, se 917546 585, se 917547 586, se 917548 587, se 917549 588, se 917550 589, se 917551 590, se 917552 591, se 917553 592, se 917554 593, se 917555 594, se 917556 595, se 917557 596, se 917558 597, se 917559 598, se 917560 599, se 917561 600, se 917562 601, se 917563 602, se 917564 603, se 917565 604, se 917566 605, se 917567 606, se 917568 607, se 917569 608, se 917570 609, se 917571 610, se 917572 611, se 917573 612, se 917574 613, se 917575 614, se 917576 615, se 917577 616, se 917578 617, se 917579 618, se 917580 619, se 917581 620, se 917582 621, se 917583 622, se 917584 623, se 917585 624] 53 ⟨127, #[1, 32, 33, 34, 35, 36, 37, 38, 39, 40, 41, 42, 43, 44, 45, 46, 47, 48, 49, 50, 51, 52, 53, 54, 55, 56, 57, 58, 59, 60, 61, 62, 63, 64, 65, 66, 67, 68, 69, 70, 71, 72, 73, 74, 75, 76, 77, 78, 79, 80, 81], #[], 0, !P.followText "set-order", 2, true⟩), #[]⟩
noncomputable def o267 (P : Params) : Obj := ⟨(.type "list_iterator"), none, (.fields #[(.ref 154), (.int (51) 0)]), #[]⟩
noncomputable def TL46 (P : Params) : BT := TX P (o266 P) (o267 P)
noncomputable def o268 (P : Params) : Obj := ⟨(.type "set"), none, (.set #[se 917505 569, se 917536 575, se 917537 576, se 917538 577, se 917539 578, se 917540 579, se 917541 580, se 917542 581, se 917543 582, se 917544 583, se 917545 584, se 917546 585, se 917547 586, se 917548 587, se 917549 588, se 917550 589, se 917551 590, se 917552 591, se 917553 592, se 917554 593, se 917555 594, se 917556 595, se 917557 596, se 917558 597, se 917559 598, se 917560 599, se 917561 600, se 917562 601, se 917563 602, se 917564 603, se 917565 604, se 917566 605, se 917567 606, se 917568 607, se 917569 608, se 917570 609, se 917571 610, se 917572 611, se 917573 612, se 917574 613, se 917575 614, se 917576 615, se 917577 616, se 917578 617, se 917579 618, se 917580 619, se 917581 620, se 917582 621, se 917583 622, se 917584 623, se 917585 624, se 917586 625] 54 ⟨127, #[1, 32, 33, 34, 35, 36, 37, 38, 39, 40, 41, 42, 43, 44, 45, 46, 47, 48, 49, 50, 51, 52, 53, 54, 55, 56, 57, 58, 59, 60, 61, 62, 63, 64, 65, 66, 67, 68, 69, 70, 71, 72, 73, 74, 75, 76, 77, 78, 79, 80, 81, 82], #[], 0, !P.followText "set-order", 2, true⟩), #[]⟩
noncomputable def o269 (P : Params) : Obj := ⟨(.type "list_iterator"), none, (.fields #[(.ref 154), (.int (52) 0)]), #[]⟩
noncomputable def TL47 (P : Params) : BT := TX P (o268 P) (o269 P)
noncomputable def o270 (P : Params) : Obj := ⟨(.type "set"), none, (.set #[se 917505 569, se 917536 575, se 917537 576, se 917538 577, se 917539 578, se 917540 579, se 917541 580, se 917542 581, se 917543 582, se 917544 583, se 917545 584, se 917546 585, se 917547 586, se 917548 587, se 917549 588, se 917550 589, se 917551 590, se 917552 591, se 917553 592, se 917554 593, se 917555 594, se 917556 595, se 917557 596, se 917558 597, se 917559 598, se 917560 599, se 917561 600, se 917562 601, se 917563 602, se 917564 603, se 917565 604, se 917566 605, se 917567 606, se 917568 607, se 917569 608, se 917570 609, se 917571 610, se 917572 611, se 917573 612, se 917574 613, se 917575 614, se 917576 615, se 917577 616, se 917578 617, se 917579 618, se 917580 619, se 917581 620, se 917582 621, se 917583 622, se 917584 623, se 917585 624, se 917586 625, se 917587 626] 55 ⟨127, #[1, 32, 33, 34, 35, 36, 37, 38, 39, 40, 41, 42, 43, 44, 45, 46, 47, 48, 49, 50, 51, 52, 53, 54, 55, 56, 57, 58, 59, 60, 61, 62, 63, 64, 65, 66, 67, 68, 69, 70, 71, 72, 73, 74, 75, 76, 77, 78, 79, 80, 81, 82, 83], #[], 0, !P.followText "set-order", 2, true⟩), #[]⟩
noncomputable def o271 (P : Params) : Obj := ⟨(.type "list_iterator"), none, (.fields #[(.ref 154), (.int (53) 0)]), #[]⟩
noncomputable def TL48 (P : Params) : BT := TX P (o270 P) (o271 P)
noncomputable def o272 (P : Params) : Obj := ⟨(.type "set"), none, (.set #[se 917505 569, se 917536 575, se 917537 576, se 917538 577, se 917539 578, se 917540 579, se 917541 580, se 917542 581, se 917543 582, se 917544 583, se 917545 584, se 917546 585, se 917547 586, se 917548 587, se 917549 588, se 917550 589, se 917551 590, se 917552 591, se 917553 592, se 917554 593, se 917555 594, se 917556 595, se 917557 596, se 917558 597, se 917559 598, se 917560 599, se 917561 600, se 917562 601, se 917563 602, se 917564 603, se 917565 604, se 917566 605, se 917567 606, se 917568 607, se 917569 608, se 917570 609, se 917571 610, se 917572 611, se 917573 612, se 917574 613, se 917575 614, se 917576 615, se 917577 616, se 917578 617, se 917579 618, se 917580 619, se 917581 620, se 917582 621, se 917583 622, se 917584 623, se 917585 624, se 917586 625, se 917587 626, se 917588 627] 56 ⟨127, #[1, 32, 33, 34, 35, 36, 37, 38, 39, 40, 41, 42, 43, 44, 45, 46, 47, 48, 49, 50, 51, 52, 53, 54, 55, 56, 57, 58, 59, 60, 61, 62, 63, 64, 65, 66, 67, 68, 69, 70, 71, 72, 73, 74, 75, 76, 77, 78, 79, 80, 81, 82, 83, 84], #[], 0, !P.followText "set-order", 2, true⟩), #[]⟩
noncomputable def o273 (P : Params) : Obj := ⟨(.type "list_iterator"), none, (.fields #[(.ref 154), (.int (54) 0)]), #[]⟩
noncomputable def TL49 (P : Params) : BT := TX P (o272 P) (o273 P)
noncomputable def o274 (P : Params) : Obj := ⟨(.type "set"), none, (.set #[se 917505 569, se 917536 575, se 917537 576, se 917538 577, se 917539 578, se 917540 579, se 917541 580, se 917542 581, se 917543 582, se 917544 583, se 917545 584, se 917546 585, se 917547 586, se 917548 587, se 917549 588, se 917550 589, se 917551 590, se 917552 591, se 917553 592, se 917554 593, se 917555 594, se 917556 595, se 917557 596, se 917558 597, se 917559 598, se 917560 599, se 917561 600, se 917562 601, se 917563 602, se 917564 603, se 917565 604, se 917566 605, se 917567 606, se 917568 607, se 917569 608, se 917570 609, se 917571 610, se 917572 611, se 917573 612, se 917574 613, se 917575 614, se 917576 615, se 917577 616, se 917578 617, se 917579 618, se 917580 619, se 917581 620, se 917582 621, se 917583 622, se 917584 623, se 917585 624, se 917586 625, se 917587 626, se 917588 627, se 917589 628] 57 ⟨127, #[1, 32, 33, 34, 35, 36, 37, 38, 39, 40, 41, 42, 43, 44, 45, 46, 47, 48, 49, 50, 51, 52, 53, 54, 55, 56, 57, 58, 59, 60, 61, 62, 63, 64, 65, 66, 67, 68, 69, 70, 71, 72, 73, 74, 75, 76, 77, 78, 79, 80, 81, 82, 83, 84, 85], #[], 0, !P.followText "set-order", 2, true⟩), #[]⟩
noncomputable def o275 (P : Params) : Obj := ⟨(.type "list_iterator"), none, (.fields #[(.ref 154), (.int (55) 0)]), #[]⟩
noncomputable def TL50 (P : Params) : BT := TX P (o274 P) (o275 P)
noncomputable def o276 (P : Params) : Obj := ⟨(.type "set"), none, (.set #[se 917505 569, se 917536 575, se 917537 576, se 917538 577, se 917539 578, se 917540 579, se 917541 580, se 917542 581, se 917543 582, se 917544 583, se 917545 584, se 917546 585, se 917547 586, se 917548 587, se 917549 588, se 917550 589, se 917551 590, se 917552 591, se 917553 592, se 917554 593, se 917555 594, se 917556 595, se 917557 596, se 917558 597, se 917559 598, se 917560 599, se 917561 600, se 917562 601, se 917563 602, se 917564 603, se 917565 604, se 917566 605, se 917567 606, se 917568 607, se 917569 608, se 917570 609, se 917571 610, se 917572 611, se 917573 612, se 917574 613, se 917575 614, se 917576 615, se 917577 616, se 917578 617, se 917579 618, se 917580 619, se 917581 620, se 917582 621, se 917583 622, se 917584 623, se 917585 624, se 917586 625, se 917587 626, se 917588 627, se 917589 628, se 917590 629] 58 ⟨127, #[1, 32, 33, 34, 35, 36, 37, 38, 39, 40, 41, 42, 43, 44, 45, 46, 47, 48, 49, 50, 51, 52, 53, 54, 55, 56, 57, 58, 59, 60, 61, 62, 63, 64, 65, 66, 67, 68, 69, 70, 71, 72, 73, 74, 75, 76, 77, 78, 79, 80, 81, 82, 83, 84, 85, 86], #[], 0, !P.followText "set-order", 2, true⟩), #[]⟩
noncomputable def o277 (P : Params) : Obj := ⟨(.type "list_iterator"), none, (.fields #[(.ref 154), (.int (56) 0)]), #[]⟩
noncomputable def TL51 (P : Params) : BT := TX P (o276 P) (o277 P)
noncomputable def o278 (P : Params) : Obj := ⟨(.type "set"), none, (.set #[se 917505 569, se 917536 575, se 917537 576, se 917538 577, se 917539 578, se 917540 579, se 917541 580, se 917542 581, se 917543 582, se 917544 583, se 917545 584, se 917546 585, se 917547 586, se 917548 587, se 917549 588, se 917550 589, se 917551 590, se 917552 591, se 917553 592, se 917554 593, se 917555 594, se 917556 595, se 917557 596, se 917558 597, se 917559 598, se 917560 599, se 917561 600, se 917562 601, se 917563 602, se 917564 603, se 917565 604, se 917566 605, se 917567 606, se 917568 607, se 917569 608, se 917570 609, se 917571 610, se 917572 611, se 917573 612, se 917574 613, se 917575 614, se 917576 615, se 917577 616, se 917578 617, se 917579 618, se 917580 619, se 917581 620, se 917582 621, se 917583 622, se 917584 623, se 917585 624, se 917586 625, se 917587 626, se 917588 627, se 917589 628, se 917590 629, se 917591 630] 59 ⟨127, #[1, 32, 33, 34, 35, 36, 37, 38, 39, 40, 41, 42, 43, 44, 45, 46, 47, 48, 49, 50, 51, 52, 53, 54, 55, 56, 57, 58, 59, 60, 61, 62, 63, 64, 65, 66, 67, 68, 69, 70, 71, 72, 73, 74, 75, 76, 77, 78, 79, 80, 81, 82, 83, 84, 85, 86, 87], #[], 0, !P.followText "set-order", 2, true⟩), #[]⟩
noncomputable def o279 (P : Params) : Obj := ⟨(.type "list_iterator"), none, (.fields #[(.ref 154), (.int (57) 0)]), #[]⟩
noncomputable def TL52 (P : Params) : BT := TX P (o278 P) (o279 P)
noncomputable def o280 (P : Params) : Obj := ⟨(.type "set"), none, (.set #[se 917505 569, se 917536 575, se 917537 576, se 917538 577, se 917539 578, se 917540 579, se 917541 580, se 917542 581, se 917543 582, se 917544 583, se 917545 584, se 917546 585, se 917547 586, se 917548 587, se 917549 588, se 917550 589, se 917551 590, se 917552 591, se 917553 592, se 917554 593, se 917555 594, se 917556 595, se 917557 596, se 917558 597, se 917559 598, se 917560 599, se 917561 600, se 917562 601, se 917563 602, se 917564 603, se 917565 604, se 917566 605, se 917567 606, se 917568 607, se 917569 608, se 917570 609, se 917571 610, se 917572 611, se 917573 612, se 917574 613, se 917575 614, se 917576 615, se 917577 616, se 917578 617, se 917579 618, se 917580 619, se 917581 620, se 917582 621, se 917583 622, se 917584 623, se 917585 624, se 917586 625, se 917587 626, se 917588 627, se 917589 628, se 917590 629, se 917591 630, se 917592 631] 60 ⟨127, #[1, 32, 33, 34, 35, 36, 37, 38, 39, 40, 41, 42, 43, 44, 45, 46, 47, 48, 49, 50, 51, 52, 53, 54, 55, 56, 57, 58, 59, 60, 61, 62, 63, 64, 65, 66, 67, 68, 69, 70, 71, 72, 73, 74, 75, 76, 77, 78, 79, 80, 81, 82, 83, 84, 85, 86, 87, 88], #[], 0, !P.followText "set-order", 2, true⟩), #[]⟩
noncomputable def o281 (P : Params) : Obj := ⟨(.type "list_iterator"), none, (.fields #[(.ref 154), (.int (58) 0)]), #[]⟩
noncomputable def TL53 (P : Params) : BT := TX P (o280 P) (o281 P)
noncomputable def o282 (P : Params) : Obj := ⟨(.type "set"), none, (.set #[se 917505 569, se 917536 575, se 917537 576, se 917538 577, se 917539 578, se 917540 579, se 917541 580, se 917542 581, se 917543 582, se 917544 583, se 917545 584, se 917546 585, se 917547 586, se 917548 587, se 917549 588, se 917550 589, se 917551 590, se 917552 591, se 917553 592, se 917554 593, se 917555 594, se 917556 595, se 917557 596, se 917558 597, se 917559 598, se 917560 599, se 917561 600, se 917562 601, se 917563 602, se 917564 603, se 917565 604, se 917566 605, se 917567 606, se 917568 607, se 917569 608, se 917570 609, se 917571 610, se 917572 611, se 917573 612, se 917574 613, se 917575 614, se 917576 615, se 917577 616, se 917578 617, se 917579 618, se 917580 619, se 917581 620, se 917582 621, se 917583 622, se 917584 623, se 917585 624, se 917586 625, se 917587 626, se 917588 627, se 917589 628, se 917590 629, se 917591 630, se 917592 631, se 917593 632] 61 ⟨127, #[1, 32, 33, 34, 35, 36, 37, 38, 39, 40, 41, 42, 43, 44, 45, 46, 47, 48, 49, 50, 51, 52, 53, 54, 55, 56, 57, 58, 59, 60, 61, 62, 63, 64, 65, 66, 67, 68, 69, 70, 71, 72, 73, 74, 75, 76, 77, 78, 79, 80, 81, 82, 83, 84, 85, 86, 87, 88, 89], #[], 0, !P.followText "set-order", 2, true⟩), #[]⟩
noncomputable def o283 (P : Params) : Obj := ⟨(.type "list_iterator"), none, (.fields #[(.ref 154), (.int (59) 0)]), #[]⟩
noncomputable def TL54 (P : Params) : BT := TX P (o282 P) (o283 P)
noncomputable def o284 (P : Params) : Obj := ⟨(.type "set"), none, (.set #[se 917505 569, se 917536 575, se 917537 576, se 917538 577, se 917539 578, se 917540 579, se 917541 580, se 917542 581, se 917543 582, se 917544 583, se 917545 584, se 917546 585, se 917547 586, se 917548 587, se 917549 588, se 917550 589, se 917551 590, se 917552 591, se 917553 592, se 917554 593, se 917555 594, se 917556 595, se 917557 596, se 917558 597, se 917559 598, se 917560 599, se 917561 600, se 917562 601, se 917563 602, se 917564 603, se 917565 604, se 917566 605, se 917567 606, se 917568 607, se 917569 608, se 917570 609, se 917571 610, se 917572 611, se 917573 612, se 917574 613, se 917575 614, se 917576 615, se 917577 616, se 917578 617, se 917579 618, se 917580 619, se 917581 620, se 917582 621, se 917583 622, se 917584 623, se 917585 624, se 917586 625, se 917587 626, se 917588 627, se 917589 628, se 917590 629, se 917591 630, se 917592 631, se 917593 632, se 917594 633] 62 ⟨127, #[1, 32, 33, 34, 35, 36, 37, 38, 39, 40, 41, 42, 43, 44, 45, 46, 47, 48, 49, 50, 51, 52, 53, 54, 55, 56, 57, 58, 59, 60, 61, 62, 63, 64, 65, 66, 67, 68, 69, 70, 71, 72, 73, 74, 75, 76, 77, 78, 79, 80, 81, 82, 83, 84, 85, 86, 87, 88, 89, 90], #[], 0, !P.followText "set-order", 2, true⟩), #[]⟩
noncomputable def o285 (P : Params) : Obj := ⟨(.type "list_iterator"), none, (.fields #[(.ref 154), (.int (60) 0)]), #[]⟩
noncomputable def TL55 (P : Params) : BT := TX P (o284 P) (o285 P)
noncomputable def o286 (P : Params) : Obj := ⟨(.type "set"), none, (.set #[se 917505 569, se 917536 575, se 917537 576, se 917538 577, se 917539 578, se 917540 579, se 917541 580, se 917542 581, se 917543 582, se 917544 583, se 917545 584, se 917546 585, se 917547 586, se 917548 587, se 917549 588, se 917550 589, se 917551 590, se 917552 591, se 917553 592, se 917554 593, se 917555 594, se 917556 595, se 917557 596, se 917558 597, se 917559 598, se 917560 599, se 917561 600, se 917562 601, se 917563 602, se 917564 603, se 917565 604, se 917566 605, se 917567 606, se 917568 607, se 917569 608, se 917570 609, se 917571 610, se 917572 611, se 917573 612, se 917574 613, se 917575 614, se 917576 615, se 917577 616, se 917578 617, se 917579 618, se 917580 619, se 917581 620, se 917582 621, se 917583 622, se 917584 623, se 917585 624, se 917586 625, se 917587 626, se 917588 627, se 917589 628, se 917590 629, se 917591 630, se 917592 631, se 917593 632, se 917594 633, se 917595 634] 63 ⟨127, #[1, 32, 33, 34, 35, 36, 37, 38, 39, 40, 41, 42, 43, 44, 45, 46, 47, 48, 49, 50, 51, 52, 53, 54, 55, 56, 57, 58, 59, 60, 61, 62, 63, 64, 65, 66, 67, 68, 69, 70, 71, 72, 73, 74, 75, 76, 77, 78, 79, 80, 81, 82, 83, 84, 85, 86, 87, 88, 89, 90, 91], #[], 0, !P.followText "set-order", 2, true⟩), #[]⟩
noncomputable def o287 (P : Params) : Obj := ⟨(.type "list_iterator"), none, (.fields #[(.ref 154), (.int (61) 0)]), #[]⟩
noncomputable def TL56 (P : Params) : BT := TX P (o286 P) (o287 P)
noncomputable def o288 (P : Params) : Obj := ⟨(.type "set"), none, (.set #[se 917505 569, se 917536 575, se 917537 576, se 917538 577, se 917539 578, se 917540 579, se 917541 580, se 917542 581, se 917543 582, se 917544 583, se 917545 584, se 917546 585, se 917547 586, se 917548 587, se 917549 588, se 917550 589, se 917551 590, se 917552 591, se 917553 592, se 917554 593, se 917555 594, se 917556 595, se 917557 596, se 917558 597, se 917559 598, se 917560 599, se 917561 600, se 917562 601, se 917563 602, se 917564 603, se 917565 604, se 917566 605, se 917567 606, se 917568 607, se 917569 608, se 917570 609, se 917571 610, se 917572 611, se 917573 612, se 917574 613, se 917575 614, se 917576 615, se 917577 616, se 917578 617, se 917579 618, se 917580 619, se 917581 620, se 917582 621, se 917583 622, se 917584 623, se 917585 624, se 917586 625, se 917587 626, se 917588 627, se 917589 628, se 917590 629, se 917591 630, se 917592 631, se 917593 632, se 917594 633, se 917595 634, se 917596 635] 64 ⟨127, #[1, 32, 33, 34, 35, 36, 37, 38, 39, 40, 41, 42, 43, 44, 45, 46, 47, 48, 49, 50, 51, 52, 53, 54, 55, 56, 57, 58, 59, 60, 61, 62, 63, 64, 65, 66, 67, 68, 69, 70, 71, 72, 73, 74, 75, 76, 77, 78, 79, 80, 81, 82, 83, 84, 85, 86, 87, 88, 89, 90, 91, 92], #[], 0, !P.followText "set-order", 2, true⟩), #[]⟩
noncomputable def o289 (P : Params) : Obj := ⟨(.type "list_iterator"), none, (.fields #[(.ref 154), (.int (62) 0)]), #[]⟩
noncomputable def TL57 (P : Params) : BT := TX P (o288 P) (o289 P)
noncomputable def o290 (P : Params) : Obj := ⟨(.type "set"), none, (.set #[se 917505 569, se 917536 575, se 917537 576, se 917538 577, se 917539 578, se 917540 579, se 917541 580, se 917542 581, se 917543 582, se 917544 583, se 917545 584, se 917546 585, se 917547 586, se 917548 587, se 917549 588, se 917550 589, se 917551 590, se 917552 591, se 917553 592, se 917554 593, se 917555 594, se 917556 595, se 917557 596, se 917558 597, se 917559 598, se 917560 599, se 917561 600, se 917562 601, se 917563 602, se 917564 603, se 917565 604, se 917566 605, se 917567 606, se 917568 607, se 917569 608, se 917570 609, se 917571 610, se 917572 611, se 917573 612, se 917574 613, se 917575 614, se 917576 615, se 917577 616, se 917578 617, se 917579 618, se 917580 619, se 917581 620, se 917582 621, se 917583 622, se 917584 623, se 917585 624, se 917586 625, se 917587 626, se 917588 627, se 917589 628, se 917590 629, se 917591 630, se 917592 631, se 917593 632, se 917594 633, se 917595 634, se 917596 635, se 917597 636] 65 ⟨127, #[1, 32, 33, 34, 35, 36, 37, 38, 39, 40, 41, 42, 43, 44, 45, 46, 47, 48, 49, 50, 51, 52, 53, 54, 55, 56, 57, 58, 59, 60, 61, 62, 63, 64, 65, 66, 67, 68, 69, 70, 71, 72, 73, 74, 75, 76, 77, 78, 79, 80, 81, 82, 83, 84, 85, 86, 87, 88, 89, 90, 91, 92, 93], #[], 0, !P.followText "set-order", 2, true⟩), #[]⟩
noncomputable def o291 (P : Params) : Obj := ⟨(.type "list_iterator"), none, (.fields #[(.ref 154), (.int (63) 0)]), #[]⟩
noncomputable def TL58 (P : Params) : BT := TX P (o290 P) (o291 P)
noncomputable def o292 (P : Params) : Obj := ⟨(.type "set"), none, (.set #[se 917505 569, se 917536 575, se 917537 576, se 917538 577, se 917539 578, se 917540 579, se 917541 580, se 917542 581, se 917543 582, se 917544 583, se 917545 584, se 917546 585, se 917547 586, se 917548 587, se 917549 588, se 917550 589, se 917551 590, se 917552 591, se 917553 592, se 917554 593, se 917555 594, se 917556 595, se 917557 596, se 917558 597, se 917559 598, se 917560 599, se 917561 600, se 917562 601, se 917563 602, se 917564 603, se 917565 604, se 917566 605, se 917567 606, se 917568 607, se 917569 608, se 917570 609, se 917571 610, se 917572 611, se 917573 612, se 917574 613, se 917575 614, se 917576 615, se 917577 616, se 917578 617, se 917579 618, se 917580 619, se 917581 620, se 917582 621, se 917583 622, se 917584 623, se 917585 624, se 917586 625, se 917587 626, se 917588 627, se 917589 628, se 917590 629, se 917591 630, se 917592 631, se 917593 632, se 917594 633, se 917595 634, se 917596 635, se 917597 636, se 917598 637] 66 ⟨127, #[1, 32, 33, 34, 35, 36, 37, 38, 39, 40, 41, 42, 43, 44, 45, 46, 47, 48, 49, 50, 51, 52, 53, 54, 55, 56, 57, 58, 59, 60, 61, 62, 63, 64, 65, 66, 67, 68, 69, 70, 71, 72, 73, 74, 75, 76, 77, 78, 79, 80, 81, 82, 83, 84, 85, 86, 87, 88, 89, 90, 91, 92, 93, 94], #[], 0, !P.followText "set-order", 2, true⟩), #[]⟩
noncomputable def o293 (P : Params) : Obj := ⟨(.type "list_iterator"), none, (.fields #[(.ref 154), (.int (64) 0)]), #[]⟩
noncomputable def TL59 (P : Params) : BT := TX P (o292 P) (o293 P)
noncomputable def o294 (P : Params) : Obj := ⟨(.type "set"), none, (.set #[se 917505 569, se 917536 575, se 917537 576, se 917538 577, se 917539 578, se 917540 579, se 917541 580, se 917542 581, se 917543 582, se 917544 583, se 917545 584, se 917546 585, se 917547 586, se 917548 587, se 917549 588, se 917550 589, se 917551 590, se 917552 591, se 917553 592, se 917554 593, se 917555 594, se 917556 595, se 917557 596, se 917558 597, se 917559 598, se 917560 599, se 917561 600, se 917562 601, se 917563 602, se 917564 603, se 917565 604, se 917566 605, se 917567 606, se 917568 607, se 917569 608, se 917570 609, se 917571 610, se 917572 611, se 917573 612, se 917574 613, se 917575 614, se 917576 615, se 917577 616, se 917578 617, se 917579 618, se 917580 619, se 917581 620, se 917582 621, se 917583 622, se 917584 623, se 917585 624, se 917586 625, se 917587 626, se 917588 627, se 917589 628, se 917590 629, se 917591 630, se 917592 631, se 917593 632, se 917594 633, se 917595 634, se 917596 635, se 917597 636, se 917598 637, se 917599 638] 67 ⟨127, #[1, 32, 33, 34, 35, 36, 37, 38, 39, 40, 41, 42, 43, 44, 45, 46, 47, 48, 49, 50, 51, 52, 53, 54, 55, 56, 57, 58, 59, 60, 61, 62, 63, 64, 65, 66, 67, 68, 69, 70, 71, 72, 73, 74, 75, 76, 77, 78, 79, 80, 81, 82, 83, 84, 85, 86, 87, 88, 89, 90, 91, 92, 93, 94, 95], #[], 0, !P.followText "set-order", 2, true⟩), #[]⟩
noncomputable def o295 (P : Params) : Obj := ⟨(.type "list_iterator"), none, (.fields #[(.ref 154), (.int (65) 0)]), #[]⟩
noncomputable def TL60 (P : Params) : BT := TX P (o294 P) (o295 P)
noncomputable def o296 (P : Params) : Obj := ⟨(.type "set"), none, (.set #[se 917505 569, se 917536 575, se 917537 576, se 917538 577, se 917539 578, se 917540 579, se 917541 580, se 917542 581, se 917543 582, se 917544 583, se 917545 584, se 917546 585, se 917547 586, se 917548 587, se 917549 588, se 917550 589, se 917551 590, se 917552 591, se 917553 592, se 917554 593, se 917555 594, se 917556 595, se 917557 596, se 917558 597, se 917559 598, se 917560 599, se 917561 600, se 917562 601, se 917563 602, se 917564 603, se 917565 604, se 917566 605, se 917567 606, se 917568 607, se 917569 608, se 917570 609, se 917571 610, se 917572 611, se 917573 612, se 917574 613, se 917575 614, se 917576 615, se 917577 616, se 917578 617, se 917579 618, se 917580 619, se 917581 620, se 917582 621, se 917583 622, se 917584 623, se 917585 624, se 917586 625, se 917587 626, se 917588 627, se 917589 628, se 917590 629, se 917591 630, se 917592 631, se 917593 632, se 917594 633, se 917595 634, se 917596 635, se 917597 636, se 917598 637, se 917599 638, se 917600 639] 68 ⟨127, #[1, 32, 33, 34, 35, 36, 37, 38, 39, 40, 41, 42, 43, 44, 45, 46, 47, 48, 49, 50, 51, 52, 53, 54, 55, 56, 57, 58, 59, 60, 61, 62, 63, 64, 65, 66, 67, 68, 69, 70, 71, 72, 73, 74, 75, 76, 77, 78, 79, 80, 81, 82, 83, 84, 85, 86, 87, 88, 89, 90, 91, 92, 93, 94, 95, 96], #[], 0, !P.followText "set-order", 2, true⟩), #[]⟩
noncomputable def o297 (P : Params) : Obj := ⟨(.type "list_iterator"), none, (.fields #[(.ref 154), (.int (66) 0)]), #[]⟩
noncomputable def TL61 (P : Params) : BT := TX P (o296 P) (o297 P)
noncomputable def o298 (P : Params) : Obj := ⟨(.type "set"), none, (.set #[se 917505 569, se 917536 575, se 917537 576, se 917538 577, se 917539 578, se 917540 579, se 917541 580, se 917542 581, se 917543 582, se 917544 583, se 917545 584, se 917546 585, se 917547 586, se 917548 587, se 917549 588, se 917550 589, se 917551 590, se 917552 591, se 917553 592, se 917554 593, se 917555 594, se 917556 595, se 917557 596, se 917558 597, se 917559 598, se 917560 599, se 917561 600, se 917562 601, se 917563 602, se 917564 603, se 917565 604, se 917566 605, se 917567 606, se 917568 607, se 917569 608, se 917570 609, se 917571 610, se 917572 611, se 917573 612, se 917574 613, se 917575 614, se 917576 615, se 917577 616, se 917578 617, se 917579 618, se 917580 619, se 917581 620, se 917582 621, se 917583 622, se 917584 623, se 917585 624, se 917586 625, se 917587 626, se 917588 627, se 917589 628, se 917590 629, se 917591 630, se 917592 631, se 917593 632, se 917594 633, se 917595 634, se 917596 635, se 917597 636, se 917598 637, se 917599 638, se 917600 639, se 917601 640] 69 ⟨127, #[1, 32, 33, 34, 35, 36, 37, 38, 39, 40, 41, 42, 43, 44, 45, 46, 47, 48, 49, 50, 51, 52, 53, 54, 55, 56, 57, 58, 59, 60, 61, 62, 63, 64, 65, 66, 67, 68, 69, 70, 71, 72, 73, 74, 75, 76, 77, 78, 79, 80, 81, 82, 83, 84, 85, 86, 87, 88, 89, 90, 91, 92, 93, 94, 95, 96, 97], #[], 0, !P.followText "set-order", 2, true⟩), #[]⟩
noncomputable def o299 (P : Params) : Obj := ⟨(.type "list_iterator"), none, (.fields #[(.ref 154), (.int (67) 0)]), #[]⟩
noncomputable def TL62 (P : Params) : BT := TX P (o298 P) (o299 P)
noncomputable def o300 (P : Params) : Obj := ⟨(.type "set"), none, (.set #[se 917505 569, se 917536 575, se 917537 576, se 917538 577, se 917539 578, se 917540 579, se 917541 580, se 917542 581, se 917543 582, se 917544 583, se 917545 584, se 917546 585, se 917547 586, se 917548 587, se 917549 588, se 917550 589, se 917551 590, se 917552 591, se 917553 592, se 917554 593, se 917555 594, se 917556 595, se 917557 596, se 917558 597, se 917559 598, se 917560 599, se 917561 600, se 917562 601, se 917563 602, se 917564 603, se 917565 604, se 917566 605, se 917567 606, se 917568 607, se 917569 608, se 917570 609, se 917571 610, se 917572 611, se 917573 612, se 917574 613, se 917575 614, se 917576 615, se 917577 616, se 917578 617, se 917579 618, se 917580 619, se 917581 620, se 917582 621, se 917583 622, se 917584 623, se 917585 624, se 917586 625, se 917587 626, se 917588 627, se 917589 628, se 917590 629, se 917591 630, se 917592 631, se 917593 632, se 917594 633, se 917595 634, se 917596 635, se 917597 636, se 917598 637, se 917599 638, se 917600 639, se 917601 640, se 917602 641] 70 ⟨127, #[1, 32, 33, 34, 35, 36, 37, 38, 39, 40, 41, 42, 43, 44, 45, 46, 47, 48, 49, 50, 51, 52, 53, 54, 55, 56, 57, 58, 59, 60, 61, 62, 63, 64, 65, 66, 67, 68, 69, 70, 71, 72, 73, 74, 75, 76, 77, 78, 79, 80, 81, 82, 83, 84, 85, 86, 87, 88, 89, 90, 91, 92, 93, 94, 95, 96, 97, 98], #[], 0, !P.followText "set-order", 2, true⟩), #[]⟩
noncomputable def o301 (P : Params) : Obj := ⟨(.type "list_iterator"), none, (.fields #[(.ref 154), (.int (68) 0)]), #[]⟩
noncomputable def TL63 (P : Params) : BT := TX P (o300 P) (o301 P)
noncomputable def o302 (P : Params) : Obj := ⟨(.type "set"), none, (.set #[se 917505 569, se 917536 575, se 917537 576, se 917538 577, se 917539 578, se 917540 579, se 917541 580, se 917542 581, se 917543 582, se 917544 583, se 917545 584, se 917546 585, se 917547 586, se 917548 587, se 917549 588, se 917550 589, se 917551 590, se 917552 591, se 917553 592, se 917554 593, se 917555 594, se 917556 595, se 917557 596, se 917558 597, se 917559 598, se 917560 599, se 917561 600, se 917562 601, se 917563 602, se 917564 603, se 917565 604, se 917566 605, se 917567 606, se 917568 607, se 917569 608, se 917570 609, se 917571 610, se 917572 611, se 917573 612, se 917574 613, se 917575 614, se 917576 615, se 917577 616, se 917578 617, se 917579 618, se 917580 619, se 917581 620, se 917582 621, se 917583 622, se 917584 623, se 917585 624, se 917586 625, se 917587 626, se 917588 627, se 917589 628, se 917590 629, se 917591 630, se 917592 631, se 917593 632, se 917594 633, se 917595 634, se 917596 635, se 917597 636, se 917598 637, se 917599 638, se 917600 639, se 917601 640, se 917602 641, se 917603 642] 71 ⟨127, #[1, 32, 33, 34, 35, 36, 37, 38, 39, 40, 41, 42, 43, 44, 45, 46, 47, 48, 49, 50, 51, 52, 53, 54, 55, 56, 57, 58, 59, 60, 61, 62, 63, 64, 65, 66, 67, 68, 69, 70, 71, 72, 73, 74, 75, 76, 77, 78, 79, 80, 81, 82, 83, 84, 85, 86, 87, 88, 89, 90, 91, 92, 93, 94, 95, 96, 97, 98, 99], #[], 0, !P.followText "set-order", 2, true⟩), #[]⟩
noncomputable def o303 (P : Params) : Obj := ⟨(.type "list_iterator"), none, (.fields #[(.ref 154), (.int (69) 0)]), #[]⟩
noncomputable def TL64 (P : Params) : BT := TX P (o302 P) (o303 P)
noncomputable def o304 (P : Params) : Obj := ⟨(.type "set"), none, (.set #[se 917505 569, se 917536 575, se 917537 576, se 917538 577, se 917539 578, se 917540 579, se 917541 580, se 917542 581, se 917543 582, se 917544 583, se 917545 584, se 917546 585, se 917547 586, se 917548 587, se 917549 588, se 917550 589, se 917551 590, se 917552 591, se 917553 592, se 917554 593, se 917555 594, se 917556 595, se 917557 596, se 917558 597, se 917559 598, se 917560 599, se 917561 600, se 917562 601, se 917563 602, se 917564 603, se 917565 604, se 917566 605, se 917567 606, se 917568 607, se 917569 608, se 917570 609, se 917571 610, se 917572 611, se 917573 612, se 917574 613, se 917575 614, se 917576 615, se 917577 616, se 917578 617, se 917579 618, se 917580 619, se 917581 620, se 917582 621, se 917583 622, se 917584 623, se 917585 624, se 917586 625, se 917587 626, se 917588 627, se 917589 628, se 917590 629, se 917591 630, se 917592 631, se 917593 632, se 917594 633, se 917595 634, se 917596 635, se 917597 636, se 917598 637, se 917599 638, se 917600 639, se 917601 640, se 917602 641, se 917603 642, se 917604 643] 72 ⟨127, #[1, 32, 33, 34, 35, 36, 37, 38, 39, 40, 41, 42, 43, 44, 45, 46, 47, 48, 49, 50, 51, 52, 53, 54, 55, 56, 57, 58, 59, 60, 61, 62, 63, 64, 65, 66, 67, 68, 69, 70, 71, 72, 73, 74, 75, 76, 77, 78, 79, 80, 81, 82, 83, 84, 85, 86, 87, 88, 89, 90, 91, 92, 93, 94, 95, 96, 97, 98, 99, 100], #[], 0, !P.followText "set-order", 2, true⟩), #[]⟩
noncomputable def o305 (P : Params) : Obj := ⟨(.type "list_iterator"), none, (.fields #[(.ref 154), (.int (70) 0)]), #[]⟩
noncomputable def TL65 (P : Params) : BT := TX P (o304 P) (o305 P)
noncomputable def o306 (P : Params) : Obj := ⟨(.type "set"), none, (.set #[se 917505 569, se 917536 575, se 917537 576, se 917538 577, se 917539 578, se 917540 579, se 917541 580, se 917542 581, se 917543 582, se 917544 583, se 917545 584, se 917546 585, se 917547 586, se 917548 587, se 917549 588, se 917550 589, se 917551 590, se 917552 591, se 917553 592, se 917554 593, se 917555 594, se 917556 595, se 917557 596, se 917558 597, se 917559 598, se 917560 599, se 917561 600, se 917562 601, se 917563 602, se 917564 603, se 917565 604, se 917566 605, se 917567 606, se 917568 607, se 917569 608, se 917570 609, se 917571 610, se 917572 611, se 917573 612, se 917574 613, se 917575 614, se 917576 615, se 917577 616, se 917578 617, se 917579 618, se 917580 619, se 917581 620, se 917582 621, se 917583 622, se 917584 623, se 917585 624, se 917586 625, se 917587 626, se 917588 627, se 917589 628, se 917590 629, se 917591 630, se 917592 631, se 917593 632, se 917594 633, se 917595 634, se 917596 635, se 917597 636, se 917598 637, se 917599 638, se 917600 639, se 917601 640, se 917602 641, se 917603 642, se 917604 643, se 917605 644] 73 ⟨127, #[1, 32, 33, 34, 35, 36, 37, 38, 39, 40, 41, 42, 43, 44, 45, 46, 47, 48, 49, 50, 51, 52, 53, 54, 55, 56, 57, 58, 59, 60, 61, 62, 63, 64, 65, 66, 67, 68, 69, 70, 71, 72, 73, 74, 75, 76, 77, 78, 79, 80, 81, 82, 83, 84, 85, 86, 87, 88, 89, 90, 91, 92, 93, 94, 95, 96, 97, 98, 99, 100, 101], #[], 0, !P.followText "set-order", 2, true⟩), #[]⟩
noncomputable def o307 (P : Params) : Obj := ⟨(.type "list_iterator"), none, (.fields #[(.ref 154), (.int (71) 0)]), #[]⟩
noncomputable def TL66 (P : Params) : BT := TX P (o306 P) (o307 P)
noncomputable def o308 (P : Params) : Obj := ⟨(.type "set"), none, (.set #[se 917505 569, se 917536 575, se 917537 576, se 917538 577, se 917539 578, se 917540 579, se 917541 580, se 917542 581, se 917543 582, se 917544 583, se 917545 584, se 917546 585, se 917547 586, se 917548 587, se 917549 588, se 917550 589, se 917551 590, se 917552 591, se 917553 592, se 917554 593, se 917555 594, se 917556 595, se 917557 596, se 917558 597, se 917559 598, se 917560 599, se 917561 600, se 917562 601, se 917563 602, se 917564 603, se 917565 604, se 917566 605, se 917567 606, se 917568 607, se 917569 608, se 917570 609, se 917571 610, se 917572 611, se 917573 612, se 917574 613, se 917575 614, se 917576 615, se 917577 616, se 917578 617, se 917579 618, se 917580 619, se 917581 620, se 917582 621, se 917583 622, se 917584 623, se 917585 624, se 917586 625, se 917587 626, se 917588 627, se 917589 628, se 917590 629, se 917591 630, se 917592 631, se 917593 632, se 917594 633, se 917595 634, se 917596 635, se 917597 636, se 917598 637, se 917599 638, se 917600 639, se 917601 640, se 917602 641, se 917603 642, se 917604 643, se 917605 644, se 917606 645] 74 ⟨127, #[1, 32, 33, 34, 35, 36, 37, 38, 39, 40, 41, 42, 43, 44, 45, 46, 47, 48, 49, 50, 51, 52, 53, 54, 55, 56, 57, 58, 59, 60, 61, 62, 63, 64, 65, 66, 67, 68, 69, 70, 71, 72, 73, 74, 75, 76, 77, 78, 79, 80, 81, 82, 83, 84, 85, 86, 87, 88, 89, 90, 91, 92, 93, 94, 95, 96, 97, 98, 99, 100, 101, 102], #[], 0, !P.followText "set-order", 2, true⟩), #[]⟩
noncomputable def o309 (P : Params) : Obj := ⟨(.type "list_iterator"), none, (.fields #[(.ref 154), (.int (72) 0)]), #[]⟩
noncomputable def TL67 (P : Params) : BT := TX P (o308 P) (o309 P)
noncomputable def o310 (P : Params) : Obj := ⟨(.type "set"), none, (.set #[se 917505 569, se 917536 575, se 917537 576, se 917538 577, se 917539 578, se 917540 579, se 917541 580, se 917542 581, se 917543 582, se 917544 583, se 917545 584, se 917546 585, se 917547 586, se 917548 587, se 917549 588, se 917550 589, se 917551 590, se 917552 591, se 917553 592, se 917554 593, se 917555 594, se 917556 595, se 917557 596, se 917558 597, se 917559 598, se 917560 599, se 917561 600, se 917562 601, se 917563 602, se 917564 603, se 917565 604, se 917566 605, se 917567 606, se 917568 607, se 917569 608, se 917570 609, se 917571 610, se 917572 611, se 917573 612, se 917574 613, se 917575 614, se 917576 615, se 917577 616, se 917578 617, se 917579 618, se 917580 619, se 917581 620, se 917582 621, se 917583 622, se 917584 623, se 917585 624, se 917586 625, se 917587 626, se 917588 627, se 917589 628, se 917590 629, se 917591 630, se 917592 631, se 917593 632, se 917594 633, se 917595 634, se 917596 635, se 917597 636, se 917598 637, se 917599 638, se 917600 639, se 917601 640, se 917602 641, se 917603 642, se 917604 643, se 917605 644, se 917606 645, se 917607 646] 75 ⟨127, #[1, 32, 33, 34, 35, 36, 37, 38, 39, 40, 41, 42, 43, 44, 45, 46, 47, 48, 49, 50, 51, 52, 53, 54, 55, 56, 57, 58, 59, 60, 61, 62, 63, 64, 65, 66, 67, 68, 69, 70, 71, 72, 73, 74, 75, 76, 77, 78, 79, 80, 81, 82, 83, 84, 85, 86, 87, 88, 89, 90, 91, 92, 93, 94, 95, 96, 97, 98, 99, 100, 101, 102, 103], #[], 0, !P.followText "set-order", 2, true⟩), #[]⟩
noncomputable def o311 (P : Params) : Obj := ⟨(.type "list_iterator"), none, (.fields #[(.ref 154), (.int (73) 0)]), #[]⟩
noncomputable def TL68 (P : Params) : BT := TX P (o310 P) (o311 P)
noncomputable def o312 (P : Params) : Obj := ⟨(.type "set"), none, (.set #[se 917505 569, se 917536 575, se 917537 576, se 917538 577, se 917539 578, se 917540 579, se 917541 580, se 917542 581, se 917543 582, se 917544 583, se 917545 584, se 917546 585, se 917547 586, se 917548 587, se 917549 588, se 917550 589, se 917551 590, se 917552 591, se 917553 592, se 917554 593, se 917555 594, se 917556 595, se 917557 596, se 917558 597, se 917559 598, se 917560 599, se 917561 600, se 917562 601, se 917563 602, se 917564 603, se 917565 604, se 917566 605, se 917567 606, se 917568 607, se 917569 608, se 917570 609, se 917571 610, se 917572 611, se 917573 612, se 917574 613, se 917575 614, se 917576 615, se 917577 616, se 917578 617, se 917579 618, se 917580 619, se 917581 620, se 917582 621, se 917583 622, se 917584 623, se 917585 624, se 917586 625, se 917587 626, se 917588 627, se 917589 628, se 917590 629, se 917591 630, se 917592 631, se 917593 632, se 917594 633, se 917595 634, se 917596 635, se 917597 636, se 917598 637, se 917599 638, se 917600 639, se 917601 640, se 917602 641, se 917603 642, se 917604 643, se 917605 644, se 917606 645, se 917607 646, se 917608 647] 76 ⟨127, #[1, 32, 33, 34, 35, 36, 37, 38, 39, 40, 41, 42, 43, 44, 45, 46, 47, 48, 49, 50, 51, 52, 53, 54, 55, 56, 57, 58, 59, 60, 61, 62, 63, 64, 65, 66, 67, 68, 69, 70, 71, 72, 73, 74, 75, 76, 77, 78, 79, 80, 81, 82, 83, 84, 85, 86, 87, 88, 89, 90, 91, 92, 93, 94, 95, 96, 97, 98, 99, 100, 101, 102, 103, 104], #[], 0, !P.followText "set-order", 2, true⟩), #[]⟩
noncomputable def o313 (P : Params) : Obj := ⟨(.type "list_iterator"), none, (.fields #[(.ref 154), (.int (74) 0)]), #[]⟩
noncomputable def TL69 (P : Params) : BT := TX P (o312 P) (o313 P)
noncomputable def o314 (P : Params) : Obj := ⟨(.type "set"), none, (.set #[se 917505 569, se 917536 575, se 917537 576, se 917538 577, se 917539 578, se 917540 579, se 917541 580, se 917542 581, se 917543 582, se 917544 583, se 917545 584, se 917546 585, se 917547 586, se 917548 587, se 917549 588, se 917550 589, se 917551 590, se 917552 591, se 917553 592, se 917554 593, se 917555 594, se 917556 595, se 917557 596, se 917558 597, se 917559 598, se 917560 599, se 917561 600, se 917562 601, se 917563 602, se 917564 603, se 917565 604, se 917566 605, se 917567 606, se 917568 607, se 917569 608, se 917570 609, se 917571 610, se 917572 611, se 917573 612, se 917574 613, se 917575 614, se 917576 615, se 917577 616, se 917578 617, se 917579 618, se 917580 619, se 917581 620, se 917582 621, se 917583 622, se 917584 623, se 917585 624, se 917586 625, se 917587 626, se 917588 627, se 917589 628, se 917590 629, se 917591 630, se 917592 631, se 917593 632, se 917594 633, se 917595 634, se 917596 635, se 917597 636, se 917598 637, se 917599 638, se 917600 639, se 917601 640, se 917602 641, se 917603 642, se 917604 643, se 917605 644, se 917606 645, se 917607 646, se 917608 647, se 917609 648] 77 ⟨127, #[1, 32, 33, 34, 35, 36, 37, 38, 39, 40, 41, 42, 43, 44, 45, 46, 47, 48, 49, 50, 51, 52, 53, 54, 55, 56, 57, 58, 59, 60, 61, 62, 63, 64, 65, 66, 67, 68, 69, 70, 71, 72, 73, 74, 75, 76, 77, 78, 79, 80, 81, 82, 83, 84, 85, 86, 87, 88, 89, 90, 91, 92, 93, 94, 95, 96, 97, 98, 99, 100, 101, 102, 103, 104, 105], #[], 0, !P.followText "set-order", 2, true⟩), #[]⟩
noncomputable def o315 (P : Params) : Obj := ⟨(.type "list_iterator"), none, (.fields #[(.ref 154), (.int (75) 0)]), #[]⟩
noncomputable def TL70 (P : Params) : BT := TX P (o314 P) (o315 P)
noncomputable def o316 (P : Params) : Obj := ⟨(.type "set"), none, (.set #[se 917505 569, se 917536 575, se 917537 576, se 917538 577, se 917539 578, se 917540 579, se 917541 580, se 917542 581, se 917543 582, se 917544 583, se 917545 584, se 917546 585, se 917547 586, se 917548 587, se 917549 588, se 917550 589, se 917551 590, se 917552 591, se 917553 592, se 917554 593, se 917555 594, se 917556 595, se 917557 596, se 917558 597, se 917559 598, se 917560 599, se 917561 600, se 917562 601, se 917563 602, se 917564 603, se 917565 604, se 917566 605, se 917567 606, se 917568 607, se 917569 608, se 917570 609, se 917571 610, se 917572 611, se 917573 612, se 917574 613, se 917575 614, se 917576 615, se 917577 616, se 917578 617, se 917579 618, se 917580 619, se 917581 620, se 917582 621, se 917583 622, se 917584 623, se 917585 624, se 917586 625, se 917587 626, se 917588 627, se 917589 628, se 917590 629, se 917591 630, se 917592 631, se 917593 632, se 917594 633, se 917595 634, se 917596 635, se 917597 636, se 917598 637, se 917599 638, se 917600 639, se 917601 640, se 917602 641, se 917603 642, se 917604 643, se 917605 644, se 917606 645, se 917607 646, se 917608 647, se 917609 648, se 917610 649] 78 ⟨127, #[1, 32, 33, 34, 35, 36, 37, 38, 39, 40, 41, 42, 43, 44, 45, 46, 47, 48, 49, 50, 51, 52, 53, 54, 55, 56, 57, 58, 59, 60, 61, 62, 63, 64, 65, 66, 67, 68, 69, 70, 71, 72, 73, 74, 75, 76, 77, 78, 79, 80, 81, 82, 83, 84, 85, 86, 87, 88, 89, 90, 91, 92, 93, 94, 95, 96, 97, 98, 99, 100, 101, 102, 103, 104, 105, 106], #[], 0, !P.followText "set-order", 2, true⟩), #[]⟩
noncomputable def o317 (P : Params) : Obj := ⟨(.type "list_iterator"), none, (.fields #[(.ref 154), (.int (76) 0)]), #[]⟩
noncomputable def TL71 (P : Params) : BT := TX P (o316 P) (o317 P)
noncomputable def o318 (P : Params) : Obj := ⟨(.type "set"), none, (.set #[se 917505 569, se 917536 575, se 917537 576, se 917538 577, se 917539 578, se 917540 579, se 917541 580, se 917542 581, se 917543 582, se 917544 583, se 917545 584, se 917546 585, se 917547 586, se 917548 587, se 917549 588, se 917550 589, se 917551 590, se 917552 591, se 917553 592, se 917554 593, se 917555 594, se 917556 595, se 917557 596, se 917558 597, se 917559 598, se 917560 599, se 917561 600, se 917562 601, se 917563 602, se 917564 603, se 917565 604, se 917566 605, se 917567 606, se 917568 607, se 917569 608, se 917570 609, se 917571 610, se 917572 611, se 917573 612, se 917574 613, se 917575 614, se 917576 615, se 917577 616, se 917578 617, se 917579 618, se 917580 619, se 917581 620, se 917582 621, se 917583 622, se 917584 623, se 917585 624, se 917586 625, se 917587 626, se 917588 627, se 917589 628, se 917590 629, se 917591 630, se 917592 631, se 917593 632, se 917594 633, se 917595 634, se 917596 635, se 917597 636, se 917598 637, se 917599 638, se 917600 639, se 917601 640, se 917602 641, se 917603 642, se 917604 643, se 917605 644, se 917606 645, se 917607 646, se 917608 647, se 917609 648, se 917610 649, se 917611 650] 80 ⟨511, #[1, 32, 33, 34, 35, 36, 37, 38, 39, 40, 41, 42, 43, 44, 45, 46, 47, 48, 49, 50, 51, 52, 53, 54, 55, 56, 57, 58, 59, 60, 61, 62, 63, 64, 65, 66, 67, 68, 69, 70, 71, 72, 73, 74, 75, 76, 77, 78, 79, 80, 81, 82, 83, 84, 85, 86, 87, 88, 89, 90, 91, 92, 93, 94, 95, 96, 97, 98, 99, 100, 101, 102, 103, 104, 105, 106, 107], #[], 0, !P.followText "set-order", 3, true⟩), #[]⟩
noncomputable def o319 (P : Params) : Obj := ⟨(.type "list_iterator"), none, (.fields #[(.ref 154), (.int (77) 0)]), #[]⟩
noncomputable def TL72 (P : Params) : BT := TX P (o318 P) (o319 P)
noncomputable def o320 (P : Params) : Obj := ⟨(.type "set"), none, (.set #[se 917505 569, se 917536 575, se 917537 576, se 917538 577, se 917539 578, se 917540 579, se 917541 580, se 917542 581, se 917543 582, se 917544 583, se 917545 584, se 917546 585, se 917547 586, se 917548 587, se 917549 588, se 917550 589, se 917551 590, se 917552 591, se 917553 592, se 917554 593, se 917555 594, se 917556 595, se 917557 596, se 917558 597, se 917559 598, se 917560 599, se 917561 600, se 917562 601, se 917563 602, se 917564 603, se 917565 604, se 917566 605, se 917567 606, se 917568 607, se 917569 608, se 917570 609, se 917571 610, se 917572 611, se 917573 612, se 917574 613, se 917575 614, se 917576 615, se 917577 616, se 917578 617, se 917579 618, se 917580 619, se 917581 620, se 917582 621, se 917583 622, se 917584 623, se 917585 624, se 917586 625, se 917587 626, se 917588 627, se 917589 628, se 917590 629, se 917591 630, se 917592 631, se 917593 632, se 917594 633, se 917595 634, se 917596 635, se 917597 636, se 917598 637, se 917599 638, se 917600 639, se 917601 640, se 917602 641, se 917603 642, se 917604 643, se 917605 644, se 917606 645, se 917607 646, se 917608 647, se 917609 648, se 917610 649, se 917611 650, se 917612 651] 81 ⟨511, #[1, 32, 33, 34, 35, 36, 37, 38, 39, 40, 41, 42, 43, 44, 45, 46, 47, 48, 49, 50, 51, 52, 53, 54, 55, 56, 57, 58, 59, 60, 61, 62, 63, 64, 65, 66, 67, 68, 69, 70, 71, 72, 73, 74, 75, 76, 77, 78, 79, 80, 81, 82, 83, 84, 85, 86, 87, 88, 89, 90, 91, 92, 93, 94, 95, 96, 97, 98, 99, 100, 101, 102, 103, 104, 105, 106, 107, 108], #[], 0, !P.followText "set-order", 3, true⟩), #[]⟩
noncomputable def o321 (P : Params) : Obj := ⟨(.type "list_iterator"), none, (.fields #[(.ref 154), (.int (78) 0)]), #[]⟩
noncomputable def TL73 (P : Params) : BT := TX P (o320 P) (o321 P)
noncomputable def o322 (P : Params) : Obj := ⟨(.type "set"), none, (.set #[se 917505 569, se 917536 575, se 917537 576, se 917538 577, se 917539 578, se 917540 579, se 917541 580, se 917542 581, se 917543 582, se 917544 583, se 917545 584, se 917546 585, se 917547 586, se 917548 587, se 917549 588, se 917550 589, se 917551 590, se 917552 591, se 917553 592, se 917554 593, se 917555 594, se 917556 595, se 917557 596, se 917558 597, se 917559 598, se 917560 599, se 917561 600, se 917562 601, se 917563 602, se 917564 603, se 917565 604, se 917566 605, se 917567 606, se 917568 607, se 917569 608, se 917570 609, se 917571 610, se 917572 611, se 917573 612, se 917574 613, se 917575 614, se 917576 615, se 917577 616, se 917578 617, se 917579 618, se 917580 619, se 917581 620, se 917582 621, se 917583 622, se 917584 623, se 917585 624, se 917586 625, se 917587 626, se 917588 627, se 917589 628, se 917590 629, se 917591 630, se 917592 631, se 917593 632, se 917594 633, se 917595 634, se 917596 635, se 917597 636, se 917598 637, se 917599 638, se 917600 639, se 917601 640, se 917602 641, se 917603 642, se 917604 643, se 917605 644, se 917606 645, se 917607 646, se 917608 647, se 917609 648, se 917610 649, se 917611 650, se 917612 651, se 917613 652] 82 ⟨511, #[1, 32, 33, 34, 35, 36, 37, 38, 39, 40, 41, 42, 43, 44, 45, 46, 47, 48, 49, 50, 51, 52, 53, 54, 55, 56, 57, 58, 59, 60, 61, 62, 63, 64, 65, 66, 67, 68, 69, 70, 71, 72, 73, 74, 75, 76, 77, 78, 79, 80, 81, 82, 83, 84, 85, 86, 87, 88, 89, 90, 91, 92, 93, 94, 95, 96, 97, 98, 99, 100, 101, 102, 103, 104, 105, 106, 107, 108, 109], #[], 0, !P.followText "set-order", 3, true⟩), #[]⟩
noncomputable def o323 (P : Params) : Obj := ⟨(.type "list_iterator"), none, (.fields #[(.ref 154), (.int (79) 0)]), #[]⟩
noncomputable def TL74 (P : Params) : BT := TX P (o322 P) (o323 P)
noncomputable def o324 (P : Params) : Obj := ⟨(.type "set"), none, (.set #[se 917505 569, se 917536 575, se 917537 576, se 917538 577, se 917539 578, se 917540 579, se 917541 580, se 917542 581, se 917543 582, se 917544 583, se 917545 584, se 917546 585, se 917547 586, se 917548 587, se 917549 588, se 917550 589, se 917551 590, se 917552 591, se 917553 592, se 917554 593, se 917555 594, se 917556 595, se 917557 596, se 917558 597, se 917559 598, se 917560 599, se 917561 600, se 917562 601, se 917563 602, se 917564 603, se 917565 604, se 917566 605, se 917567 606, se 917568 607, se 917569 608, se 917570 609, se 917571 610, se 917572 611, se 917573 612, se 917574 613, se 917575 614, se 917576 615, se 917577 616, se 917578 617, se 917579 618, se 917580 619, se 917581 620, se 917582 621, se 917583 622, se 917584 623, se 917585 624, se 917586 625, se 917587 626, se 917588 627, se 917589 628, se 917590 629, se 917591 630, se 917592 631, se 917593 632, se 917594 633, se 917595 634, se 917596 635, se 917597 636, se 917598 637, se 917599 638, se 917600 639, se 917601 640, se 917602 641, se 917603 642, se 917604 643, se 917605 644, se 917606 645, se 917607 646, se 917608 647, se 917609 648, se 917610 649, se 917611 650, se 917612 651, se 917613 652, se 917614 653] 83 ⟨511, #[1, 32, 33, 34, 35, 36, 37, 38, 39, 40, 41, 42, 43, 44, 45, 46, 47, 48, 49, 50, 51, 52, 53, 54, 55, 56, 57, 58, 59, 60, 61, 62, 63, 64, 65, 66, 67, 68, 69, 70, 71, 72, 73, 74, 75, 76, 77, 78, 79, 80, 81, 82, 83, 84, 85, 86, 87, 88, 89, 90, 91, 92, 93, 94, 95, 96, 97, 98, 99, 100, 101, 102, 103, 104, 105, 106, 107, 108, 109, 110], #[], 0, !P.followText "set-order", 3, true⟩), #[]⟩
noncomputable def o325 (P : Params) : Obj := ⟨(.type "list_iterator"), none, (.fields #[(.ref 154), (.int (80) 0)]), #[]⟩
noncomputable def TL75 (P : Params) : BT := TX P (o324 P) (o325 P)
noncomputable def o326 (P : Params) : Obj := ⟨(.type "set"), none, (.set #[se 917505 569, se 917536 575, se 917537 576, se 917538 577, se 917539 578, se 917540 579, se 917541 580, se 917542 581, se 917543 582, se 917544 583, se 917545 584, se 917546 585, se 917547 586, se 917548 587, se 917549 588, se 917550 589, se 917551 590, se 917552 591, se 917553 592, se 917554 593, se 917555 594, se 917556 595, se 917557 596, se 917558 597, se 917559 598, se 917560 599, se 917561 600, se 917562 601, se 917563 602, se 917564 603, se 917565 604, se 917566 605, se 917567 606, se 917568 607, se 917569 608, se 917570 609, se 917571 610, se 917572 611, se 917573 612, se 917574 613, se 917575 614, se 917576 615, se 917577 616, se 917578 617, se 917579 618, se 917580 619, se 917581 620, se 917582 621, se 917583 622, se 917584 623, se 917585 624, se 917586 625, se 917587 626, se 917588 627, se 917589 628, se 917590 629, se 917591 630, se 917592 631, se 917593 632, se 917594 633, se 917595 634, se 917596 635, se 917597 636, se 917598 637, se 917599 638, se 917600 639, se 917601 640, se 917602 641, se 917603 642, se 917604 643, se 917605 644, se 917606 645, se 917607 646, se 917608 647, se 917609 648, se 917610 649, se 917611 650, se 917612 651, se 917613 652, se 917614 653, se 917615 654] 84 ⟨511, #[1, 32, 33, 34, 35, 36, 37, 38, 39, 40, 41, 42, 43, 44, 45, 46, 47, 48, 49, 50, 51, 52, 53, 54, 55, 56, 57, 58, 59, 60, 61, 62, 63, 64, 65, 66, 67, 68, 69, 70, 71, 72, 73, 74, 75, 76, 77, 78, 79, 80, 81, 82, 83, 84, 85, 86, 87, 88, 89, 90, 91, 92, 93, 94, 95, 96, 97, 98, 99, 100, 101, 102, 103, 104, 105, 106, 107, 108, 109, 110, 111], #[], 0, !P.followText "set-order", 3, true⟩), #[]⟩
noncomputable def o327 (P : Params) : Obj := ⟨(.type "list_iterator"), none, (.fields #[(.ref 154), (.int (81) 0)]), #[]⟩
noncomputable def TL76 (P : Params) : BT := TX P (o326 P) (o327 P)
noncomputable def o328 (P : Params) : Obj := ⟨(.type "set"), none, (.set #[se 917505 569, se 917536 575, se 917537 576, se 917538 577, se 917539 578, se 917540 579, se 917541 580, se 917542 581, se 917543 582, se 917544 583, se 917545 584, se 917546 585, se 917547 586, se 917548 587, se 917549 588, se 917550 589, se 917551 590, se 917552 591, se 917553 592, se 917554 593, se 917555 594, se 917556 595, se 917557 596, se 917558 597, se 917559 598, se 917560 599, se 917561 600, se 917562 601, se 917563 602, se 917564 603, se 917565 604, se 917566 605, se 917567 606, se 917568 607, se 917569 608, se 917570 609, se 917571 610, se 917572 611, se 917573 612, se 917574 613, se 917575 614, se 917576 615, se 917577 616, se 917578 617, se 917579 618, se 917580 619, se 917581 620, se 917582 621, se 917583 622, se 917584 623, se 917585 624, se 917586 625, se 917587 626, se 917588 627, se 917589 628, se 917590 629, se 917591 630, se 917592 631, se 917593 632, se 917594 633, se 917595 634, se 917596 635, se 917597 636, se 917598 637, se 917599 638, se 917600 639, se 917601 640, se 917602 641, se 917603 642, se 917604 643, se 917605 644, se 917606 645, se 917607 646, se 917608 647, se 917609 648, se 917610 649, se 917611 650, se 917612 651, se 917613 652, se 917614 653, se 917615 654, se 917616 655] 85 ⟨511, #[1, 32, 33, 34, 35, 36, 37, 38, 39, 40, 41, 42, 43, 44, 45, 46, 47, 48, 49, 50, 51, 52, 53, 54, 55, 56, 57, 58, 59, 60, 61, 62, 63, 64, 65, 66, 67, 68, 69, 70, 71, 72, 73, 74, 75, 76, 77, 78, 79, 80, 81, 82, 83, 84, 85, 86, 87, 88, 89, 90, 91, 92, 93, 94, 95, 96, 97, 98, 99, 100, 101, 102, 103, 104, 105, 106, 107, 108, 109, 110, 111, 112], #[], 0, !P.followText "set-order", 3, true⟩), #[]⟩
noncomputable def o329 (P : Params) : Obj := ⟨(.type "list_iterator"), none, (.fields #[(.ref 154), (.int (82) 0)]), #[]⟩
noncomputable def TL77 (P : Params) : BT := TX P (o328 P) (o329 P)
noncomputable def o330 (P : Params) : Obj := ⟨(.type "set"), none, (.set #[se 917505 569, se 917536 575, se 917537 576, se 917538 577, se 917539 578, se 917540 579, se 917541 580, se 917542 581, se 917543 582, se 917544 583, se 917545 584, se 917546 585, se 917547 586, se 917548 587, se 917549 588, se 917550 589, se 917551 590, se 917552 591, se 917553 592, se 917554 593, se 917555 594, se 917556 595, se 917557 596, se 917558 597, se 917559 598, se 917560 599, se 917561 600, se 917562 601, se 917563 602, se 917564 603, se 917565 604, se 917566 605, se 917567 606, se 917568 607, se 917569 608, se 917570 609, se 917571 610, se 917572 611, se 917573 612, se 917574 613, se 917575 614, se 917576 615, se 917577 616, se 917578 617, se 917579 618, se 917580 619, se 917581 620, se 917582 621, se 917583 622, se 917584 623, se 917585 624, se 917586 625, se 917587 626, se 917588 627, se 917589 628, se 917590 629, se 917591 630, se 917592 631, se 917593 632, se 917594 633, se 917595 634, se 917596 635, se 917597 636, se 917598 637, se 917599 638, se 917600 639, se 917601 640, se 917602 641, se 917603 642, se 917604 643, se 917605 644, se 917606 645, se 917607 646, se 917608 647, se 917609 648, se 917610 649, se 917611 650, se 917612 651, se 917613 652, se 917614 653, se 917615 654, se 917616 655, se 917617 656] 86 ⟨511, #[1, 32, 33, 34, 35, 36, 37, 38, 39, 40, 41, 42, 43, 44, 45, 46, 47, 48, 49, 50, 51, 52, 53, 54, 55, 56, 57, 58, 59, 60, 61, 62, 63, 64, 65, 66, 67, 68, 69, 70, 71, 72, 73, 74, 75, 76, 77, 78, 79, 80, 81, 82, 83, 84, 85, 86, 87, 88, 89, 90, 91, 92, 93, 94, 95, 96, 97, 98, 99, 100, 101, 102, 103, 104, 105, 106, 107, 108, 109, 110, 111, 112, 113], #[], 0, !P.followText "set-order", 3, true⟩), #[]⟩
noncomputable def o331 (P : Params) : Obj := ⟨(.type "list_iterator"), none, (.fields #[(.ref 154), (.int (83) 0)]), #[]⟩
noncomputable def TL78 (P : Params) : BT := TX P (o330 P) (o331 P)
noncomputable def o332 (P : Params) : Obj := ⟨(.type "set"), none, (.set #[se 917505 569, se 917536 575, se 917537 576, se 917538 577, se 917539 578, se 917540 579, se 917541 580, se 917542 581, se 917543 582, se 917544 583, se 917545 584, se 917546 585, se 917547 586, se 917548 587, se 917549 588, se 917550 589, se 917551 590, se 917552 591, se 917553 592, se 917554 593, se 917555 594, se 917556 595, se 917557 596, se 917558 597, se 917559 598, se 917560 599, se 917561 600, se 917562 601, se 917563 602, se 917564 603, se 917565 604, se 917566 605, se 917567 606, se 917568 607, se 917569 608, se 917570 609, se 917571 610, se 917572 611, se 917573 612, se 917574 613, se 917575 614, se 917576 615, se 917577 616, se 917578 617, se 917579 618, se 917580 619, se 917581 620, se 917582 621, se 917583 622, se 917584 623, se 917585 624, se 917586 625, se 917587 626, se 917588 627, se 917589 628, se 917590 629, se 917591 630, se 917592 631, se 917593 632, se 917594 633, se 917595 634, se 917596 635, se 917597 636, se 917598 637, se 917599 638, se 917600 639, se 917601 640, se 917602 641, se 917603 642, se 917604 643, se 917605 644, se 917606 645, se 917607 646, se 917608 647, se 917609 648, se 917610 649, se 917611 650, se 917612 651, se 917613 652, se 917614 653, se 917615 654, se 917616 655, se 917617 656, se 917618 657] 87 ⟨511, #[1, 32, 33, 34, 35, 36, 37, 38, 39, 40, 41, 42, 43, 44, 45, 46, 47, 48, 49, 50, 51, 52, 53, 54, 55, 56, 57, 58, 59, 60, 61, 62, 63, 64, 65, 66, 67, 68, 69, 70, 71, 72, 73, 74, 75, 76, 77, 78, 79, 80, 81, 82, 83, 84, 85, 86, 87, 88, 89, 90, 91, 92, 93, 94, 95, 96, 97, 98, 99, 100, 101, 102, 103, 104, 105, 106, 107, 108, 109, 110, 111, 112, 113, 114], #[], 0, !P.followText "set-order", 3, true⟩), #[]⟩
noncomputable def o333 (P : Params) : Obj := ⟨(.type "list_iterator"), none, (.fields #[(.ref 154), (.int (84) 0)]), #[]⟩
noncomputable def TL79 (P : Params) : BT := TX P (o332 P) (o333 P)
noncomputable def o334 (P : Params) : Obj := ⟨(.type "set"), none, (.set #[se 917505 569, se 917536 575, se 917537 576, se 917538 577, se 917539 578, se 917540 579, se 917541 580, se 917542 581, se 917543 582, se 917544 583, se 917545 584, se 917546 585, se 917547 586, se 917548 587, se 917549 588, se 917550 589, se 917551 590, se 917552 591, se 917553 592, se 917554 593, se 917555 594, se 917556 595, se 917557 596, se 917558 597, se 917559 598, se 917560 599, se 917561 600, se 917562 601, se 917563 602, se 917564 603, se 917565 604, se 917566 605, se 917567 606, se 917568 607, se 917569 608, se 917570 609, se 917571 610, se 917572 611, se 917573 612, se 917574 613, se 917575 614, se 917576 615, se 917577 616, se 917578 617, se 917579 618, se 917580 619, se 917581 620, se 917582 621, se 917583 622, se 917584 623, se 917585 624, se 917586 625, se 917587 626, se 917588 627, se 917589 628, se 917590 629, se 917591 630, se 917592 631, se 917593 632, se 917594 633, se 917595 634, se 917596 635, se 917597 636, se 917598 637, se 917599 638, se 917600 639, se 917601 640, se 917602 641, se 917603 642, se 917604 643, se 917605 644, se 917606 645, se 917607 646, se 917608 647, se 917609 648, se 917610 649, se 917611 650, se 917612 651, se 917613 652, se 917614 653, se 917615 654, se 917616 655, se 917617 656, se 917618 657, se 917619 658] 88 ⟨511, #[1, 32, 33, 34, 35, 36, 37, 38, 39, 40, 41, 42, 43, 44, 45, 46, 47, 48, 49, 50, 51, 52, 53, 54, 55, 56, 57, 58, 59, 60, 61, 62, 63, 64, 65, 66, 67, 68, 69, 70, 71, 72, 73, 74, 75, 76, 77, 78, 79, 80, 81, 82, 83, 84, 85, 86, 87, 88, 89, 90, 91, 92, 93, 94, 95, 96, 97, 98, 99, 100, 101, 102, 103, 104, 105, 106, 107, 108, 109, 110, 111, 112, 113, 114, 115], #[], 0, !P.followText "set-order", 3, true⟩), #[]⟩
noncomputable def o335 (P : Params) : Obj := ⟨(.type "list_iterator"), none, (.fields #[(.ref 154), (.int (85) 0)]), #[]⟩
noncomputable def TL80 (P : Params) : BT := TX P (o334 P) (o335 P)
noncomputable def o336 (P : Params) : Obj := ⟨(.type "set"), none, (.set #[se 917505 569, se 917536 575, se 917537 576, se 917538 577, se 917539 578, se 917540 579, se 917541 580, se 917542 581, se 917543 582, se 917544 583, se 917545 584, se 917546 585, se 917547 586, se 917548 587, se 917549 588, se 917550 589, se 917551 590, se 917552 591, se 917553 592, se 917554 593, se 917555 594, se 917556 595, se 917557 596, se 917558 597, se 917559 598, se 917560 599, se 917561 600, se 917562 601, se 917563 602, se 917564 603, se 917565 604, se 917566 605, se 917567 606, se 917568 607, se 917569 608, se 917570 609, se 917571 610, se 917572 611, se 917573 612, se 917574 613, se 917575 614, se 917576 615, se 917577 616, se 917578 617, se 917579 618, se 917580 619, se 917581 620, se 917582 621, se 917583 622, se 917584 623, se 917585 624, se 917586 625, se 917587 626, se 917588 627, se 917589 628, se 917590 629, se 917591 630, se 917592 631, se 917593 632, se 917594 633, se 917595 634, se 917596 635, se 917597 636, se 917598 637, se 917599 638, se 917600 639, se 917601 640, se 917602 641, se 917603 642, se 917604 643, se 917605 644, se 917606 645, se 917607 646, se 917608 647, se 917609 648, se 917610 649, se 917611 650, se 917612 651, se 917613 652, se 917614 653, se 917615 654, se 917616 655, se 917617 656, se 917618 657, se 917619 658, se 917620 659] 89 ⟨511, #[1, 32, 33, 34, 35, 36, 37, 38, 39, 40, 41, 42, 43, 44, 45, 46, 47, 48, 49, 50, 51, 52, 53, 54, 55, 56, 57, 58, 59, 60, 61, 62, 63, 64, 65, 66, 67, 68, 69, 70, 71, 72, 73, 74, 75, 76, 77, 78, 79, 80, 81, 82, 83, 84, 85, 86, 87, 88, 89, 90, 91, 92, 93, 94, 95, 96, 97, 98, 99, 100, 101, 102, 103, 104, 105, 106, 107, 108, 109, 110, 111, 112, 113, 114, 115, 116], #[], 0, !P.followText "set-order", 3, true⟩), #[]⟩
noncomputable def o337 (P : Params) : Obj := ⟨(.type "list_iterator"), none, (.fields #[(.ref 154), (.int (86) 0)]), #[]⟩
noncomputable def TL81 (P : Params) : BT := TX P (o336 P) (o337 P)
noncomputable def o338 (P : Params) : Obj := ⟨(.type "set"), none, (.set #[se 917505 569, se 917536 575, se 917537 576, se 917538 577, se 917539 578, se 917540 579, se 917541 580, se 917542 581, se 917543 582, se 917544 583, se 917545 584, se 917546 585, se 917547 586, se 917548 587, se 917549 588, se 917550 589, se 917551 590, se 917552 591, se 917553 592, se 917554 593, se 917555 594, se 917556 595, se 917557 596, se 917558 597, se 917559 598, se 917560 599, se 917561 600, se 917562 601, se 917563 602, se 917564 603, se 917565 604, se 917566 605, se 917567 606, se 917568 607, se 917569 608, se 917570 609, se 917571 610, se 917572 611, se 917573 612, se 917574 613, se 917575 614, se 917576 615, se 917577 616, se 917578 617, se 917579 618, se 917580 619, se 917581 620, se 917582 621, se 917583 622, se 917584 623, se 917585 624, se 917586 625, se 917587 626, se 917588 627, se 917589 628, se 917590 629, se 917591 630, se 917592 631, se 917593 632, se 917594 633, se 917595 634, se 917596 635, se 917597 636, se 917598 637, se 917599 638, se 917600 639, se 917601 640, se 917602 641, se 917603 642, se 917604 643, se 917605 644, se 917606 645, se 917607 646, se 917608 647, se 917609 648, se 917610 649, se 917611 650, se 917612 651, se 917613 652, se 917614 653, se 917615 654, se 917616 655, se 917617 656, se 917618 657, se 917619 658, se 917620 659, se 917621 660] 90 ⟨511, #[1, 32, 33, 34, 35, 36, 37, 38, 39, 40, 41, 42, 43, 44, 45, 46, 47, 48, 49, 50, 51, 52, 53, 54, 55, 56, 57, 58, 59, 60, 61, 62, 63, 64, 65, 66, 67, 68, 69, 70, 71, 72, 73, 74, 75, 76, 77, 78, 79, 80, 81, 82, 83, 84, 85, 86, 87, 88, 89, 90, 91, 92, 93, 94, 95, 96, 97, 98, 99, 100, 101, 102, 103, 104, 105, 106, 107, 108, 109, 110, 111, 112, 113, 114, 115, 116, 117], #[], 0, !P.followText "set-order", 3, true⟩), #[]⟩
noncomputable def o339 (P : Params) : Obj := ⟨(.type "list_iterator"), none, (.fields #[(.ref 154), (.int (87) 0)]), #[]⟩
noncomputable def TL82 (P : Params) : BT := TX P (o338 P) (o339 P)
noncomputable def o340 (P : Params) : Obj := ⟨(.type "set"), none, (.set #[se 917505 569, se 917536 575, se 917537 576, se 917538 577, se 917539 578, se 917540 579, se 917541 580, se 917542 581, se 917543 582, se 917544 583, se 917545 584, se 917546 585, se 917547 586, se 917548 587, se 917549 588, se 917550 589, se 917551 590, se 917552 591, se 917553 592, se 917554 593, se 917555 594, se 917556 595, se 917557 596, se 917558 597, se 917559 598, se 917560 599, se 917561 600, se 917562 601, se 917563 602, se 917564 603, se 917565 604, se 917566 605, se 917567 606, se 917568 607, se 917569 608, se 917570 609, se 917571 610, se 917572 611, se 917573 612, se 917574 613, se 917575 614, se 917576 615, se 917577 616, se 917578 617, se 917579 618, se 917580 619, se 917581 620, se 917582 621, se 917583 622, se 917584 623, se 917585 624, se 917586 625, se 917587 626, se 917588 627, se 917589 628, se 917590 629, se 917591 630, se 917592 631, se 917593 632, se 917594 633, se 917595 634, se 917596 635, se 917597 636, se 917598 637, se 917599 638, se 917600 639, se 917601 640, se 917602 641, se 917603 642, se 917604 643, se 917605 644, se 917606 645, se 917607 646, se 917608 647, se 917609 648, se 917610 649, se 917611 650, se 917612 651, se 917613 652, se 917614 653, se 917615 654, se 917616 655, se 917617 656, se 917618 657, se 917619 658, se 917620 659, se 917621 660, se 917622 661] 91 ⟨511, #[1, 32, 33, 34, 35, 36, 37, 38, 39, 40, 41, 42, 43, 44, 45, 46, 47, 48, 49, 50, 51, 52, 53, 54, 55, 56, 57, 58, 59, 60, 61, 62, 63, 64, 65, 66, 67, 68, 69, 70, 71, 72, 73, 74, 75, 76, 77, 78, 79, 80, 81, 82, 83, 84, 85, 86, 87, 88, 89, 90, 91, 92, 93, 94, 95, 96, 97, 98, 99, 100, 101, 102, 103, 104, 105, 106, 107, 108, 109, 110, 111, 112, 113, 114, 115, 116, 117, 118], #[], 0, !P.followText "set-order", 3, true⟩), #[]⟩
noncomputable def o341 (P : Params) : Obj := ⟨(.type "list_iterator"), none, (.fields #[(.ref 154), (.int (88) 0)]), #[]⟩
noncomputable def TL83 (P : Params) : BT := TX P (o340 P) (o341 P)
noncomputable def o342 (P : Params) : Obj := ⟨(.type "set"), none, (.set #[se 917505 569, se 917536 575, se 917537 576, se 917538 577, se 917539 578, se 917540 579, se 917541 580, se 917542 581, se 917543 582, se 917544 583, se 917545 584, se 917546 585, se 917547 586, se 917548 587, se 917549 588, se 917550 589, se 917551 590, se 917552 591, se 917553 592, se 917554 593, se 917555 594, se 917556 595, se 917557 596, se 917558 597, se 917559 598, se 917560 599, se 917561 600, se 917562 601, se 917563 602, se 917564 603, se 917565 604, se 917566 605, se 917567 606, se 917568 607, se 917569 608, se 917570 609, se 917571 610, se 917572 611, se 917573 612, se 917574 613, se 917575 614, se 917576 615, se 917577 616, se 917578 617, se 917579 618, se 917580 619, se 917581 620, se 917582 621, se 917583 622, se 917584 623, se 917585 624, se 917586 625, se 917587 626, se 917588 627, se 917589 628, se 917590 629, se 917591 630, se 917592 631, se 917593 632, se 917594 633, se 917595 634, se 917596 635, se 917597 636, se 917598 637, se 917599 638, se 917600 639, se 917601 640, se 917602 641, se 917603 642, se 917604 643, se 917605 644, se 917606 645, se 917607 646, se 917608 647, se 917609 648, se 917610 649, se 917611 650, se 917612 651, se 917613 652, se 917614 653, se 917615 654, se 917616 655, se 917617 656, se 917618 657, se 917619 658, se 917620 659, se 917621 660, se 917622 661, se 917623 662] 92 ⟨511, #[1, 32, 33, 34, 35, 36, 37, 38, 39, 40, 41, 42, 43, 44, 45, 46, 47, 48, 49, 50, 51, 52, 53, 54, 55, 56, 57, 58, 59, 60, 61, 62, 63, 64, 65, 66, 67, 68, 69, 70, 71, 72, 73, 74, 75, 76, 77, 78, 79, 80, 81, 82, 83, 84, 85, 86, 87, 88, 89, 90, 91, 92, 93, 94, 95, 96, 97, 98, 99, 100, 101, 102, 103, 104, 105, 106, 107, 108, 109, 110, 111, 112, 113, 114, 115, 116, 117, 118, 119], #[], 0, !P.followText "set-order", 3, true⟩), #[]⟩
noncomputable def o343 (P : Params) : Obj := ⟨(.type "list_iterator"), none, (.fields #[(.ref 154), (.int (89) 0)]), #[]⟩
noncomputable def TL84 (P : Params) : BT := TX P (o342 P) (o343 P)
noncomputable def o344 (P : Params) : Obj := ⟨(.type "set"), none, (.set #[se 917505 569, se 917536 575, se 917537 576, se 917538 577, se 917539 578, se 917540 579, se 917541 580, se 917542 581, se 917543 582, se 917544 583, se 917545 584, se 917546 585, se 917547 586, se 917548 587, se 917549 588, se 917550 589, se 917551 590, se 917552 591, se 917553 592, se 917554 593, se 917555 594, se 917556 595, se 917557 596, se 917558 597, se 917559 598, se 917560 599, se 917561 600, se 917562 601, se 917563 602, se 917564 603, se 917565 604, se 917566 605, se 917567 606, se 917568 607, se 917569 608, se 917570 609, se 917571 610, se 917572 611, se 917573 612, se 917574 613, se 917575 614, se 917576 615, se 917577 616, se 917578 617, se 917579 618, se 917580 619, se 917581 620, se 917582 621, se 917583 622, se 917584 623, se 917585 624, se 917586 625, se 917587 626, se 917588 627, se 917589 628, se 917590 629, se 917591 630, se 917592 631, se 917593 632, se 917594 633, se 917595 634, se 917596 635, se 917597 636, se 917598 637, se 917599 638, se 917600 639, se 917601 640, se 917602 641, se 917603 642, se 917604 643, se 917605 644, se 917606 645, se 917607 646, se 917608 647, se 917609 648, se 917610 649, se 917611 650, se 917612 651, se 917613 652, se 917614 653, se 917615 654, se 917616 655, se 917617 656, se 917618 657, se 917619 658, se 917620 659, se 917621 660, se 917622 661, se 917623 662, se 917624 663] 93 ⟨511, #[1, 32, 33, 34, 35, 36, 37, 38, 39, 40, 41, 42, 43, 44, 45, 46, 47, 48, 49, 50, 51, 52, 53, 54, 55, 56, 57, 58, 59, 60, 61, 62, 63, 64, 65, 66, 67, 68, 69, 70, 71, 72, 73, 74, 75, 76, 77, 78, 79, 80, 81, 82, 83, 84, 85, 86, 87, 88, 89, 90, 91, 92, 93, 94, 95, 96, 97, 98, 99, 100, 101, 102, 103, 104, 105, 106, 107, 108, 109, 110, 111, 112, 113, 114, 115, 116, 117, 118, 119, 120], #[], 0, !P.followText "set-order", 3, true⟩), #[]⟩
noncomputable def o345 (P : Params) : Obj := ⟨(.type "list_iterator"), none, (.fields #[(.ref 154), (.int (90) 0)]), #[]⟩
noncomputable def TL85 (P : Params) : BT := TX P (o344 P) (o345 P)
noncomputable def o346 (P : Params) : Obj := ⟨(.type "set"), none, (.set #[se 917505 569, se 917536 575, se 917537 576, se 917538 577, se 917539 578, se 917540 579, se 917541 580, se 917542 581, se 917543 582, se 917544 583, se 917545 584, se 917546 585, se 917547 586, se 917548 587, se 917549 588, se 917550 589, se 917551 590, se 917552 591, se 917553 592, se 917554 593, se 917555 594, se 917556 595, se 917557 596, se 917558 597, se 917559 598, se 917560 599, se 917561 600, se 917562 601, se 917563 602, se 917564 603, se 917565 604, se 917566 605, se 917567 606, se 917568 607, se 917569 608, se 917570 609, se 917571 610, se 917572 611, se 917573 612, se 917574 613, se 917575 614, se 917576 615, se 917577 616, se 917578 617, se 917579 618, se 917580 619, se 917581 620, se 917582 621, se 917583 622, se 917584 623, se 917585 624, se 917586 625, se 917587 626, se 917588 627, se 917589 628, se 917590 629, se 917591 630, se 917592 631, se 917593 632, se 917594 633, se 917595 634, se 917596 635, se 917597 636, se 917598 637, se 917599 638, se 917600 639, se 917601 640, se 917602 641, se 917603 642, se 917604 643, se 917605 644, se 917606 645, se 917607 646, se 917608 647, se 917609 648, se 917610 649, se 917611 650, se 917612 651, se 917613 652, se 917614 653, se 917615 654, se 917616 655, se 917617 656, se 917618 657, se 917619 658, se 917620 659, se 917621 660, se 917622 661, se 917623 662, se 917624 663, se 917625 664] 94 ⟨511, #[1, 32, 33, 34, 35, 36, 37, 38, 39, 40, 41, 42, 43, 44, 45, 46, 47, 48, 49, 50, 51, 52, 53, 54, 55, 56, 57, 58, 59, 60, 61, 62, 63, 64, 65, 66, 67, 68, 69, 70, 71, 72, 73, 74, 75, 76, 77, 78, 79, 80, 81, 82, 83, 84, 85, 86, 87, 88, 89, 90, 91, 92, 93, 94, 95, 96, 97, 98, 99, 100, 101, 102, 103, 104, 105, 106, 107, 108, 109, 110, 111, 112, 113, 114, 115, 116, 117, 118, 119, 120, 121], #[], 0, !P.followText "set-order", 3, true⟩), #[]⟩
noncomputable def o347 (P : Params) : Obj := ⟨(.type "list_iterator"), none, (.fields #[(.ref 154), (.int (91) 0)]), #[]⟩
noncomputable def TL86 (P : Params) : BT := TX P (o346 P) (o347 P)
noncomputable def o348 (P : Params) : Obj := ⟨(.type "set"), none, (.set #[se 917505 569, se 917536 575, se 917537 576, se 917538 577, se 917539 578, se 917540 579, se 917541 580, se 917542 581, se 917543 582, se 917544 583, se 917545 584, se 917546 585, se 917547 586, se 917548 587, se 917549 588, se 917550 589, se 917551 590, se 917552 591, se 917553 592, se 917554 593, se 917555 594, se 917556 595, se 917557 596, se 917558 597, se 917559 598, se 917560 599, se 917561 600, se 917562 601, se 917563 602, se 917564 603, se 917565 604, se 917566 605, se 917567 606, se 917568 607, se 917569 608, se 917570 609, se 917571 610, se 917572 611, se 917573 612, se 917574 613, se 917575 614, se 917576 615, se 917577 616, se 917578 617, se 917579 618, se 917580 619, se 917581 620, se 917582 621, se 917583 622, se 917584 623, se 917585 624, se 917586 625, se 917587 626, se 917588 627, se 917589 628, se 917590 629, se 917591 630, se 917592 631, se 917593 632, se 917594 633, se 917595 634, se 917596 635, se 917597 636, se 917598 637, se 917599 638, se 917600 639, se 917601 640, se 917602 641, se 917603 642, se 917604 643, se 917605 644, se 917606 645, se 917607 646, se 917608 647, se 917609 648, se 917610 649, se 917611 650, se 917612 651, se 917613 652, se 917614 653, se 917615 654, se 917616 655, se 917617 656, se 917618 657, se 917619 658, se 917620 659, se 917621 660, se 917622 661, se 917623 662, se 917624 663, se 917625 664, se 917626 665] 95 ⟨511, #[1, 32, 33, 34, 35, 36, 37, 38, 39, 40, 41, 42, 43, 44, 45, 46, 47, 48, 49, 50, 51, 52, 53, 54, 55, 56, 57, 58, 59, 60, 61, 62, 63, 64, 65, 66, 67, 68, 69, 70, 71, 72, 73, 74, 75, 76, 77, 78, 79, 80, 81, 82, 83, 84, 85, 86, 87, 88, 89, 90, 91, 92, 93, 94, 95, 96, 97, 98, 99, 100, 101, 102, 103, 104, 105, 106, 107, 108, 109, 110, 111, 112, 113, 114, 115, 116, 117, 118, 119, 120, 121, 122], #[], 0, !P.followText "set-order", 3, true⟩), #[]⟩
noncomputable def o349 (P : Params) : Obj := ⟨(.type "list_iterator"), none, (.fields #[(.ref 154), (.int (92) 0)]), #[]⟩
noncomputable def TL87 (P : Params) : BT := TX P (o348 P) (o349 P)
noncomputable def o350 (P : Params) : Obj := ⟨(.type "set"), none, (.set #[se 917505 569, se 917536 575, se 917537 576, se 917538 577, se 917539 578, se 917540 579, se 917541 580, se 917542 581, se 917543 582, se 917544 583, se 917545 584, se 917546 585, se 917547 586, se 917548 587, se 917549 588, se 917550 589, se 917551 590, se 917552 591, se 917553 592, se 917554 593, se 917555 594, se 917556 595, se 917557 596, se 917558 597, se 917559 598, se 917560 599, se 917561 600, se 917562 601, se 917563 602, se 917564 603, se 917565 604, se 917566 605, se 917567 606, se 917568 607, se 917569 608, se 917570 609, se 917571 610, se 917572 611, se 917573 612, se 917574 613, se 917575 614, se 917576 615, se 917577 616, se 917578 617, se 917579 618, se 917580 619, se 917581 620, se 917582 621, se 917583 622, se 917584 623, se 917585 624, se 917586 625, se 917587 626, se 917588 627, se 917589 628, se 917590 629, se 917591 630, se 917592 631, se 917593 632, se 917594 633, se 917595 634, se 917596 635, se 917597 636, se 917598 637, se 917599 638, se 917600 639, se 917601 640, se 917602 641, se 917603 642, se 917604 643, se 917605 644, se 917606 645, se 917607 646, se 917608 647, se 917609 648, se 917610 649, se 917611 650, se 917612 651, se 917613 652, se 917614 653, se 917615 654, se 917616 655, se 917617 656, se 917618 657, se 917619 658, se 917620 659, se 917621 660, se 917622 661, se 917623 662, se 917624 663, se 917625 664, se 917626 665, se 917627 666] 96 ⟨511, #[1, 32, 33, 34, 35, 36, 37, 38, 39, 40, 41, 42, 43, 44, 45, 46, 47, 48, 49, 50, 51, 52, 53, 54, 55, 56, 57, 58, 59, 60, 61, 62, 63, 64, 65, 66, 67, 68, 69, 70, 71, 72, 73, 74, 75, 76, 77, 78, 79, 80, 81, 82, 83, 84, 85, 86, 87, 88, 89, 90, 91, 92, 93, 94, 95, 96, 97, 98, 99, 100, 101, 102, 103, 104, 105, 106, 107, 108, 109, 110, 111, 112, 113, 114, 115, 116, 117, 118, 119, 120, 121, 122, 123], #[], 0, !P.followText "set-order", 3, true⟩), #[]⟩
noncomputable def o351 (P : Params) : Obj := ⟨(.type "list_iterator"), none, (.fields #[(.ref 154), (.int (93) 0)]), #[]⟩
noncomputable def TL88 (P : Params) : BT := TX P (o350 P) (o351 P)
noncomputable def o352 (P : Params) : Obj := ⟨(.type "set"), none, (.set #[se 917505 569, se 917536 575, se 917537 576, se 917538 577, se 917539 578, se 917540 579, se 917541 580, se 917542 581, se 917543 582, se 917544 583, se 917545 584, se 917546 585, se 917547 586, se 917548 587, se 917549 588, se 917550 589, se 917551 590, se 917552 591, se 917553 592, se 917554 593, se 917555 594, se 917556 595, se 917557 596, se 917558 597, se 917559 598, se 917560 599, se 917561 600, se 917562 601, se 917563 602, se 917564 603, se 917565 604, se 917566 605, se 917567 606, se 917568 607, se 917569 608, se 917570 609, se 917571 610, se 917572 611, se 917573 612, se 917574 613, se 917575 614, se 917576 615, se 917577 616, se 917578 617, se 917579 618, se 917580 619, se 917581 620, se 917582 621, se 917583 622, se 917584 623, se 917585 624, se 917586 625, se 917587 626, se 917588 627, se 917589 628, se 917590 629, se 917591 630, se 917592 631, se 917593 632, se 917594 633, se 917595 634, se 917596 635, se 917597 636, se 917598 637, se 917599 638, se 917600 639, se 917601 640, se 917602 641, se 917603 642, se 917604 643, se 917605 644, se 917606 645, se 917607 646, se 917608 647, se 917609 648, se 917610 649, se 917611 650, se 917612 651, se 917613 652, se 917614 653, se 917615 654, se 917616 655, se 917617 656, se 917618 657, se 917619 658, se 917620 659, se 917621 660, se 917622 661, se 917623 662, se 917624 663, se 917625 664, se 917626 665, se 917627 666, se 917628 667] 97 ⟨511, #[1, 32, 33, 34, 35, 36, 37, 38, 39, 40, 41, 42, 43, 44, 45, 46, 47, 48, 49, 50, 51, 52, 53, 54, 55, 56, 57, 58, 59, 60, 61, 62, 63, 64, 65, 66, 67, 68, 69, 70, 71, 72, 73, 74, 75, 76, 77, 78, 79, 80, 81, 82, 83, 84, 85, 86, 87, 88, 89, 90, 91, 92, 93, 94, 95, 96, 97, 98, 99, 100, 101, 102, 103, 104, 105, 106, 107, 108, 109, 110, 111, 112, 113, 114, 115, 116, 117, 118, 119, 120, 121, 122, 123, 124], #[], 0, !P.followText "set-order", 3, true⟩), #[]⟩
noncomputable def o353 (P : Params) : Obj := ⟨(.type "list_iterator"), none, (.fields #[(.ref 154), (.int (94) 0)]), #[]⟩
noncomputable def TL89 (P : Params) : BT := TX P (o352 P) (o353 P)
noncomputable def o354 (P : Params) : Obj := ⟨(.type "set"), none, (.set #[se 917505 569, se 917536 575, se 917537 576, se 917538 577, se 917539 578, se 917540 579, se 917541 580, se 917542 581, se 917543 582, se 917544 583, se 917545 584, se 917546 585, se 917547 586, se 917548 587, se 917549 588, se 917550 589, se 917551 590, se 917552 591, se 917553 592, se 917554 593, se 917555 594, se 917556 595, se 917557 596, se 917558 597, se 917559 598, se 917560 599, se 917561 600, se 917562 601, se 917563 602, se 917564 603, se 917565 604, se 917566 605, se 917567 606, se 917568 607, se 917569 608, se 917570 609, se 917571 610, se 917572 611, se 917573 612, se 917574 613, se 917575 614, se 917576 615, se 917577 616, se 917578 617, se 917579 618, se 917580 619, se 917581 620, se 917582 621, se 917583 622, se 917584 623, se 917585 624, se 917586 625, se 917587 626, se 917588 627, se 917589 628, se 917590 629, se 917591 630, se 917592 631, se 917593 632, se 917594 633, se 917595 634, se 917596 635, se 917597 636, se 917598 637, se 917599 638, se 917600 639, se 917601 640, se 917602 641, se 917603 642, se 917604 643, se 917605 644, se 917606 645, se 917607 646, se 917608 647, se 917609 648, se 917610 649, se 917611 650, se 917612 651, se 917613 652, se 917614 653, se 917615 654, se 917616 655, se 917617 656, se 917618 657, se 917619 658, se 917620 659, se 917621 660, se 917622 661, se 917623 662, se 917624 663, se 917625 664, se 917626 665, se 917627 666, se 917628 667, se 917629 668] 98 ⟨511, #[1, 32, 33, 34, 35, 36, 37, 38, 39, 40, 41, 42, 43, 44, 45, 46, 47, 48, 49, 50, 51, 52, 53, 54, 55, 56, 57, 58, 59, 60, 61, 62, 63, 64, 65, 66, 67, 68, 69, 70, 71, 72, 73, 74, 75, 76, 77, 78, 79, 80, 81, 82, 83, 84, 85, 86, 87, 88, 89, 90, 91, 92, 93, 94, 95, 96, 97, 98, 99, 100, 101, 102, 103, 104, 105, 106, 107, 108, 109, 110, 111, 112, 113, 114, 115, 116, 117, 118, 119, 120, 121, 122, 123, 124, 125], #[], 0, !P.followText "set-order", 3, true⟩), #[]⟩
noncomputable def o355 (P : Params) : Obj := ⟨(.type "list_iterator"), none, (.fields #[(.ref 154), (.int (95) 0)]), #[]⟩
noncomputable def TL90 (P : Params) : BT := TX P (o354 P) (o355 P)
noncomputable def o356 (P : Params) : Obj := ⟨(.type "set"), none, (.set #[se 917505 569, se 917536 575, se 917537 576, se 917538 577, se 917539 578, se 917540 579, se 917541 580, se 917542 581, se 917543 582, se 917544 583, se 917545 584, se 917546 585, se 917547 586, se 917548 587, se 917549 588, se 917550 589, se 917551 590, se 917552 591, se 917553 592, se 917554 593, se 917555 594, se 917556 595, se 917557 596, se 917558 597, se 917559 598, se 917560 599, se 917561 600, se 917562 601, se 917563 602, se 917564 603, se 917565 604, se 917566 605, se 917567 606, se 917568 607, se 917569 608, se 917570 609, se 917571 610, se 917572 611, se 917573 612, se 917574 613, se 917575 614, se 917576 615, se 917577 616, se 917578 617, se 917579 618, se 917580 619, se 917581 620, se 917582 621, se 917583 622, se 917584 623, se 917585 624, se 917586 625, se 917587 626, se 917588 627, se 917589 628, se 917590 629, se 917591 630, se 917592 631, se 917593 632, se 917594 633, se 917595 634, se 917596 635, se 917597 636, se 917598 637, se 917599 638, se 917600 639, se 917601 640, se 917602 641, se 917603 642, se 917604 643, se 917605 644, se 917606 645, se 917607 646, se 917608 647, se 917609 648, se 917610 649, se 917611 650, se 917612 651, se 917613 652, se 917614 653, se 917615 654, se 917616 655, se 917617 656, se 917618 657, se 917619 658, se 917620 659, se 917621 660, se 917622 661, se 917623 662, se 917624 663, se 917625 664, se 917626 665, se 917627 666, se 917628 667, se 917629 668, se 917630 669] 99 ⟨511, #[1, 32, 33, 34, 35, 36, 37, 38, 39, 40, 41, 42, 43, 44, 45, 46, 47, 48, 49, 50, 51, 52, 53, 54, 55, 56, 57, 58, 59, 60, 61, 62, 63, 64, 65, 66, 67, 68, 69, 70, 71, 72, 73, 74, 75, 76, 77, 78, 79, 80, 81, 82, 83, 84, 85, 86, 87, 88, 89, 90, 91, 92, 93, 94, 95, 96, 97, 98, 99, 100, 101, 102, 103, 104, 105, 106, 107, 108, 109, 110, 111, 112, 113, 114, 115, 116, 117, 118, 119, 120, 121, 122, 123, 124, 125, 126], #[], 0, !P.followText "set-order", 3, true⟩), #[]⟩
noncomputable def o357 (P : Params) : Obj := ⟨(.type "list_iterator"), none, (.fields #[(.ref 154), (.int (96) 0)]), #[]⟩
noncomputable def TL91 (P : Params) : BT := TX P (o356 P) (o357 P)
noncomputable def o358 (P : Params) : Obj := ⟨(.type "list_iterator"), none, (.fields #[(.ref 154), (.int (97) 0)]), #[]⟩
noncomputable def TL92 (P : Params) : BT := TX P (o124 P) (o358 P)
noncomputable abbrev lf : Life := {}
noncomputable abbrev an : Option Value := some (.ref 6)
noncomputable def en : Env := { scope := pg.main.scope, locals := mainNs, globals := mainNs, cells := [], code := .ref 30, frame := some 31 }
noncomputable abbrev cd0 : Code := .body bd en
noncomputable abbrev p00 : Pos := ⟨0, 0, 0, 0⟩
noncomputable abbrev B0 : List Frame := [topFrame p00]
noncomputable abbrev Sz (w : World) (os : OsState) : SharedT := ⟨Tz w.params, 0, lf, #[], {}, 1, os⟩
noncomputable abbrev S0 (w : World) (os : OsState) : Shared := ⟨H0 w.params, #[], {}, 276, os⟩
noncomputable abbrev Sa (w : World) (os : OsState) : Shared := ⟨Ha w.params, #[], {}, 282, os⟩
noncomputable abbrev Sb (w : World) (os : OsState) : SharedT := ⟨Tb w.params, 32, lf, #[], {}, 282, os⟩
noncomputable abbrev S1 (w : World) (os : OsState) : SharedT := ⟨T1 w.params, 68, lf, #[], {}, 383, os⟩
noncomputable abbrev S2 (w : World) (os : OsState) : SharedT := ⟨T2 w.params, 79, lf, #[], {}, 443, os⟩
noncomputable abbrev S3 (w : World) (os : OsState) : SharedT := ⟨T3 w.params, 100, lf, #[], {}, 465, os⟩
noncomputable abbrev S4 (w : World) (os : OsState) : SharedT := ⟨T4 w.params, 112, lf, #[], {}, 486, os⟩
noncomputable abbrev S5 (w : World) (os : OsState) : SharedT := ⟨T5 w.params, 124, lf, #[], {}, 521, os⟩
noncomputable abbrev S6 (w : World) (os : OsState) : SharedT := ⟨T6 w.params, 141, lf, #[], {}, 562, os⟩
noncomputable abbrev S7 (w : World) (os : OsState) : SharedT := ⟨T7 w.params, 148, lf, #[], {}, 569, os⟩
noncomputable abbrev S8 (w : World) (os : OsState) : SharedT := ⟨T8 w.params, 159, lf, #[], {}, 769, os⟩
noncomputable abbrev S9 (w : World) (os : OsState) : SharedT := ⟨T9 w.params, 166, lf, #[], {}, 858, os⟩
noncomputable abbrev S10 (w : World) (os : OsState) : SharedT := ⟨T10 w.params, 166, lf, #[], {}, 878, os⟩
noncomputable abbrev S11 (w : World) (os : OsState) : SharedT := ⟨T11 w.params, 169, lf, #[], {}, 975, os⟩
noncomputable abbrev S12 (w : World) (os : OsState) : SharedT := ⟨T12 w.params, 228, lf, #[], {}, 1047, os⟩
noncomputable abbrev Sf (w : World) (os : OsState) : Shared := ⟨Hf w.params, #[], {}, 1047, os⟩
noncomputable abbrev SL0 (w : World) (os : OsState) : SharedT := ⟨TL0 w.params, 157, lf, #[], {}, 676, os⟩
noncomputable abbrev SL1 (w : World) (os : OsState) : SharedT := ⟨TL1 w.params, 157, lf, #[], {}, 677, os⟩
noncomputable abbrev SL2 (w : World) (os : OsState) : SharedT := ⟨TL2 w.params, 157, lf, #[], {}, 678, os⟩
noncomputable abbrev SL3 (w : World) (os : OsState) : SharedT := ⟨TL3 w.params, 157, lf, #[], {}, 679, os⟩
noncomputable abbrev SL4 (w : World) (os : OsState) : SharedT := ⟨TL4 w.params, 157, lf, #[], {}, 680, os⟩
noncomputable abbrev SL5 (w : World) (os : OsState) : SharedT := ⟨TL5 w.params, 157, lf, #[], {}, 681, os⟩
noncomputable abbrev SL6 (w : World) (os : OsState) : SharedT := ⟨TL6 w.params, 157, lf, #[], {}, 682, os⟩
noncomputable abbrev SL7 (w : World) (os : OsState) : SharedT := ⟨TL7 w.params, 157, lf, #[], {}, 683, os⟩
noncomputable abbrev SL8 (w : World) (os : OsState) : SharedT := ⟨TL8 w.params, 157, lf, #[], {}, 684, os⟩
noncomputable abbrev SL9 (w : World) (os : OsState) : SharedT := ⟨TL9 w.params, 157, lf, #[], {}, 685, os⟩
noncomputable abbrev SL10 (w : World) (os : OsState) : SharedT := ⟨TL10 w.params, 157, lf, #[], {}, 686, os⟩
noncomputable abbrev SL11 (w : World) (os : OsState) : SharedT := ⟨TL11 w.params, 157, lf, #[], {}, 687, os⟩
noncomputable abbrev SL12 (w : World) (os : OsState) : SharedT := ⟨TL12 w.params, 157, lf, #[], {}, 688, os⟩
noncomputable abbrev SL13 (w : World) (os : OsState) : SharedT := ⟨TL13 w.params, 157, lf, #[], {}, 689, os⟩
noncomputable abbrev SL14 (w : World) (os : OsState) : SharedT := ⟨TL14 w.params, 157, lf, #[], {}, 690, os⟩
noncomputable abbrev SL15 (w : World) (os : OsState) : SharedT := ⟨TL15 w.params, 157, lf, #[], {}, 691, os⟩
noncomputable abbrev SL16 (w : World) (os : OsState) : SharedT := ⟨TL16 w.params, 157, lf, #[], {}, 692, os⟩
noncomputable abbrev SL17 (w : World) (os : OsState) : SharedT := ⟨TL17 w.params, 157, lf, #[], {}, 693, os⟩
noncomputable abbrev SL18 (w : World) (os : OsState) : SharedT := ⟨TL18 w.params, 157, lf, #[], {}, 694, os⟩
noncomputable abbrev SL19 (w : World) (os : OsState) : SharedT := ⟨TL19 w.params, 157, lf, #[], {}, 695, os⟩
noncomputable abbrev SL20 (w : World) (os : OsState) : SharedT := ⟨TL20 w.params, 157, lf, #[], {}, 696, os⟩
noncomputable abbrev SL21 (w : World) (os : OsState) : SharedT := ⟨TL21 w.params, 157, lf, #[], {}, 697, os⟩
noncomputable abbrev SL22 (w : World) (os : OsState) : SharedT := ⟨TL22 w.params, 157, lf, #[], {}, 698, os⟩
noncomputable abbrev SL23 (w : World) (os : OsState) : SharedT := ⟨TL23 w.params, 157, lf, #[], {}, 699, os⟩
noncomputable abbrev SL24 (w : World) (os : OsState) : SharedT := ⟨TL24 w.params, 157, lf, #[], {}, 700, os⟩
noncomputable abbrev SL25 (w : World) (os : OsState) : SharedT := ⟨TL25 w.params, 157, lf, #[], {}, 701, os⟩
noncomputable abbrev SL26 (w : World) (os : OsState) : SharedT := ⟨TL26 w.params, 157, lf, #[], {}, 702, os⟩
noncomputable abbrev SL27 (w : World) (os : OsState) : SharedT := ⟨TL27 w.params, 157, lf, #[], {}, 703, os⟩
noncomputable abbrev SL28 (w : World) (os : OsState) : SharedT := ⟨TL28 w.params, 157, lf, #[], {}, 704, os⟩
noncomputable abbrev SL29 (w : World) (os : OsState) : SharedT := ⟨TL29 w.params, 157, lf, #[], {}, 705, os⟩
noncomputable abbrev SL30 (w : World) (os : OsState) : SharedT := ⟨TL30 w.params, 157, lf, #[], {}, 706, os⟩
noncomputable abbrev SL31 (w : World) (os : OsState) : SharedT := ⟨TL31 w.params, 157, lf, #[], {}, 707, os⟩
noncomputable abbrev SL32 (w : World) (os : OsState) : SharedT := ⟨TL32 w.params, 157, lf, #[], {}, 708, os⟩
noncomputable abbrev SL33 (w : World) (os : OsState) : SharedT := ⟨TL33 w.params, 157, lf, #[], {}, 709, os⟩
noncomputable abbrev SL34 (w : World) (os : OsState) : SharedT := ⟨TL34 w.params, 157, lf, #[], {}, 710, os⟩
noncomputable abbrev SL35 (w : World) (os : OsState) : SharedT := ⟨TL35 w.params, 157, lf, #[], {}, 711, os⟩
noncomputable abbrev SL36 (w : World) (os : OsState) : SharedT := ⟨TL36 w.params, 157, lf, #[], {}, 712, os⟩
noncomputable abbrev SL37 (w : World) (os : OsState) : SharedT := ⟨TL37 w.params, 157, lf, #[], {}, 713, os⟩
noncomputable abbrev SL38 (w : World) (os : OsState) : SharedT := ⟨TL38 w.params, 157, lf, #[], {}, 714, os⟩
noncomputable abbrev SL39 (w : World) (os : OsState) : SharedT := ⟨TL39 w.params, 157, lf, #[], {}, 715, os⟩
noncomputable abbrev SL40 (w : World) (os : OsState) : SharedT := ⟨TL40 w.params, 157, lf, #[], {}, 716, os⟩
noncomputable abbrev SL41 (w : World) (os : OsState) : SharedT := ⟨TL41 w.params, 157, lf, #[], {}, 717, os⟩
noncomputable abbrev SL42 (w : World) (os : OsState) : SharedT := ⟨TL42 w.params, 157, lf, #[], {}, 718, os⟩
noncomputable abbrev SL43 (w : World) (os : OsState) : SharedT := ⟨TL43 w.params, 157, lf, #[], {}, 719, os⟩
noncomputable abbrev SL44 (w : World) (os : OsState) : SharedT := ⟨TL44 w.params, 157, lf, #[], {}, 720, os⟩
noncomputable abbrev SL45 (w : World) (os : OsState) : SharedT := ⟨TL45 w.params, 157, lf, #[], {}, 721, os⟩
noncomputable abbrev SL46 (w : World) (os : OsState) : SharedT := ⟨TL46 w.params, 157, lf, #[], {}, 722, os⟩
noncomputable abbrev SL47 (w : World) (os : OsState) : SharedT := ⟨TL47 w.params, 157, lf, #[], {}, 723, os⟩
noncomputable abbrev SL48 (w : World) (os : OsState) : SharedT := ⟨TL48 w.params, 157, lf, #[], {}, 724, os⟩
noncomputable abbrev SL49 (w : World) (os : OsState) : SharedT := ⟨TL49 w.params, 157, lf, #[], {}, 725, os⟩
noncomputable abbrev SL50 (w : World) (os : OsState) : SharedT := ⟨TL50 w.params, 157, lf, #[], {}, 726, os⟩
noncomputable abbrev SL51 (w : World) (os : OsState) : SharedT := ⟨TL51 w.params, 157, lf, #[], {}, 727, os⟩
noncomputable abbrev SL52 (w : World) (os : OsState) : SharedT := ⟨TL52 w.params, 157, lf, #[], {}, 728, os⟩
noncomputable abbrev SL53 (w : World) (os : OsState) : SharedT := ⟨TL53 w.params, 157, lf, #[], {}, 729, os⟩
noncomputable abbrev SL54 (w : World) (os : OsState) : SharedT := ⟨TL54 w.params, 157, lf, #[], {}, 730, os⟩
noncomputable abbrev SL55 (w : World) (os : OsState) : SharedT := ⟨TL55 w.params, 157, lf, #[], {}, 731, os⟩
noncomputable abbrev SL56 (w : World) (os : OsState) : SharedT := ⟨TL56 w.params, 157, lf, #[], {}, 732, os⟩
noncomputable abbrev SL57 (w : World) (os : OsState) : SharedT := ⟨TL57 w.params, 157, lf, #[], {}, 733, os⟩
noncomputable abbrev SL58 (w : World) (os : OsState) : SharedT := ⟨TL58 w.params, 157, lf, #[], {}, 734, os⟩
noncomputable abbrev SL59 (w : World) (os : OsState) : SharedT := ⟨TL59 w.params, 157, lf, #[], {}, 735, os⟩
noncomputable abbrev SL60 (w : World) (os : OsState) : SharedT := ⟨TL60 w.params, 157, lf, #[], {}, 736, os⟩
noncomputable abbrev SL61 (w : World) (os : OsState) : SharedT := ⟨TL61 w.params, 157, lf, #[], {}, 737, os⟩
noncomputable abbrev SL62 (w : World) (os : OsState) : SharedT := ⟨TL62 w.params, 157, lf, #[], {}, 738, os⟩
noncomputable abbrev SL63 (w : World) (os : OsState) : SharedT := ⟨TL63 w.params, 157, lf, #[], {}, 739, os⟩
noncomputable abbrev SL64 (w : World) (os : OsState) : SharedT := ⟨TL64 w.params, 157, lf, #[], {}, 740, os⟩
noncomputable abbrev SL65 (w : World) (os : OsState) : SharedT := ⟨TL65 w.params, 157, lf, #[], {}, 741, os⟩
noncomputable abbrev SL66 (w : World) (os : OsState) : SharedT := ⟨TL66 w.params, 157, lf, #[], {}, 742, os⟩
noncomputable abbrev SL67 (w : World) (os : OsState) : SharedT := ⟨TL67 w.params, 157, lf, #[], {}, 743, os⟩
noncomputable abbrev SL68 (w : World) (os : OsState) : SharedT := ⟨TL68 w.params, 157, lf, #[], {}, 744, os⟩
noncomputable abbrev SL69 (w : World) (os : OsState) : SharedT := ⟨TL69 w.params, 157, lf, #[], {}, 745, os⟩
noncomputable abbrev SL70 (w : World) (os : OsState) : SharedT := ⟨TL70 w.params, 157, lf, #[], {}, 746, os⟩
noncomputable abbrev SL71 (w : World) (os : OsState) : SharedT := ⟨TL71 w.params, 157, lf, #[], {}, 747, os⟩
noncomputable abbrev SL72 (w : World) (os : OsState) : SharedT := ⟨TL72 w.params, 157, lf, #[], {}, 748, os⟩
noncomputable abbrev SL73 (w : World) (os : OsState) : SharedT := ⟨TL73 w.params, 157, lf, #[], {}, 749, os⟩
noncomputable abbrev SL74 (w : World) (os : OsState) : SharedT := ⟨TL74 w.params, 157, lf, #[], {}, 750, os⟩
noncomputable abbrev SL75 (w : World) (os : OsState) : SharedT := ⟨TL75 w.params, 157, lf, #[], {}, 751, os⟩
noncomputable abbrev SL76 (w : World) (os : OsState) : SharedT := ⟨TL76 w.params, 157, lf, #[], {}, 752, os⟩
noncomputable abbrev SL77 (w : World) (os : OsState) : SharedT := ⟨TL77 w.params, 157, lf, #[], {}, 753, os⟩
noncomputable abbrev SL78 (w : World) (os : OsState) : SharedT := ⟨TL78 w.params, 157, lf, #[], {}, 754, os⟩
noncomputable abbrev SL79 (w : World) (os : OsState) : SharedT := ⟨TL79 w.params, 157, lf, #[], {}, 755, os⟩
noncomputable abbrev SL80 (w : World) (os : OsState) : SharedT := ⟨TL80 w.params, 157, lf, #[], {}, 756, os⟩
noncomputable abbrev SL81 (w : World) (os : OsState) : SharedT := ⟨TL81 w.params, 157, lf, #[], {}, 757, os⟩
noncomputable abbrev SL82 (w : World) (os : OsState) : SharedT := ⟨TL82 w.params, 157, lf, #[], {}, 758, os⟩
noncomputable abbrev SL83 (w : World) (os : OsState) : SharedT := ⟨TL83 w.params, 157, lf, #[], {}, 759, os⟩
noncomputable abbrev SL84 (w : World) (os : OsState) : SharedT := ⟨TL84 w.params, 157, lf, #[], {}, 760, os⟩
noncomputable abbrev SL85 (w : World) (os : OsState) : SharedT := ⟨TL85 w.params, 157, lf, #[], {}, 761, os⟩
noncomputable abbrev SL86 (w : World) (os : OsState) : SharedT := ⟨TL86 w.params, 157, lf, #[], {}, 762, os⟩
noncomputable abbrev SL87 (w : World) (os : OsState) : SharedT := ⟨TL87 w.params, 157, lf, #[], {}, 763, os⟩
noncomputable abbrev SL88 (w : World) (os : OsState) : SharedT := ⟨TL88 w.params, 157, lf, #[], {}, 764, os⟩
noncomputable abbrev SL89 (w : World) (os : OsState) : SharedT := ⟨TL89 w.params, 157, lf, #[], {}, 765, os⟩
noncomputable abbrev SL90 (w : World) (os : OsState) : SharedT := ⟨TL90 w.params, 157, lf, #[], {}, 766, os⟩
noncomputable abbrev SL91 (w : World) (os : OsState) : SharedT := ⟨TL91 w.params, 157, lf, #[], {}, 767, os⟩
noncomputable abbrev SL92 (w : World) (os : OsState) : SharedT := ⟨TL92 w.params, 157, lf, #[], {}, 768, os⟩
set_option maxRecDepth 100000
set_option maxHeartbeats 0
noncomputable def s0 (b : Bool) : Obj := ⟨(.type "set"), none, (.set #[se 917536 575, se 917505 569, se 917538 577, se 917539 578, se 917537 576] 6 ⟨31, #[0, 1, 2, 3, 4], #[], 0, b, 1, true⟩), #[]⟩
noncomputable def UL0 (b : Bool) (P : Params) : BT := TX P (s0 b) (o175 P)
noncomputable abbrev VL0 (b : Bool) (w : World) (os : OsState) : SharedT := ⟨UL0 b w.params, 157, lf, #[], {}, 676, os⟩
noncomputable def s14 (b : Bool) : Obj := ⟨(.type "set"), none, (.set #[se 917505 569, se 917536 575, se 917537 576, se 917538 577, se 917539 578, se 917540 579, se 917541 580, se 917542 581, se 917543 582, se 917544 583, se 917545 584, se 917546 585, se 917547 586, se 917548 587, se 917549 588, se 917550 589, se 917551 590, se 917552 591, se 917553 592] 21 ⟨127, #[1, 32, 33, 34, 35, 36, 37, 38, 39, 40, 41, 42, 43, 44, 45, 46, 47, 48, 49], #[], 0, b, 2, true⟩), #[]⟩
noncomputable def UL14 (b : Bool) (P : Params) : BT := TX P (s14 b) (o203 P)
noncomputable abbrev VL14 (b : Bool) (w : World) (os : OsState) : SharedT := ⟨UL14 b w.params, 157, lf, #[], {}, 690, os⟩
theorem byFollow {α : Type} {w : World} {row : String} {run r : World → α} (h : (run (w.withFollow row false), run (w.withFollow row true)) = (r (w.withFollow row false), r (w.withFollow row true))) : run w = r w := by
  have e := World.withFollow_self w row
  obtain ⟨h1, h2⟩ := Prod.mk.inj h
  cases hb : w.params.followText row <;> rw [hb] at e
  · rw [e] at h1; exact h1
  · rw [e] at h2; exact h2
noncomputable def ret2 : List Frame → Bool
  | .ret .. :: _ :: _ => true
  | _ => false
theorem ret2_of {l : List Frame} (h : ret2 l = true) : ∃ k h g l' c p kept G rest, l = .ret k h g l' c p kept :: G :: rest := by
  cases l with
  | nil => exact absurd h (by decide)
  | cons F r =>
    cases r with
    | nil => cases F <;> exact absurd h Bool.false_ne_true
    | cons G rest =>
      cases F with
      | ret k h' g l' c p kept => exact ⟨k, h', g, l', c, p, kept, G, rest, rfl⟩
      | gen => exact absurd h Bool.false_ne_true
noncomputable def sts1 : List Stmt := (bd.drop 0).take 9
theorem g1 (w : World) (os : OsState) : segRunT treeTable pg (w) 28 an 1 318 (Sb (w) os) (piecesOf sts1 en cd0 p00 B0) = some (.next, S1 (w) os, cd0, ⟨13, 0, 13, 8⟩) := by rw [PySem.W.Fast.te10110043849684766642, PySem.W.Fast.te14364793385576792824]; kernel_rfl
noncomputable def sts2 : List Stmt := (bd.drop 9).take 1
theorem g2p (w : World) (os : OsState) : (segRunT treeTable pg (w.withFollow "special-get-raises" false) 28 an 1 999 (S1 w os) (piecesOf sts2 en cd0 (⟨13, 0, 13, 8⟩ : Pos) B0), segRunT treeTable pg (w.withFollow "special-get-raises" true) 28 an 1 999 (S1 w os) (piecesOf sts2 en cd0 (⟨13, 0, 13, 8⟩ : Pos) B0)) = (some (.next, S2 w os, cd0, ⟨14, 0, 14, 6⟩), some (.next, S2 w os, cd0, ⟨14, 0, 14, 6⟩)) := by rw [PySem.W.Fast.te10110043849684766642, PySem.W.Fast.te14364793385576792824]; kernel_rfl
theorem g2 (w : World) (os : OsState) : segRunT treeTable pg (w) 28 an 1 999 (S1 (w) os) (piecesOf sts2 en cd0 (⟨13, 0, 13, 8⟩ : Pos) B0) = some (.next, S2 (w) os, cd0, ⟨14, 0, 14, 6⟩) := byFollow (row := "special-get-raises") (run := fun V => segRunT treeTable pg (V) 28 an 1 999 (S1 w os) (piecesOf sts2 en cd0 (⟨13, 0, 13, 8⟩ : Pos) B0)) (r := fun _ => some (.next, S2 w os, cd0, ⟨14, 0, 14, 6⟩)) (g2p w os)
noncomputable def sts3 : List Stmt := (bd.drop 10).take 3
theorem g3 (w : World) (os : OsState) : segRunT treeTable pg (w) 28 an 1 89 (S2 (w) os) (piecesOf sts3 en cd0 (⟨14, 0, 14, 6⟩ : Pos) B0) = some (.next, S3 (w) os, cd0, ⟨19, 0, 25, 46⟩) := by rw [PySem.W.Fast.te10110043849684766642, PySem.W.Fast.te14364793385576792824]; kernel_rfl
noncomputable def sts4 : List Stmt := (bd.drop 13).take 2
theorem g4p (w : World) (os : OsState) : (segRunT treeTable pg (w.withFollow "special-get-raises" false) 28 an 1 229 (S3 w os) (piecesOf sts4 en cd0 (⟨19, 0, 25, 46⟩ : Pos) B0), segRunT treeTable pg (w.withFollow "special-get-raises" true) 28 an 1 229 (S3 w os) (piecesOf sts4 en cd0 (⟨19, 0, 25, 46⟩ : Pos) B0)) = (some (.next, S4 w os, cd0, ⟨27, 0, 28, 30⟩), some (.next, S4 w os, cd0, ⟨27, 0, 28, 30⟩)) := by rw [PySem.W.Fast.te10110043849684766642, PySem.W.Fast.te14364793385576792824]; kernel_rfl
theorem g4 (w : World) (os : OsState) : segRunT treeTable pg (w) 28 an 1 229 (S3 (w) os) (piecesOf sts4 en cd0 (⟨19, 0, 25, 46⟩ : Pos) B0) = some (.next, S4 (w) os, cd0, ⟨27, 0, 28, 30⟩) := byFollow (row := "special-get-raises") (run := fun V => segRunT treeTable pg (V) 28 an 1 229 (S3 w os) (piecesOf sts4 en cd0 (⟨19, 0, 25, 46⟩ : Pos) B0)) (r := fun _ => some (.next, S4 w os, cd0, ⟨27, 0, 28, 30⟩)) (g4p w os)
noncomputable def sts5 : List Stmt := (bd.drop 15).take 2
theorem g5p (w : World) (os : OsState) : (segRunT treeTable pg (w.withFollow "special-get-raises" false) 28 an 1 390 (S4 w os) (piecesOf sts5 en cd0 (⟨27, 0, 28, 30⟩ : Pos) B0), segRunT treeTable pg (w.withFollow "special-get-raises" true) 28 an 1 390 (S4 w os) (piecesOf sts5 en cd0 (⟨27, 0, 28, 30⟩ : Pos) B0)) = (some (.next, S5 w os, cd0, ⟨30, 0, 31, 30⟩), some (.next, S5 w os, cd0, ⟨30, 0, 31, 30⟩)) := by rw [PySem.W.Fast.te10110043849684766642, PySem.W.Fast.te14364793385576792824]; kernel_rfl
theorem g5 (w : World) (os : OsState) : segRunT treeTable pg (w) 28 an 1 390 (S4 (w) os) (piecesOf sts5 en cd0 (⟨27, 0, 28, 30⟩ : Pos) B0) = some (.next, S5 (w) os, cd0, ⟨30, 0, 31, 30⟩) := byFollow (row := "special-get-raises") (run := fun V => segRunT treeTable pg (V) 28 an 1 390 (S4 w os) (piecesOf sts5 en cd0 (⟨27, 0, 28, 30⟩ : Pos) B0)) (r := fun _ => some (.next, S5 w os, cd0, ⟨30, 0, 31, 30⟩)) (g5p w os)
noncomputable def sts6 : List Stmt := (bd.drop 17).take 1
theorem g6p (w : World) (os : OsState) : (segRunT treeTable pg (w.withFollow "special-get-raises" false) 28 an 1 775 (S5 w os) (piecesOf sts6 en cd0 (⟨30, 0, 31, 30⟩ : Pos) B0), segRunT treeTable pg (w.withFollow "special-get-raises" true) 28 an 1 775 (S5 w os) (piecesOf sts6 en cd0 (⟨30, 0, 31, 30⟩ : Pos) B0)) = (some (.next, S6 w os, cd0, ⟨32, 0, 32, 6⟩), some (.next, S6 w os, cd0, ⟨32, 0, 32, 6⟩)) := by rw [PySem.W.Fast.te10110043849684766642, PySem.W.Fast.te14364793385576792824]; kernel_rfl
theorem g6 (w : World) (os : OsState) : segRunT treeTable pg (w) 28 an 1 775 (S5 (w) os) (piecesOf sts6 en cd0 (⟨30, 0, 31, 30⟩ : Pos) B0) = some (.next, S6 (w) os, cd0, ⟨32, 0, 32, 6⟩) := byFollow (row := "special-get-raises") (run := fun V => segRunT treeTable pg (V) 28 an 1 775 (S5 w os) (piecesOf sts6 en cd0 (⟨30, 0, 31, 30⟩ : Pos) B0)) (r := fun _ => some (.next, S6 w os, cd0, ⟨32, 0, 32, 6⟩)) (g6p w os)
noncomputable def sts7 : List Stmt := (bd.drop 18).take 1
theorem g7 (w : World) (os : OsState) : segRunT treeTable pg (w) 28 an 1 30 (S6 (w) os) (piecesOf sts7 en cd0 (⟨32, 0, 32, 6⟩ : Pos) B0) = some (.next, S7 (w) os, cd0, ⟨33, 0, 34, 30⟩) := by rw [PySem.W.Fast.te10110043849684766642, PySem.W.Fast.te14364793385576792824]; kernel_rfl
noncomputable def sts8 : List Stmt := (bd.drop 19).take 1
noncomputable abbrev lc : Code := .builtin "set.update.loop" ⟨[(.ref 155), (.ref 156)], []⟩
noncomputable def stk (V w : World) (os : OsState) : List Frame := match PySem.W.Fast.tw10295753902157049106 PySem.W.Fast.tw14364793385576792824 pg V 28 an 1 1880 (S7 w os) (piecesOf sts8 en cd0 (⟨33, 0, 34, 30⟩ : Pos) B0) with
  | some (_, t) => t.stack
  | none => []
theorem q8 (w : World) (os : OsState) : ((segGoT treeTable pg ((w).withFollow "special-get-raises" false) 28 an 1 1880 (S7 w os) (piecesOf sts8 en cd0 (⟨33, 0, 34, 30⟩ : Pos) B0), ret2 (stk ((w).withFollow "special-get-raises" false) w os), segRunT treeTable pg ((w).withFollow "special-get-raises" false) 28 an 1 27 (SL92 w os) (⟨denote treeTable lc, lc, ⟨35, 9, 35, 52⟩, stk ((w).withFollow "special-get-raises" false) w os⟩)), (segGoT treeTable pg ((w).withFollow "special-get-raises" true) 28 an 1 1880 (S7 w os) (piecesOf sts8 en cd0 (⟨33, 0, 34, 30⟩ : Pos) B0), ret2 (stk ((w).withFollow "special-get-raises" true) w os), segRunT treeTable pg ((w).withFollow "special-get-raises" true) 28 an 1 27 (SL92 w os) (⟨denote treeTable lc, lc, ⟨35, 9, 35, 52⟩, stk ((w).withFollow "special-get-raises" true) w os⟩))) = ((some (SL0 w os, ⟨denote treeTable lc, lc, ⟨35, 9, 35, 52⟩, stk ((w).withFollow "special-get-raises" false) w os⟩), true, some (.next, S8 w os, cd0, ⟨35, 0, 35, 6⟩)), (some (SL0 w os, ⟨denote treeTable lc, lc, ⟨35, 9, 35, 52⟩, stk ((w).withFollow "special-get-raises" true) w os⟩), true, some (.next, S8 w os, cd0, ⟨35, 0, 35, 6⟩))) := by rw [PySem.W.Fast.te10295753902157049106, PySem.W.Fast.te14364793385576792824, PySem.W.Fast.te10110043849684766642, PySem.W.Fast.te11892475500146522536]; kernel_rfl
theorem pre8 (w : World) (os : OsState) : (segGoT treeTable pg (w) 28 an 1 1880 (S7 w os) (piecesOf sts8 en cd0 (⟨33, 0, 34, 30⟩ : Pos) B0), ret2 (stk (w) w os), segRunT treeTable pg (w) 28 an 1 27 (SL92 w os) (⟨denote treeTable lc, lc, ⟨35, 9, 35, 52⟩, stk (w) w os⟩)) = (some (SL0 w os, ⟨denote treeTable lc, lc, ⟨35, 9, 35, 52⟩, stk (w) w os⟩), true, some (.next, S8 w os, cd0, ⟨35, 0, 35, 6⟩)) := byFollow (row := "special-get-raises") (run := fun V => (segGoT treeTable pg (V) 28 an 1 1880 (S7 w os) (piecesOf sts8 en cd0 (⟨33, 0, 34, 30⟩ : Pos) B0), ret2 (stk (V) w os), segRunT treeTable pg (V) 28 an 1 27 (SL92 w os) (⟨denote treeTable lc, lc, ⟨35, 9, 35, 52⟩, stk (V) w os⟩))) (r := fun V => (some (SL0 w os, ⟨denote treeTable lc, lc, ⟨35, 9, 35, 52⟩, stk (V) w os⟩), true, some (.next, S8 w os, cd0, ⟨35, 0, 35, 6⟩))) (q8 w os)
theorem v80 (w : World) (os : OsState) : SL0 w os = VL0 (!w.params.followText "set-order") w os := by kernel_rfl
theorem v814 (w : World) (os : OsState) : SL14 w os = VL14 (!w.params.followText "set-order") w os := by kernel_rfl
theorem k8f14 (w : World) (os : OsState) (k h g l' c p kept G rest) : (segGoT treeTable pg ((w.withFollow "set-order" false).withFollow "special-get-raises" false) 28 an 1 282 (VL0 true w os) ⟨denote treeTable lc, lc, ⟨35, 9, 35, 52⟩, .ret k h g l' c p kept :: G :: rest⟩, segGoT treeTable pg ((w.withFollow "set-order" false).withFollow "special-get-raises" true) 28 an 1 282 (VL0 true w os) ⟨denote treeTable lc, lc, ⟨35, 9, 35, 52⟩, .ret k h g l' c p kept :: G :: rest⟩) = (some (VL14 true w os, ⟨denote treeTable lc, lc, ⟨35, 9, 35, 52⟩, .ret k h g l' c p kept :: G :: rest⟩), some (VL14 true w os, ⟨denote treeTable lc, lc, ⟨35, 9, 35, 52⟩, .ret k h g l' c p kept :: G :: rest⟩)) := by rw [PySem.W.Fast.te10295753902157049106, PySem.W.Fast.te14364793385576792824, PySem.W.Fast.te11892475500146522536]; kernel_rfl
theorem m8f14 (w : World) (os : OsState) (k h g l' c p kept G rest) : segGoT treeTable pg (w.withFollow "set-order" false) 28 an 1 282 (VL0 true w os) ⟨denote treeTable lc, lc, ⟨35, 9, 35, 52⟩, .ret k h g l' c p kept :: G :: rest⟩ = some (VL14 true w os, ⟨denote treeTable lc, lc, ⟨35, 9, 35, 52⟩, .ret k h g l' c p kept :: G :: rest⟩) := byFollow (row := "special-get-raises") (run := fun V => segGoT treeTable pg (V) 28 an 1 282 (VL0 true w os) ⟨denote treeTable lc, lc, ⟨35, 9, 35, 52⟩, .ret k h g l' c p kept :: G :: rest⟩) (r := fun _ => some (VL14 true w os, ⟨denote treeTable lc, lc, ⟨35, 9, 35, 52⟩, .ret k h g l' c p kept :: G :: rest⟩)) (k8f14 w os k h g l' c p kept G rest)
theorem k8t14 (w : World) (os : OsState) (k h g l' c p kept G rest) : (segGoT treeTable pg ((w.withFollow "set-order" true).withFollow "special-get-raises" false) 28 an 1 282 (VL0 false w os) ⟨denote treeTable lc, lc, ⟨35, 9, 35, 52⟩, .ret k h g l' c p kept :: G :: rest⟩, segGoT treeTable pg ((w.withFollow "set-order" true).withFollow "special-get-raises" true) 28 an 1 282 (VL0 false w os) ⟨denote treeTable lc, lc, ⟨35, 9, 35, 52⟩, .ret k h g l' c p kept :: G :: rest⟩) = (some (VL14 false w os, ⟨denote treeTable lc, lc, ⟨35, 9, 35, 52⟩, .ret k h g l' c p kept :: G :: rest⟩), some (VL14 false w os, ⟨denote treeTable lc, lc, ⟨35, 9, 35, 52⟩, .ret k h g l' c p kept :: G :: rest⟩)) := by rw [PySem.W.Fast.te10295753902157049106, PySem.W.Fast.te14364793385576792824, PySem.W.Fast.te11892475500146522536]; kernel_rfl
theorem m8t14 (w : World) (os : OsState) (k h g l' c p kept G rest) : segGoT treeTable pg (w.withFollow "set-order" true) 28 an 1 282 (VL0 false w os) ⟨denote treeTable lc, lc, ⟨35, 9, 35, 52⟩, .ret k h g l' c p kept :: G :: rest⟩ = some (VL14 false w os, ⟨denote treeTable lc, lc, ⟨35, 9, 35, 52⟩, .ret k h g l' c p kept :: G :: rest⟩) := byFollow (row := "special-get-raises") (run := fun V => segGoT treeTable pg (V) 28 an 1 282 (VL0 false w os) ⟨denote treeTable lc, lc, ⟨35, 9, 35, 52⟩, .ret k h g l' c p kept :: G :: rest⟩) (r := fun _ => some (VL14 false w os, ⟨denote treeTable lc, lc, ⟨35, 9, 35, 52⟩, .ret k h g l' c p kept :: G :: rest⟩)) (k8t14 w os k h g l' c p kept G rest)
theorem c814 (w : World) (os : OsState) (k h g l' c p kept G rest) : segGoT treeTable pg (w) 28 an 1 282 (SL0 w os) ⟨denote treeTable lc, lc, ⟨35, 9, 35, 52⟩, .ret k h g l' c p kept :: G :: rest⟩ = some (SL14 w os, ⟨denote treeTable lc, lc, ⟨35, 9, 35, 52⟩, .ret k h g l' c p kept :: G :: rest⟩) := by
  have e := World.withFollow_self w "set-order"
  cases hb : w.params.followText "set-order" <;> rw [hb] at e
  · have h := m8f14 w os k h g l' c p kept G rest
    rw [e] at h
    rw [v80 w os, v814 w os, hb]
    exact h
  · have h := m8t14 w os k h g l' c p kept G rest
    rw [e] at h
    rw [v80 w os, v814 w os, hb]
    exact h
theorem b815 (w : World) (os : OsState) (k h g l' c p kept G rest) : (segGoT treeTable pg ((w).withFollow "special-get-raises" false) 28 an 1 20 (SL14 w os) ⟨denote treeTable lc, lc, ⟨35, 9, 35, 52⟩, .ret k h g l' c p kept :: G :: rest⟩, segGoT treeTable pg ((w).withFollow "special-get-raises" true) 28 an 1 20 (SL14 w os) ⟨denote treeTable lc, lc, ⟨35, 9, 35, 52⟩, .ret k h g l' c p kept :: G :: rest⟩) = (some (SL15 w os, ⟨denote treeTable lc, lc, ⟨35, 9, 35, 52⟩, .ret k h g l' c p kept :: G :: rest⟩), some (SL15 w os, ⟨denote treeTable lc, lc, ⟨35, 9, 35, 52⟩, .ret k h g l' c p kept :: G :: rest⟩)) := by rw [PySem.W.Fast.te10295753902157049106, PySem.W.Fast.te14364793385576792824, PySem.W.Fast.te11892475500146522536]; kernel_rfl
theorem c815 (w : World) (os : OsState) (k h g l' c p kept G rest) : segGoT treeTable pg (w) 28 an 1 20 (SL14 w os) ⟨denote treeTable lc, lc, ⟨35, 9, 35, 52⟩, .ret k h g l' c p kept :: G :: rest⟩ = some (SL15 w os, ⟨denote treeTable lc, lc, ⟨35, 9, 35, 52⟩, .ret k h g l' c p kept :: G :: rest⟩) := byFollow (row := "special-get-raises") (run := fun V => segGoT treeTable pg (V) 28 an 1 20 (SL14 w os) ⟨denote treeTable lc, lc, ⟨35, 9, 35, 52⟩, .ret k h g l' c p kept :: G :: rest⟩) (r := fun _ => some (SL15 w os, ⟨denote treeTable lc, lc, ⟨35, 9, 35, 52⟩, .ret k h g l' c p kept :: G :: rest⟩)) (b815 w os k h g l' c p kept G rest)
theorem b816 (w : World) (os : OsState) (k h g l' c p kept G rest) : (segGoT treeTable pg ((w).withFollow "special-get-raises" false) 28 an 1 20 (SL15 w os) ⟨denote treeTable lc, lc, ⟨35, 9, 35, 52⟩, .ret k h g l' c p kept :: G :: rest⟩, segGoT treeTable pg ((w).withFollow "special-get-raises" true) 28 an 1 20 (SL15 w os) ⟨denote treeTable lc, lc, ⟨35, 9, 35, 52⟩, .ret k h g l' c p kept :: G :: rest⟩) = (some (SL16 w os, ⟨denote treeTable lc, lc, ⟨35, 9, 35, 52⟩, .ret k h g l' c p kept :: G :: rest⟩), some (SL16 w os, ⟨denote treeTable lc, lc, ⟨35, 9, 35, 52⟩, .ret k h g l' c p kept :: G :: rest⟩)) := by rw [PySem.W.Fast.te10295753902157049106, PySem.W.Fast.te14364793385576792824, PySem.W.Fast.te11892475500146522536]; kernel_rfl
theorem c816 (w : World) (os : OsState) (k h g l' c p kept G rest) : segGoT treeTable pg (w) 28 an 1 20 (SL15 w os) ⟨denote treeTable lc, lc, ⟨35, 9, 35, 52⟩, .ret k h g l' c p kept :: G :: rest⟩ = some (SL16 w os, ⟨denote treeTable lc, lc, ⟨35, 9, 35, 52⟩, .ret k h g l' c p kept :: G :: rest⟩) := byFollow (row := "special-get-raises") (run := fun V => segGoT treeTable pg (V) 28 an 1 20 (SL15 w os) ⟨denote treeTable lc, lc, ⟨35, 9, 35, 52⟩, .ret k h g l' c p kept :: G :: rest⟩) (r := fun _ => some (SL16 w os, ⟨denote treeTable lc, lc, ⟨35, 9, 35, 52⟩, .ret k h g l' c p kept :: G :: rest⟩)) (b816 w os k h g l' c p kept G rest)
theorem b817 (w : World) (os : OsState) (k h g l' c p kept G rest) : (segGoT treeTable pg ((w).withFollow "special-get-raises" false) 28 an 1 20 (SL16 w os) ⟨denote treeTable lc, lc, ⟨35, 9, 35, 52⟩, .ret k h g l' c p kept :: G :: rest⟩, segGoT treeTable pg ((w).withFollow "special-get-raises" true) 28 an 1 20 (SL16 w os) ⟨denote treeTable lc, lc, ⟨35, 9, 35, 52⟩, .ret k h g l' c p kept :: G :: rest⟩) = (some (SL17 w os, ⟨denote treeTable lc, lc, ⟨35, 9, 35, 52⟩, .ret k h g l' c p kept :: G :: rest⟩), some (SL17 w os, ⟨denote treeTable lc, lc, ⟨35, 9, 35, 52⟩, .ret k h g l' c p kept :: G :: rest⟩)) := by rw [PySem.W.Fast.te10295753902157049106, PySem.W.Fast.te14364793385576792824, PySem.W.Fast.te11892475500146522536]; kernel_rfl
theorem c817 (w : World) (os : OsState) (k h g l' c p kept G rest) : segGoT treeTable pg (w) 28 an 1 20 (SL16 w os) ⟨denote treeTable lc, lc, ⟨35, 9, 35, 52⟩, .ret k h g l' c p kept :: G :: rest⟩ = some (SL17 w os, ⟨denote treeTable lc, lc, ⟨35, 9, 35, 52⟩, .ret k h g l' c p kept :: G :: rest⟩) := byFollow (row := "special-get-raises") (run := fun V => segGoT treeTable pg (V) 28 an 1 20 (SL16 w os) ⟨denote treeTable lc, lc, ⟨35, 9, 35, 52⟩, .ret k h g l' c p kept :: G :: rest⟩) (r := fun _ => some (SL17 w os, ⟨denote treeTable lc, lc, ⟨35, 9, 35, 52⟩, .ret k h g l' c p kept :: G :: rest⟩)) (b817 w os k h g l' c p kept G rest)
theorem b818 (w : World) (os : OsState) (k h g l' c p kept G rest) : (segGoT treeTable pg ((w).withFollow "special-get-raises" false) 28 an 1 20 (SL17 w os) ⟨denote treeTable lc, lc, ⟨35, 9, 35, 52⟩, .ret k h g l' c p kept :: G :: rest⟩, segGoT treeTable pg ((w).withFollow "special-get-raises" true) 28 an 1 20 (SL17 w os) ⟨denote treeTable lc, lc, ⟨35, 9, 35, 52⟩, .ret k h g l' c p kept :: G :: rest⟩) = (some (SL18 w os, ⟨denote treeTable lc, lc, ⟨35, 9, 35, 52⟩, .ret k h g l' c p kept :: G :: rest⟩), some (SL18 w os, ⟨denote treeTable lc, lc, ⟨35, 9, 35, 52⟩, .ret k h g l' c p kept :: G :: rest⟩)) := by rw [PySem.W.Fast.te10295753902157049106, PySem.W.Fast.te14364793385576792824, PySem.W.Fast.te11892475500146522536]; kernel_rfl
theorem c818 (w : World) (os : OsState) (k h g l' c p kept G rest) : segGoT treeTable pg (w) 28 an 1 20 (SL17 w os) ⟨denote treeTable lc, lc, ⟨35, 9, 35, 52⟩, .ret k h g l' c p kept :: G :: rest⟩ = some (SL18 w os, ⟨denote treeTable lc, lc, ⟨35, 9, 35, 52⟩, .ret k h g l' c p kept :: G :: rest⟩) := byFollow (row := "special-get-raises") (run := fun V => segGoT treeTable pg (V) 28 an 1 20 (SL17 w os) ⟨denote treeTable lc, lc, ⟨35, 9, 35, 52⟩, .ret k h g l' c p kept :: G :: rest⟩) (r := fun _ => some (SL18 w os, ⟨denote treeTable lc, lc, ⟨35, 9, 35, 52⟩, .ret k h g l' c p kept :: G :: rest⟩)) (b818 w os k h g l' c p kept G rest)
theorem b819 (w : World) (os : OsState) (k h g l' c p kept G rest) : (segGoT treeTable pg ((w).withFollow "special-get-raises" false) 28 an 1 20 (SL18 w os) ⟨denote treeTable lc, lc, ⟨35, 9, 35, 52⟩, .ret k h g l' c p kept :: G :: rest⟩, segGoT treeTable pg ((w).withFollow "special-get-raises" true) 28 an 1 20 (SL18 w os) ⟨denote treeTable lc, lc, ⟨35, 9, 35, 52⟩, .ret k h g l' c p kept :: G :: rest⟩) = (some (SL19 w os, ⟨denote treeTable lc, lc, ⟨35, 9, 35, 52⟩, .ret k h g l' c p kept :: G :: rest⟩), some (SL19 w os, ⟨denote treeTable lc, lc, ⟨35, 9, 35, 52⟩, .ret k h g l' c p kept :: G :: rest⟩)) := by rw [PySem.W.Fast.te10295753902157049106, PySem.W.Fast.te14364793385576792824, PySem.W.Fast.te11892475500146522536]; kernel_rfl
theorem c819 (w : World) (os : OsState) (k h g l' c p kept G rest) : segGoT treeTable pg (w) 28 an 1 20 (SL18 w os) ⟨denote treeTable lc, lc, ⟨35, 9, 35, 52⟩, .ret k h g l' c p kept :: G :: rest⟩ = some (SL19 w os, ⟨denote treeTable lc, lc, ⟨35, 9, 35, 52⟩, .ret k h g l' c p kept :: G :: rest⟩) := byFollow (row := "special-get-raises") (run := fun V => segGoT treeTable pg (V) 28 an 1 20 (SL18 w os) ⟨denote treeTable lc, lc, ⟨35, 9, 35, 52⟩, .ret k h g l' c p kept :: G :: rest⟩) (r := fun _ => some (SL19 w os, ⟨denote treeTable lc, lc, ⟨35, 9, 35, 52⟩, .ret k h g l' c p kept :: G :: rest⟩)) (b819 w os k h g l' c p kept G rest)
theorem b820 (w : World) (os : OsState) (k h g l' c p kept G rest) : (segGoT treeTable pg ((w).withFollow "special-get-raises" false) 28 an 1 20 (SL19 w os) ⟨denote treeTable lc, lc, ⟨35, 9, 35, 52⟩, .ret k h g l' c p kept :: G :: rest⟩, segGoT treeTable pg ((w).withFollow "special-get-raises" true) 28 an 1 20 (SL19 w os) ⟨denote treeTable lc, lc, ⟨35, 9, 35, 52⟩, .ret k h g l' c p kept :: G :: rest⟩) = (some (SL20 w os, ⟨denote treeTable lc, lc, ⟨35, 9, 35, 52⟩, .ret k h g l' c p kept :: G :: rest⟩), some (SL20 w os, ⟨denote treeTable lc, lc, ⟨35, 9, 35, 52⟩, .ret k h g l' c p kept :: G :: rest⟩)) := by rw [PySem.W.Fast.te10295753902157049106, PySem.W.Fast.te14364793385576792824, PySem.W.Fast.te11892475500146522536]; kernel_rfl
theorem c820 (w : World) (os : OsState) (k h g l' c p kept G rest) : segGoT treeTable pg (w) 28 an 1 20 (SL19 w os) ⟨denote treeTable lc, lc, ⟨35, 9, 35, 52⟩, .ret k h g l' c p kept :: G :: rest⟩ = some (SL20 w os, ⟨denote treeTable lc, lc, ⟨35, 9, 35, 52⟩, .ret k h g l' c p kept :: G :: rest⟩) := byFollow (row := "special-get-raises") (run := fun V => segGoT treeTable pg (V) 28 an 1 20 (SL19 w os) ⟨denote treeTable lc, lc, ⟨35, 9, 35, 52⟩, .ret k h g l' c p kept :: G :: rest⟩) (r := fun _ => some (SL20 w os, ⟨denote treeTable lc, lc, ⟨35, 9, 35, 52⟩, .ret k h g l' c p kept :: G :: rest⟩)) (b820 w os k h g l' c p kept G rest)
theorem b821 (w : World) (os : OsState) (k h g l' c p kept G rest) : (segGoT treeTable pg ((w).withFollow "special-get-raises" false) 28 an 1 20 (SL20 w os) ⟨denote treeTable lc, lc, ⟨35, 9, 35, 52⟩, .ret k h g l' c p kept :: G :: rest⟩, segGoT treeTable pg ((w).withFollow "special-get-raises" true) 28 an 1 20 (SL20 w os) ⟨denote treeTable lc, lc, ⟨35, 9, 35, 52⟩, .ret k h g l' c p kept :: G :: rest⟩) = (some (SL21 w os, ⟨denote treeTable lc, lc, ⟨35, 9, 35, 52⟩, .ret k h g l' c p kept :: G :: rest⟩), some (SL21 w os, ⟨denote treeTable lc, lc, ⟨35, 9, 35, 52⟩, .ret k h g l' c p kept :: G :: rest⟩)) := by rw [PySem.W.Fast.te10295753902157049106, PySem.W.Fast.te14364793385576792824, PySem.W.Fast.te11892475500146522536]; kernel_rfl
theorem c821 (w : World) (os : OsState) (k h g l' c p kept G rest) : segGoT treeTable pg (w) 28 an 1 20 (SL20 w os) ⟨denote treeTable lc, lc, ⟨35, 9, 35, 52⟩, .ret k h g l' c p kept :: G :: rest⟩ = some (SL21 w os, ⟨denote treeTable lc, lc, ⟨35, 9, 35, 52⟩, .ret k h g l' c p kept :: G :: rest⟩) := byFollow (row := "special-get-raises") (run := fun V => segGoT treeTable pg (V) 28 an 1 20 (SL20 w os) ⟨denote treeTable lc, lc, ⟨35, 9, 35, 52⟩, .ret k h g l' c p kept :: G :: rest⟩) (r := fun _ => some (SL21 w os, ⟨denote treeTable lc, lc, ⟨35, 9, 35, 52⟩, .ret k h g l' c p kept :: G :: rest⟩)) (b821 w os k h g l' c p kept G rest)
theorem b822 (w : World) (os : OsState) (k h g l' c p kept G rest) : (segGoT treeTable pg ((w).withFollow "special-get-raises" false) 28 an 1 20 (SL21 w os) ⟨denote treeTable lc, lc, ⟨35, 9, 35, 52⟩, .ret k h g l' c p kept :: G :: rest⟩, segGoT treeTable pg ((w).withFollow "special-get-raises" true) 28 an 1 20 (SL21 w os) ⟨denote treeTable lc, lc, ⟨35, 9, 35, 52⟩, .ret k h g l' c p kept :: G :: rest⟩) = (some (SL22 w os, ⟨denote treeTable lc, lc, ⟨35, 9, 35, 52⟩, .ret k h g l' c p kept :: G :: rest⟩), some (SL22 w os, ⟨denote treeTable lc, lc, ⟨35, 9, 35, 52⟩, .ret k h g l' c p kept :: G :: rest⟩)) := by rw [PySem.W.Fast.te10295753902157049106, PySem.W.Fast.te14364793385576792824, PySem.W.Fast.te11892475500146522536]; kernel_rfl
theorem c822 (w : World) (os : OsState) (k h g l' c p kept G rest) : segGoT treeTable pg (w) 28 an 1 20 (SL21 w os) ⟨denote treeTable lc, lc, ⟨35, 9, 35, 52⟩, .ret k h g l' c p kept :: G :: rest⟩ = some (SL22 w os, ⟨denote treeTable lc, lc, ⟨35, 9, 35, 52⟩, .ret k h g l' c p kept :: G :: rest⟩) := byFollow (row := "special-get-raises") (run := fun V => segGoT treeTable pg (V) 28 an 1 20 (SL21 w os) ⟨denote treeTable lc, lc, ⟨35, 9, 35, 52⟩, .ret k h g l' c p kept :: G :: rest⟩) (r := fun _ => some (SL22 w os, ⟨denote treeTable lc, lc, ⟨35, 9, 35, 52⟩, .ret k h g l' c p kept :: G :: rest⟩)) (b822 w os k h g l' c p kept G rest)
theorem b823 (w : World) (os : OsState) (k h g l' c p kept G rest) : (segGoT treeTable pg ((w).withFollow "special-get-raises" false) 28 an 1 20 (SL22 w os) ⟨denote treeTable lc, lc, ⟨35, 9, 35, 52⟩, .ret k h g l' c p kept :: G :: rest⟩, segGoT treeTable pg ((w).withFollow "special-get-raises" true) 28 an 1 20 (SL22 w os) ⟨denote treeTable lc, lc, ⟨35, 9, 35, 52⟩, .ret k h g l' c p kept :: G :: rest⟩) = (some (SL23 w os, ⟨denote treeTable lc, lc, ⟨35, 9, 35, 52⟩, .ret k h g l' c p kept :: G :: rest⟩), some (SL23 w os, ⟨denote treeTable lc, lc, ⟨35, 9, 35, 52⟩, .ret k h g l' c p kept :: G :: rest⟩)) := by rw [PySem.W.Fast.te10295753902157049106, PySem.W.Fast.te14364793385576792824, PySem.W.Fast.te11892475500146522536]; kernel_rfl
theorem c823 (w : World) (os : OsState) (k h g l' c p kept G rest) : segGoT treeTable pg (w) 28 an 1 20 (SL22 w os) ⟨denote treeTable lc, lc, ⟨35, 9, 35, 52⟩, .ret k h g l' c p kept :: G :: rest⟩ = some (SL23 w os, ⟨denote treeTable lc, lc, ⟨35, 9, 35, 52⟩, .ret k h g l' c p kept :: G :: rest⟩) := byFollow (row := "special-get-raises") (run := fun V => segGoT treeTable pg (V) 28 an 1 20 (SL22 w os) ⟨denote treeTable lc, lc, ⟨35, 9, 35, 52⟩, .ret k h g l' c p kept :: G :: rest⟩) (r := fun _ => some (SL23 w os, ⟨denote treeTable lc, lc, ⟨35, 9, 35, 52⟩, .ret k h g l' c p kept :: G :: rest⟩)) (b823 w os k h g l' c p kept G rest)
theorem b824 (w : World) (os : OsState) (k h g l' c p kept G rest) : (segGoT treeTable pg ((w).withFollow "special-get-raises" false) 28 an 1 20 (SL23 w os) ⟨denote treeTable lc, lc, ⟨35, 9, 35, 52⟩, .ret k h g l' c p kept :: G :: rest⟩, segGoT treeTable pg ((w).withFollow "special-get-raises" true) 28 an 1 20 (SL23 w os) ⟨denote treeTable lc, lc, ⟨35, 9, 35, 52⟩, .ret k h g l' c p kept :: G :: rest⟩) = (some (SL24 w os, ⟨denote treeTable lc, lc, ⟨35, 9, 35, 52⟩, .ret k h g l' c p kept :: G :: rest⟩), some (SL24 w os, ⟨denote treeTable lc, lc, ⟨35, 9, 35, 52⟩, .ret k h g l' c p kept :: G :: rest⟩)) := by rw [PySem.W.Fast.te10295753902157049106, PySem.W.Fast.te14364793385576792824, PySem.W.Fast.te11892475500146522536]; kernel_rfl
theorem c824 (w : World) (os : OsState) (k h g l' c p kept G rest) : segGoT treeTable pg (w) 28 an 1 20 (SL23 w os) ⟨denote treeTable lc, lc, ⟨35, 9, 35, 52⟩, .ret k h g l' c p kept :: G :: rest⟩ = some (SL24 w os, ⟨denote treeTable lc, lc, ⟨35, 9, 35, 52⟩, .ret k h g l' c p kept :: G :: rest⟩) := byFollow (row := "special-get-raises") (run := fun V => segGoT treeTable pg (V) 28 an 1 20 (SL23 w os) ⟨denote treeTable lc, lc, ⟨35, 9, 35, 52⟩, .ret k h g l' c p kept :: G :: rest⟩) (r := fun _ => some (SL24 w os, ⟨denote treeTable lc, lc, ⟨35, 9, 35, 52⟩, .ret k h g l' c p kept :: G :: rest⟩)) (b824 w os k h g l' c p kept G rest)
theorem b825 (w : World) (os : OsState) (k h g l' c p kept G rest) : (segGoT treeTable pg ((w).withFollow "special-get-raises" false) 28 an 1 20 (SL24 w os) ⟨denote treeTable lc, lc, ⟨35, 9, 35, 52⟩, .ret k h g l' c p kept :: G :: rest⟩, segGoT treeTable pg ((w).withFollow "special-get-raises" true) 28 an 1 20 (SL24 w os) ⟨denote treeTable lc, lc, ⟨35, 9, 35, 52⟩, .ret k h g l' c p kept :: G :: rest⟩) = (some (SL25 w os, ⟨denote treeTable lc, lc, ⟨35, 9, 35, 52⟩, .ret k h g l' c p kept :: G :: rest⟩), some (SL25 w os, ⟨denote treeTable lc, lc, ⟨35, 9, 35, 52⟩, .ret k h g l' c p kept :: G :: rest⟩)) := by rw [PySem.W.Fast.te10295753902157049106, PySem.W.Fast.te14364793385576792824, PySem.W.Fast.te11892475500146522536]; kernel_rfl
theorem c825 (w : World) (os : OsState) (k h g l' c p kept G rest) : segGoT treeTable pg (w) 28 an 1 20 (SL24 w os) ⟨denote treeTable lc, lc, ⟨35, 9, 35, 52⟩, .ret k h g l' c p kept :: G :: rest⟩ = some (SL25 w os, ⟨denote treeTable lc, lc, ⟨35, 9, 35, 52⟩, .ret k h g l' c p kept :: G :: rest⟩) := byFollow (row := "special-get-raises") (run := fun V => segGoT treeTable pg (V) 28 an 1 20 (SL24 w os) ⟨denote treeTable lc, lc, ⟨35, 9, 35, 52⟩, .ret k h g l' c p kept :: G :: rest⟩) (r := fun _ => some (SL25 w os, ⟨denote treeTable lc, lc, ⟨35, 9, 35, 52⟩, .ret k h g l' c p kept :: G :: rest⟩)) (b825 w os k h g l' c p kept G rest)
theorem b826 (w : World) (os : OsState) (k h g l' c p kept G rest) : (segGoT treeTable pg ((w).withFollow "special-get-raises" false) 28 an 1 20 (SL25 w os) ⟨denote treeTable lc, lc, ⟨35, 9, 35, 52⟩, .ret k h g l' c p kept :: G :: rest⟩, segGoT treeTable pg ((w).withFollow "special-get-raises" true) 28 an 1 20 (SL25 w os) ⟨denote treeTable lc, lc, ⟨35, 9, 35, 52⟩, .ret k h g l' c p kept :: G :: rest⟩) = (some (SL26 w os, ⟨denote treeTable lc, lc, ⟨35, 9, 35, 52⟩, .ret k h g l' c p kept :: G :: rest⟩), some (SL26 w os, ⟨denote treeTable lc, lc, ⟨35, 9, 35, 52⟩, .ret k h g l' c p kept :: G :: rest⟩)) := by rw [PySem.W.Fast.te10295753902157049106, PySem.W.Fast.te14364793385576792824, PySem.W.Fast.te11892475500146522536]; kernel_rfl
theorem c826 (w : World) (os : OsState) (k h g l' c p kept G rest) : segGoT treeTable pg (w) 28 an 1 20 (SL25 w os) ⟨denote treeTable lc, lc, ⟨35, 9, 35, 52⟩, .ret k h g l' c p kept :: G :: rest⟩ = some (SL26 w os, ⟨denote treeTable lc, lc, ⟨35, 9, 35, 52⟩, .ret k h g l' c p kept :: G :: rest⟩) := byFollow (row := "special-get-raises") (run := fun V => segGoT treeTable pg (V) 28 an 1 20 (SL25 w os) ⟨denote treeTable lc, lc, ⟨35, 9, 35, 52⟩, .ret k h g l' c p kept :: G :: rest⟩) (r := fun _ => some (SL26 w os, ⟨denote treeTable lc, lc, ⟨35, 9, 35, 52⟩, .ret k h g l' c p kept :: G :: rest⟩)) (b826 w os k h g l' c p kept G rest)
theorem b827 (w : World) (os : OsState) (k h g l' c p kept G rest) : (segGoT treeTable pg ((w).withFollow "special-get-raises" false) 28 an 1 20 (SL26 w os) ⟨denote treeTable lc, lc, ⟨35, 9, 35, 52⟩, .ret k h g l' c p kept :: G :: rest⟩, segGoT treeTable pg ((w).withFollow "special-get-raises" true) 28 an 1 20 (SL26 w os) ⟨denote treeTable lc, lc, ⟨35, 9, 35, 52⟩, .ret k h g l' c p kept :: G :: rest⟩) = (some (SL27 w os, ⟨denote treeTable lc, lc, ⟨35, 9, 35, 52⟩, .ret k h g l' c p kept :: G :: rest⟩), some (SL27 w os, ⟨denote treeTable lc, lc, ⟨35, 9, 35, 52⟩, .ret k h g l' c p kept :: G :: rest⟩)) := by rw [PySem.W.Fast.te10295753902157049106, PySem.W.Fast.te14364793385576792824, PySem.W.Fast.te11892475500146522536]; kernel_rfl
theorem c827 (w : World) (os : OsState) (k h g l' c p kept G rest) : segGoT treeTable pg (w) 28 an 1 20 (SL26 w os) ⟨denote treeTable lc, lc, ⟨35, 9, 35, 52⟩, .ret k h g l' c p kept :: G :: rest⟩ = some (SL27 w os, ⟨denote treeTable lc, lc, ⟨35, 9, 35, 52⟩, .ret k h g l' c p kept :: G :: rest⟩) := byFollow (row := "special-get-raises") (run := fun V => segGoT treeTable pg (V) 28 an 1 20 (SL26 w os) ⟨denote treeTable lc, lc, ⟨35, 9, 35, 52⟩, .ret k h g l' c p kept :: G :: rest⟩) (r := fun _ => some (SL27 w os, ⟨denote treeTable lc, lc, ⟨35, 9, 35, 52⟩, .ret k h g l' c p kept :: G :: rest⟩)) (b827 w os k h g l' c p kept G rest)
theorem b828 (w : World) (os : OsState) (k h g l' c p kept G rest) : (segGoT treeTable pg ((w).withFollow "special-get-raises" false) 28 an 1 20 (SL27 w os) ⟨denote treeTable lc, lc, ⟨35, 9, 35, 52⟩, .ret k h g l' c p kept :: G :: rest⟩, segGoT treeTable pg ((w).withFollow "special-get-raises" true) 28 an 1 20 (SL27 w os) ⟨denote treeTable lc, lc, ⟨35, 9, 35, 52⟩, .ret k h g l' c p kept :: G :: rest⟩) = (some (SL28 w os, ⟨denote treeTable lc, lc, ⟨35, 9, 35, 52⟩, .ret k h g l' c p kept :: G :: rest⟩), some (SL28 w os, ⟨denote treeTable lc, lc, ⟨35, 9, 35, 52⟩, .ret k h g l' c p kept :: G :: rest⟩)) := by rw [PySem.W.Fast.te10295753902157049106, PySem.W.Fast.te14364793385576792824, PySem.W.Fast.te11892475500146522536]; kernel_rfl
theorem c828 (w : World) (os : OsState) (k h g l' c p kept G rest) : segGoT treeTable pg (w) 28 an 1 20 (SL27 w os) ⟨denote treeTable lc, lc, ⟨35, 9, 35, 52⟩, .ret k h g l' c p kept :: G :: rest⟩ = some (SL28 w os, ⟨denote treeTable lc, lc, ⟨35, 9, 35, 52⟩, .ret k h g l' c p kept :: G :: rest⟩) := byFollow (row := "special-get-raises") (run := fun V => segGoT treeTable pg (V) 28 an 1 20 (SL27 w os) ⟨denote treeTable lc, lc, ⟨35, 9, 35, 52⟩, .ret k h g l' c p kept :: G :: rest⟩) (r := fun _ => some (SL28 w os, ⟨denote treeTable lc, lc, ⟨35, 9, 35, 52⟩, .ret k h g l' c p kept :: G :: rest⟩)) (b828 w os k h g l' c p kept G rest)
theorem b829 (w : World) (os : OsState) (k h g l' c p kept G rest) : (segGoT treeTable pg ((w).withFollow "special-get-raises" false) 28 an 1 20 (SL28 w os) ⟨denote treeTable lc, lc, ⟨35, 9, 35, 52⟩, .ret k h g l' c p kept :: G :: rest⟩, segGoT treeTable pg ((w).withFollow "special-get-raises" true) 28 an 1 20 (SL28 w os) ⟨denote treeTable lc, lc, ⟨35, 9, 35, 52⟩, .ret k h g l' c p kept :: G :: rest⟩) = (some (SL29 w os, ⟨denote treeTable lc, lc, ⟨35, 9, 35, 52⟩, .ret k h g l' c p kept :: G :: rest⟩), some (SL29 w os, ⟨denote treeTable lc, lc, ⟨35, 9, 35, 52⟩, .ret k h g l' c p kept :: G :: rest⟩)) := by rw [PySem.W.Fast.te10295753902157049106, PySem.W.Fast.te14364793385576792824, PySem.W.Fast.te11892475500146522536]; kernel_rfl
theorem c829 (w : World) (os : OsState) (k h g l' c p kept G rest) : segGoT treeTable pg (w) 28 an 1 20 (SL28 w os) ⟨denote treeTable lc, lc, ⟨35, 9, 35, 52⟩, .ret k h g l' c p kept :: G :: rest⟩ = some (SL29 w os, ⟨denote treeTable lc, lc, ⟨35, 9, 35, 52⟩, .ret k h g l' c p kept :: G :: rest⟩) := byFollow (row := "special-get-raises") (run := fun V => segGoT treeTable pg (V) 28 an 1 20 (SL28 w os) ⟨denote treeTable lc, lc, ⟨35, 9, 35, 52⟩, .ret k h g l' c p kept :: G :: rest⟩) (r := fun _ => some (SL29 w os, ⟨denote treeTable lc, lc, ⟨35, 9, 35, 52⟩, .ret k h g l' c p kept :: G :: rest⟩)) (b829 w os k h g l' c p kept G rest)
theorem b830 (w : World) (os : OsState) (k h g l' c p kept G rest) : (segGoT treeTable pg ((w).withFollow "special-get-raises" false) 28 an 1 20 (SL29 w os) ⟨denote treeTable lc, lc, ⟨35, 9, 35, 52⟩, .ret k h g l' c p kept :: G :: rest⟩, segGoT treeTable pg ((w).withFollow "special-get-raises" true) 28 an 1 20 (SL29 w os) ⟨denote treeTable lc, lc, ⟨35, 9, 35, 52⟩, .ret k h g l' c p kept :: G :: rest⟩) = (some (SL30 w os, ⟨denote treeTable lc, lc, ⟨35, 9, 35, 52⟩, .ret k h g l' c p kept :: G :: rest⟩), some (SL30 w os, ⟨denote treeTable lc, lc, ⟨35, 9, 35, 52⟩, .ret k h g l' c p kept :: G :: rest⟩)) := by rw [PySem.W.Fast.te10295753902157049106, PySem.W.Fast.te14364793385576792824, PySem.W.Fast.te11892475500146522536]; kernel_rfl
theorem c830 (w : World) (os : OsState) (k h g l' c p kept G rest) : segGoT treeTable pg (w) 28 an 1 20 (SL29 w os) ⟨denote treeTable lc, lc, ⟨35, 9, 35, 52⟩, .ret k h g l' c p kept :: G :: rest⟩ = some (SL30 w os, ⟨denote treeTable lc, lc, ⟨35, 9, 35, 52⟩, .ret k h g l' c p kept :: G :: rest⟩) := byFollow (row := "special-get-raises") (run := fun V => segGoT treeTable pg (V) 28 an 1 20 (SL29 w os) ⟨denote treeTable lc, lc, ⟨35, 9, 35, 52⟩, .ret k h g l' c p kept :: G :: rest⟩) (r := fun _ => some (SL30 w os, ⟨denote treeTable lc, lc, ⟨35, 9, 35, 52⟩, .ret k h g l' c p kept :: G :: rest⟩)) (b830 w os k h g l' c p kept G rest)
theorem b831 (w : World) (os : OsState) (k h g l' c p kept G rest) : (segGoT treeTable pg ((w).withFollow "special-get-raises" false) 28 an 1 20 (SL30 w os) ⟨denote treeTable lc, lc, ⟨35, 9, 35, 52⟩, .ret k h g l' c p kept :: G :: rest⟩, segGoT treeTable pg ((w).withFollow "special-get-raises" true) 28 an 1 20 (SL30 w os) ⟨denote treeTable lc, lc, ⟨35, 9, 35, 52⟩, .ret k h g l' c p kept :: G :: rest⟩) = (some (SL31 w os, ⟨denote treeTable lc, lc, ⟨35, 9, 35, 52⟩, .ret k h g l' c p kept :: G :: rest⟩), some (SL31 w os, ⟨denote treeTable lc, lc, ⟨35, 9, 35, 52⟩, .ret k h g l' c p kept :: G :: rest⟩)) := by rw [PySem.W.Fast.te10295753902157049106, PySem.W.Fast.te14364793385576792824, PySem.W.Fast.te11892475500146522536]; kernel_rfl
theorem c831 (w : World) (os : OsState) (k h g l' c p kept G rest) : segGoT treeTable pg (w) 28 an 1 20 (SL30 w os) ⟨denote treeTable lc, lc, ⟨35, 9, 35, 52⟩, .ret k h g l' c p kept :: G :: rest⟩ = some (SL31 w os, ⟨denote treeTable lc, lc, ⟨35, 9, 35, 52⟩, .ret k h g l' c p kept :: G :: rest⟩) := byFollow (row := "special-get-raises") (run := fun V => segGoT treeTable pg (V) 28 an 1 20 (SL30 w os) ⟨denote treeTable lc, lc, ⟨35, 9, 35, 52⟩, .ret k h g l' c p kept :: G :: rest⟩) (r := fun _ => some (SL31 w os, ⟨denote treeTable lc, lc, ⟨35, 9, 35, 52⟩, .ret k h g l' c p kept :: G :: rest⟩)) (b831 w os k h g l' c p kept G rest)
theorem b832 (w : World) (os : OsState) (k h g l' c p kept G rest) : (segGoT treeTable pg ((w).withFollow "special-get-raises" false) 28 an 1 20 (SL31 w os) ⟨denote treeTable lc, lc, ⟨35, 9, 35, 52⟩, .ret k h g l' c p kept :: G :: rest⟩, segGoT treeTable pg ((w).withFollow "special-get-raises" true) 28 an 1 20 (SL31 w os) ⟨denote treeTable lc, lc, ⟨35, 9, 35, 52⟩, .ret k h g l' c p kept :: G :: rest⟩) = (some (SL32 w os, ⟨denote treeTable lc, lc, ⟨35, 9, 35, 52⟩, .ret k h g l' c p kept :: G :: rest⟩), some (SL32 w os, ⟨denote treeTable lc, lc, ⟨35, 9, 35, 52⟩, .ret k h g l' c p kept :: G :: rest⟩)) := by rw [PySem.W.Fast.te10295753902157049106, PySem.W.Fast.te14364793385576792824, PySem.W.Fast.te11892475500146522536]; kernel_rfl
theorem c832 (w : World) (os : OsState) (k h g l' c p kept G rest) : segGoT treeTable pg (w) 28 an 1 20 (SL31 w os) ⟨denote treeTable lc, lc, ⟨35, 9, 35, 52⟩, .ret k h g l' c p kept :: G :: rest⟩ = some (SL32 w os, ⟨denote treeTable lc, lc, ⟨35, 9, 35, 52⟩, .ret k h g l' c p kept :: G :: rest⟩) := byFollow (row := "special-get-raises") (run := fun V => segGoT treeTable pg (V) 28 an 1 20 (SL31 w os) ⟨denote treeTable lc, lc, ⟨35, 9, 35, 52⟩, .ret k h g l' c p kept :: G :: rest⟩) (r := fun _ => some (SL32 w os, ⟨denote treeTable lc, lc, ⟨35, 9, 35, 52⟩, .ret k h g l' c p kept :: G :: rest⟩)) (b832 w os k h g l' c p kept G rest)
theorem b833 (w : World) (os : OsState) (k h g l' c p kept G rest) : (segGoT treeTable pg ((w).withFollow "special-get-raises" false) 28 an 1 20 (SL32 w os) ⟨denote treeTable lc, lc, ⟨35, 9, 35, 52⟩, .ret k h g l' c p kept :: G :: rest⟩, segGoT treeTable pg ((w).withFollow "special-get-raises" true) 28 an 1 20 (SL32 w os) ⟨denote treeTable lc, lc, ⟨35, 9, 35, 52⟩, .ret k h g l' c p kept :: G :: rest⟩) = (some (SL33 w os, ⟨denote treeTable lc, lc, ⟨35, 9, 35, 52⟩, .ret k h g l' c p kept :: G :: rest⟩), some (SL33 w os, ⟨denote treeTable lc, lc, ⟨35, 9, 35, 52⟩, .ret k h g l' c p kept :: G :: rest⟩)) := by rw [PySem.W.Fast.te10295753902157049106, PySem.W.Fast.te14364793385576792824, PySem.W.Fast.te11892475500146522536]; kernel_rfl
theorem c833 (w : World) (os : OsState) (k h g l' c p kept G rest) : segGoT treeTable pg (w) 28 an 1 20 (SL32 w os) ⟨denote treeTable lc, lc, ⟨35, 9, 35, 52⟩, .ret k h g l' c p kept :: G :: rest⟩ = some (SL33 w os, ⟨denote treeTable lc, lc, ⟨35, 9, 35, 52⟩, .ret k h g l' c p kept :: G :: rest⟩) := byFollow (row := "special-get-raises") (run := fun V => segGoT treeTable pg (V) 28 an 1 20 (SL32 w os) ⟨denote treeTable lc, lc, ⟨35, 9, 35, 52⟩, .ret k h g l' c p kept :: G :: rest⟩) (r := fun _ => some (SL33 w os, ⟨denote treeTable lc, lc, ⟨35, 9, 35, 52⟩, .ret k h g l' c p kept :: G :: rest⟩)) (b833 w os k h g l' c p kept G rest)
theorem b834 (w : World) (os : OsState) (k h g l' c p kept G rest) : (segGoT treeTable pg ((w).withFollow "special-get-raises" false) 28 an 1 20 (SL33 w os) ⟨denote treeTable lc, lc, ⟨35, 9, 35, 52⟩, .ret k h g l' c p kept :: G :: rest⟩, segGoT treeTable pg ((w).withFollow "special-get-raises" true) 28 an 1 20 (SL33 w os) ⟨denote treeTable lc, lc, ⟨35, 9, 35, 52⟩, .ret k h g l' c p kept :: G :: rest⟩) = (some (SL34 w os, ⟨denote treeTable lc, lc, ⟨35, 9, 35, 52⟩, .ret k h g l' c p kept :: G :: rest⟩), some (SL34 w os, ⟨denote treeTable lc, lc, ⟨35, 9, 35, 52⟩, .ret k h g l' c p kept :: G :: rest⟩)) := by rw [PySem.W.Fast.te10295753902157049106, PySem.W.Fast.te14364793385576792824, PySem.W.Fast.te11892475500146522536]; kernel_rfl
theorem c834 (w : World) (os : OsState) (k h g l' c p kept G rest) : segGoT treeTable pg (w) 28 an 1 20 (SL33 w os) ⟨denote treeTable lc, lc, ⟨35, 9, 35, 52⟩, .ret k h g l' c p kept :: G :: rest⟩ = some (SL34 w os, ⟨denote treeTable lc, lc, ⟨35, 9, 35, 52⟩, .ret k h g l' c p kept :: G :: rest⟩) := byFollow (row := "special-get-raises") (run := fun V => segGoT treeTable pg (V) 28 an 1 20 (SL33 w os) ⟨denote treeTable lc, lc, ⟨35, 9, 35, 52⟩, .ret k h g l' c p kept :: G :: rest⟩) (r := fun _ => some (SL34 w os, ⟨denote treeTable lc, lc, ⟨35, 9, 35, 52⟩, .ret k h g l' c p kept :: G :: rest⟩)) (b834 w os k h g l' c p kept G rest)
theorem b835 (w : World) (os : OsState) (k h g l' c p kept G rest) : (segGoT treeTable pg ((w).withFollow "special-get-raises" false) 28 an 1 20 (SL34 w os) ⟨denote treeTable lc, lc, ⟨35, 9, 35, 52⟩, .ret k h g l' c p kept :: G :: rest⟩, segGoT treeTable pg ((w).withFollow "special-get-raises" true) 28 an 1 20 (SL34 w os) ⟨denote treeTable lc, lc, ⟨35, 9, 35, 52⟩, .ret k h g l' c p kept :: G :: rest⟩) = (some (SL35 w os, ⟨denote treeTable lc, lc, ⟨35, 9, 35, 52⟩, .ret k h g l' c p kept :: G :: rest⟩), some (SL35 w os, ⟨denote treeTable lc, lc, ⟨35, 9, 35, 52⟩, .ret k h g l' c p kept :: G :: rest⟩)) := by rw [PySem.W.Fast.te10295753902157049106, PySem.W.Fast.te14364793385576792824, PySem.W.Fast.te11892475500146522536]; kernel_rfl
theorem c835 (w : World) (os : OsState) (k h g l' c p kept G rest) : segGoT treeTable pg (w) 28 an 1 20 (SL34 w os) ⟨denote treeTable lc, lc, ⟨35, 9, 35, 52⟩, .ret k h g l' c p kept :: G :: rest⟩ = some (SL35 w os, ⟨denote treeTable lc, lc, ⟨35, 9, 35, 52⟩, .ret k h g l' c p kept :: G :: rest⟩) := byFollow (row := "special-get-raises") (run := fun V => segGoT treeTable pg (V) 28 an 1 20 (SL34 w os) ⟨denote treeTable lc, lc, ⟨35, 9, 35, 52⟩, .ret k h g l' c p kept :: G :: rest⟩) (r := fun _ => some (SL35 w os, ⟨denote treeTable lc, lc, ⟨35, 9, 35, 52⟩, .ret k h g l' c p kept :: G :: rest⟩)) (b835 w os k h g l' c p kept G rest)
theorem b836 (w : World) (os : OsState) (k h g l' c p kept G rest) : (segGoT treeTable pg ((w).withFollow "special-get-raises" false) 28 an 1 20 (SL35 w os) ⟨denote treeTable lc, lc, ⟨35, 9, 35, 52⟩, .ret k h g l' c p kept :: G :: rest⟩, segGoT treeTable pg ((w).withFollow "special-get-raises" true) 28 an 1 20 (SL35 w os) ⟨denote treeTable lc, lc, ⟨35, 9, 35, 52⟩, .ret k h g l' c p kept :: G :: rest⟩) = (some (SL36 w os, ⟨denote treeTable lc, lc, ⟨35, 9, 35, 52⟩, .ret k h g l' c p kept :: G :: rest⟩), some (SL36 w os, ⟨denote treeTable lc, lc, ⟨35, 9, 35, 52⟩, .ret k h g l' c p kept :: G :: rest⟩)) := by rw [PySem.W.Fast.te10295753902157049106, PySem.W.Fast.te14364793385576792824, PySem.W.Fast.te11892475500146522536]; kernel_rfl
theorem c836 (w : World) (os : OsState) (k h g l' c p kept G rest) : segGoT treeTable pg (w) 28 an 1 20 (SL35 w os) ⟨denote treeTable lc, lc, ⟨35, 9, 35, 52⟩, .ret k h g l' c p kept :: G :: rest⟩ = some (SL36 w os, ⟨denote treeTable lc, lc, ⟨35, 9, 35, 52⟩, .ret k h g l' c p kept :: G :: rest⟩) := byFollow (row := "special-get-raises") (run := fun V => segGoT treeTable pg (V) 28 an 1 20 (SL35 w os) ⟨denote treeTable lc, lc, ⟨35, 9, 35, 52⟩, .ret k h g l' c p kept :: G :: rest⟩) (r := fun _ => some (SL36 w os, ⟨denote treeTable lc, lc, ⟨35, 9, 35, 52⟩, .ret k h g l' c p kept :: G :: rest⟩)) (b836 w os k h g l' c p kept G rest)
theorem b837 (w : World) (os : OsState) (k h g l' c p kept G rest) : (segGoT treeTable pg ((w).withFollow "special-get-raises" false) 28 an 1 20 (SL36 w os) ⟨denote treeTable lc, lc, ⟨35, 9, 35, 52⟩, .ret k h g l' c p kept :: G :: rest⟩, segGoT treeTable pg ((w).withFollow "special-get-raises" true) 28 an 1 20 (SL36 w os) ⟨denote treeTable lc, lc, ⟨35, 9, 35, 52⟩, .ret k h g l' c p kept :: G :: rest⟩) = (some (SL37 w os, ⟨denote treeTable lc, lc, ⟨35, 9, 35, 52⟩, .ret k h g l' c p kept :: G :: rest⟩), some (SL37 w os, ⟨denote treeTable lc, lc, ⟨35, 9, 35, 52⟩, .ret k h g l' c p kept :: G :: rest⟩)) := by rw [PySem.W.Fast.te10295753902157049106, PySem.W.Fast.te14364793385576792824, PySem.W.Fast.te11892475500146522536]; kernel_rfl
theorem c837 (w : World) (os : OsState) (k h g l' c p kept G rest) : segGoT treeTable pg (w) 28 an 1 20 (SL36 w os) ⟨denote treeTable lc, lc, ⟨35, 9, 35, 52⟩, .ret k h g l' c p kept :: G :: rest⟩ = some (SL37 w os, ⟨denote treeTable lc, lc, ⟨35, 9, 35, 52⟩, .ret k h g l' c p kept :: G :: rest⟩) := byFollow (row := "special-get-raises") (run := fun V => segGoT treeTable pg (V) 28 an 1 20 (SL36 w os) ⟨denote treeTable lc, lc, ⟨35, 9, 35, 52⟩, .ret k h g l' c p kept :: G :: rest⟩) (r := fun _ => some (SL37 w os, ⟨denote treeTable lc, lc, ⟨35, 9, 35, 52⟩, .ret k h g l' c p kept :: G :: rest⟩)) (b837 w os k h g l' c p kept G rest)
theorem b838 (w : World) (os : OsState) (k h g l' c p kept G rest) : (segGoT treeTable pg ((w).withFollow "special-get-raises" false) 28 an 1 20 (SL37 w os) ⟨denote treeTable lc, lc, ⟨35, 9, 35, 52⟩, .ret k h g l' c p kept :: G :: rest⟩, segGoT treeTable pg ((w).withFollow "special-get-raises" true) 28 an 1 20 (SL37 w os) ⟨denote treeTable lc, lc, ⟨35, 9, 35, 52⟩, .ret k h g l' c p kept :: G :: rest⟩) = (some (SL38 w os, ⟨denote treeTable lc, lc, ⟨35, 9, 35, 52⟩, .ret k h g l' c p kept :: G :: rest⟩), some (SL38 w os, ⟨denote treeTable lc, lc, ⟨35, 9, 35, 52⟩, .ret k h g l' c p kept :: G :: rest⟩)) := by rw [PySem.W.Fast.te10295753902157049106, PySem.W.Fast.te14364793385576792824, PySem.W.Fast.te11892475500146522536]; kernel_rfl
theorem c838 (w : World) (os : OsState) (k h g l' c p kept G rest) : segGoT treeTable pg (w) 28 an 1 20 (SL37 w os) ⟨denote treeTable lc, lc, ⟨35, 9, 35, 52⟩, .ret k h g l' c p kept :: G :: rest⟩ = some (SL38 w os, ⟨denote treeTable lc, lc, ⟨35, 9, 35, 52⟩, .ret k h g l' c p kept :: G :: rest⟩) := byFollow (row := "special-get-raises") (run := fun V => segGoT treeTable pg (V) 28 an 1 20 (SL37 w os) ⟨denote treeTable lc, lc, ⟨35, 9, 35, 52⟩, .ret k h g l' c p kept :: G :: rest⟩) (r := fun _ => some (SL38 w os, ⟨denote treeTable lc, lc, ⟨35, 9, 35, 52⟩, .ret k h g l' c p kept :: G :: rest⟩)) (b838 w os k h g l' c p kept G rest)
theorem b839 (w : World) (os : OsState) (k h g l' c p kept G rest) : (segGoT treeTable pg ((w).withFollow "special-get-raises" false) 28 an 1 20 (SL38 w os) ⟨denote treeTable lc, lc, ⟨35, 9, 35, 52⟩, .ret k h g l' c p kept :: G :: rest⟩, segGoT treeTable pg ((w).withFollow "special-get-raises" true) 28 an 1 20 (SL38 w os) ⟨denote treeTable lc, lc, ⟨35, 9, 35, 52⟩, .ret k h g l' c p kept :: G :: rest⟩) = (some (SL39 w os, ⟨denote treeTable lc, lc, ⟨35, 9, 35, 52⟩, .ret k h g l' c p kept :: G :: rest⟩), some (SL39 w os, ⟨denote treeTable lc, lc, ⟨35, 9, 35, 52⟩, .ret k h g l' c p kept :: G :: rest⟩)) := by rw [PySem.W.Fast.te10295753902157049106, PySem.W.Fast.te14364793385576792824, PySem.W.Fast.te11892475500146522536]; kernel_rfl
theorem c839 (w : World) (os : OsState) (k h g l' c p kept G rest) : segGoT treeTable pg (w) 28 an 1 20 (SL38 w os) ⟨denote treeTable lc, lc, ⟨35, 9, 35, 52⟩, .ret k h g l' c p kept :: G :: rest⟩ = some (SL39 w os, ⟨denote treeTable lc, lc, ⟨35, 9, 35, 52⟩, .ret k h g l' c p kept :: G :: rest⟩) := byFollow (row := "special-get-raises") (run := fun V => segGoT treeTable pg (V) 28 an 1 20 (SL38 w os) ⟨denote treeTable lc, lc, ⟨35, 9, 35, 52⟩, .ret k h g l' c p kept :: G :: rest⟩) (r := fun _ => some (SL39 w os, ⟨denote treeTable lc, lc, ⟨35, 9, 35, 52⟩, .ret k h g l' c p kept :: G :: rest⟩)) (b839 w os k h g l' c p kept G rest)
theorem b840 (w : World) (os : OsState) (k h g l' c p kept G rest) : (segGoT treeTable pg ((w).withFollow "special-get-raises" false) 28 an 1 20 (SL39 w os) ⟨denote treeTable lc, lc, ⟨35, 9, 35, 52⟩, .ret k h g l' c p kept :: G :: rest⟩, segGoT treeTable pg ((w).withFollow "special-get-raises" true) 28 an 1 20 (SL39 w os) ⟨denote treeTable lc, lc, ⟨35, 9, 35, 52⟩, .ret k h g l' c p kept :: G :: rest⟩) = (some (SL40 w os, ⟨denote treeTable lc, lc, ⟨35, 9, 35, 52⟩, .ret k h g l' c p kept :: G :: rest⟩), some (SL40 w os, ⟨denote treeTable lc, lc, ⟨35, 9, 35, 52⟩, .ret k h g l' c p kept :: G :: rest⟩)) := by rw [PySem.W.Fast.te10295753902157049106, PySem.W.Fast.te14364793385576792824, PySem.W.Fast.te11892475500146522536]; kernel_rfl
theorem c840 (w : World) (os : OsState) (k h g l' c p kept G rest) : segGoT treeTable pg (w) 28 an 1 20 (SL39 w os) ⟨denote treeTable lc, lc, ⟨35, 9, 35, 52⟩, .ret k h g l' c p kept :: G :: rest⟩ = some (SL40 w os, ⟨denote treeTable lc, lc, ⟨35, 9, 35, 52⟩, .ret k h g l' c p kept :: G :: rest⟩) := byFollow (row := "special-get-raises") (run := fun V => segGoT treeTable pg (V) 28 an 1 20 (SL39 w os) ⟨denote treeTable lc, lc, ⟨35, 9, 35, 52⟩, .ret k h g l' c p kept :: G :: rest⟩) (r := fun _ => some (SL40 w os, ⟨denote treeTable lc, lc, ⟨35, 9, 35, 52⟩, .ret k h g l' c p kept :: G :: rest⟩)) (b840 w os k h g l' c p kept G rest)
theorem b841 (w : World) (os : OsState) (k h g l' c p kept G rest) : (segGoT treeTable pg ((w).withFollow "special-get-raises" false) 28 an 1 20 (SL40 w os) ⟨denote treeTable lc, lc, ⟨35, 9, 35, 52⟩, .ret k h g l' c p kept :: G :: rest⟩, segGoT treeTable pg ((w).withFollow "special-get-raises" true) 28 an 1 20 (SL40 w os) ⟨denote treeTable lc, lc, ⟨35, 9, 35, 52⟩, .ret k h g l' c p kept :: G :: rest⟩) = (some (SL41 w os, ⟨denote treeTable lc, lc, ⟨35, 9, 35, 52⟩, .ret k h g l' c p kept :: G :: rest⟩), some (SL41 w os, ⟨denote treeTable lc, lc, ⟨35, 9, 35, 52⟩, .ret k h g l' c p kept :: G :: rest⟩)) := by rw [PySem.W.Fast.te10295753902157049106, PySem.W.Fast.te14364793385576792824, PySem.W.Fast.te11892475500146522536]; kernel_rfl
theorem c841 (w : World) (os : OsState) (k h g l' c p kept G rest) : segGoT treeTable pg (w) 28 an 1 20 (SL40 w os) ⟨denote treeTable lc, lc, ⟨35, 9, 35, 52⟩, .ret k h g l' c p kept :: G :: rest⟩ = some (SL41 w os, ⟨denote treeTable lc, lc, ⟨35, 9, 35, 52⟩, .ret k h g l' c p kept :: G :: rest⟩) := byFollow (row := "special-get-raises") (run := fun V => segGoT treeTable pg (V) 28 an 1 20 (SL40 w os) ⟨denote treeTable lc, lc, ⟨35, 9, 35, 52⟩, .ret k h g l' c p kept :: G :: rest⟩) (r := fun _ => some (SL41 w os, ⟨denote treeTable lc, lc, ⟨35, 9, 35, 52⟩, .ret k h g l' c p kept :: G :: rest⟩)) (b841 w os k h g l' c p kept G rest)
theorem b842 (w : World) (os : OsState) (k h g l' c p kept G rest) : (segGoT treeTable pg ((w).withFollow "special-get-raises" false) 28 an 1 20 (SL41 w os) ⟨denote treeTable lc, lc, ⟨35, 9, 35, 52⟩, .ret k h g l' c p kept :: G :: rest⟩, segGoT treeTable pg ((w).withFollow "special-get-raises" true) 28 an 1 20 (SL41 w os) ⟨denote treeTable lc, lc, ⟨35, 9, 35, 52⟩, .ret k h g l' c p kept :: G :: rest⟩) = (some (SL42 w os, ⟨denote treeTable lc, lc, ⟨35, 9, 35, 52⟩, .ret k h g l' c p kept :: G :: rest⟩), some (SL42 w os, ⟨denote treeTable lc, lc, ⟨35, 9, 35, 52⟩, .ret k h g l' c p kept :: G :: rest⟩)) := by rw [PySem.W.Fast.te10295753902157049106, PySem.W.Fast.te14364793385576792824, PySem.W.Fast.te11892475500146522536]; kernel_rfl
theorem c842 (w : World) (os : OsState) (k h g l' c p kept G rest) : segGoT treeTable pg (w) 28 an 1 20 (SL41 w os) ⟨denote treeTable lc, lc, ⟨35, 9, 35, 52⟩, .ret k h g l' c p kept :: G :: rest⟩ = some (SL42 w os, ⟨denote treeTable lc, lc, ⟨35, 9, 35, 52⟩, .ret k h g l' c p kept :: G :: rest⟩) := byFollow (row := "special-get-raises") (run := fun V => segGoT treeTable pg (V) 28 an 1 20 (SL41 w os) ⟨denote treeTable lc, lc, ⟨35, 9, 35, 52⟩, .ret k h g l' c p kept :: G :: rest⟩) (r := fun _ => some (SL42 w os, ⟨denote treeTable lc, lc, ⟨35, 9, 35, 52⟩, .ret k h g l' c p kept :: G :: rest⟩)) (b842 w os k h g l' c p kept G rest)
theorem b843 (w : World) (os : OsState) (k h g l' c p kept G rest) : (segGoT treeTable pg ((w).withFollow "special-get-raises" false) 28 an 1 20 (SL42 w os) ⟨denote treeTable lc, lc, ⟨35, 9, 35, 52⟩, .ret k h g l' c p kept :: G :: rest⟩, segGoT treeTable pg ((w).withFollow "special-get-raises" true) 28 an 1 20 (SL42 w os) ⟨denote treeTable lc, lc, ⟨35, 9, 35, 52⟩, .ret k h g l' c p kept :: G :: rest⟩) = (some (SL43 w os, ⟨denote treeTable lc, lc, ⟨35, 9, 35, 52⟩, .ret k h g l' c p kept :: G :: rest⟩), some (SL43 w os, ⟨denote treeTable lc, lc, ⟨35, 9, 35, 52⟩, .ret k h g l' c p kept :: G :: rest⟩)) := by rw [PySem.W.Fast.te10295753902157049106, PySem.W.Fast.te14364793385576792824, PySem.W.Fast.te11892475500146522536]; kernel_rfl
theorem c843 (w : World) (os : OsState) (k h g l' c p kept G rest) : segGoT treeTable pg (w) 28 an 1 20 (SL42 w os) ⟨denote treeTable lc, lc, ⟨35, 9, 35, 52⟩, .ret k h g l' c p kept :: G :: rest⟩ = some (SL43 w os, ⟨denote treeTable lc, lc, ⟨35, 9, 35, 52⟩, .ret k h g l' c p kept :: G :: rest⟩) := byFollow (row := "special-get-raises") (run := fun V => segGoT treeTable pg (V) 28 an 1 20 (SL42 w os) ⟨denote treeTable lc, lc, ⟨35, 9, 35, 52⟩, .ret k h g l' c p kept :: G :: rest⟩) (r := fun _ => some (SL43 w os, ⟨denote treeTable lc, lc, ⟨35, 9, 35, 52⟩, .ret k h g l' c p kept :: G :: rest⟩)) (b843 w os k h g l' c p kept G rest)
theorem b844 (w : World) (os : OsState) (k h g l' c p kept G rest) : (segGoT treeTable pg ((w).withFollow "special-get-raises" false) 28 an 1 20 (SL43 w os) ⟨denote treeTable lc, lc, ⟨35, 9, 35, 52⟩, .ret k h g l' c p kept :: G :: rest⟩, segGoT treeTable pg ((w).withFollow "special-get-raises" true) 28 an 1 20 (SL43 w os) ⟨denote treeTable lc, lc, ⟨35, 9, 35, 52⟩, .ret k h g l' c p kept :: G :: rest⟩) = (some (SL44 w os, ⟨denote treeTable lc, lc, ⟨35, 9, 35, 52⟩, .ret k h g l' c p kept :: G :: rest⟩), some (SL44 w os, ⟨denote treeTable lc, lc, ⟨35, 9, 35, 52⟩, .ret k h g l' c p kept :: G :: rest⟩)) := by rw [PySem.W.Fast.te10295753902157049106, PySem.W.Fast.te14364793385576792824, PySem.W.Fast.te11892475500146522536]; kernel_rfl
theorem c844 (w : World) (os : OsState) (k h g l' c p kept G rest) : segGoT treeTable pg (w) 28 an 1 20 (SL43 w os) ⟨denote treeTable lc, lc, ⟨35, 9, 35, 52⟩, .ret k h g l' c p kept :: G :: rest⟩ = some (SL44 w os, ⟨denote treeTable lc, lc, ⟨35, 9, 35, 52⟩, .ret k h g l' c p kept :: G :: rest⟩) := byFollow (row := "special-get-raises") (run := fun V => segGoT treeTable pg (V) 28 an 1 20 (SL43 w os) ⟨denote treeTable lc, lc, ⟨35, 9, 35, 52⟩, .ret k h g l' c p kept :: G :: rest⟩) (r := fun _ => some (SL44 w os, ⟨denote treeTable lc, lc, ⟨35, 9, 35, 52⟩, .ret k h g l' c p kept :: G :: rest⟩)) (b844 w os k h g l' c p kept G rest)
theorem b845 (w : World) (os : OsState) (k h g l' c p kept G rest) : (segGoT treeTable pg ((w).withFollow "special-get-raises" false) 28 an 1 20 (SL44 w os) ⟨denote treeTable lc, lc, ⟨35, 9, 35, 52⟩, .ret k h g l' c p kept :: G :: rest⟩, segGoT treeTable pg ((w).withFollow "special-get-raises" true) 28 an 1 20 (SL44 w os) ⟨denote treeTable lc, lc, ⟨35, 9, 35, 52⟩, .ret k h g l' c p kept :: G :: rest⟩) = (some (SL45 w os, ⟨denote treeTable lc, lc, ⟨35, 9, 35, 52⟩, .ret k h g l' c p kept :: G :: rest⟩), some (SL45 w os, ⟨denote treeTable lc, lc, ⟨35, 9, 35, 52⟩, .ret k h g l' c p kept :: G :: rest⟩)) := by rw [PySem.W.Fast.te10295753902157049106, PySem.W.Fast.te14364793385576792824, PySem.W.Fast.te11892475500146522536]; kernel_rfl
theorem c845 (w : World) (os : OsState) (k h g l' c p kept G rest) : segGoT treeTable pg (w) 28 an 1 20 (SL44 w os) ⟨denote treeTable lc, lc, ⟨35, 9, 35, 52⟩, .ret k h g l' c p kept :: G :: rest⟩ = some (SL45 w os, ⟨denote treeTable lc, lc, ⟨35, 9, 35, 52⟩, .ret k h g l' c p kept :: G :: rest⟩) := byFollow (row := "special-get-raises") (run := fun V => segGoT treeTable pg (V) 28 an 1 20 (SL44 w os) ⟨denote treeTable lc, lc, ⟨35, 9, 35, 52⟩, .ret k h g l' c p kept :: G :: rest⟩) (r := fun _ => some (SL45 w os, ⟨denote treeTable lc, lc, ⟨35, 9, 35, 52⟩, .ret k h g l' c p kept :: G :: rest⟩)) (b845 w os k h g l' c p kept G rest)
theorem b846 (w : World) (os : OsState) (k h g l' c p kept G rest) : (segGoT treeTable pg ((w).withFollow "special-get-raises" false) 28 an 1 20 (SL45 w os) ⟨denote treeTable lc, lc, ⟨35, 9, 35, 52⟩, .ret k h g l' c p kept :: G :: rest⟩, segGoT treeTable pg ((w).withFollow "special-get-raises" true) 28 an 1 20 (SL45 w os) ⟨denote treeTable lc, lc, ⟨35, 9, 35, 52⟩, .ret k h g l' c p kept :: G :: rest⟩) = (some (SL46 w os, ⟨denote treeTable lc, lc, ⟨35, 9, 35, 52⟩, .ret k h g l' c p kept :: G :: rest⟩), some (SL46 w os, ⟨denote treeTable lc, lc, ⟨35, 9, 35, 52⟩, .ret k h g l' c p kept :: G :: rest⟩)) := by rw [PySem.W.Fast.te10295753902157049106, PySem.W.Fast.te14364793385576792824, PySem.W.Fast.te11892475500146522536]; kernel_rfl
theorem c846 (w : World) (os : OsState) (k h g l' c p kept G rest) : segGoT treeTable pg (w) 28 an 1 20 (SL45 w os) ⟨denote treeTable lc, lc, ⟨35, 9, 35, 52⟩, .ret k h g l' c p kept :: G :: rest⟩ = some (SL46 w os, ⟨denote treeTable lc, lc, ⟨35, 9, 35, 52⟩, .ret k h g l' c p kept :: G :: rest⟩) := byFollow (row := "special-get-raises") (run := fun V => segGoT treeTable pg (V) 28 an 1 20 (SL45 w os) ⟨denote treeTable lc, lc, ⟨35, 9, 35, 52⟩, .ret k h g l' c p kept :: G :: rest⟩) (r := fun _ => some (SL46 w os, ⟨denote treeTable lc, lc, ⟨35, 9, 35, 52⟩, .ret k h g l' c p kept :: G :: rest⟩)) (b846 w os k h g l' c p kept G rest)
theorem b847 (w : World) (os : OsState) (k h g l' c p kept G rest) : (segGoT treeTable pg ((w).withFollow "special-get-raises" false) 28 an 1 20 (SL46 w os) ⟨denote treeTable lc, lc, ⟨35, 9, 35, 52⟩, .ret k h g l' c p kept :: G :: rest⟩, segGoT treeTable pg ((w).withFollow "special-get-raises" true) 28 an 1 20 (SL46 w os) ⟨denote treeTable lc, lc, ⟨35, 9, 35, 52⟩, .ret k h g l' c p kept :: G :: rest⟩) = (some (SL47 w os, ⟨denote treeTable lc, lc, ⟨35, 9, 35, 52⟩, .ret k h g l' c p kept :: G :: rest⟩), some (SL47 w os, ⟨denote treeTable lc, lc, ⟨35, 9, 35, 52⟩, .ret k h g l' c p kept :: G :: rest⟩)) := by rw [PySem.W.Fast.te10295753902157049106, PySem.W.Fast.te14364793385576792824, PySem.W.Fast.te11892475500146522536]; kernel_rfl
theorem c847 (w : World) (os : OsState) (k h g l' c p kept G rest) : segGoT treeTable pg (w) 28 an 1 20 (SL46 w os) ⟨denote treeTable lc, lc, ⟨35, 9, 35, 52⟩, .ret k h g l' c p kept :: G :: rest⟩ = some (SL47 w os, ⟨denote treeTable lc, lc, ⟨35, 9, 35, 52⟩, .ret k h g l' c p kept :: G :: rest⟩) := byFollow (row := "special-get-raises") (run := fun V => segGoT treeTable pg (V) 28 an 1 20 (SL46 w os) ⟨denote treeTable lc, lc, ⟨35, 9, 35, 52⟩, .ret k h g l' c p kept :: G :: rest⟩) (r := fun _ => some (SL47 w os, ⟨denote treeTable lc, lc, ⟨35, 9, 35, 52⟩, .ret k h g l' c p kept :: G :: rest⟩)) (b847 w os k h g l' c p kept G rest)
theorem b848 (w : World) (os : OsState) (k h g l' c p kept G rest) : (segGoT treeTable pg ((w).withFollow "special-get-raises" false) 28 an 1 20 (SL47 w os) ⟨denote treeTable lc, lc, ⟨35, 9, 35, 52⟩, .ret k h g l' c p kept :: G :: rest⟩, segGoT treeTable pg ((w).withFollow "special-get-raises" true) 28 an 1 20 (SL47 w os) ⟨denote treeTable lc, lc, ⟨35, 9, 35, 52⟩, .ret k h g l' c p kept :: G :: rest⟩) = (some (SL48 w os, ⟨denote treeTable lc, lc, ⟨35, 9, 35, 52⟩, .ret k h g l' c p kept :: G :: rest⟩), some (SL48 w os, ⟨denote treeTable lc, lc, ⟨35, 9, 35, 52⟩, .ret k h g l' c p kept :: G :: rest⟩)) := by rw [PySem.W.Fast.te10295753902157049106, PySem.W.Fast.te14364793385576792824, PySem.W.Fast.te11892475500146522536]; kernel_rfl
theorem c848 (w : World) (os : OsState) (k h g l' c p kept G rest) : segGoT treeTable pg (w) 28 an 1 20 (SL47 w os) ⟨denote treeTable lc, lc, ⟨35, 9, 35, 52⟩, .ret k h g l' c p kept :: G :: rest⟩ = some (SL48 w os, ⟨denote treeTable lc, lc, ⟨35, 9, 35, 52⟩, .ret k h g l' c p kept :: G :: rest⟩) := byFollow (row := "special-get-raises") (run := fun V => segGoT treeTable pg (V) 28 an 1 20 (SL47 w os) ⟨denote treeTable lc, lc, ⟨35, 9, 35, 52⟩, .ret k h g l' c p kept :: G :: rest⟩) (r := fun _ => some (SL48 w os, ⟨denote treeTable lc, lc, ⟨35, 9, 35, 52⟩, .ret k h g l' c p kept :: G :: rest⟩)) (b848 w os k h g l' c p kept G rest)
theorem b849 (w : World) (os : OsState) (k h g l' c p kept G rest) : (segGoT treeTable pg ((w).withFollow "special-get-raises" false) 28 an 1 20 (SL48 w os) ⟨denote treeTable lc, lc, ⟨35, 9, 35, 52⟩, .ret k h g l' c p kept :: G :: rest⟩, segGoT treeTable pg ((w).withFollow "special-get-raises" true) 28 an 1 20 (SL48 w os) ⟨denote treeTable lc, lc, ⟨35, 9, 35, 52⟩, .ret k h g l' c p kept :: G :: rest⟩) = (some (SL49 w os, ⟨denote treeTable lc, lc, ⟨35, 9, 35, 52⟩, .ret k h g l' c p kept :: G :: rest⟩), some (SL49 w os, ⟨denote treeTable lc, lc, ⟨35, 9, 35, 52⟩, .ret k h g l' c p kept :: G :: rest⟩)) := by rw [PySem.W.Fast.te10295753902157049106, PySem.W.Fast.te14364793385576792824, PySem.W.Fast.te11892475500146522536]; kernel_rfl
theorem c849 (w : World) (os : OsState) (k h g l' c p kept G rest) : segGoT treeTable pg (w) 28 an 1 20 (SL48 w os) ⟨denote treeTable lc, lc, ⟨35, 9, 35, 52⟩, .ret k h g l' c p kept :: G :: rest⟩ = some (SL49 w os, ⟨denote treeTable lc, lc, ⟨35, 9, 35, 52⟩, .ret k h g l' c p kept :: G :: rest⟩) := byFollow (row := "special-get-raises") (run := fun V => segGoT treeTable pg (V) 28 an 1 20 (SL48 w os) ⟨denote treeTable lc, lc, ⟨35, 9, 35, 52⟩, .ret k h g l' c p kept :: G :: rest⟩) (r := fun _ => some (SL49 w os, ⟨denote treeTable lc, lc, ⟨35, 9, 35, 52⟩, .ret k h g l' c p kept :: G :: rest⟩)) (b849 w os k h g l' c p kept G rest)
theorem b850 (w : World) (os : OsState) (k h g l' c p kept G rest) : (segGoT treeTable pg ((w).withFollow "special-get-raises" false) 28 an 1 20 (SL49 w os) ⟨denote treeTable lc, lc, ⟨35, 9, 35, 52⟩, .ret k h g l' c p kept :: G :: rest⟩, segGoT treeTable pg ((w).withFollow "special-get-raises" true) 28 an 1 20 (SL49 w os) ⟨denote treeTable lc, lc, ⟨35, 9, 35, 52⟩, .ret k h g l' c p kept :: G :: rest⟩) = (some (SL50 w os, ⟨denote treeTable lc, lc, ⟨35, 9, 35, 52⟩, .ret k h g l' c p kept :: G :: rest⟩), some (SL50 w os, ⟨denote treeTable lc, lc, ⟨35, 9, 35, 52⟩, .ret k h g l' c p kept :: G :: rest⟩)) := by rw [PySem.W.Fast.te10295753902157049106, PySem.W.Fast.te14364793385576792824, PySem.W.Fast.te11892475500146522536]; kernel_rfl
theorem c850 (w : World) (os : OsState) (k h g l' c p kept G rest) : segGoT treeTable pg (w) 28 an 1 20 (SL49 w os) ⟨denote treeTable lc, lc, ⟨35, 9, 35, 52⟩, .ret k h g l' c p kept :: G :: rest⟩ = some (SL50 w os, ⟨denote treeTable lc, lc, ⟨35, 9, 35, 52⟩, .ret k h g l' c p kept :: G :: rest⟩) := byFollow (row := "special-get-raises") (run := fun V => segGoT treeTable pg (V) 28 an 1 20 (SL49 w os) ⟨denote treeTable lc, lc, ⟨35, 9, 35, 52⟩, .ret k h g l' c p kept :: G :: rest⟩) (r := fun _ => some (SL50 w os, ⟨denote treeTable lc, lc, ⟨35, 9, 35, 52⟩, .ret k h g l' c p kept :: G :: rest⟩)) (b850 w os k h g l' c p kept G rest)
theorem b851 (w : World) (os : OsState) (k h g l' c p kept G rest) : (segGoT treeTable pg ((w).withFollow "special-get-raises" false) 28 an 1 20 (SL50 w os) ⟨denote treeTable lc, lc, ⟨35, 9, 35, 52⟩, .ret k h g l' c p kept :: G :: rest⟩, segGoT treeTable pg ((w).withFollow "special-get-raises" true) 28 an 1 20 (SL50 w os) ⟨denote treeTable lc, lc, ⟨35, 9, 35, 52⟩, .ret k h g l' c p kept :: G :: rest⟩) = (some (SL51 w os, ⟨denote treeTable lc, lc, ⟨35, 9, 35, 52⟩, .ret k h g l' c p kept :: G :: rest⟩), some (SL51 w os, ⟨denote treeTable lc, lc, ⟨35, 9, 35, 52⟩, .ret k h g l' c p kept :: G :: rest⟩)) := by rw [PySem.W.Fast.te10295753902157049106, PySem.W.Fast.te14364793385576792824, PySem.W.Fast.te11892475500146522536]; kernel_rfl
theorem c851 (w : World) (os : OsState) (k h g l' c p kept G rest) : segGoT treeTable pg (w) 28 an 1 20 (SL50 w os) ⟨denote treeTable lc, lc, ⟨35, 9, 35, 52⟩, .ret k h g l' c p kept :: G :: rest⟩ = some (SL51 w os, ⟨denote treeTable lc, lc, ⟨35, 9, 35, 52⟩, .ret k h g l' c p kept :: G :: rest⟩) := byFollow (row := "special-get-raises") (run := fun V => segGoT treeTable pg (V) 28 an 1 20 (SL50 w os) ⟨denote treeTable lc, lc, ⟨35, 9, 35, 52⟩, .ret k h g l' c p kept :: G :: rest⟩) (r := fun _ => some (SL51 w os, ⟨denote treeTable lc, lc, ⟨35, 9, 35, 52⟩, .ret k h g l' c p kept :: G :: rest⟩)) (b851 w os k h g l' c p kept G rest)
theorem b852 (w : World) (os : OsState) (k h g l' c p kept G rest) : (segGoT treeTable pg ((w).withFollow "special-get-raises" false) 28 an 1 20 (SL51 w os) ⟨denote treeTable lc, lc, ⟨35, 9, 35, 52⟩, .ret k h g l' c p kept :: G :: rest⟩, segGoT treeTable pg ((w).withFollow "special-get-raises" true) 28 an 1 20 (SL51 w os) ⟨denote treeTable lc, lc, ⟨35, 9, 35, 52⟩, .ret k h g l' c p kept :: G :: rest⟩) = (some (SL52 w os, ⟨denote treeTable lc, lc, ⟨35, 9, 35, 52⟩, .ret k h g l' c p kept :: G :: rest⟩), some (SL52 w os, ⟨denote treeTable lc, lc, ⟨35, 9, 35, 52⟩, .ret k h g l' c p kept :: G :: rest⟩)) := by rw [PySem.W.Fast.te10295753902157049106, PySem.W.Fast.te14364793385576792824, PySem.W.Fast.te11892475500146522536]; kernel_rfl
theorem c852 (w : World) (os : OsState) (k h g l' c p kept G rest) : segGoT treeTable pg (w) 28 an 1 20 (SL51 w os) ⟨denote treeTable lc, lc, ⟨35, 9, 35, 52⟩, .ret k h g l' c p kept :: G :: rest⟩ = some (SL52 w os, ⟨denote treeTable lc, lc, ⟨35, 9, 35, 52⟩, .ret k h g l' c p kept :: G :: rest⟩) := byFollow (row := "special-get-raises") (run := fun V => segGoT treeTable pg (V) 28 an 1 20 (SL51 w os) ⟨denote treeTable lc, lc, ⟨35, 9, 35, 52⟩, .ret k h g l' c p kept :: G :: rest⟩) (r := fun _ => some (SL52 w os, ⟨denote treeTable lc, lc, ⟨35, 9, 35, 52⟩, .ret k h g l' c p kept :: G :: rest⟩)) (b852 w os k h g l' c p kept G rest)
theorem b853 (w : World) (os : OsState) (k h g l' c p kept G rest) : (segGoT treeTable pg ((w).withFollow "special-get-raises" false) 28 an 1 20 (SL52 w os) ⟨denote treeTable lc, lc, ⟨35, 9, 35, 52⟩, .ret k h g l' c p kept :: G :: rest⟩, segGoT treeTable pg ((w).withFollow "special-get-raises" true) 28 an 1 20 (SL52 w os) ⟨denote treeTable lc, lc, ⟨35, 9, 35, 52⟩, .ret k h g l' c p kept :: G :: rest⟩) = (some (SL53 w os, ⟨denote treeTable lc, lc, ⟨35, 9, 35, 52⟩, .ret k h g l' c p kept :: G :: rest⟩), some (SL53 w os, ⟨denote treeTable lc, lc, ⟨35, 9, 35, 52⟩, .ret k h g l' c p kept :: G :: rest⟩)) := by rw [PySem.W.Fast.te10295753902157049106, PySem.W.Fast.te14364793385576792824, PySem.W.Fast.te11892475500146522536]; kernel_rfl
theorem c853 (w : World) (os : OsState) (k h g l' c p kept G rest) : segGoT treeTable pg (w) 28 an 1 20 (SL52 w os) ⟨denote treeTable lc, lc, ⟨35, 9, 35, 52⟩, .ret k h g l' c p kept :: G :: rest⟩ = some (SL53 w os, ⟨denote treeTable lc, lc, ⟨35, 9, 35, 52⟩, .ret k h g l' c p kept :: G :: rest⟩) := byFollow (row := "special-get-raises") (run := fun V => segGoT treeTable pg (V) 28 an 1 20 (SL52 w os) ⟨denote treeTable lc, lc, ⟨35, 9, 35, 52⟩, .ret k h g l' c p kept :: G :: rest⟩) (r := fun _ => some (SL53 w os, ⟨denote treeTable lc, lc, ⟨35, 9, 35, 52⟩, .ret k h g l' c p kept :: G :: rest⟩)) (b853 w os k h g l' c p kept G rest)
theorem b854 (w : World) (os : OsState) (k h g l' c p kept G rest) : (segGoT treeTable pg ((w).withFollow "special-get-raises" false) 28 an 1 20 (SL53 w os) ⟨denote treeTable lc, lc, ⟨35, 9, 35, 52⟩, .ret k h g l' c p kept :: G :: rest⟩, segGoT treeTable pg ((w).withFollow "special-get-raises" true) 28 an 1 20 (SL53 w os) ⟨denote treeTable lc, lc, ⟨35, 9, 35, 52⟩, .ret k h g l' c p kept :: G :: rest⟩) = (some (SL54 w os, ⟨denote treeTable lc, lc, ⟨35, 9, 35, 52⟩, .ret k h g l' c p kept :: G :: rest⟩), some (SL54 w os, ⟨denote treeTable lc, lc, ⟨35, 9, 35, 52⟩, .ret k h g l' c p kept :: G :: rest⟩)) := by rw [PySem.W.Fast.te10295753902157049106, PySem.W.Fast.te14364793385576792824, PySem.W.Fast.te11892475500146522536]; kernel_rfl
theorem c854 (w : World) (os : OsState) (k h g l' c p kept G rest) : segGoT treeTable pg (w) 28 an 1 20 (SL53 w os) ⟨denote treeTable lc, lc, ⟨35, 9, 35, 52⟩, .ret k h g l' c p kept :: G :: rest⟩ = some (SL54 w os, ⟨denote treeTable lc, lc, ⟨35, 9, 35, 52⟩, .ret k h g l' c p kept :: G :: rest⟩) := byFollow (row := "special-get-raises") (run := fun V => segGoT treeTable pg (V) 28 an 1 20 (SL53 w os) ⟨denote treeTable lc, lc, ⟨35, 9, 35, 52⟩, .ret k h g l' c p kept :: G :: rest⟩) (r := fun _ => some (SL54 w os, ⟨denote treeTable lc, lc, ⟨35, 9, 35, 52⟩, .ret k h g l' c p kept :: G :: rest⟩)) (b854 w os k h g l' c p kept G rest)
theorem b855 (w : World) (os : OsState) (k h g l' c p kept G rest) : (segGoT treeTable pg ((w).withFollow "special-get-raises" false) 28 an 1 20 (SL54 w os) ⟨denote treeTable lc, lc, ⟨35, 9, 35, 52⟩, .ret k h g l' c p kept :: G :: rest⟩, segGoT treeTable pg ((w).withFollow "special-get-raises" true) 28 an 1 20 (SL54 w os) ⟨denote treeTable lc, lc, ⟨35, 9, 35, 52⟩, .ret k h g l' c p kept :: G :: rest⟩) = (some (SL55 w os, ⟨denote treeTable lc, lc, ⟨35, 9, 35, 52⟩, .ret k h g l' c p kept :: G :: rest⟩), some (SL55 w os, ⟨denote treeTable lc, lc, ⟨35, 9, 35, 52⟩, .ret k h g l' c p kept :: G :: rest⟩)) := by rw [PySem.W.Fast.te10295753902157049106, PySem.W.Fast.te14364793385576792824, PySem.W.Fast.te11892475500146522536]; kernel_rfl
theorem c855 (w : World) (os : OsState) (k h g l' c p kept G rest) : segGoT treeTable pg (w) 28 an 1 20 (SL54 w os) ⟨denote treeTable lc, lc, ⟨35, 9, 35, 52⟩, .ret k h g l' c p kept :: G :: rest⟩ = some (SL55 w os, ⟨denote treeTable lc, lc, ⟨35, 9, 35, 52⟩, .ret k h g l' c p kept :: G :: rest⟩) := byFollow (row := "special-get-raises") (run := fun V => segGoT treeTable pg (V) 28 an 1 20 (SL54 w os) ⟨denote treeTable lc, lc, ⟨35, 9, 35, 52⟩, .ret k h g l' c p kept :: G :: rest⟩) (r := fun _ => some (SL55 w os, ⟨denote treeTable lc, lc, ⟨35, 9, 35, 52⟩, .ret k h g l' c p kept :: G :: rest⟩)) (b855 w os k h g l' c p kept G rest)
theorem b856 (w : World) (os : OsState) (k h g l' c p kept G rest) : (segGoT treeTable pg ((w).withFollow "special-get-raises" false) 28 an 1 20 (SL55 w os) ⟨denote treeTable lc, lc, ⟨35, 9, 35, 52⟩, .ret k h g l' c p kept :: G :: rest⟩, segGoT treeTable pg ((w).withFollow "special-get-raises" true) 28 an 1 20 (SL55 w os) ⟨denote treeTable lc, lc, ⟨35, 9, 35, 52⟩, .ret k h g l' c p kept :: G :: rest⟩) = (some (SL56 w os, ⟨denote treeTable lc, lc, ⟨35, 9, 35, 52⟩, .ret k h g l' c p kept :: G :: rest⟩), some (SL56 w os, ⟨denote treeTable lc, lc, ⟨35, 9, 35, 52⟩, .ret k h g l' c p kept :: G :: rest⟩)) := by rw [PySem.W.Fast.te10295753902157049106, PySem.W.Fast.te14364793385576792824, PySem.W.Fast.te11892475500146522536]; kernel_rfl
theorem c856 (w : World) (os : OsState) (k h g l' c p kept G rest) : segGoT treeTable pg (w) 28 an 1 20 (SL55 w os) ⟨denote treeTable lc, lc, ⟨35, 9, 35, 52⟩, .ret k h g l' c p kept :: G :: rest⟩ = some (SL56 w os, ⟨denote treeTable lc, lc, ⟨35, 9, 35, 52⟩, .ret k h g l' c p kept :: G :: rest⟩) := byFollow (row := "special-get-raises") (run := fun V => segGoT treeTable pg (V) 28 an 1 20 (SL55 w os) ⟨denote treeTable lc, lc, ⟨35, 9, 35, 52⟩, .ret k h g l' c p kept :: G :: rest⟩) (r := fun _ => some (SL56 w os, ⟨denote treeTable lc, lc, ⟨35, 9, 35, 52⟩, .ret k h g l' c p kept :: G :: rest⟩)) (b856 w os k h g l' c p kept G rest)
theorem b857 (w : World) (os : OsState) (k h g l' c p kept G rest) : (segGoT treeTable pg ((w).withFollow "special-get-raises" false) 28 an 1 20 (SL56 w os) ⟨denote treeTable lc, lc, ⟨35, 9, 35, 52⟩, .ret k h g l' c p kept :: G :: rest⟩, segGoT treeTable pg ((w).withFollow "special-get-raises" true) 28 an 1 20 (SL56 w os) ⟨denote treeTable lc, lc, ⟨35, 9, 35, 52⟩, .ret k h g l' c p kept :: G :: rest⟩) = (some (SL57 w os, ⟨denote treeTable lc, lc, ⟨35, 9, 35, 52⟩, .ret k h g l' c p kept :: G :: rest⟩), some (SL57 w os, ⟨denote treeTable lc, lc, ⟨35, 9, 35, 52⟩, .ret k h g l' c p kept :: G :: rest⟩)) := by rw [PySem.W.Fast.te10295753902157049106, PySem.W.Fast.te14364793385576792824, PySem.W.Fast.te11892475500146522536]; kernel_rfl
theorem c857 (w : World) (os : OsState) (k h g l' c p kept G rest) : segGoT treeTable pg (w) 28 an 1 20 (SL56 w os) ⟨denote treeTable lc, lc, ⟨35, 9, 35, 52⟩, .ret k h g l' c p kept :: G :: rest⟩ = some (SL57 w os, ⟨denote treeTable lc, lc, ⟨35, 9, 35, 52⟩, .ret k h g l' c p kept :: G :: rest⟩) := byFollow (row := "special-get-raises") (run := fun V => segGoT treeTable pg (V) 28 an 1 20 (SL56 w os) ⟨denote treeTable lc, lc, ⟨35, 9, 35, 52⟩, .ret k h g l' c p kept :: G :: rest⟩) (r := fun _ => some (SL57 w os, ⟨denote treeTable lc, lc, ⟨35, 9, 35, 52⟩, .ret k h g l' c p kept :: G :: rest⟩)) (b857 w os k h g l' c p kept G rest)
theorem b858 (w : World) (os : OsState) (k h g l' c p kept G rest) : (segGoT treeTable pg ((w).withFollow "special-get-raises" false) 28 an 1 20 (SL57 w os) ⟨denote treeTable lc, lc, ⟨35, 9, 35, 52⟩, .ret k h g l' c p kept :: G :: rest⟩, segGoT treeTable pg ((w).withFollow "special-get-raises" true) 28 an 1 20 (SL57 w os) ⟨denote treeTable lc, lc, ⟨35, 9, 35, 52⟩, .ret k h g l' c p kept :: G :: rest⟩) = (some (SL58 w os, ⟨denote treeTable lc, lc, ⟨35, 9, 35, 52⟩, .ret k h g l' c p kept :: G :: rest⟩), some (SL58 w os, ⟨denote treeTable lc, lc, ⟨35, 9, 35, 52⟩, .ret k h g l' c p kept :: G :: rest⟩)) := by rw [PySem.W.Fast.te10295753902157049106, PySem.W.Fast.te14364793385576792824, PySem.W.Fast.te11892475500146522536]; kernel_rfl
theorem c858 (w : World) (os : OsState) (k h g l' c p kept G rest) : segGoT treeTable pg (w) 28 an 1 20 (SL57 w os) ⟨denote treeTable lc, lc, ⟨35, 9, 35, 52⟩, .ret k h g l' c p kept :: G :: rest⟩ = some (SL58 w os, ⟨denote treeTable lc, lc, ⟨35, 9, 35, 52⟩, .ret k h g l' c p kept :: G :: rest⟩) := byFollow (row := "special-get-raises") (run := fun V => segGoT treeTable pg (V) 28 an 1 20 (SL57 w os) ⟨denote treeTable lc, lc, ⟨35, 9, 35, 52⟩, .ret k h g l' c p kept :: G :: rest⟩) (r := fun _ => some (SL58 w os, ⟨denote treeTable lc, lc, ⟨35, 9, 35, 52⟩, .ret k h g l' c p kept :: G :: rest⟩)) (b858 w os k h g l' c p kept G rest)
theorem b859 (w : World) (os : OsState) (k h g l' c p kept G rest) : (segGoT treeTable pg ((w).withFollow "special-get-raises" false) 28 an 1 20 (SL58 w os) ⟨denote treeTable lc, lc, ⟨35, 9, 35, 52⟩, .ret k h g l' c p kept :: G :: rest⟩, segGoT treeTable pg ((w).withFollow "special-get-raises" true) 28 an 1 20 (SL58 w os) ⟨denote treeTable lc, lc, ⟨35, 9, 35, 52⟩, .ret k h g l' c p kept :: G :: rest⟩) = (some (SL59 w os, ⟨denote treeTable lc, lc, ⟨35, 9, 35, 52⟩, .ret k h g l' c p kept :: G :: rest⟩), some (SL59 w os, ⟨denote treeTable lc, lc, ⟨35, 9, 35, 52⟩, .ret k h g l' c p kept :: G :: rest⟩)) := by rw [PySem.W.Fast.te10295753902157049106, PySem.W.Fast.te14364793385576792824, PySem.W.Fast.te11892475500146522536]; kernel_rfl
theorem c859 (w : World) (os : OsState) (k h g l' c p kept G rest) : segGoT treeTable pg (w) 28 an 1 20 (SL58 w os) ⟨denote treeTable lc, lc, ⟨35, 9, 35, 52⟩, .ret k h g l' c p kept :: G :: rest⟩ = some (SL59 w os, ⟨denote treeTable lc, lc, ⟨35, 9, 35, 52⟩, .ret k h g l' c p kept :: G :: rest⟩) := byFollow (row := "special-get-raises") (run := fun V => segGoT treeTable pg (V) 28 an 1 20 (SL58 w os) ⟨denote treeTable lc, lc, ⟨35, 9, 35, 52⟩, .ret k h g l' c p kept :: G :: rest⟩) (r := fun _ => some (SL59 w os, ⟨denote treeTable lc, lc, ⟨35, 9, 35, 52⟩, .ret k h g l' c p kept :: G :: rest⟩)) (b859 w os k h g l' c p kept G rest)
theorem b860 (w : World) (os : OsState) (k h g l' c p kept G rest) : (segGoT treeTable pg ((w).withFollow "special-get-raises" false) 28 an 1 20 (SL59 w os) ⟨denote treeTable lc, lc, ⟨35, 9, 35, 52⟩, .ret k h g l' c p kept :: G :: rest⟩, segGoT treeTable pg ((w).withFollow "special-get-raises" true) 28 an 1 20 (SL59 w os) ⟨denote treeTable lc, lc, ⟨35, 9, 35, 52⟩, .ret k h g l' c p kept :: G :: rest⟩) = (some (SL60 w os, ⟨denote treeTable lc, lc, ⟨35, 9, 35, 52⟩, .ret k h g l' c p kept :: G :: rest⟩), some (SL60 w os, ⟨denote treeTable lc, lc, ⟨35, 9, 35, 52⟩, .ret k h g l' c p kept :: G :: rest⟩)) := by rw [PySem.W.Fast.te10295753902157049106, PySem.W.Fast.te14364793385576792824, PySem.W.Fast.te11892475500146522536]; kernel_rfl
theorem c860 (w : World) (os : OsState) (k h g l' c p kept G rest) : segGoT treeTable pg (w) 28 an 1 20 (SL59 w os) ⟨denote treeTable lc, lc, ⟨35, 9, 35, 52⟩, .ret k h g l' c p kept :: G :: rest⟩ = some (SL60 w os, ⟨denote treeTable lc, lc, ⟨35, 9, 35, 52⟩, .ret k h g l' c p kept :: G :: rest⟩) := byFollow (row := "special-get-raises") (run := fun V => segGoT treeTable pg (V) 28 an 1 20 (SL59 w os) ⟨denote treeTable lc, lc, ⟨35, 9, 35, 52⟩, .ret k h g l' c p kept :: G :: rest⟩) (r := fun _ => some (SL60 w os, ⟨denote treeTable lc, lc, ⟨35, 9, 35, 52⟩, .ret k h g l' c p kept :: G :: rest⟩)) (b860 w os k h g l' c p kept G rest)
theorem b861 (w : World) (os : OsState) (k h g l' c p kept G rest) : (segGoT treeTable pg ((w).withFollow "special-get-raises" false) 28 an 1 20 (SL60 w os) ⟨denote treeTable lc, lc, ⟨35, 9, 35, 52⟩, .ret k h g l' c p kept :: G :: rest⟩, segGoT treeTable pg ((w).withFollow "special-get-raises" true) 28 an 1 20 (SL60 w os) ⟨denote treeTable lc, lc, ⟨35, 9, 35, 52⟩, .ret k h g l' c p kept :: G :: rest⟩) = (some (SL61 w os, ⟨denote treeTable lc, lc, ⟨35, 9, 35, 52⟩, .ret k h g l' c p kept :: G :: rest⟩), some (SL61 w os, ⟨denote treeTable lc, lc, ⟨35, 9, 35, 52⟩, .ret k h g l' c p kept :: G :: rest⟩)) := by rw [PySem.W.Fast.te10295753902157049106, PySem.W.Fast.te14364793385576792824, PySem.W.Fast.te11892475500146522536]; kernel_rfl
theorem c861 (w : World) (os : OsState) (k h g l' c p kept G rest) : segGoT treeTable pg (w) 28 an 1 20 (SL60 w os) ⟨denote treeTable lc, lc, ⟨35, 9, 35, 52⟩, .ret k h g l' c p kept :: G :: rest⟩ = some (SL61 w os, ⟨denote treeTable lc, lc, ⟨35, 9, 35, 52⟩, .ret k h g l' c p kept :: G :: rest⟩) := byFollow (row := "special-get-raises") (run := fun V => segGoT treeTable pg (V) 28 an 1 20 (SL60 w os) ⟨denote treeTable lc, lc, ⟨35, 9, 35, 52⟩, .ret k h g l' c p kept :: G :: rest⟩) (r := fun _ => some (SL61 w os, ⟨denote treeTable lc, lc, ⟨35, 9, 35, 52⟩, .ret k h g l' c p kept :: G :: rest⟩)) (b861 w os k h g l' c p kept G rest)
theorem b862 (w : World) (os : OsState) (k h g l' c p kept G rest) : (segGoT treeTable pg ((w).withFollow "special-get-raises" false) 28 an 1 20 (SL61 w os) ⟨denote treeTable lc, lc, ⟨35, 9, 35, 52⟩, .ret k h g l' c p kept :: G :: rest⟩, segGoT treeTable pg ((w).withFollow "special-get-raises" true) 28 an 1 20 (SL61 w os) ⟨denote treeTable lc, lc, ⟨35, 9, 35, 52⟩, .ret k h g l' c p kept :: G :: rest⟩) = (some (SL62 w os, ⟨denote treeTable lc, lc, ⟨35, 9, 35, 52⟩, .ret k h g l' c p kept :: G :: rest⟩), some (SL62 w os, ⟨denote treeTable lc, lc, ⟨35, 9, 35, 52⟩, .ret k h g l' c p kept :: G :: rest⟩)) := by rw [PySem.W.Fast.te10295753902157049106, PySem.W.Fast.te14364793385576792824, PySem.W.Fast.te11892475500146522536]; kernel_rfl
theorem c862 (w : World) (os : OsState) (k h g l' c p kept G rest) : segGoT treeTable pg (w) 28 an 1 20 (SL61 w os) ⟨denote treeTable lc, lc, ⟨35, 9, 35, 52⟩, .ret k h g l' c p kept :: G :: rest⟩ = some (SL62 w os, ⟨denote treeTable lc, lc, ⟨35, 9, 35, 52⟩, .ret k h g l' c p kept :: G :: rest⟩) := byFollow (row := "special-get-raises") (run := fun V => segGoT treeTable pg (V) 28 an 1 20 (SL61 w os) ⟨denote treeTable lc, lc, ⟨35, 9, 35, 52⟩, .ret k h g l' c p kept :: G :: rest⟩) (r := fun _ => some (SL62 w os, ⟨denote treeTable lc, lc, ⟨35, 9, 35, 52⟩, .ret k h g l' c p kept :: G :: rest⟩)) (b862 w os k h g l' c p kept G rest)
theorem b863 (w : World) (os : OsState) (k h g l' c p kept G rest) : (segGoT treeTable pg ((w).withFollow "special-get-raises" false) 28 an 1 20 (SL62 w os) ⟨denote treeTable lc, lc, ⟨35, 9, 35, 52⟩, .ret k h g l' c p kept :: G :: rest⟩, segGoT treeTable pg ((w).withFollow "special-get-raises" true) 28 an 1 20 (SL62 w os) ⟨denote treeTable lc, lc, ⟨35, 9, 35, 52⟩, .ret k h g l' c p kept :: G :: rest⟩) = (some (SL63 w os, ⟨denote treeTable lc, lc, ⟨35, 9, 35, 52⟩, .ret k h g l' c p kept :: G :: rest⟩), some (SL63 w os, ⟨denote treeTable lc, lc, ⟨35, 9, 35, 52⟩, .ret k h g l' c p kept :: G :: rest⟩)) := by rw [PySem.W.Fast.te10295753902157049106, PySem.W.Fast.te14364793385576792824, PySem.W.Fast.te11892475500146522536]; kernel_rfl
theorem c863 (w : World) (os : OsState) (k h g l' c p kept G rest) : segGoT treeTable pg (w) 28 an 1 20 (SL62 w os) ⟨denote treeTable lc, lc, ⟨35, 9, 35, 52⟩, .ret k h g l' c p kept :: G :: rest⟩ = some (SL63 w os, ⟨denote treeTable lc, lc, ⟨35, 9, 35, 52⟩, .ret k h g l' c p kept :: G :: rest⟩) := byFollow (row := "special-get-raises") (run := fun V => segGoT treeTable pg (V) 28 an 1 20 (SL62 w os) ⟨denote treeTable lc, lc, ⟨35, 9, 35, 52⟩, .ret k h g l' c p kept :: G :: rest⟩) (r := fun _ => some (SL63 w os, ⟨denote treeTable lc, lc, ⟨35, 9, 35, 52⟩, .ret k h g l' c p kept :: G :: rest⟩)) (b863 w os k h g l' c p kept G rest)
theorem b864 (w : World) (os : OsState) (k h g l' c p kept G rest) : (segGoT treeTable pg ((w).withFollow "special-get-raises" false) 28 an 1 20 (SL63 w os) ⟨denote treeTable lc, lc, ⟨35, 9, 35, 52⟩, .ret k h g l' c p kept :: G :: rest⟩, segGoT treeTable pg ((w).withFollow "special-get-raises" true) 28 an 1 20 (SL63 w os) ⟨denote treeTable lc, lc, ⟨35, 9, 35, 52⟩, .ret k h g l' c p kept :: G :: rest⟩) = (some (SL64 w os, ⟨denote treeTable lc, lc, ⟨35, 9, 35, 52⟩, .ret k h g l' c p kept :: G :: rest⟩), some (SL64 w os, ⟨denote treeTable lc, lc, ⟨35, 9, 35, 52⟩, .ret k h g l' c p kept :: G :: rest⟩)) := by rw [PySem.W.Fast.te10295753902157049106, PySem.W.Fast.te14364793385576792824, PySem.W.Fast.te11892475500146522536]; kernel_rfl
theorem c864 (w : World) (os : OsState) (k h g l' c p kept G rest) : segGoT treeTable pg (w) 28 an 1 20 (SL63 w os) ⟨denote treeTable lc, lc, ⟨35, 9, 35, 52⟩, .ret k h g l' c p kept :: G :: rest⟩ = some (SL64 w os, ⟨denote treeTable lc, lc, ⟨35, 9, 35, 52⟩, .ret k h g l' c p kept :: G :: rest⟩) := byFollow (row := "special-get-raises") (run := fun V => segGoT treeTable pg (V) 28 an 1 20 (SL63 w os) ⟨denote treeTable lc, lc, ⟨35, 9, 35, 52⟩, .ret k h g l' c p kept :: G :: rest⟩) (r := fun _ => some (SL64 w os, ⟨denote treeTable lc, lc, ⟨35, 9, 35, 52⟩, .ret k h g l' c p kept :: G :: rest⟩)) (b864 w os k h g l' c p kept G rest)
theorem b865 (w : World) (os : OsState) (k h g l' c p kept G rest) : (segGoT treeTable pg ((w).withFollow "special-get-raises" false) 28 an 1 20 (SL64 w os) ⟨denote treeTable lc, lc, ⟨35, 9, 35, 52⟩, .ret k h g l' c p kept :: G :: rest⟩, segGoT treeTable pg ((w).withFollow "special-get-raises" true) 28 an 1 20 (SL64 w os) ⟨denote treeTable lc, lc, ⟨35, 9, 35, 52⟩, .ret k h g l' c p kept :: G :: rest⟩) = (some (SL65 w os, ⟨denote treeTable lc, lc, ⟨35, 9, 35, 52⟩, .ret k h g l' c p kept :: G :: rest⟩), some (SL65 w os, ⟨denote treeTable lc, lc, ⟨35, 9, 35, 52⟩, .ret k h g l' c p kept :: G :: rest⟩)) := by rw [PySem.W.Fast.te10295753902157049106, PySem.W.Fast.te14364793385576792824, PySem.W.Fast.te11892475500146522536]; kernel_rfl
theorem c865 (w : World) (os : OsState) (k h g l' c p kept G rest) : segGoT treeTable pg (w) 28 an 1 20 (SL64 w os) ⟨denote treeTable lc, lc, ⟨35, 9, 35, 52⟩, .ret k h g l' c p kept :: G :: rest⟩ = some (SL65 w os, ⟨denote treeTable lc, lc, ⟨35, 9, 35, 52⟩, .ret k h g l' c p kept :: G :: rest⟩) := byFollow (row := "special-get-raises") (run := fun V => segGoT treeTable pg (V) 28 an 1 20 (SL64 w os) ⟨denote treeTable lc, lc, ⟨35, 9, 35, 52⟩, .ret k h g l' c p kept :: G :: rest⟩) (r := fun _ => some (SL65 w os, ⟨denote treeTable lc, lc, ⟨35, 9, 35, 52⟩, .ret k h g l' c p kept :: G :: rest⟩)) (b865 w os k h g l' c p kept G rest)
theorem b866 (w : World) (os : OsState) (k h g l' c p kept G rest) : (segGoT treeTable pg ((w).withFollow "special-get-raises" false) 28 an 1 20 (SL65 w os) ⟨denote treeTable lc, lc, ⟨35, 9, 35, 52⟩, .ret k h g l' c p kept :: G :: rest⟩, segGoT treeTable pg ((w).withFollow "special-get-raises" true) 28 an 1 20 (SL65 w os) ⟨denote treeTable lc, lc, ⟨35, 9, 35, 52⟩, .ret k h g l' c p kept :: G :: rest⟩) = (some (SL66 w os, ⟨denote treeTable lc, lc, ⟨35, 9, 35, 52⟩, .ret k h g l' c p kept :: G :: rest⟩), some (SL66 w os, ⟨denote treeTable lc, lc, ⟨35, 9, 35, 52⟩, .ret k h g l' c p kept :: G :: rest⟩)) := by rw [PySem.W.Fast.te10295753902157049106, PySem.W.Fast.te14364793385576792824, PySem.W.Fast.te11892475500146522536]; kernel_rfl
theorem c866 (w : World) (os : OsState) (k h g l' c p kept G rest) : segGoT treeTable pg (w) 28 an 1 20 (SL65 w os) ⟨denote treeTable lc, lc, ⟨35, 9, 35, 52⟩, .ret k h g l' c p kept :: G :: rest⟩ = some (SL66 w os, ⟨denote treeTable lc, lc, ⟨35, 9, 35, 52⟩, .ret k h g l' c p kept :: G :: rest⟩) := byFollow (row := "special-get-raises") (run := fun V => segGoT treeTable pg (V) 28 an 1 20 (SL65 w os) ⟨denote treeTable lc, lc, ⟨35, 9, 35, 52⟩, .ret k h g l' c p kept :: G :: rest⟩) (r := fun _ => some (SL66 w os, ⟨denote treeTable lc, lc, ⟨35, 9, 35, 52⟩, .ret k h g l' c p kept :: G :: rest⟩)) (b866 w os k h g l' c p kept G rest)
theorem b867 (w : World) (os : OsState) (k h g l' c p kept G rest) : (segGoT treeTable pg ((w).withFollow "special-get-raises" false) 28 an 1 20 (SL66 w os) ⟨denote treeTable lc, lc, ⟨35, 9, 35, 52⟩, .ret k h g l' c p kept :: G :: rest⟩, segGoT treeTable pg ((w).withFollow "special-get-raises" true) 28 an 1 20 (SL66 w os) ⟨denote treeTable lc, lc, ⟨35, 9, 35, 52⟩, .ret k h g l' c p kept :: G :: rest⟩) = (some (SL67 w os, ⟨denote treeTable lc, lc, ⟨35, 9, 35, 52⟩, .ret k h g l' c p kept :: G :: rest⟩), some (SL67 w os, ⟨denote treeTable lc, lc, ⟨35, 9, 35, 52⟩, .ret k h g l' c p kept :: G :: rest⟩)) := by rw [PySem.W.Fast.te10295753902157049106, PySem.W.Fast.te14364793385576792824, PySem.W.Fast.te11892475500146522536]; kernel_rfl
theorem c867 (w : World) (os : OsState) (k h g l' c p kept G rest) : segGoT treeTable pg (w) 28 an 1 20 (SL66 w os) ⟨denote treeTable lc, lc, ⟨35, 9, 35, 52⟩, .ret k h g l' c p kept :: G :: rest⟩ = some (SL67 w os, ⟨denote treeTable lc, lc, ⟨35, 9, 35, 52⟩, .ret k h g l' c p kept :: G :: rest⟩) := byFollow (row := "special-get-raises") (run := fun V => segGoT treeTable pg (V) 28 an 1 20 (SL66 w os) ⟨denote treeTable lc, lc, ⟨35, 9, 35, 52⟩, .ret k h g l' c p kept :: G :: rest⟩) (r := fun _ => some (SL67 w os, ⟨denote treeTable lc, lc, ⟨35, 9, 35, 52⟩, .ret k h g l' c p kept :: G :: rest⟩)) (b867 w os k h g l' c p kept G rest)
theorem b868 (w : World) (os : OsState) (k h g l' c p kept G rest) : (segGoT treeTable pg ((w).withFollow "special-get-raises" false) 28 an 1 20 (SL67 w os) ⟨denote treeTable lc, lc, ⟨35, 9, 35, 52⟩, .ret k h g l' c p kept :: G :: rest⟩, segGoT treeTable pg ((w).withFollow "special-get-raises" true) 28 an 1 20 (SL67 w os) ⟨denote treeTable lc, lc, ⟨35, 9, 35, 52⟩, .ret k h g l' c p kept :: G :: rest⟩) = (some (SL68 w os, ⟨denote treeTable lc, lc, ⟨35, 9, 35, 52⟩, .ret k h g l' c p kept :: G :: rest⟩), some (SL68 w os, ⟨denote treeTable lc, lc, ⟨35, 9, 35, 52⟩, .ret k h g l' c p kept :: G :: rest⟩)) := by rw [PySem.W.Fast.te10295753902157049106, PySem.W.Fast.te14364793385576792824, PySem.W.Fast.te11892475500146522536]; kernel_rfl
theorem c868 (w : World) (os : OsState) (k h g l' c p kept G rest) : segGoT treeTable pg (w) 28 an 1 20 (SL67 w os) ⟨denote treeTable lc, lc, ⟨35, 9, 35, 52⟩, .ret k h g l' c p kept :: G :: rest⟩ = some (SL68 w os, ⟨denote treeTable lc, lc, ⟨35, 9, 35, 52⟩, .ret k h g l' c p kept :: G :: rest⟩) := byFollow (row := "special-get-raises") (run := fun V => segGoT treeTable pg (V) 28 an 1 20 (SL67 w os) ⟨denote treeTable lc, lc, ⟨35, 9, 35, 52⟩, .ret k h g l' c p kept :: G :: rest⟩) (r := fun _ => some (SL68 w os, ⟨denote treeTable lc, lc, ⟨35, 9, 35, 52⟩, .ret k h g l' c p kept :: G :: rest⟩)) (b868 w os k h g l' c p kept G rest)
theorem b869 (w : World) (os : OsState) (k h g l' c p kept G rest) : (segGoT treeTable pg ((w).withFollow "special-get-raises" false) 28 an 1 20 (SL68 w os) ⟨denote treeTable lc, lc, ⟨35, 9, 35, 52⟩, .ret k h g l' c p kept :: G :: rest⟩, segGoT treeTable pg ((w).withFollow "special-get-raises" true) 28 an 1 20 (SL68 w os) ⟨denote treeTable lc, lc, ⟨35, 9, 35, 52⟩, .ret k h g l' c p kept :: G :: rest⟩) = (some (SL69 w os, ⟨denote treeTable lc, lc, ⟨35, 9, 35, 52⟩, .ret k h g l' c p kept :: G :: rest⟩), some (SL69 w os, ⟨denote treeTable lc, lc, ⟨35, 9, 35, 52⟩, .ret k h g l' c p kept :: G :: rest⟩)) := by rw [PySem.W.Fast.te10295753902157049106, PySem.W.Fast.te14364793385576792824, PySem.W.Fast.te11892475500146522536]; kernel_rfl
theorem c869 (w : World) (os : OsState) (k h g l' c p kept G rest) : segGoT treeTable pg (w) 28 an 1 20 (SL68 w os) ⟨denote treeTable lc, lc, ⟨35, 9, 35, 52⟩, .ret k h g l' c p kept :: G :: rest⟩ = some (SL69 w os, ⟨denote treeTable lc, lc, ⟨35, 9, 35, 52⟩, .ret k h g l' c p kept :: G :: rest⟩) := byFollow (row := "special-get-raises") (run := fun V => segGoT treeTable pg (V) 28 an 1 20 (SL68 w os) ⟨denote treeTable lc, lc, ⟨35, 9, 35, 52⟩, .ret k h g l' c p kept :: G :: rest⟩) (r := fun _ => some (SL69 w os, ⟨denote treeTable lc, lc, ⟨35, 9, 35, 52⟩, .ret k h g l' c p kept :: G :: rest⟩)) (b869 w os k h g l' c p kept G rest)
theorem b870 (w : World) (os : OsState) (k h g l' c p kept G rest) : (segGoT treeTable pg ((w).withFollow "special-get-raises" false) 28 an 1 20 (SL69 w os) ⟨denote treeTable lc, lc, ⟨35, 9, 35, 52⟩, .ret k h g l' c p kept :: G :: rest⟩, segGoT treeTable pg ((w).withFollow "special-get-raises" true) 28 an 1 20 (SL69 w os) ⟨denote treeTable lc, lc, ⟨35, 9, 35, 52⟩, .ret k h g l' c p kept :: G :: rest⟩) = (some (SL70 w os, ⟨denote treeTable lc, lc, ⟨35, 9, 35, 52⟩, .ret k h g l' c p kept :: G :: rest⟩), some (SL70 w os, ⟨denote treeTable lc, lc, ⟨35, 9, 35, 52⟩, .ret k h g l' c p kept :: G :: rest⟩)) := by rw [PySem.W.Fast.te10295753902157049106, PySem.W.Fast.te14364793385576792824, PySem.W.Fast.te11892475500146522536]; kernel_rfl
theorem c870 (w : World) (os : OsState) (k h g l' c p kept G rest) : segGoT treeTable pg (w) 28 an 1 20 (SL69 w os) ⟨denote treeTable lc, lc, ⟨35, 9, 35, 52⟩, .ret k h g l' c p kept :: G :: rest⟩ = some (SL70 w os, ⟨denote treeTable lc, lc, ⟨35, 9, 35, 52⟩, .ret k h g l' c p kept :: G :: rest⟩) := byFollow (row := "special-get-raises") (run := fun V => segGoT treeTable pg (V) 28 an 1 20 (SL69 w os) ⟨denote treeTable lc, lc, ⟨35, 9, 35, 52⟩, .ret k h g l' c p kept :: G :: rest⟩) (r := fun _ => some (SL70 w os, ⟨denote treeTable lc, lc, ⟨35, 9, 35, 52⟩, .ret k h g l' c p kept :: G :: rest⟩)) (b870 w os k h g l' c p kept G rest)
theorem b871 (w : World) (os : OsState) (k h g l' c p kept G rest) : (segGoT treeTable pg ((w).withFollow "special-get-raises" false) 28 an 1 20 (SL70 w os) ⟨denote treeTable lc, lc, ⟨35, 9, 35, 52⟩, .ret k h g l' c p kept :: G :: rest⟩, segGoT treeTable pg ((w).withFollow "special-get-raises" true) 28 an 1 20 (SL70 w os) ⟨denote treeTable lc, lc, ⟨35, 9, 35, 52⟩, .ret k h g l' c p kept :: G :: rest⟩) = (some (SL71 w os, ⟨denote treeTable lc, lc, ⟨35, 9, 35, 52⟩, .ret k h g l' c p kept :: G :: rest⟩), some (SL71 w os, ⟨denote treeTable lc, lc, ⟨35, 9, 35, 52⟩, .ret k h g l' c p kept :: G :: rest⟩)) := by rw [PySem.W.Fast.te10295753902157049106, PySem.W.Fast.te14364793385576792824, PySem.W.Fast.te11892475500146522536]; kernel_rfl
theorem c871 (w : World) (os : OsState) (k h g l' c p kept G rest) : segGoT treeTable pg (w) 28 an 1 20 (SL70 w os) ⟨denote treeTable lc, lc, ⟨35, 9, 35, 52⟩, .ret k h g l' c p kept :: G :: rest⟩ = some (SL71 w os, ⟨denote treeTable lc, lc, ⟨35, 9, 35, 52⟩, .ret k h g l' c p kept :: G :: rest⟩) := byFollow (row := "special-get-raises") (run := fun V => segGoT treeTable pg (V) 28 an 1 20 (SL70 w os) ⟨denote treeTable lc, lc, ⟨35, 9, 35, 52⟩, .ret k h g l' c p kept :: G :: rest⟩) (r := fun _ => some (SL71 w os, ⟨denote treeTable lc, lc, ⟨35, 9, 35, 52⟩, .ret k h g l' c p kept :: G :: rest⟩)) (b871 w os k h g l' c p kept G rest)
theorem b872 (w : World) (os : OsState) (k h g l' c p kept G rest) : (segGoT treeTable pg ((w).withFollow "special-get-raises" false) 28 an 1 22 (SL71 w os) ⟨denote treeTable lc, lc, ⟨35, 9, 35, 52⟩, .ret k h g l' c p kept :: G :: rest⟩, segGoT treeTable pg ((w).withFollow "special-get-raises" true) 28 an 1 22 (SL71 w os) ⟨denote treeTable lc, lc, ⟨35, 9, 35, 52⟩, .ret k h g l' c p kept :: G :: rest⟩) = (some (SL72 w os, ⟨denote treeTable lc, lc, ⟨35, 9, 35, 52⟩, .ret k h g l' c p kept :: G :: rest⟩), some (SL72 w os, ⟨denote treeTable lc, lc, ⟨35, 9, 35, 52⟩, .ret k h g l' c p kept :: G :: rest⟩)) := by rw [PySem.W.Fast.te10295753902157049106, PySem.W.Fast.te14364793385576792824, PySem.W.Fast.te11892475500146522536]; kernel_rfl
theorem c872 (w : World) (os : OsState) (k h g l' c p kept G rest) : segGoT treeTable pg (w) 28 an 1 22 (SL71 w os) ⟨denote treeTable lc, lc, ⟨35, 9, 35, 52⟩, .ret k h g l' c p kept :: G :: rest⟩ = some (SL72 w os, ⟨denote treeTable lc, lc, ⟨35, 9, 35, 52⟩, .ret k h g l' c p kept :: G :: rest⟩) := byFollow (row := "special-get-raises") (run := fun V => segGoT treeTable pg (V) 28 an 1 22 (SL71 w os) ⟨denote treeTable lc, lc, ⟨35, 9, 35, 52⟩, .ret k h g l' c p kept :: G :: rest⟩) (r := fun _ => some (SL72 w os, ⟨denote treeTable lc, lc, ⟨35, 9, 35, 52⟩, .ret k h g l' c p kept :: G :: rest⟩)) (b872 w os k h g l' c p kept G rest)
theorem b873 (w : World) (os : OsState) (k h g l' c p kept G rest) : (segGoT treeTable pg ((w).withFollow "special-get-raises" false) 28 an 1 20 (SL72 w os) ⟨denote treeTable lc, lc, ⟨35, 9, 35, 52⟩, .ret k h g l' c p kept :: G :: rest⟩, segGoT treeTable pg ((w).withFollow "special-get-raises" true) 28 an 1 20 (SL72 w os) ⟨denote treeTable lc, lc, ⟨35, 9, 35, 52⟩, .ret k h g l' c p kept :: G :: rest⟩) = (some (SL73 w os, ⟨denote treeTable lc, lc, ⟨35, 9, 35, 52⟩, .ret k h g l' c p kept :: G :: rest⟩), some (SL73 w os, ⟨denote treeTable lc, lc, ⟨35, 9, 35, 52⟩, .ret k h g l' c p kept :: G :: rest⟩)) := by rw [PySem.W.Fast.te10295753902157049106, PySem.W.Fast.te14364793385576792824, PySem.W.Fast.te11892475500146522536]; kernel_rfl
theorem c873 (w : World) (os : OsState) (k h g l' c p kept G rest) : segGoT treeTable pg (w) 28 an 1 20 (SL72 w os) ⟨denote treeTable lc, lc, ⟨35, 9, 35, 52⟩, .ret k h g l' c p kept :: G :: rest⟩ = some (SL73 w os, ⟨denote treeTable lc, lc, ⟨35, 9, 35, 52⟩, .ret k h g l' c p kept :: G :: rest⟩) := byFollow (row := "special-get-raises") (run := fun V => segGoT treeTable pg (V) 28 an 1 20 (SL72 w os) ⟨denote treeTable lc, lc, ⟨35, 9, 35, 52⟩, .ret k h g l' c p kept :: G :: rest⟩) (r := fun _ => some (SL73 w os, ⟨denote treeTable lc, lc, ⟨35, 9, 35, 52⟩, .ret k h g l' c p kept :: G :: rest⟩)) (b873 w os k h g l' c p kept G rest)
theorem b874 (w : World) (os : OsState) (k h g l' c p kept G rest) : (segGoT treeTable pg ((w).withFollow "special-get-raises" false) 28 an 1 20 (SL73 w os) ⟨denote treeTable lc, lc, ⟨35, 9, 35, 52⟩, .ret k h g l' c p kept :: G :: rest⟩, segGoT treeTable pg ((w).withFollow "special-get-raises" true) 28 an 1 20 (SL73 w os) ⟨denote treeTable lc, lc, ⟨35, 9, 35, 52⟩, .ret k h g l' c p kept :: G :: rest⟩) = (some (SL74 w os, ⟨denote treeTable lc, lc, ⟨35, 9, 35, 52⟩, .ret k h g l' c p kept :: G :: rest⟩), some (SL74 w os, ⟨denote treeTable lc, lc, ⟨35, 9, 35, 52⟩, .ret k h g l' c p kept :: G :: rest⟩)) := by rw [PySem.W.Fast.te10295753902157049106, PySem.W.Fast.te14364793385576792824, PySem.W.Fast.te11892475500146522536]; kernel_rfl
theorem c874 (w : World) (os : OsState) (k h g l' c p kept G rest) : segGoT treeTable pg (w) 28 an 1 20 (SL73 w os) ⟨denote treeTable lc, lc, ⟨35, 9, 35, 52⟩, .ret k h g l' c p kept :: G :: rest⟩ = some (SL74 w os, ⟨denote treeTable lc, lc, ⟨35, 9, 35, 52⟩, .ret k h g l' c p kept :: G :: rest⟩) := byFollow (row := "special-get-raises") (run := fun V => segGoT treeTable pg (V) 28 an 1 20 (SL73 w os) ⟨denote treeTable lc, lc, ⟨35, 9, 35, 52⟩, .ret k h g l' c p kept :: G :: rest⟩) (r := fun _ => some (SL74 w os, ⟨denote treeTable lc, lc, ⟨35, 9, 35, 52⟩, .ret k h g l' c p kept :: G :: rest⟩)) (b874 w os k h g l' c p kept G rest)
theorem b875 (w : World) (os : OsState) (k h g l' c p kept G rest) : (segGoT treeTable pg ((w).withFollow "special-get-raises" false) 28 an 1 20 (SL74 w os) ⟨denote treeTable lc, lc, ⟨35, 9, 35, 52⟩, .ret k h g l' c p kept :: G :: rest⟩, segGoT treeTable pg ((w).withFollow "special-get-raises" true) 28 an 1 20 (SL74 w os) ⟨denote treeTable lc, lc, ⟨35, 9, 35, 52⟩, .ret k h g l' c p kept :: G :: rest⟩) = (some (SL75 w os, ⟨denote treeTable lc, lc, ⟨35, 9, 35, 52⟩, .ret k h g l' c p kept :: G :: rest⟩), some (SL75 w os, ⟨denote treeTable lc, lc, ⟨35, 9, 35, 52⟩, .ret k h g l' c p kept :: G :: rest⟩)) := by rw [PySem.W.Fast.te10295753902157049106, PySem.W.Fast.te14364793385576792824, PySem.W.Fast.te11892475500146522536]; kernel_rfl
theorem c875 (w : World) (os : OsState) (k h g l' c p kept G rest) : segGoT treeTable pg (w) 28 an 1 20 (SL74 w os) ⟨denote treeTable lc, lc, ⟨35, 9, 35, 52⟩, .ret k h g l' c p kept :: G :: rest⟩ = some (SL75 w os, ⟨denote treeTable lc, lc, ⟨35, 9, 35, 52⟩, .ret k h g l' c p kept :: G :: rest⟩) := byFollow (row := "special-get-raises") (run := fun V => segGoT treeTable pg (V) 28 an 1 20 (SL74 w os) ⟨denote treeTable lc, lc, ⟨35, 9, 35, 52⟩, .ret k h g l' c p kept :: G :: rest⟩) (r := fun _ => some (SL75 w os, ⟨denote treeTable lc, lc, ⟨35, 9, 35, 52⟩, .ret k h g l' c p kept :: G :: rest⟩)) (b875 w os k h g l' c p kept G rest)
theorem b876 (w : World) (os : OsState) (k h g l' c p kept G rest) : (segGoT treeTable pg ((w).withFollow "special-get-raises" false) 28 an 1 20 (SL75 w os) ⟨denote treeTable lc, lc, ⟨35, 9, 35, 52⟩, .ret k h g l' c p kept :: G :: rest⟩, segGoT treeTable pg ((w).withFollow "special-get-raises" true) 28 an 1 20 (SL75 w os) ⟨denote treeTable lc, lc, ⟨35, 9, 35, 52⟩, .ret k h g l' c p kept :: G :: rest⟩) = (some (SL76 w os, ⟨denote treeTable lc, lc, ⟨35, 9, 35, 52⟩, .ret k h g l' c p kept :: G :: rest⟩), some (SL76 w os, ⟨denote treeTable lc, lc, ⟨35, 9, 35, 52⟩, .ret k h g l' c p kept :: G :: rest⟩)) := by rw [PySem.W.Fast.te10295753902157049106, PySem.W.Fast.te14364793385576792824, PySem.W.Fast.te11892475500146522536]; kernel_rfl
theorem c876 (w : World) (os : OsState) (k h g l' c p kept G rest) : segGoT treeTable pg (w) 28 an 1 20 (SL75 w os) ⟨denote treeTable lc, lc, ⟨35, 9, 35, 52⟩, .ret k h g l' c p kept :: G :: rest⟩ = some (SL76 w os, ⟨denote treeTable lc, lc, ⟨35, 9, 35, 52⟩, .ret k h g l' c p kept :: G :: rest⟩) := byFollow (row := "special-get-raises") (run := fun V => segGoT treeTable pg (V) 28 an 1 20 (SL75 w os) ⟨denote treeTable lc, lc, ⟨35, 9, 35, 52⟩, .ret k h g l' c p kept :: G :: rest⟩) (r := fun _ => some (SL76 w os, ⟨denote treeTable lc, lc, ⟨35, 9, 35, 52⟩, .ret k h g l' c p kept :: G :: rest⟩)) (b876 w os k h g l' c p kept G rest)
theorem b877 (w : World) (os : OsState) (k h g l' c p kept G rest) : (segGoT treeTable pg ((w).withFollow "special-get-raises" false) 28 an 1 20 (SL76 w os) ⟨denote treeTable lc, lc, ⟨35, 9, 35, 52⟩, .ret k h g l' c p kept :: G :: rest⟩, segGoT treeTable pg ((w).withFollow "special-get-raises" true) 28 an 1 20 (SL76 w os) ⟨denote treeTable lc, lc, ⟨35, 9, 35, 52⟩, .ret k h g l' c p kept :: G :: rest⟩) = (some (SL77 w os, ⟨denote treeTable lc, lc, ⟨35, 9, 35, 52⟩, .ret k h g l' c p kept :: G :: rest⟩), some (SL77 w os, ⟨denote treeTable lc, lc, ⟨35, 9, 35, 52⟩, .ret k h g l' c p kept :: G :: rest⟩)) := by rw [PySem.W.Fast.te10295753902157049106, PySem.W.Fast.te14364793385576792824, PySem.W.Fast.te11892475500146522536]; kernel_rfl
theorem c877 (w : World) (os : OsState) (k h g l' c p kept G rest) : segGoT treeTable pg (w) 28 an 1 20 (SL76 w os) ⟨denote treeTable lc, lc, ⟨35, 9, 35, 52⟩, .ret k h g l' c p kept :: G :: rest⟩ = some (SL77 w os, ⟨denote treeTable lc, lc, ⟨35, 9, 35, 52⟩, .ret k h g l' c p kept :: G :: rest⟩) := byFollow (row := "special-get-raises") (run := fun V => segGoT treeTable pg (V) 28 an 1 20 (SL76 w os) ⟨denote treeTable lc, lc, ⟨35, 9, 35, 52⟩, .ret k h g l' c p kept :: G :: rest⟩) (r := fun _ => some (SL77 w os, ⟨denote treeTable lc, lc, ⟨35, 9, 35, 52⟩, .ret k h g l' c p kept :: G :: rest⟩)) (b877 w os k h g l' c p kept G rest)
theorem b878 (w : World) (os : OsState) (k h g l' c p kept G rest) : (segGoT treeTable pg ((w).withFollow "special-get-raises" false) 28 an 1 20 (SL77 w os) ⟨denote treeTable lc, lc, ⟨35, 9, 35, 52⟩, .ret k h g l' c p kept :: G :: rest⟩, segGoT treeTable pg ((w).withFollow "special-get-raises" true) 28 an 1 20 (SL77 w os) ⟨denote treeTable lc, lc, ⟨35, 9, 35, 52⟩, .ret k h g l' c p kept :: G :: rest⟩) = (some (SL78 w os, ⟨denote treeTable lc, lc, ⟨35, 9, 35, 52⟩, .ret k h g l' c p kept :: G :: rest⟩), some (SL78 w os, ⟨denote treeTable lc, lc, ⟨35, 9, 35, 52⟩, .ret k h g l' c p kept :: G :: rest⟩)) := by rw [PySem.W.Fast.te10295753902157049106, PySem.W.Fast.te14364793385576792824, PySem.W.Fast.te11892475500146522536]; kernel_rfl
theorem c878 (w : World) (os : OsState) (k h g l' c p kept G rest) : segGoT treeTable pg (w) 28 an 1 20 (SL77 w os) ⟨denote treeTable lc, lc, ⟨35, 9, 35, 52⟩, .ret k h g l' c p kept :: G :: rest⟩ = some (SL78 w os, ⟨denote treeTable lc, lc, ⟨35, 9, 35, 52⟩, .ret k h g l' c p kept :: G :: rest⟩) := byFollow (row := "special-get-raises") (run := fun V => segGoT treeTable pg (V) 28 an 1 20 (SL77 w os) ⟨denote treeTable lc, lc, ⟨35, 9, 35, 52⟩, .ret k h g l' c p kept :: G :: rest⟩) (r := fun _ => some (SL78 w os, ⟨denote treeTable lc, lc, ⟨35, 9, 35, 52⟩, .ret k h g l' c p kept :: G :: rest⟩)) (b878 w os k h g l' c p kept G rest)
theorem b879 (w : World) (os : OsState) (k h g l' c p kept G rest) : (segGoT treeTable pg ((w).withFollow "special-get-raises" false) 28 an 1 20 (SL78 w os) ⟨denote treeTable lc, lc, ⟨35, 9, 35, 52⟩, .ret k h g l' c p kept :: G :: rest⟩, segGoT treeTable pg ((w).withFollow "special-get-raises" true) 28 an 1 20 (SL78 w os) ⟨denote treeTable lc, lc, ⟨35, 9, 35, 52⟩, .ret k h g l' c p kept :: G :: rest⟩) = (some (SL79 w os, ⟨denote treeTable lc, lc, ⟨35, 9, 35, 52⟩, .ret k h g l' c p kept :: G :: rest⟩), some (SL79 w os, ⟨denote treeTable lc, lc, ⟨35, 9, 35, 52⟩, .ret k h g l' c p kept :: G :: rest⟩)) := by rw [PySem.W.Fast.te10295753902157049106, PySem.W.Fast.te14364793385576792824, PySem.W.Fast.te11892475500146522536]; kernel_rfl
theorem c879 (w : World) (os : OsState) (k h g l' c p kept G rest) : segGoT treeTable pg (w) 28 an 1 20 (SL78 w os) ⟨denote treeTable lc, lc, ⟨35, 9, 35, 52⟩, .ret k h g l' c p kept :: G :: rest⟩ = some (SL79 w os, ⟨denote treeTable lc, lc, ⟨35, 9, 35, 52⟩, .ret k h g l' c p kept :: G :: rest⟩) := byFollow (row := "special-get-raises") (run := fun V => segGoT treeTable pg (V) 28 an 1 20 (SL78 w os) ⟨denote treeTable lc, lc, ⟨35, 9, 35, 52⟩, .ret k h g l' c p kept :: G :: rest⟩) (r := fun _ => some (SL79 w os, ⟨denote treeTable lc, lc, ⟨35, 9, 35, 52⟩, .ret k h g l' c p kept :: G :: rest⟩)) (b879 w os k h g l' c p kept G rest)
theorem b880 (w : World) (os : OsState) (k h g l' c p kept G rest) : (segGoT treeTable pg ((w).withFollow "special-get-raises" false) 28 an 1 20 (SL79 w os) ⟨denote treeTable lc, lc, ⟨35, 9, 35, 52⟩, .ret k h g l' c p kept :: G :: rest⟩, segGoT treeTable pg ((w).withFollow "special-get-raises" true) 28 an 1 20 (SL79 w os) ⟨denote treeTable lc, lc, ⟨35, 9, 35, 52⟩, .ret k h g l' c p kept :: G :: rest⟩) = (some (SL80 w os, ⟨denote treeTable lc, lc, ⟨35, 9, 35, 52⟩, .ret k h g l' c p kept :: G :: rest⟩), some (SL80 w os, ⟨denote treeTable lc, lc, ⟨35, 9, 35, 52⟩, .ret k h g l' c p kept :: G :: rest⟩)) := by rw [PySem.W.Fast.te10295753902157049106, PySem.W.Fast.te14364793385576792824, PySem.W.Fast.te11892475500146522536]; kernel_rfl
theorem c880 (w : World) (os : OsState) (k h g l' c p kept G rest) : segGoT treeTable pg (w) 28 an 1 20 (SL79 w os) ⟨denote treeTable lc, lc, ⟨35, 9, 35, 52⟩, .ret k h g l' c p kept :: G :: rest⟩ = some (SL80 w os, ⟨denote treeTable lc, lc, ⟨35, 9, 35, 52⟩, .ret k h g l' c p kept :: G :: rest⟩) := byFollow (row := "special-get-raises") (run := fun V => segGoT treeTable pg (V) 28 an 1 20 (SL79 w os) ⟨denote treeTable lc, lc, ⟨35, 9, 35, 52⟩, .ret k h g l' c p kept :: G :: rest⟩) (r := fun _ => some (SL80 w os, ⟨denote treeTable lc, lc, ⟨35, 9, 35, 52⟩, .ret k h g l' c p kept :: G :: rest⟩)) (b880 w os k h g l' c p kept G rest)
theorem b881 (w : World) (os : OsState) (k h g l' c p kept G rest) : (segGoT treeTable pg ((w).withFollow "special-get-raises" false) 28 an 1 20 (SL80 w os) ⟨denote treeTable lc, lc, ⟨35, 9, 35, 52⟩, .ret k h g l' c p kept :: G :: rest⟩, segGoT treeTable pg ((w).withFollow "special-get-raises" true) 28 an 1 20 (SL80 w os) ⟨denote treeTable lc, lc, ⟨35, 9, 35, 52⟩, .ret k h g l' c p kept :: G :: rest⟩) = (some (SL81 w os, ⟨denote treeTable lc, lc, ⟨35, 9, 35, 52⟩, .ret k h g l' c p kept :: G :: rest⟩), some (SL81 w os, ⟨denote treeTable lc, lc, ⟨35, 9, 35, 52⟩, .ret k h g l' c p kept :: G :: rest⟩)) := by rw [PySem.W.Fast.te10295753902157049106, PySem.W.Fast.te14364793385576792824, PySem.W.Fast.te11892475500146522536]; kernel_rfl
theorem c881 (w : World) (os : OsState) (k h g l' c p kept G rest) : segGoT treeTable pg (w) 28 an 1 20 (SL80 w os) ⟨denote treeTable lc, lc, ⟨35, 9, 35, 52⟩, .ret k h g l' c p kept :: G :: rest⟩ = some (SL81 w os, ⟨denote treeTable lc, lc, ⟨35, 9, 35, 52⟩, .ret k h g l' c p kept :: G :: rest⟩) := byFollow (row := "special-get-raises") (run := fun V => segGoT treeTable pg (V) 28 an 1 20 (SL80 w os) ⟨denote treeTable lc, lc, ⟨35, 9, 35, 52⟩, .ret k h g l' c p kept :: G :: rest⟩) (r := fun _ => some (SL81 w os, ⟨denote treeTable lc, lc, ⟨35, 9, 35, 52⟩, .ret k h g l' c p kept :: G :: rest⟩)) (b881 w os k h g l' c p kept G rest)
theorem b882 (w : World) (os : OsState) (k h g l' c p kept G rest) : (segGoT treeTable pg ((w).withFollow "special-get-raises" false) 28 an 1 20 (SL81 w os) ⟨denote treeTable lc, lc, ⟨35, 9, 35, 52⟩, .ret k h g l' c p kept :: G :: rest⟩, segGoT treeTable pg ((w).withFollow "special-get-raises" true) 28 an 1 20 (SL81 w os) ⟨denote treeTable lc, lc, ⟨35, 9, 35, 52⟩, .ret k h g l' c p kept :: G :: rest⟩) = (some (SL82 w os, ⟨denote treeTable lc, lc, ⟨35, 9, 35, 52⟩, .ret k h g l' c p kept :: G :: rest⟩), some (SL82 w os, ⟨denote treeTable lc, lc, ⟨35, 9, 35, 52⟩, .ret k h g l' c p kept :: G :: rest⟩)) := by rw [PySem.W.Fast.te10295753902157049106, PySem.W.Fast.te14364793385576792824, PySem.W.Fast.te11892475500146522536]; kernel_rfl
theorem c882 (w : World) (os : OsState) (k h g l' c p kept G rest) : segGoT treeTable pg (w) 28 an 1 20 (SL81 w os) ⟨denote treeTable lc, lc, ⟨35, 9, 35, 52⟩, .ret k h g l' c p kept :: G :: rest⟩ = some (SL82 w os, ⟨denote treeTable lc, lc, ⟨35, 9, 35, 52⟩, .ret k h g l' c p kept :: G :: rest⟩) := byFollow (row := "special-get-raises") (run := fun V => segGoT treeTable pg (V) 28 an 1 20 (SL81 w os) ⟨denote treeTable lc, lc, ⟨35, 9, 35, 52⟩, .ret k h g l' c p kept :: G :: rest⟩) (r := fun _ => some (SL82 w os, ⟨denote treeTable lc, lc, ⟨35, 9, 35, 52⟩, .ret k h g l' c p kept :: G :: rest⟩)) (b882 w os k h g l' c p kept G rest)
theorem b883 (w : World) (os : OsState) (k h g l' c p kept G rest) : (segGoT treeTable pg ((w).withFollow "special-get-raises" false) 28 an 1 20 (SL82 w os) ⟨denote treeTable lc, lc, ⟨35, 9, 35, 52⟩, .ret k h g l' c p kept :: G :: rest⟩, segGoT treeTable pg ((w).withFollow "special-get-raises" true) 28 an 1 20 (SL82 w os) ⟨denote treeTable lc, lc, ⟨35, 9, 35, 52⟩, .ret k h g l' c p kept :: G :: rest⟩) = (some (SL83 w os, ⟨denote treeTable lc, lc, ⟨35, 9, 35, 52⟩, .ret k h g l' c p kept :: G :: rest⟩), some (SL83 w os, ⟨denote treeTable lc, lc, ⟨35, 9, 35, 52⟩, .ret k h g l' c p kept :: G :: rest⟩)) := by rw [PySem.W.Fast.te10295753902157049106, PySem.W.Fast.te14364793385576792824, PySem.W.Fast.te11892475500146522536]; kernel_rfl
theorem c883 (w : World) (os : OsState) (k h g l' c p kept G rest) : segGoT treeTable pg (w) 28 an 1 20 (SL82 w os) ⟨denote treeTable lc, lc, ⟨35, 9, 35, 52⟩, .ret k h g l' c p kept :: G :: rest⟩ = some (SL83 w os, ⟨denote treeTable lc, lc, ⟨35, 9, 35, 52⟩, .ret k h g l' c p kept :: G :: rest⟩) := byFollow (row := "special-get-raises") (run := fun V => segGoT treeTable pg (V) 28 an 1 20 (SL82 w os) ⟨denote treeTable lc, lc, ⟨35, 9, 35, 52⟩, .ret k h g l' c p kept :: G :: rest⟩) (r := fun _ => some (SL83 w os, ⟨denote treeTable lc, lc, ⟨35, 9, 35, 52⟩, .ret k h g l' c p kept :: G :: rest⟩)) (b883 w os k h g l' c p kept G rest)
theorem b884 (w : World) (os : OsState) (k h g l' c p kept G rest) : (segGoT treeTable pg ((w).withFollow "special-get-raises" false) 28 an 1 20 (SL83 w os) ⟨denote treeTable lc, lc, ⟨35, 9, 35, 52⟩, .ret k h g l' c p kept :: G :: rest⟩, segGoT treeTable pg ((w).withFollow "special-get-raises" true) 28 an 1 20 (SL83 w os) ⟨denote treeTable lc, lc, ⟨35, 9, 35, 52⟩, .ret k h g l' c p kept :: G :: rest⟩) = (some (SL84 w os, ⟨denote treeTable lc, lc, ⟨35, 9, 35, 52⟩, .ret k h g l' c p kept :: G :: rest⟩), some (SL84 w os, ⟨denote treeTable lc, lc, ⟨35, 9, 35, 52⟩, .ret k h g l' c p kept :: G :: rest⟩)) := by rw [PySem.W.Fast.te10295753902157049106, PySem.W.Fast.te14364793385576792824, PySem.W.Fast.te11892475500146522536]; kernel_rfl
theorem c884 (w : World) (os : OsState) (k h g l' c p kept G rest) : segGoT treeTable pg (w) 28 an 1 20 (SL83 w os) ⟨denote treeTable lc, lc, ⟨35, 9, 35, 52⟩, .ret k h g l' c p kept :: G :: rest⟩ = some (SL84 w os, ⟨denote treeTable lc, lc, ⟨35, 9, 35, 52⟩, .ret k h g l' c p kept :: G :: rest⟩) := byFollow (row := "special-get-raises") (run := fun V => segGoT treeTable pg (V) 28 an 1 20 (SL83 w os) ⟨denote treeTable lc, lc, ⟨35, 9, 35, 52⟩, .ret k h g l' c p kept :: G :: rest⟩) (r := fun _ => some (SL84 w os, ⟨denote treeTable lc, lc, ⟨35, 9, 35, 52⟩, .ret k h g l' c p kept :: G :: rest⟩)) (b884 w os k h g l' c p kept G rest)
theorem b885 (w : World) (os : OsState) (k h g l' c p kept G rest) : (segGoT treeTable pg ((w).withFollow "special-get-raises" false) 28 an 1 20 (SL84 w os) ⟨denote treeTable lc, lc, ⟨35, 9, 35, 52⟩, .ret k h g l' c p kept :: G :: rest⟩, segGoT treeTable pg ((w).withFollow "special-get-raises" true) 28 an 1 20 (SL84 w os) ⟨denote treeTable lc, lc, ⟨35, 9, 35, 52⟩, .ret k h g l' c p kept :: G :: rest⟩) = (some (SL85 w os, ⟨denote treeTable lc, lc, ⟨35, 9, 35, 52⟩, .ret k h g l' c p kept :: G :: rest⟩), some (SL85 w os, ⟨denote treeTable lc, lc, ⟨35, 9, 35, 52⟩, .ret k h g l' c p kept :: G :: rest⟩)) := by rw [PySem.W.Fast.te10295753902157049106, PySem.W.Fast.te14364793385576792824, PySem.W.Fast.te11892475500146522536]; kernel_rfl
theorem c885 (w : World) (os : OsState) (k h g l' c p kept G rest) : segGoT treeTable pg (w) 28 an 1 20 (SL84 w os) ⟨denote treeTable lc, lc, ⟨35, 9, 35, 52⟩, .ret k h g l' c p kept :: G :: rest⟩ = some (SL85 w os, ⟨denote treeTable lc, lc, ⟨35, 9, 35, 52⟩, .ret k h g l' c p kept :: G :: rest⟩) := byFollow (row := "special-get-raises") (run := fun V => segGoT treeTable pg (V) 28 an 1 20 (SL84 w os) ⟨denote treeTable lc, lc, ⟨35, 9, 35, 52⟩, .ret k h g l' c p kept :: G :: rest⟩) (r := fun _ => some (SL85 w os, ⟨denote treeTable lc, lc, ⟨35, 9, 35, 52⟩, .ret k h g l' c p kept :: G :: rest⟩)) (b885 w os k h g l' c p kept G rest)
theorem b886 (w : World) (os : OsState) (k h g l' c p kept G rest) : (segGoT treeTable pg ((w).withFollow "special-get-raises" false) 28 an 1 20 (SL85 w os) ⟨denote treeTable lc, lc, ⟨35, 9, 35, 52⟩, .ret k h g l' c p kept :: G :: rest⟩, segGoT treeTable pg ((w).withFollow "special-get-raises" true) 28 an 1 20 (SL85 w os) ⟨denote treeTable lc, lc, ⟨35, 9, 35, 52⟩, .ret k h g l' c p kept :: G :: rest⟩) = (some (SL86 w os, ⟨denote treeTable lc, lc, ⟨35, 9, 35, 52⟩, .ret k h g l' c p kept :: G :: rest⟩), some (SL86 w os, ⟨denote treeTable lc, lc, ⟨35, 9, 35, 52⟩, .ret k h g l' c p kept :: G :: rest⟩)) := by rw [PySem.W.Fast.te10295753902157049106, PySem.W.Fast.te14364793385576792824, PySem.W.Fast.te11892475500146522536]; kernel_rfl
theorem c886 (w : World) (os : OsState) (k h g l' c p kept G rest) : segGoT treeTable pg (w) 28 an 1 20 (SL85 w os) ⟨denote treeTable lc, lc, ⟨35, 9, 35, 52⟩, .ret k h g l' c p kept :: G :: rest⟩ = some (SL86 w os, ⟨denote treeTable lc, lc, ⟨35, 9, 35, 52⟩, .ret k h g l' c p kept :: G :: rest⟩) := byFollow (row := "special-get-raises") (run := fun V => segGoT treeTable pg (V) 28 an 1 20 (SL85 w os) ⟨denote treeTable lc, lc, ⟨35, 9, 35, 52⟩, .ret k h g l' c p kept :: G :: rest⟩) (r := fun _ => some (SL86 w os, ⟨denote treeTable lc, lc, ⟨35, 9, 35, 52⟩, .ret k h g l' c p kept :: G :: rest⟩)) (b886 w os k h g l' c p kept G rest)
theorem b887 (w : World) (os : OsState) (k h g l' c p kept G rest) : (segGoT treeTable pg ((w).withFollow "special-get-raises" false) 28 an 1 20 (SL86 w os) ⟨denote treeTable lc, lc, ⟨35, 9, 35, 52⟩, .ret k h g l' c p kept :: G :: rest⟩, segGoT treeTable pg ((w).withFollow "special-get-raises" true) 28 an 1 20 (SL86 w os) ⟨denote treeTable lc, lc, ⟨35, 9, 35, 52⟩, .ret k h g l' c p kept :: G :: rest⟩) = (some (SL87 w os, ⟨denote treeTable lc, lc, ⟨35, 9, 35, 52⟩, .ret k h g l' c p kept :: G :: rest⟩), some (SL87 w os, ⟨denote treeTable lc, lc, ⟨35, 9, 35, 52⟩, .ret k h g l' c p kept :: G :: rest⟩)) := by rw [PySem.W.Fast.te10295753902157049106, PySem.W.Fast.te14364793385576792824, PySem.W.Fast.te11892475500146522536]; kernel_rfl
theorem c887 (w : World) (os : OsState) (k h g l' c p kept G rest) : segGoT treeTable pg (w) 28 an 1 20 (SL86 w os) ⟨denote treeTable lc, lc, ⟨35, 9, 35, 52⟩, .ret k h g l' c p kept :: G :: rest⟩ = some (SL87 w os, ⟨denote treeTable lc, lc, ⟨35, 9, 35, 52⟩, .ret k h g l' c p kept :: G :: rest⟩) := byFollow (row := "special-get-raises") (run := fun V => segGoT treeTable pg (V) 28 an 1 20 (SL86 w os) ⟨denote treeTable lc, lc, ⟨35, 9, 35, 52⟩, .ret k h g l' c p kept :: G :: rest⟩) (r := fun _ => some (SL87 w os, ⟨denote treeTable lc, lc, ⟨35, 9, 35, 52⟩, .ret k h g l' c p kept :: G :: rest⟩)) (b887 w os k h g l' c p kept G rest)
theorem b888 (w : World) (os : OsState) (k h g l' c p kept G rest) : (segGoT treeTable pg ((w).withFollow "special-get-raises" false) 28 an 1 20 (SL87 w os) ⟨denote treeTable lc, lc, ⟨35, 9, 35, 52⟩, .ret k h g l' c p kept :: G :: rest⟩, segGoT treeTable pg ((w).withFollow "special-get-raises" true) 28 an 1 20 (SL87 w os) ⟨denote treeTable lc, lc, ⟨35, 9, 35, 52⟩, .ret k h g l' c p kept :: G :: rest⟩) = (some (SL88 w os, ⟨denote treeTable lc, lc, ⟨35, 9, 35, 52⟩, .ret k h g l' c p kept :: G :: rest⟩), some (SL88 w os, ⟨denote treeTable lc, lc, ⟨35, 9, 35, 52⟩, .ret k h g l' c p kept :: G :: rest⟩)) := by rw [PySem.W.Fast.te10295753902157049106, PySem.W.Fast.te14364793385576792824, PySem.W.Fast.te11892475500146522536]; kernel_rfl
theorem c888 (w : World) (os : OsState) (k h g l' c p kept G rest) : segGoT treeTable pg (w) 28 an 1 20 (SL87 w os) ⟨denote treeTable lc, lc, ⟨35, 9, 35, 52⟩, .ret k h g l' c p kept :: G :: rest⟩ = some (SL88 w os, ⟨denote treeTable lc, lc, ⟨35, 9, 35, 52⟩, .ret k h g l' c p kept :: G :: rest⟩) := byFollow (row := "special-get-raises") (run := fun V => segGoT treeTable pg (V) 28 an 1 20 (SL87 w os) ⟨denote treeTable lc, lc, ⟨35, 9, 35, 52⟩, .ret k h g l' c p kept :: G :: rest⟩) (r := fun _ => some (SL88 w os, ⟨denote treeTable lc, lc, ⟨35, 9, 35, 52⟩, .ret k h g l' c p kept :: G :: rest⟩)) (b888 w os k h g l' c p kept G rest)
theorem b889 (w : World) (os : OsState) (k h g l' c p kept G rest) : (segGoT treeTable pg ((w).withFollow "special-get-raises" false) 28 an 1 20 (SL88 w os) ⟨denote treeTable lc, lc, ⟨35, 9, 35, 52⟩, .ret k h g l' c p kept :: G :: rest⟩, segGoT treeTable pg ((w).withFollow "special-get-raises" true) 28 an 1 20 (SL88 w os) ⟨denote treeTable lc, lc, ⟨35, 9, 35, 52⟩, .ret k h g l' c p kept :: G :: rest⟩) = (some (SL89 w os, ⟨denote treeTable lc, lc, ⟨35, 9, 35, 52⟩, .ret k h g l' c p kept :: G :: rest⟩), some (SL89 w os, ⟨denote treeTable lc, lc, ⟨35, 9, 35, 52⟩, .ret k h g l' c p kept :: G :: rest⟩)) := by rw [PySem.W.Fast.te10295753902157049106, PySem.W.Fast.te14364793385576792824, PySem.W.Fast.te11892475500146522536]; kernel_rfl
theorem c889 (w : World) (os : OsState) (k h g l' c p kept G rest) : segGoT treeTable pg (w) 28 an 1 20 (SL88 w os) ⟨denote treeTable lc, lc, ⟨35, 9, 35, 52⟩, .ret k h g l' c p kept :: G :: rest⟩ = some (SL89 w os, ⟨denote treeTable lc, lc, ⟨35, 9, 35, 52⟩, .ret k h g l' c p kept :: G :: rest⟩) := byFollow (row := "special-get-raises") (run := fun V => segGoT treeTable pg (V) 28 an 1 20 (SL88 w os) ⟨denote treeTable lc, lc, ⟨35, 9, 35, 52⟩, .ret k h g l' c p kept :: G :: rest⟩) (r := fun _ => some (SL89 w os, ⟨denote treeTable lc, lc, ⟨35, 9, 35, 52⟩, .ret k h g l' c p kept :: G :: rest⟩)) (b889 w os k h g l' c p kept G rest)
theorem b890 (w : World) (os : OsState) (k h g l' c p kept G rest) : (segGoT treeTable pg ((w).withFollow "special-get-raises" false) 28 an 1 20 (SL89 w os) ⟨denote treeTable lc, lc, ⟨35, 9, 35, 52⟩, .ret k h g l' c p kept :: G :: rest⟩, segGoT treeTable pg ((w).withFollow "special-get-raises" true) 28 an 1 20 (SL89 w os) ⟨denote treeTable lc, lc, ⟨35, 9, 35, 52⟩, .ret k h g l' c p kept :: G :: rest⟩) = (some (SL90 w os, ⟨denote treeTable lc, lc, ⟨35, 9, 35, 52⟩, .ret k h g l' c p kept :: G :: rest⟩), some (SL90 w os, ⟨denote treeTable lc, lc, ⟨35, 9, 35, 52⟩, .ret k h g l' c p kept :: G :: rest⟩)) := by rw [PySem.W.Fast.te10295753902157049106, PySem.W.Fast.te14364793385576792824, PySem.W.Fast.te11892475500146522536]; kernel_rfl
theorem c890 (w : World) (os : OsState) (k h g l' c p kept G rest) : segGoT treeTable pg (w) 28 an 1 20 (SL89 w os) ⟨denote treeTable lc, lc, ⟨35, 9, 35, 52⟩, .ret k h g l' c p kept :: G :: rest⟩ = some (SL90 w os, ⟨denote treeTable lc, lc, ⟨35, 9, 35, 52⟩, .ret k h g l' c p kept :: G :: rest⟩) := byFollow (row := "special-get-raises") (run := fun V => segGoT treeTable pg (V) 28 an 1 20 (SL89 w os) ⟨denote treeTable lc, lc, ⟨35, 9, 35, 52⟩, .ret k h g l' c p kept :: G :: rest⟩) (r := fun _ => some (SL90 w os, ⟨denote treeTable lc, lc, ⟨35, 9, 35, 52⟩, .ret k h g l' c p kept :: G :: rest⟩)) (b890 w os k h g l' c p kept G rest)
theorem b891 (w : World) (os : OsState) (k h g l' c p kept G rest) : (segGoT treeTable pg ((w).withFollow "special-get-raises" false) 28 an 1 20 (SL90 w os) ⟨denote treeTable lc, lc, ⟨35, 9, 35, 52⟩, .ret k h g l' c p kept :: G :: rest⟩, segGoT treeTable pg ((w).withFollow "special-get-raises" true) 28 an 1 20 (SL90 w os) ⟨denote treeTable lc, lc, ⟨35, 9, 35, 52⟩, .ret k h g l' c p kept :: G :: rest⟩) = (some (SL91 w os, ⟨denote treeTable lc, lc, ⟨35, 9, 35, 52⟩, .ret k h g l' c p kept :: G :: rest⟩), some (SL91 w os, ⟨denote treeTable lc, lc, ⟨35, 9, 35, 52⟩, .ret k h g l' c p kept :: G :: rest⟩)) := by rw [PySem.W.Fast.te10295753902157049106, PySem.W.Fast.te14364793385576792824, PySem.W.Fast.te11892475500146522536]; kernel_rfl
theorem c891 (w : World) (os : OsState) (k h g l' c p kept G rest) : segGoT treeTable pg (w) 28 an 1 20 (SL90 w os) ⟨denote treeTable lc, lc, ⟨35, 9, 35, 52⟩, .ret k h g l' c p kept :: G :: rest⟩ = some (SL91 w os, ⟨denote treeTable lc, lc, ⟨35, 9, 35, 52⟩, .ret k h g l' c p kept :: G :: rest⟩) := byFollow (row := "special-get-raises") (run := fun V => segGoT treeTable pg (V) 28 an 1 20 (SL90 w os) ⟨denote treeTable lc, lc, ⟨35, 9, 35, 52⟩, .ret k h g l' c p kept :: G :: rest⟩) (r := fun _ => some (SL91 w os, ⟨denote treeTable lc, lc, ⟨35, 9, 35, 52⟩, .ret k h g l' c p kept :: G :: rest⟩)) (b891 w os k h g l' c p kept G rest)
theorem b892 (w : World) (os : OsState) (k h g l' c p kept G rest) : (segGoT treeTable pg ((w).withFollow "special-get-raises" false) 28 an 1 20 (SL91 w os) ⟨denote treeTable lc, lc, ⟨35, 9, 35, 52⟩, .ret k h g l' c p kept :: G :: rest⟩, segGoT treeTable pg ((w).withFollow "special-get-raises" true) 28 an 1 20 (SL91 w os) ⟨denote treeTable lc, lc, ⟨35, 9, 35, 52⟩, .ret k h g l' c p kept :: G :: rest⟩) = (some (SL92 w os, ⟨denote treeTable lc, lc, ⟨35, 9, 35, 52⟩, .ret k h g l' c p kept :: G :: rest⟩), some (SL92 w os, ⟨denote treeTable lc, lc, ⟨35, 9, 35, 52⟩, .ret k h g l' c p kept :: G :: rest⟩)) := by rw [PySem.W.Fast.te10295753902157049106, PySem.W.Fast.te14364793385576792824, PySem.W.Fast.te11892475500146522536]; kernel_rfl
theorem c892 (w : World) (os : OsState) (k h g l' c p kept G rest) : segGoT treeTable pg (w) 28 an 1 20 (SL91 w os) ⟨denote treeTable lc, lc, ⟨35, 9, 35, 52⟩, .ret k h g l' c p kept :: G :: rest⟩ = some (SL92 w os, ⟨denote treeTable lc, lc, ⟨35, 9, 35, 52⟩, .ret k h g l' c p kept :: G :: rest⟩) := byFollow (row := "special-get-raises") (run := fun V => segGoT treeTable pg (V) 28 an 1 20 (SL91 w os) ⟨denote treeTable lc, lc, ⟨35, 9, 35, 52⟩, .ret k h g l' c p kept :: G :: rest⟩) (r := fun _ => some (SL92 w os, ⟨denote treeTable lc, lc, ⟨35, 9, 35, 52⟩, .ret k h g l' c p kept :: G :: rest⟩)) (b892 w os k h g l' c p kept G rest)
theorem g8 (w : World) (os : OsState) : segRun treeTable pg w 28 an 1 (1880 + (282 + (20 + (20 + (20 + (20 + (20 + (20 + (20 + (20 + (20 + (20 + (20 + (20 + (20 + (20 + (20 + (20 + (20 + (20 + (20 + (20 + (20 + (20 + (20 + (20 + (20 + (20 + (20 + (20 + (20 + (20 + (20 + (20 + (20 + (20 + (20 + (20 + (20 + (20 + (20 + (20 + (20 + (20 + (20 + (20 + (20 + (20 + (20 + (20 + (20 + (20 + (20 + (20 + (20 + (20 + (20 + (20 + (20 + (22 + (20 + (20 + (20 + (20 + (20 + (20 + (20 + (20 + (20 + (20 + (20 + (20 + (20 + (20 + (20 + (20 + (20 + (20 + (20 + (20 + 27)))))))))))))))))))))))))))))))))))))))))))))))))))))))))))))))))))))))))))))))) (S7 w os).abs (piecesOf sts8 en cd0 (⟨33, 0, 34, 30⟩ : Pos) B0) = some (.next, (S8 w os).abs, cd0, ⟨35, 0, 35, 6⟩) := by
  obtain ⟨pp, q⟩ := Prod.mk.inj (pre8 w os)
  obtain ⟨rr, ee⟩ := Prod.mk.inj q
  obtain ⟨k, h, g, l', c, p, kept, G, rest, z⟩ := ret2_of rr
  rw [z] at pp ee
  exact seg_go (segGo_of pp) (seg_go (segGo_of (c814 w os k h g l' c p kept G rest)) (seg_go (segGo_of (c815 w os k h g l' c p kept G rest)) (seg_go (segGo_of (c816 w os k h g l' c p kept G rest)) (seg_go (segGo_of (c817 w os k h g l' c p kept G rest)) (seg_go (segGo_of (c818 w os k h g l' c p kept G rest)) (seg_go (segGo_of (c819 w os k h g l' c p kept G rest)) (seg_go (segGo_of (c820 w os k h g l' c p kept G rest)) (seg_go (segGo_of (c821 w os k h g l' c p kept G rest)) (seg_go (segGo_of (c822 w os k h g l' c p kept G rest)) (seg_go (segGo_of (c823 w os k h g l' c p kept G rest)) (seg_go (segGo_of (c824 w os k h g l' c p kept G rest)) (seg_go (segGo_of (c825 w os k h g l' c p kept G rest)) (seg_go (segGo_of (c826 w os k h g l' c p kept G rest)) (seg_go (segGo_of (c827 w os k h g l' c p kept G rest)) (seg_go (segGo_of (c828 w os k h g l' c p kept G rest)) (seg_go (segGo_of (c829 w os k h g l' c p kept G rest)) (seg_go (segGo_of (c830 w os k h g l' c p kept G rest)) (seg_go (segGo_of (c831 w os k h g l' c p kept G rest)) (seg_go (segGo_of (c832 w os k h g l' c p kept G rest)) (seg_go (segGo_of (c833 w os k h g l' c p kept G rest)) (seg_go (segGo_of (c834 w os k h g l' c p kept G rest)) (seg_go (segGo_of (c835 w os k h g l' c p kept G rest)) (seg_go (segGo_of (c836 w os k h g l' c p kept G rest)) (seg_go (segGo_of (c837 w os k h g l' c p kept G rest)) (seg_go (segGo_of (c838 w os k h g l' c p kept G rest)) (seg_go (segGo_of (c839 w os k h g l' c p kept G rest)) (seg_go (segGo_of (c840 w os k h g l' c p kept G rest)) (seg_go (segGo_of (c841 w os k h g l' c p kept G rest)) (seg_go (segGo_of (c842 w os k h g l' c p kept G rest)) (seg_go (segGo_of (c843 w os k h g l' c p kept G rest)) (seg_go (segGo_of (c844 w os k h g l' c p kept G rest)) (seg_go (segGo_of (c845 w os k h g l' c p kept G rest)) (seg_go (segGo_of (c846 w os k h g l' c p kept G rest)) (seg_go (segGo_of (c847 w os k h g l' c p kept G rest)) (seg_go (segGo_of (c848 w os k h g l' c p kept G rest)) (seg_go (segGo_of (c849 w os k h g l' c p kept G rest)) (seg_go (segGo_of (c850 w os k h g l' c p kept G rest)) (seg_go (segGo_of (c851 w os k h g l' c p kept G rest)) (seg_go (segGo_of (c852 w os k h g l' c p kept G rest)) (seg_go (segGo_of (c853 w os k h g l' c p kept G rest)) (seg_go (segGo_of (c854 w os k h g l' c p kept G rest)) (seg_go (segGo_of (c855 w os k h g l' c p kept G rest)) (seg_go (segGo_of (c856 w os k h g l' c p kept G rest)) (seg_go (segGo_of (c857 w os k h g l' c p kept G rest)) (seg_go (segGo_of (c858 w os k h g l' c p kept G rest)) (seg_go (segGo_of (c859 w os k h g l' c p kept G rest)) (seg_go (segGo_of (c860 w os k h g l' c p kept G rest)) (seg_go (segGo_of (c861 w os k h g l' c p kept G rest)) (seg_go (segGo_of (c862 w os k h g l' c p kept G rest)) (seg_go (segGo_of (c863 w os k h g l' c p kept G rest)) (seg_go (segGo_of (c864 w os k h g l' c p kept G rest)) (seg_go (segGo_of (c865 w os k h g l' c p kept G rest)) (seg_go (segGo_of (c866 w os k h g l' c p kept G rest)) (seg_go (segGo_of (c867 w os k h g l' c p kept G rest)) (seg_go (segGo_of (c868 w os k h g l' c p kept G rest)) (seg_go (segGo_of (c869 w os k h g l' c p kept G rest)) (seg_go (segGo_of (c870 w os k h g l' c p kept G rest)) (seg_go (segGo_of (c871 w os k h g l' c p kept G rest)) (seg_go (segGo_of (c872 w os k h g l' c p kept G rest)) (seg_go (segGo_of (c873 w os k h g l' c p kept G rest)) (seg_go (segGo_of (c874 w os k h g l' c p kept G rest)) (seg_go (segGo_of (c875 w os k h g l' c p kept G rest)) (seg_go (segGo_of (c876 w os k h g l' c p kept G rest)) (seg_go (segGo_of (c877 w os k h g l' c p kept G rest)) (seg_go (segGo_of (c878 w os k h g l' c p kept G rest)) (seg_go (segGo_of (c879 w os k h g l' c p kept G rest)) (seg_go (segGo_of (c880 w os k h g l' c p kept G rest)) (seg_go (segGo_of (c881 w os k h g l' c p kept G rest)) (seg_go (segGo_of (c882 w os k h g l' c p kept G rest)) (seg_go (segGo_of (c883 w os k h g l' c p kept G rest)) (seg_go (segGo_of (c884 w os k h g l' c p kept G rest)) (seg_go (segGo_of (c885 w os k h g l' c p kept G rest)) (seg_go (segGo_of (c886 w os k h g l' c p kept G rest)) (seg_go (segGo_of (c887 w os k h g l' c p kept G rest)) (seg_go (segGo_of (c888 w os k h g l' c p kept G rest)) (seg_go (segGo_of (c889 w os k h g l' c p kept G rest)) (seg_go (segGo_of (c890 w os k h g l' c p kept G rest)) (seg_go (segGo_of (c891 w os k h g l' c p kept G rest)) (seg_go (segGo_of (c892 w os k h g l' c p kept G rest)) (segRun_of ee))))))))))))))))))))))))))))))))))))))))))))))))))))))))))))))))))))))))))))))))
noncomputable def sts9 : List Stmt := (bd.drop 20).take 42
theorem g9 (w : World) (os : OsState) : segRunT treeTable pg (w) 28 an 1 399 (S8 (w) os) (piecesOf sts9 en cd0 (⟨35, 0, 35, 6⟩ : Pos) B0) = some (.next, S9 (w) os, cd0, ⟨78, 0, 78, 15⟩) := by rw [PySem.W.Fast.te10110043849684766642, PySem.W.Fast.te14364793385576792824]; kernel_rfl
noncomputable def sts10 : List Stmt := (bd.drop 62).take 10
theorem g10 (w : World) (os : OsState) : segRunT treeTable pg (w) 28 an 1 91 (S9 (w) os) (piecesOf sts10 en cd0 (⟨78, 0, 78, 15⟩ : Pos) B0) = some (.next, S10 (w) os, cd0, ⟨88, 0, 88, 9⟩) := by rw [PySem.W.Fast.te10110043849684766642, PySem.W.Fast.te14364793385576792824]; kernel_rfl
noncomputable def sts11 : List Stmt := (bd.drop 72).take 1
theorem g11p (w : World) (os : OsState) : (segRunT treeTable pg (w.withFollow "special-get-raises" false) 28 an 1 979 (S10 w os) (piecesOf sts11 en cd0 (⟨88, 0, 88, 9⟩ : Pos) B0), segRunT treeTable pg (w.withFollow "special-get-raises" true) 28 an 1 979 (S10 w os) (piecesOf sts11 en cd0 (⟨88, 0, 88, 9⟩ : Pos) B0)) = (some (.next, S11 w os, cd0, ⟨89, 0, 89, 17⟩), some (.next, S11 w os, cd0, ⟨89, 0, 89, 17⟩)) := by rw [PySem.W.Fast.te10110043849684766642, PySem.W.Fast.te14364793385576792824]; kernel_rfl
theorem g11 (w : World) (os : OsState) : segRunT treeTable pg (w) 28 an 1 979 (S10 (w) os) (piecesOf sts11 en cd0 (⟨88, 0, 88, 9⟩ : Pos) B0) = some (.next, S11 (w) os, cd0, ⟨89, 0, 89, 17⟩) := byFollow (row := "special-get-raises") (run := fun V => segRunT treeTable pg (V) 28 an 1 979 (S10 w os) (piecesOf sts11 en cd0 (⟨88, 0, 88, 9⟩ : Pos) B0)) (r := fun _ => some (.next, S11 w os, cd0, ⟨89, 0, 89, 17⟩)) (g11p w os)
noncomputable def sts12 : List Stmt := (bd.drop 73).take 10
theorem g12 (w : World) (os : OsState) : segRunT treeTable pg (w) 28 an 1 274 (S11 (w) os) (piecesOf sts12 en cd0 (⟨89, 0, 89, 17⟩ : Pos) B0) = some (.next, S12 (w) os, cd0, ⟨134, 0, 163, 55⟩) := by rw [PySem.W.Fast.te10110043849684766642, PySem.W.Fast.te14364793385576792824]; kernel_rfl
theorem hpre (w : World) (os : OsState) : topGo treeTable pg w 28 an 12 (S0 w os) (topStub pg) = some (Sa w os, ⟨denote treeTable cd0, cd0, p00, B0⟩) := by rw [PySem.W.Fast.te15667345088766844465, PySem.W.Fast.te14364793385576792824, PySem.W.Fast.te11892475500146522536]; kernel_rfl
theorem hblock (w : World) (os : OsState) : segRun treeTable pg w 28 an 1 1 (Sa w os) (blockOf bd en cd0 p00 B0) = some (.next, (Sb w os).abs, cd0, p00) := by rw [PySem.W.Fast.te14374325043358763698, PySem.W.Fast.te14364793385576792824]; kernel_rfl
theorem hfin (w : World) (os : OsState) : topRun treeTable pg w 28 an 2 (S12 w os).abs ⟨doneF .next, cd0, ⟨134, 0, 163, 55⟩, B0⟩ = some (Sf w os) := by rw [PySem.W.Fast.te14082659384304107361, PySem.W.Fast.te14364793385576792824]; kernel_rfl
theorem hopen (w : World) : (fencedOpening treeTable pg w 16750).map (fun s => (s.heap, s.gens, s.drawn, s.toks)) = some (H0 w.params, #[], {}, 276) := by unfold fencedOpening; rw [PySem.W.Fast.te10274390034422433532, PySem.W.Fast.te14364793385576792824, PySem.W.Fast.te14289696077712309145, PySem.W.Fast.te1435165496053646825]; kernel_rfl
theorem hsize (w : World) : ((H0 w.params).isNs mainGlobals && (#[] : Array GenState).size == 0, (H0 w.params).objs.size, (H0 w.params).nsMap mainGlobals "__annotations__") = (true, 28, an) := by kernel_rfl
noncomputable def KK (P : Params) : Frag := [(2, o2 P), (3, o138 P), (4, o4 P), (5, o5 P), (6, o6 P), (7, o7 P), (8, o8 P), (9, o9 P), (10, o10 P), (11, o11 P), (12, o12 P), (13, o13 P), (14, o14 P), (15, o7 P), (16, o15 P), (17, o16 P), (18, o17 P), (19, o18 P), (20, o19 P), (21, o20 P), (22, o21 P), (23, o22 P), (24, o23 P), (25, o24 P), (26, o25 P), (27, o26 P), (28, o7 P), (29, o139 P), (30, o27 P), (31, o28 P), (32, o31 P), (33, o6 P), (34, o32 P), (35, o33 P), (36, o34 P), (37, o35 P), (38, o6 P), (39, o32 P), (40, o33 P), (41, o36 P), (42, o37 P), (43, o6 P), (44, o32 P), (45, o38 P), (46, o39 P), (47, o7 P), (48, o8 P), (49, o40 P), (50, o7 P), (51, o41 P), (52, o42 P), (53, o43 P), (54, o7 P), (55, o8 P), (56, o44 P), (57, o7 P), (58, o45 P), (59, o46 P), (60, o47 P), (61, o7 P), (62, o8 P), (63, o48 P), (64, o7 P), (65, o49 P), (66, o50 P), (67, o51 P), (68, o53 P), (69, o54 P), (70, o55 P), (71, o56 P), (72, o7 P), (73, o57 P), (74, o58 P), (75, o59 P), (76, o60 P), (77, o7 P), (78, o61 P), (79, o7 P), (80, o8 P), (81, o64 P), (82, o7 P), (83, o65 P), (84, o66 P), (85, o67 P), (86, o7 P), (87, o8 P), (88, o68 P), (89, o7 P), (90, o69 P), (91, o70 P), (92, o71 P), (93, o7 P), (94, o8 P), (95, o72 P), (96, o7 P), (97, o73 P), (98, o74 P), (99, o75 P), (100, o78 P), (101, o79 P), (102, o80 P), (103, o7 P), (104, o81 P), (105, o7 P), (106, o8 P), (107, o82 P), (108, o7 P), (109, o83 P), (110, o84 P), (111, o85 P), (112, o88 P), (113, o89 P), (114, o90 P), (115, o7 P), (116, o91 P), (117, o7 P), (118, o8 P), (119, o92 P), (120, o7 P), (121, o93 P), (122, o94 P), (123, o95 P), (124, o97 P), (125, o98 P), (126, o99 P), (127, o100 P), (128, o7 P), (129, o101 P), (130, o102 P), (131, o103 P), (132, o104 P), (133, o105 P), (134, o7 P), (135, o106 P), (136, o107 P), (137, o108 P), (138, o109 P), (139, o7 P), (140, o110 P), (141, o7 P), (142, o8 P), (143, o113 P), (144, o7 P), (145, o114 P), (146, o115 P), (147, o116 P), (148, o118 P), (149, o119 P), (150, o120 P), (151, o121 P), (152, o7 P), (153, o122 P), (154, o123 P), (155, o124 P), (156, o125 P), (157, o7 P), (158, o126 P), (159, o7 P), (160, o8 P), (161, o129 P), (162, o7 P), (163, o130 P), (164, o131 P), (165, o132 P), (166, o135 P), (167, o136 P), (168, o137 P), (169, o7 P), (170, o8 P), (171, o140 P), (172, o7 P), (173, o141 P), (174, o142 P), (175, o143 P), (176, o7 P), (177, o8 P), (178, o144 P), (179, o7 P), (180, o145 P), (181, o146 P), (182, o147 P), (183, o7 P), (184, o8 P), (185, o148 P), (186, o7 P), (187, o149 P), (188, o150 P), (189, o151 P), (190, o7 P), (191, o8 P), (192, o152 P), (193, o7 P), (194, o153 P), (195, o154 P), (196, o155 P), (197, o7 P), (198, o8 P), (199, o156 P), (200, o7 P), (201, o157 P), (202, o158 P), (203, o159 P), (204, o7 P), (205, o8 P), (206, o160 P), (207, o7 P), (208, o161 P), (209, o162 P), (210, o163 P), (211, o7 P), (212, o8 P), (213, o164 P), (214, o165 P), (215, o166 P), (216, o7 P), (217, o8 P), (218, o167 P), (219, o7 P), (220, o168 P), (221, o169 P), (222, o170 P), (223, o7 P), (224, o8 P), (225, o171 P), (226, o172 P), (227, o173 P)]
noncomputable def as : List Addr := [2, 3, 4, 5, 6, 7, 8, 9, 10, 11, 12, 13, 14, 15, 16, 17, 18, 19, 20, 21, 22, 23, 24, 25, 26, 27, 28, 29, 30, 31, 32, 33, 34, 35, 36, 37, 38, 39, 40, 41, 42, 43, 44, 45, 46, 47, 48, 49, 50, 51, 52, 53, 54, 55, 56, 57, 58, 59, 60, 61, 62, 63, 64, 65, 66, 67, 68, 69, 70, 71, 72, 73, 74, 75, 76, 77, 78, 79, 80, 81, 82, 83, 84, 85, 86, 87, 88, 89, 90, 91, 92, 93, 94, 95, 96, 97, 98, 99, 100, 101, 102, 103, 104, 105, 106, 107, 108, 109, 110, 111, 112, 113, 114, 115, 116, 117, 118, 119, 120, 121, 122, 123, 124, 125, 126, 127, 128, 129, 130, 131, 132, 133, 134, 135, 136, 137, 138, 139, 140, 141, 142, 143, 144, 145, 146, 147, 148, 149, 150, 151, 152, 153, 154, 155, 156, 157, 158, 159, 160, 161, 162, 163, 164, 165, 166, 167, 168, 169, 170, 171, 172, 173, 174, 175, 176, 177, 178, 179, 180, 181, 182, 183, 184, 185, 186, 187, 188, 189, 190, 191, 192, 193, 194, 195, 196, 197, 198, 199, 200, 201, 202, 203, 204, 205, 206, 207, 208, 209, 210, 211, 212, 213, 214, 215, 216, 217, 218, 219, 220, 221, 222, 223, 224, 225, 226, 227]
theorem as_eq (P : Params) : as = (KK P).map (·.1) := by kernel_rfl
noncomputable abbrev HK : Hook := kHook KK as as_eq
noncomputable def vw : Program := view pg [83]
noncomputable def looseN : List Str := (pg.main.scope.names.map (·.1)).filter fun x => !(x == "law")
noncomputable abbrev Xt (R : WRecords) : Shared → Bool := fun s => recOk R s
noncomputable abbrev Sfin (w : World) (os : OsState) : Shared := Sf w os
theorem lk1 (w : World) (os : OsState) : (staticsOk (importedModules pg.main.body) (H0 w.params) (Hf w.params) && namesBound pg (Hf w.params) && gensDone (Sf w os) && laidKept (H0 w.params) (Hf w.params)) = true := by kernel_rfl
theorem lk2 (w : World) (os : OsState) : openSeen vw looseN (importedModules pg.main.body) (Xt []) true (Sf w os) = openGood vw looseN := by rw [PySem.W.Fast.te4187177175401517315]; kernel_rfl
theorem lk3 (w : World) (os : OsState) : HK.obs (Sf w os) = HK.val w := by kernel_rfl
theorem bd_eq : bd = (sts1 ++ (sts2 ++ (sts3 ++ (sts4 ++ (sts5 ++ (sts6 ++ (sts7 ++ (sts8 ++ (sts9 ++ (sts10 ++ (sts11 ++ (sts12 ++ [])))))))))))) := by kernel_rfl
theorem hrun (w : World) (os : OsState) : topRun treeTable pg w 28 an (12 + (1 + (318 + (999 + (89 + (229 + (390 + (775 + (30 + ((1880 + (282 + (20 + (20 + (20 + (20 + (20 + (20 + (20 + (20 + (20 + (20 + (20 + (20 + (20 + (20 + (20 + (20 + (20 + (20 + (20 + (20 + (20 + (20 + (20 + (20 + (20 + (20 + (20 + (20 + (20 + (20 + (20 + (20 + (20 + (20 + (20 + (20 + (20 + (20 + (20 + (20 + (20 + (20 + (20 + (20 + (20 + (20 + (20 + (20 + (20 + (20 + (20 + (20 + (20 + (20 + (20 + (20 + (20 + (22 + (20 + (20 + (20 + (20 + (20 + (20 + (20 + (20 + (20 + (20 + (20 + (20 + (20 + (20 + (20 + (20 + (20 + (20 + (20 + (20 + 27)))))))))))))))))))))))))))))))))))))))))))))))))))))))))))))))))))))))))))))))) + (399 + (91 + (979 + (274 + 2)))))))))))))) (S0 w os) (topStub pg) = some (Sf w os) :=
  go_top (hpre w os) (piece_block (hblock w os) (by
    rw [show restOf bd en cd0 p00 B0 = restOf (sts1 ++ (sts2 ++ (sts3 ++ (sts4 ++ (sts5 ++ (sts6 ++ (sts7 ++ (sts8 ++ (sts9 ++ (sts10 ++ (sts11 ++ (sts12 ++ [])))))))))))) en cd0 p00 B0 from congrArg (fun l => restOf l en cd0 p00 B0) bd_eq]
    exact piece_app (segRun_of (g1 w os)) (piece_app (segRun_of (g2 w os)) (piece_app (segRun_of (g3 w os)) (piece_app (segRun_of (g4 w os)) (piece_app (segRun_of (g5 w os)) (piece_app (segRun_of (g6 w os)) (piece_app (segRun_of (g7 w os)) (piece_app (g8 w os) (piece_app (segRun_of (g9 w os)) (piece_app (segRun_of (g10 w os)) (piece_app (segRun_of (g11 w os)) (piece_app (segRun_of (g12 w os)) (hfin w os))))))))))))))
theorem left : LeftO pg vw looseN (Xt []) HK.obs HK.val 16750 :=
  LeftO.of_pieces (H₀ := H0) (H₁ := Hf) (gs₀ := #[]) (gs₁ := #[]) (d₀ := {}) (d₁ := {}) (k₀ := 276) (k₁ := 1047) (m₀ := 28) (ann := an) (M := 12 + (1 + (318 + (999 + (89 + (229 + (390 + (775 + (30 + ((1880 + (282 + (20 + (20 + (20 + (20 + (20 + (20 + (20 + (20 + (20 + (20 + (20 + (20 + (20 + (20 + (20 + (20 + (20 + (20 + (20 + (20 + (20 + (20 + (20 + (20 + (20 + (20 + (20 + (20 + (20 + (20 + (20 + (20 + (20 + (20 + (20 + (20 + (20 + (20 + (20 + (20 + (20 + (20 + (20 + (20 + (20 + (20 + (20 + (20 + (20 + (20 + (20 + (20 + (20 + (20 + (20 + (20 + (20 + (22 + (20 + (20 + (20 + (20 + (20 + (20 + (20 + (20 + (20 + (20 + (20 + (20 + (20 + (20 + (20 + (20 + (20 + (20 + (20 + (20 + 27)))))))))))))))))))))))))))))))))))))))))))))))))))))))))))))))))))))))))))))))) + (399 + (91 + (979 + (274 + 2)))))))))))))) hopen hsize hrun (by decide)
    fun w => funext fun os => Prod.ext (lk1 w os) (Prod.ext (lk2 w os) (lk3 w os))
end Mine
namespace Mine
open PySem PySem.Calls PyProof.Rows PySem.W
noncomputable abbrev IsT (h : Heap) (t : Addr) (items : Array Value) (n : Nat) : Prop := h.get? t = some { cls := .type "tuple", dict := none, data := .seq items n, slots := #[] }

/-- a value of the program, told by value: no addresses but those of the top's things -/
inductive PV where
  | raw (v : Value)
  | int (i : Int)
  | str (x : Str)
  | bytes (b : Array UInt8)
  | list (xs : List PV)
  | tup (xs : List PV)

noncomputable abbrev PV.bool (b : Bool) : PV := .raw (.bool b)

mutual
/-- the heap bears the value p at v, and no list or tuple of it lies at an address in Z -/
noncomputable def Rep (Z : Addr → Prop) (h : Heap) : PV → Value → Prop
  | .raw v, u => u = v
  | .int i, u => ∃ t, u = .int i t
  | .str x, u => ∃ t, u = .str x t
  | .bytes b, u => ∃ t, u = .bytes b t
  | .list xs, u => ∃ a its, u = .ref a ∧ ¬ Z a ∧ h.IsList a its ∧ Reps Z h xs its.toList
  | .tup xs, u => ∃ a its n, u = .ref a ∧ ¬ Z a ∧ IsT h a its n ∧ Reps Z h xs its.toList
noncomputable def Reps (Z : Addr → Prop) (h : Heap) : List PV → List Value → Prop
  | [], vs => vs = []
  | x :: xs, vs => ∃ v r, vs = v :: r ∧ Rep Z h x v ∧ Reps Z h xs r
end

/-- what is a list or a tuple outside Z stays -/
noncomputable def SeqKept (Z : Addr → Prop) (h h' : Heap) : Prop := ∀ a ob its n, ¬ Z a → h.get? a = some ob → ob.data = .seq its n → h'.get? a = some ob

mutual
theorem Rep.carry {Z Z' : Addr → Prop} {h h' : Heap} (hk : SeqKept Z h h') (hz : ∀ a ob, Z' a → h.get? a = some ob → Z a) : ∀ (p : PV) (v : Value), Rep Z h p v → Rep Z' h' p v
  | .raw _, _, e => e
  | .int _, _, e => e
  | .str _, _, e => e
  | .bytes _, _, e => e
  | .list xs, v, e => by
    obtain ⟨a, its, rfl, z, ⟨ob, ho, hc, n, hd⟩, r⟩ := e
    exact ⟨a, its, rfl, fun q => z (hz a ob q ho), ⟨ob, hk a ob its n z ho hd, hc, n, hd⟩, Reps.carry hk hz xs _ r⟩
  | .tup xs, v, e => by
    obtain ⟨a, its, n, rfl, z, ho, r⟩ := e
    exact ⟨a, its, n, rfl, fun q => z (hz a _ q ho), hk a _ its n z ho rfl, Reps.carry hk hz xs _ r⟩
theorem Reps.carry {Z Z' : Addr → Prop} {h h' : Heap} (hk : SeqKept Z h h') (hz : ∀ a ob, Z' a → h.get? a = some ob → Z a) : ∀ (ps : List PV) (vs : List Value), Reps Z h ps vs → Reps Z' h' ps vs
  | [], _, e => e
  | p :: ps, vs, e => by
    obtain ⟨v, r, rfl, h1, h2⟩ := e
    exact ⟨v, r, rfl, Rep.carry hk hz p v h1, Reps.carry hk hz ps r h2⟩
end

theorem SeqKept.of_keeps {Z : Addr → Prop} {h h' : Heap} (hk : ∀ b o, h.get? b = some o → h'.get? b = some o) : SeqKept Z h h' := fun a ob _ _ _ ho _ => hk a ob ho
theorem Rep.keeps {Z : Addr → Prop} {h h' : Heap} {p : PV} {v : Value} (hk : ∀ b o, h.get? b = some o → h'.get? b = some o) (r : Rep Z h p v) : Rep Z h' p v := Rep.carry (.of_keeps hk) (fun _ _ q _ => q) p v r
theorem Reps.keeps {Z : Addr → Prop} {h h' : Heap} {p : List PV} {v : List Value} (hk : ∀ b o, h.get? b = some o → h'.get? b = some o) (r : Reps Z h p v) : Reps Z h' p v := Reps.carry (.of_keeps hk) (fun _ _ q _ => q) p v r
theorem SeqKept.of_same {Z : Addr → Prop} {h h' : Heap} {b : Addr} (hs : Heap.SameBut b h h') (hb : ∀ ob its n, h.get? b = some ob → ob.data = .seq its n → Z b) : SeqKept Z h h' := fun a ob its n z ho hd => by
  have : a ≠ b := by rintro rfl; exact z (hb ob its n ho hd)
  exact (hs.2 a this).trans ho

theorem Reps.length {Z : Addr → Prop} {h : Heap} : ∀ {ps : List PV} {vs : List Value}, Reps Z h ps vs → vs.length = ps.length
  | [], _, e => by rw [Reps] at e; subst e; rfl
  | p :: ps, vs, e => by
    rw [Reps] at e
    obtain ⟨v, r, rfl, _, h2⟩ := e
    simp [Reps.length h2]
theorem Reps.get {Z : Addr → Prop} {h : Heap} : ∀ {ps : List PV} {vs : List Value}, Reps Z h ps vs → ∀ {i : Nat} {p : PV}, ps[i]? = some p → ∃ v, vs[i]? = some v ∧ Rep Z h p v
  | [], _, _, i, p, hp => by simp at hp
  | p :: ps, vs, e, i, q, hp => by
    rw [Reps] at e
    obtain ⟨v, r, rfl, h1, h2⟩ := e
    cases i with
    | zero => simp at hp; subst hp; exact ⟨v, rfl, h1⟩
    | succ i => exact Reps.get h2 (by simpa using hp)
theorem Reps.append {Z : Addr → Prop} {h : Heap} : ∀ {ps qs : List PV} {vs us : List Value}, Reps Z h ps vs → Reps Z h qs us → Reps Z h (ps ++ qs) (vs ++ us)
  | [], _, vs, _, e, f => by rw [Reps] at e; subst e; exact f
  | p :: ps, _, vs, _, e, f => by
    rw [Reps] at e
    obtain ⟨v, r, rfl, h1, h2⟩ := e
    exact ⟨v, r ++ _, rfl, h1, Reps.append h2 f⟩
theorem Reps.drop {Z : Addr → Prop} {h : Heap} : ∀ {ps : List PV} {vs : List Value}, Reps Z h ps vs → ∀ i, Reps Z h (ps.drop i) (vs.drop i)
  | [], _, e, i => by rw [Reps] at e; subst e; simp [Reps]
  | p :: ps, vs, e, 0 => e
  | p :: ps, vs, e, i + 1 => by
    rw [Reps] at e
    obtain ⟨v, r, rfl, h1, h2⟩ := e
    exact Reps.drop h2 i
theorem Reps.take {Z : Addr → Prop} {h : Heap} : ∀ {ps : List PV} {vs : List Value}, Reps Z h ps vs → ∀ i, Reps Z h (ps.take i) (vs.take i)
  | [], _, e, i => by rw [Reps] at e; subst e; simp [Reps]
  | p :: ps, vs, e, 0 => by simp [Reps]
  | p :: ps, vs, e, i + 1 => by
    rw [Reps] at e
    obtain ⟨v, r, rfl, h1, h2⟩ := e
    exact ⟨v, r.take i, rfl, h1, Reps.take h2 i⟩
theorem Reps.reverse {Z : Addr → Prop} {h : Heap} : ∀ {ps : List PV} {vs : List Value}, Reps Z h ps vs → Reps Z h ps.reverse vs.reverse
  | [], _, e => by rw [Reps] at e; subst e; simp [Reps]
  | p :: ps, vs, e => by
    rw [Reps] at e
    obtain ⟨v, r, rfl, h1, h2⟩ := e
    rw [List.reverse_cons, List.reverse_cons]
    exact Reps.append (Reps.reverse h2) ⟨v, [], rfl, h1, rfl⟩

/-- what a name is bound to: a value, or a list that the frame alone holds and may lengthen -/
inductive Slot where
  | val (p : PV)
  | own (xs : List PV)
noncomputable def Zof (Z : Addr → Prop) (at_ : Str → Option Addr) : Addr → Prop := fun a => Z a ∨ ∃ x, at_ x = some a
noncomputable def SlotRep (Z : Addr → Prop) (at_ : Str → Option Addr) (h : Heap) (x : Str) : Slot → Value → Prop
  | .val p, v => Rep (Zof Z at_) h p v
  | .own xs, v => ∃ a its, v = .ref a ∧ at_ x = some a ∧ PlainL h a its ∧ Reps (Zof Z at_) h xs its.toList

/-- what is known of the heap in every frame: the written part, the globals, the built-ins -/
structure Base (K : Frag) (mg : Str → Option Value) (h : Heap) : Prop where
  k : K.In h
  g : h.Ns mainGlobals mg
  b : ∃ mb, h.Ns builtinsNs mb ∧ ∀ x : Str, x ≠ "__name__" → mb x = bootBuiltins x
  lim : h.NoLimit
theorem Base.keeps {K : Frag} {mg : Str → Option Value} {h h' : Heap} (B : Base K mg h) (hk : ∀ b o, h.get? b = some o → h'.get? b = some o) : Base K mg h' :=
  ⟨B.k.keeps hk, B.g.keeps hk, let ⟨mb, x, y⟩ := B.b; ⟨mb, x.keeps hk, y⟩, B.lim.keeps hk⟩

noncomputable def Room (n : Nat) (A : Around) : Prop := A.handled = none ∧ A.depth + n < recursionLimit ∧ A.units + 16 * n + 200 < cLine
theorem Room.less {n m : Nat} {A : Around} (r : Room n A) (h : m ≤ n) : Room m A := ⟨r.1, by have := r.2.1; omega, by have := r.2.2; omega⟩
theorem Room.deeper {n : Nat} {A : Around} {env : Env} (r : Room (n + 1) A) : Room n (A.deeper env) :=
  ⟨r.1, by have := r.2.1; show A.depth + 1 + n < _; omega, by have := r.2.2; show A.units + 3 + 16 * n + 200 < _; omega⟩

/-- the frame's account: Z is not to be met in values, at_ says where its own lists lie, h₀ stood before it, the names in W may be stored -/
structure Fz where
  Z : Addr → Prop
  at_ : Str → Option Addr
  h₀ : Heap
  W : Str → Prop
noncomputable abbrev Fz.Zs (f : Fz) : Addr → Prop := Zof f.Z f.at_

structure Inv (K : Frag) (mg : Str → Option Value) (f : Fz) (env : Env) (ρ : Str → Option Slot) (s : Shared) : Prop where
  base : Base K mg f.h₀
  keep : ∀ b o, f.h₀.get? b = some o → s.heap.get? b = some o
  newL : f.h₀.get? env.locals = none
  newC : ∀ x c, f.W x → env.cells.lookup x = some c → f.h₀.get? c = none
  loc : ∃ m, s.heap.Ns env.locals m ∧ ∀ x sl, ρ x = some sl → env.kindOf x = some .local → ∃ v, m x = some v ∧ SlotRep f.Z f.at_ s.heap x sl v
  cel : ∀ x sl, ρ x = some sl → (env.kindOf x = some .cell ∨ env.kindOf x = some .free) → ∃ c v, env.cells.lookup x = some c ∧ s.heap.IsCell c (some v) ∧ SlotRep f.Z f.at_ s.heap x sl v
  cal : ∀ x c, env.cells.lookup x = some c → ∃ v, s.heap.IsCell c v
  apt : ∀ x y c, env.cells.lookup x = some c → env.cells.lookup y = some c → x = y
  zal : ∀ a, f.Zs a → ∃ ob its n, s.heap.get? a = some ob ∧ ob.data = .seq its n
  inj : ∀ x y a, f.at_ x = some a → f.at_ y = some a → x = y
  noZ : ∀ x a, f.at_ x = some a → ¬ f.Z a ∧ f.h₀.get? a = none

section
variable {K : Frag} {mg : Str → Option Value} {Z : Addr → Prop} {at_ : Str → Option Addr} {f : Fz} {env : Env} {ρ : Str → Option Slot} {s s' : Shared}
theorem SlotRep.carry {h h' : Heap} {x : Str} {sl : Slot} {v : Value} (hk : SeqKept (Zof Z at_) h h') (ho : ∀ x a ob, at_ x = some a → h.get? a = some ob → h'.get? a = some ob) (r : SlotRep Z at_ h x sl v) : SlotRep Z at_ h' x sl v := by
  cases sl with
  | val p => exact Rep.carry hk (fun _ _ q _ => q) p v r
  | own xs =>
    obtain ⟨a, its, e, ha, ⟨ob, n, h1, h2⟩, r⟩ := r
    exact ⟨a, its, e, ha, ⟨ob, n, ho x a ob ha h1, h2⟩, Reps.carry hk (fun _ _ q _ => q) xs _ r⟩
theorem Inv.keeps (I : Inv K mg f env ρ s) (hk : Keeps s s') : Inv K mg f env ρ s' := by
  obtain ⟨h', tk, rfl, hk⟩ := hk
  refine ⟨I.base, fun b o e => hk b o (I.keep b o e), I.newL, I.newC, ?_, fun x sl e k => ?_, fun x c e => let ⟨v, h⟩ := I.cal x c e; ⟨v, h.keeps hk⟩, I.apt, fun a z => ?_, I.inj, I.noZ⟩
  · obtain ⟨m, hm, q⟩ := I.loc
    refine ⟨m, hm.keeps hk, fun x sl e k => ?_⟩
    obtain ⟨v, h1, h2⟩ := q x sl e k
    exact ⟨v, h1, h2.carry (.of_keeps hk) fun _ _ _ _ e => hk _ _ e⟩
  · obtain ⟨c, v, h1, h2, h3⟩ := I.cel x sl e k
    exact ⟨c, v, h1, h2.keeps hk, h3.carry (.of_keeps hk) fun _ _ _ _ e => hk _ _ e⟩
  · obtain ⟨ob, its, n, h1, h2⟩ := I.zal a z
    exact ⟨ob, its, n, hk _ _ h1, h2⟩
theorem Inv.bs (I : Inv K mg f env ρ s) : Base K mg s.heap := I.base.keeps I.keep
theorem Inv.zl (I : Inv K mg f env ρ s) : ∀ a, f.Zs a → ∃ ob, s.heap.get? a = some ob := fun a z => let ⟨ob, _, _, h, _⟩ := I.zal a z; ⟨ob, h⟩
theorem Inv.freshZ (I : Inv K mg f env ρ s) {a : Addr} (h : s.heap.objs.size ≤ a) : ¬ f.Zs a := fun z => by
  obtain ⟨ob, _, _, h1, _⟩ := I.zal a z
  exact absurd (Heap.lt_size h1) (Nat.not_lt.mpr h)
end
theorem kR (s : Shared) : Keeps s s := ⟨s.heap, s.toks, rfl, fun _ _ e => e⟩
theorem kT {s s' s'' : Shared} (a : Keeps s s') (b : Keeps s' s'') : Keeps s s'' := by
  obtain ⟨h, t, rfl, k⟩ := a
  obtain ⟨h', t', rfl, k'⟩ := b
  exact ⟨h', t', rfl, fun b o e => k' b o (k b o e)⟩
theorem kTok (s : Shared) (t : Nat) : Keeps s { s with toks := t } := ⟨s.heap, t, rfl, fun _ _ e => e⟩
theorem kPush (s : Shared) (o : Obj) (t : Nat) : Keeps s { s with heap := s.heap.push o, toks := t } := ⟨_, t, rfl, fun _ _ e => Heap.get?_push_of_some _ e⟩
theorem kUp {s s' : Shared} (k : Keeps s s') : ∀ b o, s.heap.get? b = some o → s'.heap.get? b = some o := by
  obtain ⟨h, t, rfl, k⟩ := k
  exact k
end Mine
namespace Mine
open PySem PySem.Calls PyProof.Rows PySem.W

structure Cfg where
  prog : Program
  w : World
  K : Frag
  mg : Str → Option Value
noncomputable abbrev Cfg.M (C : Cfg) : Model := model C.prog C.w
noncomputable abbrev noE : Value → Shared → Prop := fun _ _ => False
noncomputable abbrev Env1 := Str → Option Slot

/-- in every state that bears ρ, e comes to p and changes nothing that stood -/
structure Ev (C : Cfg) (n : Nat) (env : Env) (ρ : Env1) (e : Expr) (p : PV) : Prop where mk ::
  go :
  ∀ (A : Around) (s : Shared) (f : Fz), Room n A → Inv C.K C.mg f env ρ s →
    wpAny C.M A (eval e env) (fun v s' => Rep f.Zs s'.heap p v ∧ Keeps s s') noE s
/-- the same of a test -/
structure Tr (C : Cfg) (n : Nat) (env : Env) (ρ : Env1) (e : Expr) (b : Bool) : Prop where mk ::
  go :
  ∀ (A : Around) (s : Shared) (f : Fz), Room n A → Inv C.K C.mg f env ρ s →
    wpAny C.M A (isTrue e env (eval e env)) (fun c s' => c = b ∧ Keeps s s') noE s

section
variable {C : Cfg} {n : Nat} {env : Env} {ρ : Env1} {f : Fz} {A : Around} {s : Shared}
theorem Ev.use {e : Expr} {p : PV} {Q : Value → Shared → Prop} (x : Ev C n env ρ e p) (r : Room n A) (I : Inv C.K C.mg f env ρ s)
    (k : ∀ v s', Rep f.Zs s'.heap p v → Keeps s s' → Inv C.K C.mg f env ρ s' → Q v s') : wpAny C.M A (eval e env) Q noE s :=
  wpAny_mono (x.go A s f r I) (fun v s' q => k v s' q.1 q.2 (I.keeps q.2)) fun _ _ q => q
theorem Tr.use {e : Expr} {b : Bool} {Q : Bool → Shared → Prop} (x : Tr C n env ρ e b) (r : Room n A) (I : Inv C.K C.mg f env ρ s)
    (k : ∀ s', Keeps s s' → Inv C.K C.mg f env ρ s' → Q b s') : wpAny C.M A (isTrue e env (eval e env)) Q noE s :=
  wpAny_mono (x.go A s f r I) (fun v s' q => q.1 ▸ k s' q.2 (I.keeps q.2)) fun _ _ q => q

theorem ev_int {i : Int} {k : Nat} {pos : Pos} : Ev C n env ρ (.Constant (.int i) k pos) (.int i) :=
  .mk fun _ s _ _ _ => wpAny_Constant_int ⟨⟨_, rfl⟩, kTok s _⟩
theorem ev_str {x : Str} {k : Nat} {pos : Pos} : Ev C n env ρ (.Constant (.str x) k pos) (.str x) :=
  .mk fun _ s _ _ _ => wpAny_Constant_str ⟨⟨_, rfl⟩, kTok s _⟩
theorem ev_bytes {x : List UInt8} {k : Nat} {pos : Pos} : Ev C n env ρ (.Constant (.bytes x) k pos) (.bytes x.toArray) :=
  .mk fun _ s _ _ _ => show wpAny _ _ (mkTextBytes x.toArray) _ _ _ from wpAny_bind (wpAny_fresh (wpAny_pure ⟨⟨_, rfl⟩, kTok s _⟩))
theorem ev_bool {b : Bool} {k : Nat} {pos : Pos} : Ev C n env ρ (.Constant (.bool b) k pos) (.bool b) :=
  .mk fun _ s _ _ _ => Constant_bool ⟨rfl, kR s⟩

theorem ev_local {x : Str} {pos : Pos} {p : PV} (hv : ρ x = some (.val p)) (hl : env.kindOf x = some .local := by rfl) (hk : env.scope.kind = .function := by rfl)
    (hd : (x == ("__debug__" : Str)) = false := by decide) : Ev C n env ρ (.Name x pos) p := .mk fun _ s _ _ I => by
  obtain ⟨m, hm, q⟩ := I.loc
  obtain ⟨v, h1, h2⟩ := q x _ hv hl
  exact wpAny_Name (wpAny_loadName_local hk hl hm h1 ⟨h2, kR s⟩) hd
theorem ev_cell {x : Str} {pos : Pos} {p : PV} (hv : ρ x = some (.val p)) (hl : env.kindOf x = some .cell := by rfl) (hk : env.scope.kind = .function := by rfl)
    (hd : (x == ("__debug__" : Str)) = false := by decide) : Ev C n env ρ (.Name x pos) p := .mk fun _ s _ _ I => by
  obtain ⟨c, v, h1, h2, h3⟩ := I.cel x _ hv (.inl hl)
  exact wpAny_Name (wpAny_loadName_cell hk hl h1 h2 ⟨h3, kR s⟩) hd
/-- the top's own values: they lie nowhere on the heap, or they are handed on by their address -/
noncomputable def Bare : PV → Value → Prop
  | .raw v, u => u = v
  | .int i, u => ∃ t, u = .int i t
  | .str x, u => ∃ t, u = .str x t
  | _, _ => False
theorem Bare.rep {p : PV} {v : Value} {Z : Addr → Prop} {h : Heap} (b : Bare p v) : Rep Z h p v := by
  cases p <;> first | exact b | exact b.elim
theorem ev_glob {x : Str} {pos : Pos} {p : PV} {v : Value} (hv : C.mg x = some v) (hp : Bare p v) (hl : env.kindOf x = some .globalImplicit := by rfl) (hk : env.scope.kind = .function := by rfl)
    (hg : env.globals = mainGlobals := by rfl) (hd : (x == ("__debug__" : Str)) = false := by decide) : Ev C n env ρ (.Name x pos) p := .mk fun _ s _ _ I =>
  Name_function_global hk hl (loadGlobal_global (by rw [hg]; exact I.bs.g) hv ⟨hp.rep, kR s⟩) hd
theorem ev_built {x : Str} {pos : Pos} {v : Value} (hm : C.mg x = none) (hv : bootBuiltins x = some v) (hn : x ≠ "__name__" := by decide) (hl : env.kindOf x = some .globalImplicit := by rfl) (hk : env.scope.kind = .function := by rfl)
    (hg : env.globals = mainGlobals := by rfl) (hb : env.builtins = builtinsNs := by rfl) (hd : (x == ("__debug__" : Str)) = false := by decide) : Ev C n env ρ (.Name x pos) (.raw v) := .mk fun _ s _ _ I => by
  obtain ⟨mb, h1, h2⟩ := I.bs.b
  exact Name_function_global hk hl (loadGlobal_builtin (by rw [hg]; exact I.bs.g) hm (by rw [hb]; exact h1) ((h2 x hn).trans hv) ⟨rfl, kR s⟩) hd

/-- an operation upon two values -/
noncomputable def Op2 (C : Cfg) (n : Nat) (t : Value → Value → Sem Value) (p q r : PV) : Prop :=
  ∀ (A : Around) (s : Shared) (Z : Addr → Prop) (v u : Value), Room n A → (∀ a, Z a → ∃ ob, s.heap.get? a = some ob) → Base C.K C.mg s.heap → Rep Z s.heap p v → Rep Z s.heap q u →
    wpAny C.M A (t v u) (fun v' s' => Rep Z s'.heap r v' ∧ Keeps s s') noE s
theorem ev_bin {l r : Expr} {op : Operator} {pos : Pos} {p q t : PV} (h1 : Ev C n env ρ l p) (h2 : Ev C n env ρ r q) (o : Op2 C n (binaryOp op) p q t) : Ev C n env ρ (.BinOp l op r pos) t :=
  .mk fun A s f R I => wpAny_BinOp (h1.use R I fun v s₁ r₁ k₁ I₁ => h2.use R I₁ fun u s₂ r₂ k₂ I₂ =>
    wpAny_mono (o A s₂ _ v u R I₂.zl I₂.bs (r₁.keeps (kUp k₂)) r₂) (fun _ _ z => ⟨z.1, kT (kT k₁ k₂) z.2⟩) fun _ _ z => z)
theorem ev_cmp {l r : Expr} {op : CmpOp} {pos : Pos} {p q t : PV} (h1 : Ev C n env ρ l p) (h2 : Ev C n env ρ r q) (o : Op2 C n (compareOp op) p q t) (hm : behindInMarks op r = false := by rfl) : Ev C n env ρ (.Compare l [op] [r] pos) t :=
  .mk fun A s f R I => wpAny_Compare1 (h1.use R I fun v s₁ r₁ k₁ I₁ => h2.use R I₁ fun u s₂ r₂ k₂ I₂ =>
    wpAny_mono (o A s₂ _ v u R I₂.zl I₂.bs (r₁.keeps (kUp k₂)) r₂) (fun _ _ z => ⟨z.1, kT (kT k₁ k₂) z.2⟩) fun _ _ z => z) hm
theorem tr_cmp {l r : Expr} {op : CmpOp} {pos : Pos} {p q : PV} {b : Bool} (h1 : Ev C n env ρ l p) (h2 : Ev C n env ρ r q) (o : Op2 C n (compareOp op) p q (.bool b)) (hm : behindInMarks op r = false := by rfl) : Tr C n env ρ (.Compare l [op] [r] pos) b :=
  .mk fun A s f R I => wpAny_isTrue_Compare1 (h1.use R I fun v s₁ r₁ k₁ I₁ => h2.use R I₁ fun u s₂ r₂ k₂ I₂ =>
    wpAny_mono (o A s₂ _ v u R I₂.zl I₂.bs (r₁.keeps (kUp k₂)) r₂) (fun v' _ z => by
      obtain ⟨rfl, k⟩ : v' = .bool b ∧ _ := z
      exact wpAny_truthy_bool ⟨rfl, kT (kT k₁ k₂) k⟩) fun _ _ z => z) hm
theorem tr_plain {e : Expr} {b : Bool} (h : Ev C n env ρ e (.bool b)) (he : isTrue e env (eval e env) = (do let v ← eval e env; standAt e.pos; holding [v] (truthy v)) := by rfl) : Tr C n env ρ e b :=
  .mk fun A s f R I => isTrue_plain (h.use R I fun v s₁ r₁ k₁ I₁ => by
    obtain rfl : v = .bool b := r₁
    exact wpAny_truthy_bool ⟨rfl, k₁⟩) he
theorem tr_not {x : Expr} {pos : Pos} {b : Bool} (h : Tr C n env ρ x b) : Tr C n env ρ (.UnaryOp .Not x pos) (!b) :=
  .mk fun A s f R I => isTrue_not (h.use R I fun s₁ k₁ I₁ => ⟨rfl, k₁⟩)
theorem tr_or_nil {pos : Pos} : Tr C n env ρ (.BoolOp .Or [] pos) false := .mk fun A s f R I => isTrue_or_nil ⟨rfl, kR s⟩
theorem tr_or_true {x : Expr} {rest : List Expr} {pos : Pos} (h : Tr C n env ρ x true) : Tr C n env ρ (.BoolOp .Or (x :: rest) pos) true :=
  .mk fun A s f R I => isTrue_or (h.use R I fun s₁ k₁ I₁ => ⟨rfl, k₁⟩)
theorem tr_or_false {x : Expr} {rest : List Expr} {pos : Pos} {b : Bool} (h : Tr C n env ρ x false) (h2 : Tr C n env ρ (.BoolOp .Or rest pos) b) : Tr C n env ρ (.BoolOp .Or (x :: rest) pos) b :=
  .mk fun A s f R I => isTrue_or (h.use R I fun s₁ k₁ I₁ => by
    show wpAny _ _ (isTrue (.BoolOp .Or rest pos) env _) _ _ _
    exact wpAny_mono (h2.go A s₁ f R I₁) (fun _ _ z => ⟨z.1, kT k₁ z.2⟩) fun _ _ z => z)
theorem ev_not {x : Expr} {pos : Pos} {b : Bool} (h : Ev C n env ρ x (.bool b)) : Ev C n env ρ (.UnaryOp .Not x pos) (.bool (!b)) :=
  .mk fun A s f R I => UnaryOp_ (h.use R I fun v s₁ r₁ k₁ I₁ => by
    obtain rfl : v = .bool b := r₁
    exact not_of (wpAny_truthy_bool ⟨rfl, k₁⟩))
theorem ev_if {t a b : Expr} {pos : Pos} {c : Bool} {p : PV} (h : Tr C n env ρ t c) (h1 : c = true → Ev C n env ρ a p) (h2 : c = false → Ev C n env ρ b p) : Ev C n env ρ (.IfExp t a b pos) p :=
  .mk fun A s f R I => IfExp_ (h.use R I fun s₁ k₁ I₁ => by
    cases c with
    | true => exact wpAny_mono ((h1 rfl).go A s₁ f R I₁) (fun _ _ z => ⟨z.1, kT k₁ z.2⟩) fun _ _ z => z
    | false => exact wpAny_mono ((h2 rfl).go A s₁ f R I₁) (fun _ _ z => ⟨z.1, kT k₁ z.2⟩) fun _ _ z => z)
theorem ev_or_one {e : Expr} {pos : Pos} {p : PV} (h : Ev C n env ρ e p) : Ev C n env ρ (.BoolOp .Or [e] pos) p := .mk fun A s f R I => BoolOp_one (h.go A s f R I)
theorem ev_or_true {e₁ e₂ : Expr} {rest : List Expr} {pos : Pos} (h : Ev C n env ρ e₁ (.bool true)) : Ev C n env ρ (.BoolOp .Or (e₁ :: e₂ :: rest) pos) (.bool true) :=
  .mk fun A s f R I => BoolOp_or (h.use R I fun v s₁ r₁ k₁ I₁ => by
    obtain rfl : v = .bool true := r₁
    exact wpAny_truthy_bool ⟨rfl, k₁⟩)
theorem ev_or_false {e₁ e₂ : Expr} {rest : List Expr} {pos : Pos} {p : PV} (h : Ev C n env ρ e₁ (.bool false)) (h2 : Ev C n env ρ (.BoolOp .Or (e₂ :: rest) pos) p) : Ev C n env ρ (.BoolOp .Or (e₁ :: e₂ :: rest) pos) p :=
  .mk fun A s f R I => BoolOp_or (h.use R I fun v s₁ r₁ k₁ I₁ => by
    obtain rfl : v = .bool false := r₁
    exact wpAny_truthy_bool (wpAny_mono (h2.go A s₁ f R I₁) (fun _ _ z => ⟨z.1, kT k₁ z.2⟩) fun _ _ z => z))

-- the operations on ints
theorem op_mod {a b : Int} (hb : b ≠ 0) : Op2 C n (binaryOp .Mod) (.int a) (.int b) (.int (a.fmod b)) := fun A s Z v u R hz B ⟨t, e1⟩ ⟨t', e2⟩ => by
  subst e1 e2; exact mod_int hb ⟨⟨_, rfl⟩, kTok s _⟩
theorem op_add {a b : Int} : Op2 C n (binaryOp .Add) (.int a) (.int b) (.int (a + b)) := fun A s Z v u R hz B ⟨t, e1⟩ ⟨t', e2⟩ => by
  subst e1 e2; exact PyProof.Rows.add_int ⟨⟨_, rfl⟩, kTok s _⟩
theorem op_sub {a b : Int} : Op2 C n (binaryOp .Sub) (.int a) (.int b) (.int (a - b)) := fun A s Z v u R hz B ⟨t, e1⟩ ⟨t', e2⟩ => by
  subst e1 e2; exact PyProof.Rows.sub_int ⟨⟨_, rfl⟩, kTok s _⟩
theorem op_xor {a b : Int} : Op2 C n (binaryOp .BitXor) (.int a) (.int b) (.int (Builtin.bitXor a b)) := fun A s Z v u R hz B ⟨t, e1⟩ ⟨t', e2⟩ => by
  subst e1 e2; exact PyProof.Rows.xor_int ⟨⟨_, rfl⟩, kTok s _⟩
theorem op_and {a b : Int} : Op2 C n (binaryOp .BitAnd) (.int a) (.int b) (.int (Builtin.bitAnd a b)) := fun A s Z v u R hz B ⟨t, e1⟩ ⟨t', e2⟩ => by
  subst e1 e2; exact PyProof.Rows.and_int ⟨⟨_, rfl⟩, kTok s _⟩
theorem op_fdiv {a b : Int} (hb : b ≠ 0) (hp : Builtin.divisionGoesByPylong a b = false) : Op2 C n (binaryOp .FloorDiv) (.int a) (.int b) (.int (a.fdiv b)) := fun A s Z v u R hz B ⟨t, e1⟩ ⟨t', e2⟩ => by
  subst e1 e2; exact floordiv_int_or R.1 (fun q => absurd q hb) (fun _ => ⟨⟨_, rfl⟩, kTok s _⟩) (fun _ => .inl hp)
theorem cp_eq {a b : Int} : Op2 C n (compareOp .Eq) (.int a) (.int b) (.bool (a == b)) := fun A s Z v u R hz B ⟨t, e1⟩ ⟨t', e2⟩ => by
  subst e1 e2; exact PyProof.Rows.eq_int ⟨rfl, kR s⟩
theorem cp_ne {a b : Int} : Op2 C n (compareOp .NotEq) (.int a) (.int b) (.bool (a != b)) := fun A s Z v u R hz B ⟨t, e1⟩ ⟨t', e2⟩ => by
  subst e1 e2; exact PyProof.Rows.ne_int ⟨rfl, kR s⟩
theorem cp_lt {a b : Int} : Op2 C n (compareOp .Lt) (.int a) (.int b) (.bool (decide (a < b))) := fun A s Z v u R hz B ⟨t, e1⟩ ⟨t', e2⟩ => by
  subst e1 e2; exact PyProof.Rows.lt_int ⟨rfl, kR s⟩
theorem cp_gt {a b : Int} : Op2 C n (compareOp .Gt) (.int a) (.int b) (.bool (decide (b < a))) := fun A s Z v u R hz B ⟨t, e1⟩ ⟨t', e2⟩ => by
  subst e1 e2; exact PyProof.Rows.gt_int ⟨rfl, kR s⟩
theorem cp_ge {a b : Int} : Op2 C n (compareOp .GtE) (.int a) (.int b) (.bool (decide (b ≤ a))) := fun A s Z v u R hz B ⟨t, e1⟩ ⟨t', e2⟩ => by
  subst e1 e2; exact PyProof.Rows.ge_int ⟨rfl, kR s⟩
theorem cp_eqb {a b : Bool} : Op2 C n (compareOp .Eq) (.bool a) (.bool b) (.bool (a == b)) := fun A s Z v u R hz B e1 e2 => by
  obtain rfl : v = .bool a := e1
  obtain rfl : u = .bool b := e2
  exact PyProof.Rows.eq_bool ⟨rfl, kR s⟩
theorem cp_eqs {a b : Str} : Op2 C n (compareOp .Eq) (.str a) (.str b) (.bool (a == b)) := fun A s Z v u R hz B ⟨t, e1⟩ ⟨t', e2⟩ => by
  subst e1 e2; exact PyProof.Rows.eq_str ⟨rfl, kR s⟩
end
end Mine
namespace Mine
open PySem PySem.Calls PyProof.Rows PySem.W

theorem reps_ints {Z : Addr → Prop} {h : Heap} : ∀ {ns : List Int} {vs : List Value}, Reps Z h (ns.map PV.int) vs → IntsAre vs ns
  | [], _, e => by rw [List.map_nil, Reps] at e; subst e; exact .nil
  | n :: ns, vs, e => by
    rw [List.map_cons, Reps] at e
    obtain ⟨v, r, rfl, ⟨t, rfl⟩, h2⟩ := e
    exact .cons n t (reps_ints h2)

section
variable {C : Cfg} {n : Nat} {env : Env} {ρ : Env1} {f : Fz} {A : Around} {s : Shared}

-- lists and sets under the operators
theorem op_cat {xs ys : List PV} (hsz : xs.length + ys.length ≤ sizeLine) : Op2 C n (binaryOp .Add) (.list xs) (.list ys) (.list (xs ++ ys)) := fun A s Z v u R hz B h1 h2 => by
  obtain ⟨l, its, rfl, zl, hl, rl⟩ := h1
  obtain ⟨b, its2, rfl, zb, hb, rb⟩ := h2
  obtain ⟨⟨cls, dd, data, sl⟩, ho, hc, k, hd⟩ := id hl
  obtain ⟨⟨cls2, dd2, data2, sl2⟩, ho2, hc2, k2, hd2⟩ := id hb
  simp only at hc hd hc2 hd2
  subst hc hd hc2 hd2
  have e1 := rl.length
  have e2 := rb.length
  refine concat_meets ⟨_, ho, rfl⟩ ⟨_, ho2, rfl⟩ noFill_list_add seq_list_add PySem.F.slot_list_add PySem.F.entry_list_add (PySem.F.args_list_add_2 _ _) (list_addW l b its its2 k k2 dd dd2 sl sl2 (by simp at e1 e2; omega)) ⟨ho, ho2, ?_⟩
  refine ⟨⟨_, its ++ its2, rfl, fun z => ?_, ⟨_, Heap.get?_push_size _ rfl, rfl, _, rfl⟩, ?_⟩, kPush s _ _⟩
  · obtain ⟨ob, h⟩ := hz _ z
    exact absurd (Heap.lt_size h) (Nat.lt_irrefl _)
  · have : (its ++ its2).toList = its.toList ++ its2.toList := by simp
    rw [this]
    exact (rl.append rb).keeps fun _ _ e => Heap.get?_push_of_some _ e
theorem cp_leq {ns ms : List Int} : Op2 C n (compareOp .Eq) (.list (ns.map PV.int)) (.list (ms.map PV.int)) (.bool (decide (ns = ms))) := fun A s Z v u R hz B h1 h2 => by
  obtain ⟨l, its, rfl, zl, hl, rl⟩ := h1
  obtain ⟨b, its2, rfl, zb, hb, rb⟩ := h2
  exact ke_eq_ints (xs := its.toList) (ys := its2.toList) hl hb (reps_ints rl) (reps_ints rb) (by have := R.2.2; omega) ⟨rfl, kR s⟩
theorem cp_lne {ns ms : List Int} : Op2 C n (compareOp .NotEq) (.list (ns.map PV.int)) (.list (ms.map PV.int)) (.bool (!decide (ns = ms))) := fun A s Z v u R hz B h1 h2 => by
  obtain ⟨l, its, rfl, zl, hl, rl⟩ := h1
  obtain ⟨b, its2, rfl, zb, hb, rb⟩ := h2
  exact ke_ne_ints (xs := its.toList) (ys := its2.toList) hl hb (reps_ints rl) (reps_ints rb) (by have := R.2.2; omega) ⟨rfl, kR s⟩
theorem cp_notin {k : Int} {ns : List Int} : Op2 C n (compareOp .NotIn) (.int k) (.list (ns.map PV.int)) (.bool (!(ns.any (· == k)))) := fun A s Z v u R hz B h1 h2 => by
  obtain ⟨t, rfl⟩ := h1
  obtain ⟨b, its2, rfl, zb, hb, rb⟩ := h2
  exact notin_list_ints (vs := its2.toList) hb (reps_ints rb) ⟨rfl, kR s⟩
theorem cp_intup {k : Int} {ns : List Int} : Op2 C n (compareOp .In) (.int k) (.tup (ns.map PV.int)) (.bool (ns.any (· == k))) := fun A s Z v u R hz B h1 h2 => by
  obtain ⟨t, rfl⟩ := h1
  obtain ⟨b, its2, m, rfl, zb, hb, rb⟩ := h2
  have hi := reps_ints rb
  refine SeqRoads2.in_tuple (isInt k) (fun y hy => eq_isInt k t hi y (by simpa using hy)) hb ⟨?_, kR s⟩
  have : its2.any (isInt k) = its2.toList.any (isInt k) := by simp
  show Value.bool _ = Value.bool _
  rw [this, any_isInt k hi]
theorem cp_inset {k : Int} {a : Addr} {o : Obj} {S : Int → Bool} {m : Nat} (hK : C.K.lookup a = some o) (hS : o.SetObjOf (intKind C.prog C.w) S m) (hb : m < scanBound) :
    Op2 C n (compareOp .In) (.int k) (.raw (.ref a)) (.bool (S k)) := fun A s Z v u R hz B h1 h2 => by
  obtain ⟨t, rfl⟩ := h1
  obtain rfl : u = .ref a := h2
  exact wpAny_inSet_of (knd := intKind C.prog C.w) (k := k) (intKind_is _ _ k t) rfl (hS.setOf (B.k a o hK) hb) ⟨rfl, kTok s _⟩

-- displays
noncomputable def Evs (C : Cfg) (n : Nat) (env : Env) (ρ : Env1) : List Expr → List PV → Prop
  | [], ps => ps = []
  | e :: es, ps => ∃ p r, ps = p :: r ∧ Ev C n env ρ e p ∧ starEach (e :: es) env = (false, eval e env) :: starEach es env ∧ Evs C n env ρ es r
theorem evs_nil : Evs C n env ρ [] [] := rfl
theorem evs_cons {e : Expr} {es : List Expr} {p : PV} {ps : List PV} (h : Ev C n env ρ e p) (hs : Evs C n env ρ es ps) (he : starEach (e :: es) env = (false, eval e env) :: starEach es env := by rfl) : Evs C n env ρ (e :: es) (p :: ps) :=
  ⟨p, ps, rfl, h, he, hs⟩
theorem Evs.use {pos : Pos} : ∀ {es : List Expr} {ps : List PV} {s : Shared} {Q : List Value → Shared → Prop}, Evs C n env ρ es ps → Room n A → Inv C.K C.mg f env ρ s →
    (∀ vs s', Reps f.Zs s'.heap ps vs → Keeps s s' → Inv C.K C.mg f env ρ s' → Q vs s') → wpAny C.M A (spliced (backTo pos (starEach es env))) Q noE s
  | [], ps, s, Q, x, R, I, k => by
    obtain rfl : ps = [] := x
    exact args_nil (k [] s rfl (kR s) I)
  | e :: es, ps, s, Q, x, R, I, k => by
    obtain ⟨p, r, rfl, h1, he, h2⟩ := x
    exact args_cons (h1.use R I fun v s₁ r₁ k₁ I₁ => Evs.use h2 R I₁ fun vs s₂ r₂ k₂ I₂ => k (v :: vs) s₂ ⟨v, vs, rfl, r₁.keeps (kUp k₂), r₂⟩ (kT k₁ k₂) I₂) he
theorem Evs.length : ∀ {es : List Expr} {ps : List PV}, Evs C n env ρ es ps → es.length = ps.length
  | [], ps, x => by obtain rfl : ps = [] := x; rfl
  | e :: es, ps, x => by obtain ⟨p, r, rfl, _, _, h2⟩ := x; simp [Evs.length h2]
theorem rep_newlist {s : Shared} {ps : List PV} {vs : List Value} {Z : Addr → Prop} (hz : ∀ a, Z a → ∃ ob, s.heap.get? a = some ob) (r : Reps Z s.heap ps vs) :
    Rep Z (s.heap.push { cls := .type "list", dict := none, data := .seq vs.toArray }) (.list ps) (.ref s.heap.objs.size) := by
  refine ⟨_, vs.toArray, rfl, fun z => ?_, ⟨_, Heap.get?_push_size _ rfl, rfl, _, rfl⟩, ?_⟩
  · obtain ⟨ob, h⟩ := hz _ z
    exact absurd (Heap.lt_size h) (Nat.lt_irrefl _)
  · exact r.keeps fun _ _ e => Heap.get?_push_of_some _ e
theorem rep_newtup {s : Shared} {ps : List PV} {vs : List Value} {Z : Addr → Prop} (hz : ∀ a, Z a → ∃ ob, s.heap.get? a = some ob) (r : Reps Z s.heap ps vs) :
    Rep Z (s.heap.push { cls := .type "tuple", dict := none, data := .seq vs.toArray }) (.tup ps) (.ref s.heap.objs.size) := by
  refine ⟨_, vs.toArray, _, rfl, fun z => ?_, Heap.get?_push_size _ rfl, ?_⟩
  · obtain ⟨ob, h⟩ := hz _ z
    exact absurd (Heap.lt_size h) (Nat.lt_irrefl _)
  · exact r.keeps fun _ _ e => Heap.get?_push_of_some _ e
theorem ev_list {es : List Expr} {ps : List PV} {pos : Pos} (h : Evs C n env ρ es ps) (hsz : ps.length ≤ sizeLine := by decide) : Ev C n env ρ (.List es pos) (.list ps) := .mk fun A s f R I =>
  List_ (h.use R I fun vs s' r k I' => wpAny_newObj_type (data := .seq vs.toArray) ⟨rep_newlist I'.zl r, kT k (kPush s' _ _)⟩ (by show vs.toArray.size ≤ sizeLine; rw [List.size_toArray, r.length]; exact hsz))
theorem ev_tup {es : List Expr} {ps : List PV} {k : Nat} {pos : Pos} (h : Evs C n env ρ es ps) (hsz : ps.length ≤ sizeLine := by decide) : Ev C n env ρ (.Tuple es k pos) (.tup ps) := .mk fun A s f R I =>
  Tuple_ (h.use R I fun vs s' r k I' => wpAny_newObj_type (data := .seq vs.toArray) ⟨rep_newtup I'.zl r, kT k (kPush s' _ _)⟩ (by show vs.toArray.size ≤ sizeLine; rw [List.size_toArray, r.length]; exact hsz))

-- subscripts
theorem subTail {value slice : Expr} {o i : Value} {T id : String} {ops : List Value} {Q : Value → Shared → Prop} {E : Value → Shared → Prop} (hT : s.TypeIs o T)
    (hl : typeLookup (.type T) "__getitem__" = pure (some (.builtin id))) (h : wpAny C.M A (getItem o i) Q E s)
    (hs : subscripted slice false o i = operate ops (getItem o i)) : wpAny C.M A (subscriptTail value slice o i) Q E s := by
  unfold subscriptTail
  refine wpAny_bind ?_
  rw [getitemInPython_of_ne hT.not_modules]
  refine wpAny_bind (wpAny_specialOf hT hl ?_)
  have fin : wpAny C.M A (subscripted slice false o i) (fun r s₃ => wpAny C.M A (letTemporaryGo value o r >>= fun _ => pure r) Q E s₃) E s := by
    rw [hs]
    exact wpAny_operating (wpAny_mono h (fun r s₃ h₃ => wpAny_bind (wpAny_letTemporaryGo (wpAny_pure h₃))) fun _ _ x => x)
  first
    | exact wpAny_pure (wpAny_bind fin)
    | exact wpAny_bind (wpAny_pure (wpAny_bind fin))
    | exact wpAny_bind fin
noncomputable def plainSlice : Expr → Bool
  | .Slice .. => false
  | _ => true
theorem subscripted_plain {slice : Expr} {o i : Value} (h : plainSlice slice = true) : subscripted slice false o i = operate [o, i] (getItem o i) := by
  cases slice <;> first | rfl | cases h
theorem ev_item {value slice : Expr} {pos : Pos} {xs : List PV} {k : Int} {p : PV} (h1 : Ev C n env ρ value (.list xs)) (h2 : Ev C n env ρ slice (.int k)) (h0 : 0 ≤ k) (hx : xs[k.toNat]? = some p) (hf : k < 2 ^ 63)
    (hp : plainSlice slice = true := by rfl) : Ev C n env ρ (.Subscript value slice pos) p := .mk fun A s f R I =>
  Subscript_ (h1.use R I fun v s₁ r₁ k₁ I₁ => h2.use R I₁ fun u s₂ r₂ k₂ I₂ => by
    obtain ⟨a, its, rfl, z, hl, r⟩ := r₁.keeps (kUp k₂)
    obtain ⟨t, rfl⟩ := r₂
    obtain ⟨v, hv, rv⟩ := r.get hx
    exact subTail hl.typeIs slot_list_getitem.lookup (wpAny_getItem_list hl h0 hf (by simpa using hv) ⟨rv, kT k₁ k₂⟩) (subscripted_plain hp))

/-- a part of a slice -/
noncomputable def EvP (C : Cfg) (n : Nat) (env : Env) (ρ : Env1) : Option Expr → Option Int → Prop
  | none, k => k = none
  | some e, k => ∃ i, k = some i ∧ Ev C n env ρ e (.int i)
theorem evp_none : EvP C n env ρ none none := rfl
theorem evp_some {e : Expr} {i : Int} (h : Ev C n env ρ e (.int i)) : EvP C n env ρ (some e) (some i) := ⟨i, rfl, h⟩
theorem EvP.use {x : Option Expr} {k : Option Int} {Q : Value → Shared → Prop} (h : EvP C n env ρ x k) (R : Room n A) (I : Inv C.K C.mg f env ρ s)
    (hq : ∀ v s', IsPart v k → Keeps s s' → Inv C.K C.mg f env ρ s' → Q v s') : wpAny C.M A (evalPart x env) Q noE s := by
  cases x with
  | none =>
    obtain rfl : k = none := h
    exact wpAny_pure (hq _ s .none (kR s) I)
  | some e =>
    obtain ⟨i, rfl, h⟩ := h
    exact h.use R I fun v s' r k' I' => by
      obtain ⟨t, rfl⟩ := r
      exact hq _ s' (.int i t) k' I'
theorem kPush2 (s : Shared) (o o' : Obj) (t : Nat) : Keeps s { s with heap := (s.heap.push o).push o', toks := t } := ⟨_, t, rfl, fun _ _ e => Heap.get?_push_of_some _ (Heap.get?_push_of_some _ e)⟩
theorem subscripted_slice {lo hi : Option Expr} {p : Pos} {o i : Value} {st : Option Expr} : ∃ ops, subscripted (.Slice lo hi st p) false o i = operate ops (getItem o i) := by
  cases st with
  | none => exact ⟨_, rfl⟩
  | some e => exact ⟨_, rfl⟩
theorem ev_slice {value : Expr} {lo hi st : Option Expr} {p pos : Pos} {xs ys : List PV} {a b c : Option Int} (h1 : Ev C n env ρ value (.list xs)) (h2 : EvP C n env ρ lo a) (h3 : EvP C n env ρ hi b) (h4 : EvP C n env ρ st c) (h0 : c ≠ some 0)
    (hy : ∀ (Z : Addr → Prop) (h : Heap) (its : Array Value), Reps Z h xs its.toList → Reps Z h ys (slicePick its a b c).toList) (hsz : xs.length ≤ sizeLine) : Ev C n env ρ (.Subscript value (.Slice lo hi st p) pos) (.list ys) := .mk fun A s f R I =>
  Subscript_ (h1.use R I fun v s₁ r₁ k₁ I₁ => wpAny_Slice (h2.use R I₁ fun vl s₂ pl k₂ I₂ => h3.use R I₂ fun vu s₃ pu k₃ I₃ => h4.use R I₃ fun vs s₄ ps k₄ I₄ => by
    have k := kT (kT k₂ k₃) k₄
    obtain ⟨a', its, rfl, z, hl, r⟩ := r₁.keeps (kUp k)
    obtain ⟨ops, hops⟩ := subscripted_slice (lo := lo) (hi := hi) (st := st) (p := p) (o := .ref a') (i := .ref s₄.heap.objs.size)
    have up : ∀ b o, s₄.heap.get? b = some o → (s₄.heap.push { cls := .type "slice", data := .fields #[vl, vu, vs] }).get? b = some o := fun _ _ e => Heap.get?_push_of_some _ e
    refine subTail (s := { s₄ with heap := s₄.heap.push { cls := .type "slice", data := .fields #[vl, vu, vs] } }) (hl.push _).typeIs slot_list_getitem.lookup
      (wpAny_getItem_list_slice (hl.push _) (Heap.IsSliceOf.new ..) pl pu ps h0 ⟨?_, ?_⟩ ?_) hops
    · have q := hy _ _ _ (r.keeps up)
      have := rep_newlist (s := { s₄ with heap := s₄.heap.push { cls := .type "slice", data := .fields #[vl, vu, vs] } }) (Z := f.Zs) (fun b z => let ⟨ob, e⟩ := I₄.zl b z; ⟨ob, up _ _ e⟩) q
      simpa using this
    · exact kT (kT k₁ k) (kPush2 s₄ _ _ _)
    · have e := r.length
      have : its.size = xs.length := by simpa using e
      size_fits))
end
end Mine
namespace Mine
open PySem PySem.Calls PyProof.Rows PySem.W

/-- what a frame's statements leave as it was: iterators, and lists and tuples that are not its own -/
noncomputable def Sty (Z : Addr → Prop) (b : Addr) (ob : Obj) : Prop := (∃ vs, ob.data = .fields vs) ∨ ((∃ its n, ob.data = .seq its n) ∧ ¬ Z b)
noncomputable def Kp (Z : Addr → Prop) (s s' : Shared) : Prop := ∃ h' tk, s' = { s with heap := h', toks := tk } ∧ ∀ b ob, s.heap.get? b = some ob → Sty Z b ob → h'.get? b = some ob
theorem Kp.of {Z : Addr → Prop} {s s' : Shared} (k : Keeps s s') : Kp Z s s' := by
  obtain ⟨h, t, rfl, k⟩ := k
  exact ⟨h, t, rfl, fun b ob e _ => k b ob e⟩
theorem Kp.refl {Z : Addr → Prop} (s : Shared) : Kp Z s s := .of (kR s)
theorem Kp.trans {Z : Addr → Prop} {s s' s'' : Shared} (a : Kp Z s s') (b : Kp Z s' s'') : Kp Z s s'' := by
  obtain ⟨h, t, rfl, k⟩ := a
  obtain ⟨h', t', rfl, k'⟩ := b
  exact ⟨h', t', rfl, fun b ob e y => k' b ob (k b ob e y) y⟩
theorem Kp.up {Z : Addr → Prop} {s s' : Shared} (k : Kp Z s s') : ∀ b ob, s.heap.get? b = some ob → Sty Z b ob → s'.heap.get? b = some ob := by
  obtain ⟨h, t, rfl, k⟩ := k
  exact k
theorem Kp.seq {Z : Addr → Prop} {s s' : Shared} (k : Kp Z s s') : SeqKept Z s.heap s'.heap := fun a ob its n z ho hd => k.up a ob ho (.inr ⟨⟨its, n, hd⟩, z⟩)
noncomputable abbrev Kp0 (s s' : Shared) : Prop := Kp (fun _ => False) s s'
theorem Kp.weak {Z : Addr → Prop} {s s' : Shared} (k : Kp0 s s') : Kp Z s s' := by
  obtain ⟨h, t, rfl, k⟩ := k
  exact ⟨h, t, rfl, fun b ob e y => k b ob e (y.imp id fun q => ⟨q.1, id⟩)⟩
theorem Kp.rep {Z : Addr → Prop} {s s' : Shared} (k : Kp Z s s') {p : PV} {v : Value} (r : Rep Z s.heap p v) : Rep Z s'.heap p v := Rep.carry k.seq (fun _ _ q _ => q) p v r

noncomputable def put (ρ : Env1) (x : Str) (sl : Slot) : Env1 := fun y => if y = x then some sl else ρ y

section
variable {K : Frag} {mg : Str → Option Value} {f : Fz} {env : Env} {ρ : Env1} {s : Shared}
theorem ne_data {h : Heap} {a b : Addr} {oa ob : Obj} (ha : h.get? a = some oa) (hb : h.get? b = some ob) (hd : oa.data ≠ ob.data) : a ≠ b := by
  rintro rfl
  rw [ha] at hb
  cases hb
  exact hd rfl
/-- a change at one address that is neither list nor tuple and stood not before the frame -/
theorem Inv.seqKept_but {h' : Heap} {b : Addr} {ob : Obj} (I : Inv K mg f env ρ s) (hs : Heap.SameBut b s.heap h') (hb : s.heap.get? b = some ob) (hn : ∀ its n, ob.data ≠ .seq its n) : SeqKept f.Zs s.heap h' :=
  .of_same hs fun ob' its n e hd => by rw [hb] at e; cases e; exact absurd hd (hn its n)
theorem Inv.own_but {h' : Heap} {b : Addr} {ob : Obj} (I : Inv K mg f env ρ s) (hs : Heap.SameBut b s.heap h') (hb : s.heap.get? b = some ob) (hn : ∀ its n, ob.data ≠ .seq its n) :
    ∀ x a o, f.at_ x = some a → s.heap.get? a = some o → h'.get? a = some o := fun x a o ha ho => by
  obtain ⟨ob', its, n, h1, h2⟩ := I.zal a (.inr ⟨x, ha⟩)
  have : a ≠ b := by
    rintro rfl
    rw [hb] at h1; cases h1
    exact hn its n h2
  exact (hs.2 a this).trans ho
theorem kp_but {Z : Addr → Prop} {h' : Heap} {b : Addr} {ob : Obj} {tk : Nat} (hs : Heap.SameBut b s.heap h') (hb : s.heap.get? b = some ob) (hn : ∀ its n, ob.data ≠ .seq its n) (hf : ∀ vs, ob.data ≠ .fields vs) : Kp Z s { s with heap := h', toks := tk } :=
  ⟨h', tk, rfl, fun c oc e y => by
    have : c ≠ b := by
      rintro rfl
      rw [hb] at e; cases e
      rcases y with ⟨vs, h⟩ | ⟨⟨its, n, h⟩, _⟩
      · exact hf vs h
      · exact hn its n h
    exact (hs.2 c this).trans e⟩

theorem store_local {M : Model} {A : Around} {E : Value → Shared → Prop} {Q : Unit → Shared → Prop} {x : Str} {sl : Slot} {v : Value} (I : Inv K mg f env ρ s) (hl : env.kindOf x = some .local) (hk : env.scope.kind = .function)
    (r : SlotRep f.Z f.at_ s.heap x sl v) (q : ∀ s', Inv K mg f env (put ρ x sl) s' → Kp0 s s' → Heap.SameBut env.locals s.heap s'.heap → Q () s') : wpAny M A (storeName env x v) Q E s := by
  obtain ⟨m, hm, hq⟩ := I.loc
  obtain ⟨oL, es, ep, hoL, hdL, hsk⟩ := id hm
  have hns : ∀ its n, oL.data ≠ .seq its n := fun its n e => by rw [hdL] at e; cases e
  refine wpAny_storeName_local hl hm (fun h' hn' hs' => q _ ?_ (kp_but hs' hoL hns fun vs e => by rw [hdL] at e; cases e) hs') (by rw [hk]; rfl)
  have sk := I.seqKept_but hs' hoL hns
  have ok := I.own_but hs' hoL hns
  have ne : ∀ c v, s.heap.IsCell c v → c ≠ env.locals := fun c v ⟨o, h1, h2⟩ => ne_data h1 hoL (by rw [h2, hdL]; exact fun e => by cases e)
  refine ⟨I.base, fun b o e => (hs'.2 b (by rintro rfl; rw [I.newL] at e; cases e)).trans (I.keep b o e), I.newL, I.newC, ⟨_, hn', fun y sl' e k => ?_⟩, fun y sl' e k => ?_, fun y c e => let ⟨v, h⟩ := I.cal y c e; ⟨v, h.sameBut hs' (ne c v h)⟩, I.apt, fun a z => ?_, I.inj, I.noZ⟩
  · by_cases hy : y = x
    · subst hy
      simp only [put, if_true] at e ⊢
      cases e
      exact ⟨v, rfl, r.carry sk ok⟩
    · simp only [put, if_neg hy] at e ⊢
      obtain ⟨v', h1, h2⟩ := hq y sl' e k
      exact ⟨v', h1, h2.carry sk ok⟩
  · have hy : y ≠ x := by
      rintro rfl
      rw [hl] at k
      rcases k with k | k <;> cases k
    simp only [put, if_neg hy] at e
    obtain ⟨c, v', h1, h2, h3⟩ := I.cel y sl' e k
    exact ⟨c, v', h1, h2.sameBut hs' (ne c _ h2), h3.carry sk ok⟩
  · obtain ⟨ob, its, n, h1, h2⟩ := I.zal a z
    exact ⟨ob, its, n, (hs'.2 a (ne_data h1 hoL (by rw [h2, hdL]; exact fun e => by cases e))).trans h1, h2⟩
theorem store_cell {M : Model} {A : Around} {E : Value → Shared → Prop} {Q : Unit → Shared → Prop} {x : Str} {sl : Slot} {v : Value} {c : Addr} (I : Inv K mg f env ρ s) (hl : env.kindOf x = some .cell) (hk : env.scope.kind = .function) (hc : env.cells.lookup x = some c) (hw : f.W x)
    (r : SlotRep f.Z f.at_ s.heap x sl v) (q : ∀ s', Inv K mg f env (put ρ x sl) s' → Kp0 s s' → Q () s') : wpAny M A (storeName env x v) Q E s := by
  obtain ⟨v₀, hv₀⟩ := I.cal x c hc
  obtain ⟨oc, hoc, hdc⟩ := id hv₀
  have hns : ∀ its n, oc.data ≠ .seq its n := fun its n e => by rw [hdc] at e; cases e
  refine wpAny_storeName_cell hk hl hc hv₀ (fun h' hn' hs' => q _ ?_ (kp_but hs' hoc hns fun vs e => by rw [hdc] at e; cases e))
  have sk := I.seqKept_but hs' hoc hns
  have ok := I.own_but hs' hoc hns
  obtain ⟨m, hm, hq⟩ := I.loc
  have hLc : env.locals ≠ c := by
    obtain ⟨oL, es, ep, hoL, hdL, _⟩ := id hm
    exact ne_data hoL hoc (by rw [hdL, hdc]; exact fun e => by cases e)
  refine ⟨I.base, fun b o e => (hs'.2 b (by rintro rfl; rw [I.newC x b hw hc] at e; cases e)).trans (I.keep b o e), I.newL, I.newC, ⟨m, hm.sameBut hs' hLc, fun y sl' e k => ?_⟩, fun y sl' e k => ?_, fun y c' e => ?_, I.apt, fun a z => ?_, I.inj, I.noZ⟩
  · have hy : y ≠ x := by rintro rfl; rw [hl] at k; cases k
    simp only [put, if_neg hy] at e
    obtain ⟨v', h1, h2⟩ := hq y sl' e k
    exact ⟨v', h1, h2.carry sk ok⟩
  · by_cases hy : y = x
    · subst hy
      simp only [put, if_true] at e
      cases e
      exact ⟨c, v, hc, hn', r.carry sk ok⟩
    · simp only [put, if_neg hy] at e
      obtain ⟨c', v', h1, h2, h3⟩ := I.cel y sl' e k
      exact ⟨c', v', h1, h2.sameBut hs' (fun q => hy (I.apt y x c' h1 (q ▸ hc))), h3.carry sk ok⟩
  · by_cases hcc : c' = c
    · subst hcc; exact ⟨_, hn'⟩
    · obtain ⟨v, h⟩ := I.cal y c' e
      exact ⟨v, h.sameBut hs' hcc⟩
  · obtain ⟨ob, its, n, h1, h2⟩ := I.zal a z
    exact ⟨ob, its, n, (hs'.2 a (ne_data h1 hoc (by rw [h2, hdc]; exact fun e => by cases e))).trans h1, h2⟩
end

/-- x may be stored in this frame -/
noncomputable def Sto (env : Env) (x : Str) : Prop := env.kindOf x = some .local ∨ (env.kindOf x = some .cell ∧ (env.cells.lookup x).isSome = true)
section
variable {C : Cfg} {n : Nat} {env : Env} {ρ ρ' ρ'' : Env1} {f : Fz} {A : Around} {s : Shared}
theorem store {M : Model} {E : Value → Shared → Prop} {Q : Unit → Shared → Prop} {x : Str} {sl : Slot} {v : Value} (I : Inv C.K C.mg f env ρ s) (hx : Sto env x) (hw : f.W x) (hk : env.scope.kind = .function)
    (r : SlotRep f.Z f.at_ s.heap x sl v) (q : ∀ s', Inv C.K C.mg f env (put ρ x sl) s' → Kp0 s s' → Q () s') : wpAny M A (storeName env x v) Q E s := by
  rcases hx with hl | ⟨hl, hc⟩
  · exact store_local I hl hk r fun s' I' k _ => q s' I' k
  · obtain ⟨c, hc⟩ := Option.isSome_iff_exists.mp hc
    exact store_cell I hl hk hc hw r q

/-- a target takes the value p -/
structure Bd (C : Cfg) (env : Env) (W : Str → Prop) (t : Expr) (p : PV) (ρ ρ' : Env1) : Prop where mk ::
  go :
  ∀ (A : Around) (s : Shared) (f : Fz) (v : Value), Room 0 A → f.W = W → Inv C.K C.mg f env ρ s → Rep f.Zs s.heap p v → wpAny C.M A (assign t env v) (fun _ s' => Inv C.K C.mg f env ρ' s' ∧ Kp0 s s') noE s
theorem bd_name {W : Str → Prop} {x : Str} {pos : Pos} {p : PV} (hx : Sto env x) (hw : W x) (hk : env.scope.kind = .function := by rfl) : Bd C env W (.Name x pos) p ρ (put ρ x (.val p)) :=
  .mk fun A s f v R hf I r => wpAny_assign_Name (store I hx (hf ▸ hw) hk (sl := .val p) r fun s' I' k => ⟨I', k⟩)
theorem inv_kept (I : Inv C.K C.mg f env ρ s) {h' : Heap} {tk : Nat} (hk : ∀ b o, s.heap.get? b = some o → h'.get? b = some o) : Inv C.K C.mg f env ρ { s with heap := h', toks := tk } := I.keeps ⟨h', tk, rfl, hk⟩
theorem bd_pair {W : Str → Prop} {t₁ t₂ : Expr} {k : Nat} {pos : Pos} {p q : PV} (h1 : Bd C env W t₁ p ρ ρ') (h2 : Bd C env W t₂ q ρ' ρ'') (he : assignEach [t₁, t₂] env = [(false, assign t₁ env), (false, assign t₂ env)] := by rfl) :
    Bd C env W (.Tuple [t₁, t₂] k pos) (.tup [p, q]) ρ ρ'' := .mk fun A s f v R hf I r => by
  obtain ⟨a, its, m, rfl, z, ht, rr⟩ := r
  obtain ⟨v1, r1, e1, hr1, hr2⟩ := rr
  obtain ⟨v2, r2, e2, hr3, hr4⟩ := hr2
  rw [Reps] at hr4
  subst e2 hr4
  have hits : its.toList = [v1, v2] := e1
  have hsz : its.size = 2 := by rw [← Array.length_toList, hits]; rfl
  rw [assign_Tuple, he]
  refine wpAny_bind (wpAny_standAt (unpack_tuple R.1 (items := its) ⟨_, ht, rfl, m, rfl⟩ hsz.symm rfl fun h' hx => ?_))
  have hk : ∀ b o, s.heap.get? b = some o → h'.get? b = some o := fun b o e => hx b o (Nat.ne_of_lt (Heap.lt_size e)) e
  rw [hits]
  have I' : Inv C.K C.mg f env ρ { s with heap := h' } := inv_kept (tk := s.toks) I hk
  show wpAny _ _ (holding [v2] (assign t₁ env v1) >>= fun _ => assignInOrder [assign t₂ env] [v2]) _ _ _
  refine wpAny_bind (wpAny_holding (wpAny_mono (h1.go A _ f v1 R hf I' (hr1.keeps hk)) (fun _ s₁ q => ?_) fun _ _ q => q))
  obtain ⟨I₁, k₁⟩ := q
  show wpAny _ _ (holding [] (assign t₂ env v2) >>= fun _ => assignInOrder [] []) _ _ _
  refine wpAny_bind (wpAny_holding (wpAny_mono (h2.go A s₁ f v2 R hf I₁ (k₁.weak.rep (hr3.keeps hk))) (fun _ s₂ q => ?_) fun _ _ q => q))
  obtain ⟨I₂, k₂⟩ := q
  refine wpAny_pure ⟨I₂, ?_⟩
  have k₀ : Kp0 s { s with heap := h' } := .of ⟨h', s.toks, rfl, hk⟩
  exact (k₀.trans k₁).trans k₂

-- statements
/-- the statements come to their end with ρ' -/
structure ExN (C : Cfg) (n : Nat) (env : Env) (W : Str → Prop) (ρ : Env1) (ss : List Stmt) (ρ' : Env1) : Prop where mk ::
  go :
  ∀ (A : Around) (s : Shared) (f : Fz), Room n A → f.W = W → Inv C.K C.mg f env ρ s → wpAny C.M A (execs ss env) (fun fl s' => fl = .next ∧ Inv C.K C.mg f env ρ' s' ∧ Kp f.Zs s s') noE s
/-- one statement -/
structure Ex1 (C : Cfg) (n : Nat) (env : Env) (W : Str → Prop) (ρ : Env1) (st : Stmt) (ρ' : Env1) : Prop where mk ::
  go :
  ∀ (A : Around) (s : Shared) (f : Fz), Room n A → f.W = W → Inv C.K C.mg f env ρ s → wpAny C.M A (exec st env) (fun fl s' => fl = .next ∧ Inv C.K C.mg f env ρ' s' ∧ Kp f.Zs s s') noE s
theorem Room.zero {A : Around} (r : Room n A) : Room 0 A := r.less (Nat.zero_le _)
variable {W : Str → Prop}
theorem ex_nil : ExN C n env W ρ [] ρ := .mk fun A s f R hf I => wpAny_execs_nil ⟨rfl, I, .refl s⟩
theorem ex_cons {st : Stmt} {rest : List Stmt} (h1 : Ex1 C n env W ρ st ρ') (h2 : ExN C n env W ρ' rest ρ'') : ExN C n env W ρ (st :: rest) ρ'' := .mk fun A s f R hf I =>
  wpAny_execs_cons (wpAny_mono (h1.go A s f R hf I) (fun fl s₁ q => by
    obtain ⟨rfl, I₁, k₁⟩ := q
    exact wpAny_mono (h2.go A s₁ f R hf I₁) (fun fl s₂ q => ⟨q.1, q.2.1, k₁.trans q.2.2⟩) fun _ _ q => q) fun _ _ q => q)
theorem ex_assign {x : Str} {px pos : Pos} {e : Expr} {p : PV} (h : Ev C n env ρ e p) (hx : Sto env x) (hw : W x) (hs : swapsWith e (some (.Name x px)) pos.line env = pure false := by rfl) (hk : env.scope.kind = .function := by rfl) :
    Ex1 C n env W ρ (.Assign [.Name x px] e pos) (put ρ x (.val p)) := .mk fun A s f R hf I =>
  wpAny_Assign_Name (h.use R I fun v s₁ r₁ k₁ I₁ => store I₁ hx (hf ▸ hw) hk (sl := .val p) r₁ fun s' I' k' => ⟨rfl, I', (Kp.of k₁).trans k'.weak⟩) hs
theorem ld_name {M : Model} {E : Value → Shared → Prop} {Q : Value → Shared → Prop} {x : Str} {p : PV} (I : Inv C.K C.mg f env ρ s) (hv : ρ x = some (.val p)) (hx : Sto env x) (hk : env.scope.kind = .function) (q : ∀ v, Rep f.Zs s.heap p v → Q v s) : wpAny M A (loadName env x) Q E s := by
  rcases hx with hl | ⟨hl, hc⟩
  · obtain ⟨m, hm, hq⟩ := I.loc
    obtain ⟨v, h1, h2⟩ := hq x _ hv hl
    exact wpAny_loadName_local hk hl hm h1 (q v h2)
  · obtain ⟨c, v, h1, h2, h3⟩ := I.cel x _ hv (.inl hl)
    exact wpAny_loadName_cell hk hl h1 h2 (q v h3)
theorem ex_aug {x : Str} {px pos : Pos} {op : Operator} {e : Expr} {p q t : PV} (hv : ρ x = some (.val p)) (h : Ev C n env ρ e q) (o : Op2 C n (inplaceOp op) p q t) (hx : Sto env x) (hw : W x) (hk : env.scope.kind = .function := by rfl) :
    Ex1 C n env W ρ (.AugAssign (.Name x px) op e pos) (put ρ x (.val t)) := .mk fun A s f R hf I =>
  wpAny_AugAssign_Name (ld_name I hv hx hk fun v r => h.use R I fun u s₁ r₁ k₁ I₁ => wpAny_mono (o A s₁ f.Zs v u R I₁.zl I₁.bs (r.keeps (kUp k₁)) r₁) (fun w s₂ z =>
    store (I₁.keeps z.2) hx (hf ▸ hw) hk (sl := .val t) z.1 fun s' I' k' => ⟨rfl, I', ((Kp.of k₁).trans (.of z.2)).trans k'.weak⟩) fun _ _ z => z)
theorem ex_if {t : Expr} {a b : List Stmt} {pos : Pos} {c : Bool} (h : Tr C n env ρ t c) (h1 : c = true → ExN C n env W ρ a ρ') (h2 : c = false → ExN C n env W ρ b ρ') : Ex1 C n env W ρ (.If t a b pos) ρ' := .mk fun A s f R hf I =>
  wpAny_If (h.use R I fun s₁ k₁ I₁ => by
    cases c with
    | true => exact wpAny_mono ((h1 rfl).go A s₁ f R hf I₁) (fun _ _ q => ⟨q.1, q.2.1, (Kp.of k₁).trans q.2.2⟩) fun _ _ q => q
    | false => exact wpAny_mono ((h2 rfl).go A s₁ f R hf I₁) (fun _ _ q => ⟨q.1, q.2.1, (Kp.of k₁).trans q.2.2⟩) fun _ _ q => q)

-- what a loop runs over
noncomputable def notOwned (nm : String) : Bool := !(["enumerate", "zip", "dict_itemiterator", "dict_reverseitemiterator", "odict_iterator", "itertools.zip_longest", "itertools.pairwise"] : List String).contains nm
noncomputable def Src (C : Cfg) (A : Around) (Z : Addr → Prop) (s₀ s : Shared) (it : Value) (xs : List PV) : Prop :=
  ∃ I fp wr P St, it = .ref I ∧ Walks C.prog C.w A I fp wr xs.length P St ∧ St 0 s.heap ∧ (∀ b ∈ fp, ∃ ob, s.heap.get? b = some ob ∧ Sty Z b ob) ∧ (∀ b ∈ wr, s₀.heap.get? b = none) ∧
    (∀ i h, St i h → ∀ b ∈ wr, ∃ ob vs, h.get? b = some ob ∧ ob.data = .fields vs) ∧ (∀ i v, P i v → ∃ p, xs[i]? = some p ∧ Rep Z s.heap p v) ∧ (∀ i h, St i h → ∃ ob nm vs, h.get? I = some ob ∧ ob.cls = .type nm ∧ ob.data = .fields vs ∧ notOwned nm = true)
structure It (C : Cfg) (n : Nat) (env : Env) (ρ : Env1) (e : Expr) (xs : List PV) : Prop where mk ::
  go :
  ∀ (A : Around) (s : Shared) (f : Fz), Room n A → Inv C.K C.mg f env ρ s →
    wpAny C.M A (eval e env) (fun v s₁ => wpAny C.M A (pyIter v) (fun it s₂ => Src C A f.Zs s s₂ it xs ∧ Keeps s s₂) noE s₁) noE s
theorem it_list {e : Expr} {xs : List PV} (h : Ev C n env ρ e (.list xs)) : It C n env ρ e xs := .mk fun A s f R I =>
  h.use R I fun v s₁ r₁ k₁ I₁ => by
    obtain ⟨a, its, rfl, z, hl, r⟩ := r₁
    obtain ⟨ob, ho, hc, m, hd⟩ := id hl
    have hlt := Heap.lt_size ho
    have hlen : its.size = xs.length := by simpa using r.length
    have up : ∀ b o, s₁.heap.get? b = some o → (s₁.heap.push { cls := .type "list_iterator", data := .fields #[.ref a, .int 0 0] }).get? b = some o := fun _ _ e => Heap.get?_push_of_some _ e
    refine wpAny_pyIter_list hl ⟨⟨s₁.heap.objs.size, [s₁.heap.objs.size, a], [s₁.heap.objs.size], _, _, rfl, hlen ▸ Walks.list R.1 _ a (Nat.ne_of_lt hlt) its, ⟨⟨_, Heap.get?_push_size _ rfl, rfl, rfl⟩, hl.push _⟩, ?_, ?_, ?_, ?_, fun i h st => let ⟨o, h1, h2, h3⟩ := st.1; ⟨o, _, _, h1, h2, h3, by decide⟩⟩, kT k₁ (kPush s₁ _ _)⟩
    · intro b hb
      simp only [List.mem_cons, List.mem_singleton, List.not_mem_nil, or_false] at hb
      rcases hb with rfl | rfl
      · exact ⟨_, Heap.get?_push_size _ rfl, .inl ⟨_, rfl⟩⟩
      · exact ⟨ob, up _ _ ho, .inr ⟨⟨its, m, hd⟩, z⟩⟩
    · intro b hb
      rw [List.mem_singleton] at hb
      subst hb
      cases q : s.heap.get? s₁.heap.objs.size with
      | none => rfl
      | some o => exact absurd (Heap.lt_size (kUp k₁ _ _ q)) (Nat.lt_irrefl _)
    · rintro i h ⟨⟨o, h1, h2, h3⟩, _⟩ b hb
      rw [List.mem_singleton] at hb
      subst hb
      exact ⟨o, _, h1, h3⟩
    · intro i v hv
      have hi : i < xs.length := by
        have := (Array.getElem?_eq_some_iff.mp hv).1
        omega
      obtain ⟨p, hp⟩ : ∃ p, xs[i]? = some p := ⟨xs[i], by simp [hi]⟩
      obtain ⟨v', h1, h2⟩ := r.get hp
      have : v' = v := by
        have : its[i]? = some v' := by simpa using h1
        rw [this] at hv
        exact Option.some.inj hv
      subst this
      exact ⟨p, hp, h2.keeps up⟩

theorem it_tup {e : Expr} {xs : List PV} (h : Ev C n env ρ e (.tup xs)) : It C n env ρ e xs := .mk fun A s f R I =>
  h.use R I fun v s₁ r₁ k₁ I₁ => by
    obtain ⟨a, its, m, rfl, z, ho, r⟩ := r₁
    have hlt := Heap.lt_size ho
    have hlen : its.size = xs.length := by simpa using r.length
    have up : ∀ b o, s₁.heap.get? b = some o → (s₁.heap.push { cls := .type "tuple_iterator", data := .fields #[.ref a, .int 0 0] }).get? b = some o := fun _ _ e => Heap.get?_push_of_some _ e
    refine iter_tuple ⟨_, ho, rfl, m, rfl⟩ ⟨⟨s₁.heap.objs.size, [s₁.heap.objs.size, a], [s₁.heap.objs.size], _, _, rfl, hlen ▸ Walks.tuple R.1 _ a (Nat.ne_of_lt hlt) its, ⟨⟨_, Heap.get?_push_size _ rfl, rfl, rfl⟩, ⟨_, up _ _ ho, rfl, m, rfl⟩⟩, ?_, ?_, ?_, ?_, fun i h st => let ⟨o, h1, h2, h3⟩ := st.1; ⟨o, _, _, h1, h2, h3, by decide⟩⟩, kT k₁ (kPush s₁ _ _)⟩
    · intro b hb
      simp only [List.mem_cons, List.not_mem_nil, or_false] at hb
      rcases hb with rfl | rfl
      · exact ⟨_, Heap.get?_push_size _ rfl, .inl ⟨_, rfl⟩⟩
      · exact ⟨_, up _ _ ho, .inr ⟨⟨its, m, rfl⟩, z⟩⟩
    · intro b hb
      rw [List.mem_singleton] at hb
      subst hb
      cases q : s.heap.get? s₁.heap.objs.size with
      | none => rfl
      | some o => exact absurd (Heap.lt_size (kUp k₁ _ _ q)) (Nat.lt_irrefl _)
    · rintro i h ⟨⟨o, h1, h2, h3⟩, _⟩ b hb
      rw [List.mem_singleton] at hb
      subst hb
      exact ⟨o, _, h1, h3⟩
    · intro i v hv
      have hi : i < xs.length := by
        have := (Array.getElem?_eq_some_iff.mp hv).1
        omega
      obtain ⟨p, hp⟩ : ∃ p, xs[i]? = some p := ⟨xs[i], by simp [hi]⟩
      obtain ⟨v', h1, h2⟩ := r.get hp
      have : v' = v := by
        have : its[i]? = some v' := by simpa using h1
        rw [this] at hv
        exact Option.some.inj hv
      subst this
      exact ⟨p, hp, h2.keeps up⟩
theorem starEach1 {e : Expr} (h : starEach [e] env = [(false, eval e env)]) {pos : Pos} : (backTo pos (starEach [e] env)).any (·.1) = false := by rw [h]; rfl
noncomputable def rangeI (k : Nat) : List Int := (List.range k).map fun (i : Nat) => (i : Int)
noncomputable def rangeP (k : Nat) : List PV := (rangeI k).map PV.int
theorem rangeP_length (k : Nat) : (rangeP k).length = k := by simp [rangeP, rangeI]
theorem rangeP_get {k i : Nat} (h : i < k) : (rangeP k)[i]? = some (.int i) := by simp [rangeP, rangeI, h]
theorem it_range {e : Expr} {px pos : Pos} {k : Int} (hm : C.mg "range" = none) (h : Ev C n env ρ e (.int k)) (hk : k < 2 ^ 62) (hlo : -(2 ^ 62) ≤ k) (he : starEach [e] env = [(false, eval e env)] := by rfl)
    (hl : env.kindOf "range" = some .globalImplicit := by rfl) (hf : env.scope.kind = .function := by rfl) (hg : env.globals = mainGlobals := by rfl) (hb : env.builtins = builtinsNs := by rfl) :
    It C n env ρ (.Call (.Name "range" px) [e] [] pos) (rangeP k.toNat) := .mk fun A s f R I => by
  refine Call_ ((ev_built (n := n) (ρ := ρ) hm (v := .type "range") (by decide +kernel) (by decide) hl hf hg hb).use R I fun v s₁ r₁ k₁ I₁ => ?_)
  obtain rfl : v = .type "range" := r₁
  refine PyProof.Rows.callWith_type (starEach1 he) ?_
  rw [he]
  refine evalArgs_plain ?_
  have : wpAny C.M A (spliced (backTo pos (starEach [e] env))) (fun vs s' => wpAny C.M A (call (.type "range") ([] ++ vs) []) (fun v s₁ => wpAny C.M A (pyIter v) (fun it s₂ => Src C A f.Zs s s₂ it (rangeP k.toNat) ∧ Keeps s s₂) noE s₁) noE s') noE s₁ := by
    refine (evs_cons h evs_nil he).use R I₁ fun vs s₂ r₂ k₂ I₂ => ?_
    obtain ⟨v, rr, rfl, ⟨t, rfl⟩, h2⟩ := r₂
    obtain rfl : rr = [] := h2
    refine call_range_1 ?_
    refine wpAny_pyIter_range (IsRange.new ..) (small_one (by decide) (by decide) hlo hk) ?_
    have hz : Builtin.Range.rangeSize 0 k 1 = (k.toNat : Int) := by rw [rangeSize_one]; split <;> omega
    have kk := kT k₁ k₂
    refine ⟨⟨_, [_], [_], _, _, rfl, (Walks.range R.1 _ 0 1 (rangeP k.toNat).length).bound, ?_, ?_, ?_, ?_, ?_, fun i h st => ⟨_, _, _, st, rfl, rfl, by decide⟩⟩, kT kk (kPush2 s₂ _ _ _)⟩
    · show IsRangeIter _ _ _ _ _
      rw [show (((rangeP k.toNat).length : Nat) : Int) - ((0 : Nat) : Int) = Builtin.Range.rangeSize 0 k 1 by rw [rangeP_length, hz]; simp]
      have := Heap.get?_push_size (s₂.heap.push { cls := .type "range", data := .fields #[.int 0 s₂.toks, .int k t, .int 1 (s₂.toks + 1)] }) (o := { cls := .type "range_iterator", data := .fields #[rawInt 0, rawInt (Builtin.Range.rangeSize 0 k 1), rawInt 1] }) rfl
      simpa using this
    · intro b hb
      rw [List.mem_singleton] at hb
      rw [hb]
      exact ⟨_, Heap.get?_push_size (s₂.heap.push _) (o := { cls := .type "range_iterator", data := .fields #[rawInt 0, rawInt (Builtin.Range.rangeSize 0 k 1), rawInt 1] }) rfl, .inl ⟨_, rfl⟩⟩
    · intro b hb
      rw [List.mem_singleton] at hb
      have h2 := Heap.size_push s₂.heap ({ cls := .type "range", data := .fields #[.int 0 s₂.toks, .int k t, .int 1 (s₂.toks + 1)] } : Obj)
      have h3 : b = s₂.heap.objs.size + 1 := hb.trans h2
      cases q : s.heap.get? b with
      | none => rfl
      | some o =>
        have h1 := Heap.lt_size (kUp kk _ _ q)
        rw [h3] at h1
        exact absurd h1 (Nat.not_lt.mpr (Nat.le_succ _))
    · intro i h st b hb
      rw [List.mem_singleton] at hb
      rw [hb]
      exact ⟨_, _, st, rfl⟩
    · rintro i v ⟨hi, t, rfl⟩
      rw [rangeP_length] at hi
      exact ⟨_, rangeP_get hi, ⟨t, by simp⟩⟩
  rw [he] at this
  exact this

theorem Inv.wr (I : Inv C.K C.mg f env ρ s) {wr : List Addr} {h' : Heap} {tk : Nat} (hw : ∀ b ∈ wr, f.h₀.get? b = none) (hd : ∀ b ∈ wr, ∃ ob vs, s.heap.get? b = some ob ∧ ob.data = .fields vs)
    (hk : ∀ b o, b ∉ wr → s.heap.get? b = some o → h'.get? b = some o) : Inv C.K C.mg f env ρ { s with heap := h', toks := tk } := by
  have off : ∀ b o, s.heap.get? b = some o → (∀ vs, o.data ≠ .fields vs) → h'.get? b = some o := fun b o e hn => hk b o (fun m => by
    obtain ⟨ob, vs, h1, h2⟩ := hd b m
    rw [e] at h1; cases h1
    exact hn vs h2) e
  have sk : SeqKept f.Zs s.heap h' := fun a ob its n z ho hd => off a ob ho fun vs e => by rw [hd] at e; cases e
  have ok : ∀ x a o, f.at_ x = some a → s.heap.get? a = some o → h'.get? a = some o := fun x a o ha ho => by
    obtain ⟨ob, its, n, h1, h2⟩ := I.zal a (.inr ⟨x, ha⟩)
    rw [ho] at h1; cases h1
    exact off a _ ho fun vs e => by rw [h2] at e; cases e
  have cl : ∀ c v, s.heap.IsCell c v → h'.IsCell c v := fun c v ⟨o, h1, h2⟩ => ⟨o, off c o h1 fun vs e => by (rw [h2] at e; cases e), h2⟩
  refine ⟨I.base, fun b o e => hk b o (fun m => by rw [hw b m] at e; cases e) (I.keep b o e), I.newL, I.newC, ?_, fun x sl e k => ?_, fun x c e => let ⟨v, h⟩ := I.cal x c e; ⟨v, cl c v h⟩, I.apt, fun a z => ?_, I.inj, I.noZ⟩
  · obtain ⟨m, ⟨oL, es, ep, h1, h2, h3⟩, q⟩ := I.loc
    refine ⟨m, ⟨oL, es, ep, off _ _ h1 fun vs e => by (rw [h2] at e; cases e), h2, h3⟩, fun x sl e k => ?_⟩
    obtain ⟨v, h1, h2⟩ := q x sl e k
    exact ⟨v, h1, h2.carry sk ok⟩
  · obtain ⟨c, v, h1, h2, h3⟩ := I.cel x sl e k
    exact ⟨c, v, h1, cl c _ h2, h3.carry sk ok⟩
  · obtain ⟨ob, its, n, h1, h2⟩ := I.zal a z
    exact ⟨ob, its, n, off a ob h1 fun vs e => by (rw [h2] at e; cases e), h2⟩

theorem owned_go {M : Model} {E : Value → Shared → Prop} {Q : Unit → Shared → Prop} {t : Expr} {I : Addr} {v : Value} {ob : Obj} {nm : String} {vs : Array Value} (h1 : s.heap.get? I = some ob) (h2 : ob.cls = .type nm) (h3 : ob.data = .fields vs) (h4 : notOwned nm = true)
    (q : Q () s) : wpAny M A (letOwnedTupleGo t (.ref I) v) Q E s := by
  have key : wpAny M A (match (Value.ref I, v) with
    | (.ref r, .ref a) => (do
      let o ← load r
      match o.cls, o.data with
      | .type n, .fields vs =>
        if ["enumerate", "zip", "dict_itemiterator", "dict_reverseitemiterator", "odict_iterator", "itertools.zip_longest", "itertools.pairwise"].contains n && vs[0]? == some (rawInt a) then
          rule "for.unpacks-the-owned-tuple"
          updateField r 0 .none
      | _, _ => pure ())
    | _ => pure ()) Q E s := by
    cases v with
    | ref a =>
      refine wpAny_bind (wpAny_load h1 ?_)
      rw [h2, h3]
      have : (["enumerate", "zip", "dict_itemiterator", "dict_reverseitemiterator", "odict_iterator", "itertools.zip_longest", "itertools.pairwise"] : List String).contains nm = false := by
        unfold notOwned at h4
        simpa using h4
      simp only [this, Bool.false_and, Bool.false_eq_true, if_false]
      exact wpAny_pure q
    | _ => exact wpAny_pure q
  unfold letOwnedTupleGo
  split
  · exact key
  · exact key
  · exact wpAny_pure q

inductive Goes (step : PV → Env1 → Env1 → Prop) : List PV → Env1 → Env1 → Prop
  | nil (ρ : Env1) : Goes step [] ρ ρ
  | cons {x : PV} {xs : List PV} {ρ ρ₁ ρ₂ : Env1} : step x ρ ρ₁ → Goes step xs ρ₁ ρ₂ → Goes step (x :: xs) ρ ρ₂

theorem ex_for {t e : Expr} {body : List Stmt} {pos : Pos} {xs : List PV} (h : It C n env ρ e xs) (g : Goes (fun x ρ ρ₁ => ∃ ρm, Bd C env W t x ρ ρm ∧ ExN C n env W ρm body ρ₁) xs ρ ρ')
    (hs : ∀ x, foldedSetIterable e env x = pure x := by intro _; rfl) : Ex1 C n env W ρ (.For t e body [] pos) ρ' := .mk fun A s₀ f R hf I₀ => by
  refine wpAny_For (wpAny_mono (h.go A s₀ f R I₀) (fun v s₁ q => wpAny_mono q (fun it s₂ q => ?_) fun _ _ q => q.elim) fun _ _ q => q.elim) hs
  obtain ⟨⟨I, fp, wr, P, St, rfl, Wk, hst, hfp, hwr, hwd, hP, hown⟩, k₂⟩ := q
  have I₂ := I₀.keeps k₂
  have hw0 : ∀ b ∈ wr, f.h₀.get? b = none := fun b hb => by
    cases q : f.h₀.get? b with
    | none => rfl
    | some o => have := I₀.keep b o q; rw [hwr b hb] at this; cases this
  refine codeAny_loop' rfl (fun m s => ∃ i ρi, m = xs.length + 1 - i ∧ i ≤ xs.length ∧ St i s.heap ∧ (∀ b ∈ fp, ∃ ob, s.heap.get? b = some ob ∧ Sty f.Zs b ob) ∧ Inv C.K C.mg f env ρi s ∧ Kp f.Zs s₀ s ∧ SeqKept f.Zs s₂.heap s.heap ∧
    Goes (fun x ρ ρ₁ => ∃ ρm, Bd C env W t x ρ ρm ∧ ExN C n env W ρm body ρ₁) (xs.drop i) ρi ρ') (fun m s hI => ?_) (xs.length + 1) ⟨0, ρ, rfl, Nat.zero_le _, hst, hfp, I₂, .of k₂, fun _ _ _ _ _ e _ => e, by simpa using g⟩
  obtain ⟨i, ρi, rfl, hi, hst, hfp, Ii, kp, sk, gi⟩ := hI
  show wpAny _ A ((forTurn t (.ref I) body [] env).onRaise (fun x => do noteFrame x env; theTreesLotGoes x)) _ _ s
  refine wpAny_noted ?_
  simp only [forTurn]
  refine wpAny_bind (wpAny_standAt (wpAny_bind (wpAny_onRaise ?_)))
  by_cases hlt : i < xs.length
  · refine Wk.item i s _ _ hlt hst fun v h₁ tk₁ hv hst₁ hk₁ => ?_
    obtain ⟨p, hp, rp⟩ := hP i v hv
    have Iw : Inv C.K C.mg f env ρi { s with heap := h₁, toks := tk₁ } := Ii.wr hw0 (hwd i _ hst) hk₁
    have kp₁ : Kp f.Zs s₀ { s with heap := h₁, toks := tk₁ } := by
      obtain ⟨h', tk', rfl, q⟩ := kp
      exact ⟨h₁, tk₁, rfl, fun b ob e y => hk₁ b ob (fun m => by rw [hwr b m] at e; cases e) (q b ob e y)⟩
    have sk₁ : SeqKept f.Zs s₂.heap h₁ := fun a ob its n z e d => hk₁ a ob (fun m => by
      obtain ⟨o', vs, h1, h2⟩ := hwd i _ hst a m
      rw [sk a ob its n z e d] at h1
      cases h1
      rw [d] at h2; cases h2) (sk a ob its n z e d)
    have fp₁ : ∀ b ∈ fp, ∃ ob, h₁.get? b = some ob ∧ Sty f.Zs b ob := fun b hb => by
      by_cases hm : b ∈ wr
      · obtain ⟨ob, vs, h1, h2⟩ := hwd (i + 1) _ hst₁ b hm
        exact ⟨ob, h1, .inl ⟨vs, h2⟩⟩
      · obtain ⟨ob, h1, h2⟩ := hfp b hb
        exact ⟨ob, hk₁ b ob hm h1, h2⟩
    obtain ⟨ob, nm, vs, o1, o2, o3, o4⟩ := hown (i + 1) _ hst₁
    refine wpAny_bind (owned_go (s := { s with heap := h₁, toks := tk₁ }) o1 o2 o3 o4 ?_)
    rw [List.drop_eq_getElem_cons hlt] at gi
    have hpe : xs[i] = p := by
      have := List.getElem?_eq_getElem hlt
      rw [this] at hp
      exact Option.some.inj hp
    rw [hpe] at gi
    cases gi with
    | cons hstep gi' =>
      obtain ⟨ρm, hb, hx⟩ := hstep
      refine wpAny_bind (wpAny_mono (hb.go A _ f v R.zero hf Iw (Rep.carry sk₁ (fun _ _ q _ => q) p v rp)) (fun _ s₃ q => ?_) fun _ _ q => q.elim)
      obtain ⟨I₃, k₃⟩ := q
      refine wpAny_bind (wpAny_mono (hx.go A s₃ f R hf I₃) (fun fl s₄ q => ?_) fun _ _ q => q.elim)
      obtain ⟨rfl, I₄, k₄⟩ := q
      have k₁₄ : Kp f.Zs { s with heap := h₁, toks := tk₁ } s₄ := k₃.weak.trans k₄
      refine wpAny_pure (.inl ⟨rfl, xs.length + 1 - (i + 1), by omega, i + 1, _, rfl, hlt, ?_, ?_, I₄, kp₁.trans k₁₄, ?_, gi'⟩)
      · exact Wk.frame (i + 1) _ _ hst₁ fun b hb o e => by
          obtain ⟨ob, h1, h2⟩ := fp₁ b hb
          have : ob = o := Option.some.inj (h1.symm.trans e)
          subst this
          exact k₁₄.up b ob h1 h2
      · intro b hb
        obtain ⟨ob, h1, h2⟩ := fp₁ b hb
        exact ⟨ob, k₁₄.up b ob h1 h2, h2⟩
      · exact fun a ob its n z e d => k₁₄.seq a ob its n z (sk₁ a ob its n z e d) d
  · have hin : i = xs.length := by omega
    subst hin
    rw [List.drop_length] at gi
    cases gi
    refine Wk.done s _ _ hst fun h₁ tk₁ hk₁ => ?_
    refine wpAny_pure (.inr ⟨rfl, codeAny_block (wpAny_execs_nil ⟨rfl, Ii.wr hw0 (hwd _ _ hst) hk₁, ?_⟩)⟩)
    obtain ⟨h', tk', rfl, q⟩ := kp
    exact ⟨h₁, tk₁, rfl, fun b ob e y => hk₁ b ob (fun m => by rw [hwr b m] at e; cases e) (q b ob e y)⟩
end
end Mine
namespace Mine
open PySem PySem.Calls PyProof.Rows PySem.W
section
variable {C : Cfg} {n : Nat} {env : Env} {ρ ρ' ρ'' : Env1} {f : Fz} {A : Around} {s : Shared} {W : Str → Prop}

inductive Wh (C : Cfg) (n : Nat) (env : Env) (W : Str → Prop) (t : Expr) (body : List Stmt) : Env1 → Env1 → Prop
  | stop {ρ : Env1} : Tr C n env ρ t false → Wh C n env W t body ρ ρ
  | turn {ρ ρ₁ ρ₂ : Env1} : Tr C n env ρ t true → ExN C n env W ρ body ρ₁ → Wh C n env W t body ρ₁ ρ₂ → Wh C n env W t body ρ ρ₂
theorem ex_while {t : Expr} {body : List Stmt} {pos : Pos} (h : Wh C n env W t body ρ ρ') : Ex1 C n env W ρ (.While t body [] pos) ρ' := .mk fun A s₀ f R hf I₀ => by
  refine wpAny_While ?_
  have key : ∀ ρ ρ', Wh C n env W t body ρ ρ' → ∀ s, Inv C.K C.mg f env ρ s → codeAny C.M A (.whileLoop t body [] env) (fun r s' => r = .ok .next ∧ Inv C.K C.mg f env ρ' s' ∧ Kp f.Zs s s') s := by
    intro ρ ρ' h
    induction h with
    | @stop ρ ht =>
      intro s I
      refine codeAny_of_tree ?_
      show wpAny _ A ((whileTurn t body [] env).onRaise (fun x => do noteFrame x env; theTreesLotGoes x)) _ _ s
      refine wpAny_noted ?_
      simp only [whileTurn]
      refine wpAny_bind (wpAny_mono (ht.go A s f R I) (fun b s₁ q => ?_) fun _ _ q => q.elim)
      obtain ⟨rfl, k⟩ := q
      simp only [Bool.false_eq_true, if_false]
      exact wpAny_bind (wpAny_execs_nil (wpAny_pure ⟨rfl, I.keeps k, .of k⟩))
    | @turn ρ ρ₁ ρ₂ ht hb _ ih =>
      intro s I
      refine codeAny_of_tree ?_
      show wpAny _ A ((whileTurn t body [] env).onRaise (fun x => do noteFrame x env; theTreesLotGoes x)) _ _ s
      refine wpAny_noted ?_
      simp only [whileTurn]
      refine wpAny_bind (wpAny_mono (ht.go A s f R I) (fun b s₁ q => ?_) fun _ _ q => q.elim)
      obtain ⟨rfl, k⟩ := q
      simp only [if_true]
      refine wpAny_bind (wpAny_mono (hb.go A s₁ f R hf (I.keeps k)) (fun fl s₂ q => ?_) fun _ _ q => q.elim)
      obtain ⟨rfl, I₂, k₂⟩ := q
      exact wpAny_pure ⟨rfl, codeAny_mono (ih s₂ I₂) fun r s₃ q => ⟨q.1, q.2.1, ((Kp.of k).trans k₂).trans q.2.2⟩⟩
  exact codeAny_mono (key ρ ρ' h s₀ I₀) fun r s' q => by
    obtain ⟨rfl, q⟩ := q
    exact ⟨rfl, q⟩

-- defs
/-- a call of the def at a, with these arguments, comes to res and changes nothing that stood -/
noncomputable def Fn (C : Cfg) (n : Nat) (a : Addr) (args : List PV) (res : PV) : Prop :=
  ∀ (A : Around) (s : Shared) (Z : Addr → Prop) (vs : List Value), Room n A → Base C.K C.mg s.heap → (∀ b, Z b → ∃ ob its k, s.heap.get? b = some ob ∧ ob.data = .seq its k) → Reps Z s.heap args vs →
    wpAny C.M A (call (.ref a) vs) (fun v s' => Rep Z s'.heap res v ∧ Keeps s s') noE s
theorem ev_call {fe e : Expr} {es : List Expr} {pos : Pos} {a : Addr} {o : Obj} {fd : FuncData} {ps : List PV} {r : PV} (hf : Ev C n env ρ fe (.raw (.ref a))) (hK : C.K.lookup a = some o) (hd : o.data = .func fd) (he : Evs C n env ρ (e :: es) ps) (g : Fn C n a ps r)
    (hc : eval (.Call fe (e :: es) [] pos) env = (do callWith pos (← eval fe env) [] (backTo pos (starEach (e :: es) env)) (backToKw pos (keywordEach [] env))) := by rfl) : Ev C n env ρ (.Call fe (e :: es) [] pos) r := .mk fun A s f R I =>
  Call_ (hf.use R I fun v s₁ r₁ k₁ I₁ => by
    obtain rfl : v = .ref a := r₁
    have he' := he
    obtain ⟨p, r', _, _, hst, _⟩ := he'
    exact callWith_def hd (he.use R I₁ fun vs s₂ r₂ k₂ I₂ => ⟨I₂.bs.k a o hK, wpAny_mono (g A s₂ f.Zs vs R I₂.bs I₂.zal r₂) (fun _ _ q => ⟨q.1, kT (kT k₁ k₂) q.2⟩) fun _ _ q => q⟩) hst) hc

/-- the body of a def comes to its return -/
structure ExR (C : Cfg) (n : Nat) (env : Env) (ρ : Env1) (ss : List Stmt) (res : PV) : Prop where mk ::
  go :
  ∀ (A : Around) (s : Shared) (f : Fz), Room n A → f.W = (fun _ => True) → Inv C.K C.mg f env ρ s → wpAny C.M A (execs ss env) (fun fl s' => ∃ v h' tk, fl = .ret v ∧ Rep f.Z s'.heap res v ∧ s' = { s with heap := h', toks := tk } ∧ ∀ b o, f.h₀.get? b = some o → h'.get? b = some o) noE s
theorem exr_step {st : Stmt} {rest : List Stmt} {res : PV} (h1 : Ex1 C n env (fun _ => True) ρ st ρ') (h2 : ExR C n env ρ' rest res) : ExR C n env ρ (st :: rest) res := .mk fun A s f R hf I =>
  wpAny_execs_cons (wpAny_mono (h1.go A s f R hf I) (fun fl s₁ q => by
    obtain ⟨rfl, I₁, h', tk, rfl, q⟩ := q
    exact wpAny_mono (h2.go A _ f R hf I₁) (fun fl s₂ ⟨v, h'', tk', e, r, e', q'⟩ => ⟨v, h'', tk', e, r, e', q'⟩) fun _ _ q => q) fun _ _ q => q)
theorem Rep.sub {Z Z' : Addr → Prop} {h : Heap} {p : PV} {v : Value} (hz : ∀ a, Z' a → Z a) (r : Rep Z h p v) : Rep Z' h p v := Rep.carry (fun _ _ _ _ _ e _ => e) (fun a _ q _ => hz a q) p v r
theorem exr_ret {e : Expr} {pos : Pos} {rest : List Stmt} {p : PV} (h : Ev C n env ρ e p) : ExR C n env ρ (.Return (some e) pos :: rest) p := .mk fun A s f R hf I => by
  refine wpAny_execs_cons ?_
  rw [exec_Return_some]
  refine wpAny_bind (wpAny_standAt (wpAny_bind (h.use R I fun v s₁ r₁ k₁ I₁ => ?_)))
  obtain ⟨h', tk, rfl, k⟩ := k₁
  exact wpAny_pure ⟨v, h', tk, rfl, r₁.sub fun a q => .inl q, rfl, fun b o e => k b o (I.keep b o e)⟩
theorem exr_if_true {t : Expr} {a b : List Stmt} {pos : Pos} {rest : List Stmt} {p : PV} (h : Tr C n env ρ t true) (h1 : ExR C n env ρ a p) : ExR C n env ρ (.If t a b pos :: rest) p := .mk fun A s f R hf I =>
  wpAny_execs_cons (wpAny_If (h.use R I fun s₁ k₁ I₁ => by
    obtain ⟨h', tk, rfl, k⟩ := k₁
    exact wpAny_mono (h1.go A _ f R hf I₁) (fun fl s₂ ⟨v, h'', tk', e, r, e', q'⟩ => by subst e; exact ⟨v, h'', tk', rfl, r, e', q'⟩) fun _ _ q => q))

theorem fn_def1 {a : Addr} {o : Obj} {name : Str} {params : Arguments} {body : List Stmt} {scope : Scope} {pm cd doc : Value} {x : Str} {p res : PV} (hK : C.K.lookup a = some o) (hd : o.data = .func (docDef name params body scope pm cd doc)) (hcd : codeIn C.K cd name = true)
    (hb : ∀ v, bindArgs (docDef name params body scope pm cd doc) ⟨[v], []⟩ = pure [(x, v)]) (hk : scope.names.lookup x = some .local ∨ (scope.names.lookup x = some .cell ∧ ∀ k, ((cellsFrom k scope.names []).lookup x).isSome = true))
    (hbody : ∀ L, ExR C n (envOfC name scope L a cd) (put (fun _ => none) x (.val p)) body res) (hco : scope.isCoroutine = false := by rfl) (hgen : scope.isGenerator = false := by rfl) (hf : scope.kind = .function := by rfl) : Fn C (n + 1) a [p] res := fun A s Z vs R B hz r => by
  obtain ⟨v, rr, rfl, rp, h2⟩ := r
  obtain rfl : rr = [] := h2
  refine wpAny_call (call_cells_ret (by have := R.2.1; omega) (B.k a o hK) hd B.lim (codeRec_of B.k hcd) (hb v) (fun y hy => ?_) (fun h₁ tk F X => ?_) hco hgen hf)
  · rw [List.mem_singleton] at hy
    subst hy
    exact hk.imp id fun q => ⟨q.1, q.2 _⟩
  · have fresh : ∀ b, s.heap.objs.size ≤ b → s.heap.get? b = none := fun b hb => by
      cases q : s.heap.get? b with
      | none => rfl
      | some o => exact absurd (Heap.lt_size q) (Nat.not_lt.mpr hb)
    have I : Inv C.K C.mg ⟨Z, fun _ => none, s.heap, fun _ => True⟩ (envOfC name scope s.heap.objs.size a cd) (put (fun _ => none) x (.val p)) { s with heap := h₁, toks := tk } := by
      have rz : Rep (Zof Z fun _ => none) h₁ p v := Rep.carry (Z := Z) (.of_keeps F.keep) (fun a _ q _ => q.elim id fun ⟨_, q⟩ => (nomatch q)) p v rp
      refine ⟨B, F.keep, fresh _ (Nat.le_refl _), fun y c _ hc => fresh _ (Nat.le_of_lt (X.above y c (mem_of_lookup hc))), ⟨_, F.ns, fun y sl e k => ?_⟩, fun y sl e k => ?_, fun y c hc => ⟨_, X.cell y c hc⟩, fun y z c h1 h2 => name_of_addr X.apart (mem_of_lookup h1) (mem_of_lookup h2), fun b zb => ?_, fun _ _ _ q => (nomatch q), fun _ _ q => (nomatch q)⟩
      · by_cases hy : y = x
        · subst hy
          simp only [put, if_true] at e
          cases e
          refine ⟨v, ?_, rz⟩
          simp only [bindL, if_pos k, if_true]
        · simp only [put, if_neg hy] at e
          cases e
      · by_cases hy : y = x
        · subst hy
          simp only [put, if_true] at e
          cases e
          have hne : ¬ (envOfC name scope s.heap.objs.size a cd).kindOf y = some .local := by rintro q; rw [q] at k; rcases k with k | k <;> cases k
          have hc : ∃ c, (envOfC name scope s.heap.objs.size a cd).cells.lookup y = some c := by
            rcases hk with hk | hk
            · exact absurd hk hne
            · exact Option.isSome_iff_exists.mp (hk.2 _)
          obtain ⟨c, hc⟩ := hc
          refine ⟨c, v, hc, ?_, rz⟩
          have := X.cell y c hc
          simp only [bindC, if_neg hne, if_true] at this
          exact this
        · simp only [put, if_neg hy] at e
          cases e
      · rcases zb with zb | ⟨_, q⟩
        · obtain ⟨ob, its, k, h1, h2⟩ := hz b zb
          exact ⟨ob, its, k, F.keep b ob h1, h2⟩
        · cases q
    refine wpAny_mono ((hbody _).go _ _ ⟨Z, fun _ => none, s.heap, fun _ => True⟩ R.deeper rfl I) (fun fl s' q => ?_) fun _ _ q => q
    obtain ⟨v', h', tk', rfl, r', rfl, k'⟩ := q
    exact ⟨r', ⟨h', tk', rfl, k'⟩⟩
end
end Mine
namespace Mine
open PySem PySem.Calls PyProof.Rows PySem.W
section
variable {C : Cfg} {n : Nat} {env : Env} {ρ ρ' ρ'' : Env1} {f : Fz} {A : Around} {s : Shared} {W : Str → Prop}

theorem fresh_none {h : Heap} {b : Addr} (hb : h.objs.size ≤ b) : h.get? b = none := by
  cases q : h.get? b with
  | none => rfl
  | some o => exact absurd (Heap.lt_size q) (Nat.not_lt.mpr hb)

theorem fn_def2 {a : Addr} {o : Obj} {name : Str} {params : Arguments} {body : List Stmt} {scope : Scope} {pm cd doc : Value} {x y : Str} {p q res : PV} (hK : C.K.lookup a = some o) (hd : o.data = .func (docDef name params body scope pm cd doc)) (hcd : codeIn C.K cd name = true)
    (hb : ∀ v u, bindArgs (docDef name params body scope pm cd doc) ⟨[v, u], []⟩ = pure [(x, v), (y, u)]) (hx : scope.names.lookup x = some .local) (hy : scope.names.lookup y = some .local) (hxy : x ≠ y)
    (hbody : ∀ L, ExR C n (envOfC name scope L a cd) (put (put (fun _ => none) x (.val p)) y (.val q)) body res) (hco : scope.isCoroutine = false := by rfl) (hgen : scope.isGenerator = false := by rfl) (hf : scope.kind = .function := by rfl) : Fn C (n + 1) a [p, q] res := fun A s Z vs R B hz r => by
  obtain ⟨v, rr, rfl, rp, h2⟩ := r
  obtain ⟨u, rr, rfl, rq, h2⟩ := h2
  obtain rfl : rr = [] := h2
  refine wpAny_call (call_cells_ret (by have := R.2.1; omega) (B.k a o hK) hd B.lim (codeRec_of B.k hcd) (hb v u) (fun z hz => ?_) (fun h₁ tk F X => ?_) hco hgen hf)
  · simp only [List.mem_cons, List.not_mem_nil, or_false] at hz
    rcases hz with rfl | rfl
    · exact .inl hx
    · exact .inl hy
  · have kx : (envOfC name scope s.heap.objs.size a cd).kindOf x = some .local := hx
    have ky : (envOfC name scope s.heap.objs.size a cd).kindOf y = some .local := hy
    have I : Inv C.K C.mg ⟨Z, fun _ => none, s.heap, fun _ => True⟩ (envOfC name scope s.heap.objs.size a cd) (put (put (fun _ => none) x (.val p)) y (.val q)) { s with heap := h₁, toks := tk } := by
      have up : ∀ p v, Rep Z s.heap p v → Rep (Zof Z fun _ => none) h₁ p v := fun p v rp => Rep.carry (Z := Z) (.of_keeps F.keep) (fun a _ q _ => q.elim id fun ⟨_, q⟩ => (nomatch q)) p v rp
      refine ⟨B, F.keep, fresh_none (Nat.le_refl _), fun y c _ hc => fresh_none (Nat.le_of_lt (X.above y c (mem_of_lookup hc))), ⟨_, F.ns, fun z sl e k => ?_⟩, fun z sl e k => ?_, fun y c hc => ⟨_, X.cell y c hc⟩, fun y z c h1 h2 => name_of_addr X.apart (mem_of_lookup h1) (mem_of_lookup h2), fun b zb => ?_, fun _ _ _ q => (nomatch q), fun _ _ q => (nomatch q)⟩
      · by_cases h1 : z = y
        · subst h1
          simp only [put, if_true] at e
          cases e
          refine ⟨u, ?_, up _ _ rq⟩
          simp only [bindL, if_pos kx, if_pos ky, if_true]
        · by_cases h2 : z = x
          · subst h2
            simp only [put, if_neg h1, if_true] at e
            cases e
            refine ⟨v, ?_, up _ _ rp⟩
            simp only [bindL, if_pos kx, if_pos ky, if_neg h1, if_true]
          · simp only [put, if_neg h1, if_neg h2] at e
            cases e
      · by_cases h1 : z = y
        · subst h1
          rw [ky] at k
          rcases k with k | k <;> cases k
        · by_cases h2 : z = x
          · subst h2
            rw [kx] at k
            rcases k with k | k <;> cases k
          · simp only [put, if_neg h1, if_neg h2] at e
            cases e
      · rcases zb with zb | ⟨_, q⟩
        · obtain ⟨ob, its, k, h1, h2⟩ := hz b zb
          exact ⟨ob, its, k, F.keep b ob h1, h2⟩
        · cases q
    refine wpAny_mono ((hbody _).go _ _ ⟨Z, fun _ => none, s.heap, fun _ => True⟩ R.deeper rfl I) (fun fl s' q => ?_) fun _ _ q => q
    obtain ⟨v', h', tk', rfl, r', rfl, k'⟩ := q
    exact ⟨r', ⟨h', tk', rfl, k'⟩⟩

-- a list of the frame's own
noncomputable def Fz.own (f : Fz) (x : Str) (a : Addr) : Fz := { f with at_ := fun y => if y = x then some a else f.at_ y }
noncomputable def Fz.disown (f : Fz) (x : Str) : Fz := { f with at_ := fun y => if y = x then none else f.at_ y }
theorem Inv.dis {x : Str} {xs : List PV} (I : Inv C.K C.mg f env ρ s) (hx : ρ x = some (.own xs)) : Inv C.K C.mg (f.disown x) env (put ρ x (.val (.list xs))) s := by
  have hz : ∀ b, (f.disown x).Zs b → f.Zs b := fun b zb => zb.imp id fun ⟨y, q⟩ => by
    by_cases hy : y = x
    · simp [Fz.disown, hy] at q
    · exact ⟨y, by simpa [Fz.disown, hy] using q⟩
  have hsl : ∀ y sl v, y ≠ x → SlotRep f.Z f.at_ s.heap y sl v → SlotRep (f.disown x).Z (f.disown x).at_ s.heap y sl v := fun y sl v hy r => by
    cases sl with
    | val p => exact Rep.sub hz r
    | own ys =>
      obtain ⟨a, its, e, ha, hl, r⟩ := r
      exact ⟨a, its, e, by simpa [Fz.disown, hy] using ha, hl, Reps.carry (fun _ _ _ _ _ e _ => e) (fun a _ q _ => hz a q) _ _ r⟩
  have hown : ∀ v, SlotRep f.Z f.at_ s.heap x (.own xs) v → SlotRep (f.disown x).Z (f.disown x).at_ s.heap x (.val (.list xs)) v := fun v r => by
    obtain ⟨a, its, e, ha, hl, r⟩ := r
    refine ⟨a, its, e, fun z => ?_, hl.isList, Reps.carry (fun _ _ _ _ _ e _ => e) (fun a _ q _ => hz a q) _ _ r⟩
    rcases z with z | ⟨y, q⟩
    · exact (I.noZ x a ha).1 z
    · by_cases hy : y = x
      · simp [Fz.disown, hy] at q
      · exact hy (I.inj y x a (by simpa [Fz.disown, hy] using q) ha)
  refine ⟨I.base, I.keep, I.newL, I.newC, ?_, fun y sl e k => ?_, I.cal, I.apt, fun a z => I.zal a (hz a z), fun y z a h1 h2 => ?_, fun y a h => ?_⟩
  · obtain ⟨m, hm, q⟩ := I.loc
    refine ⟨m, hm, fun y sl e k => ?_⟩
    by_cases hy : y = x
    · subst hy
      simp only [put, if_true] at e
      cases e
      obtain ⟨v, h1, h2⟩ := q y _ hx k
      exact ⟨v, h1, hown v h2⟩
    · simp only [put, if_neg hy] at e
      obtain ⟨v, h1, h2⟩ := q y sl e k
      exact ⟨v, h1, hsl y sl v hy h2⟩
  · by_cases hy : y = x
    · subst hy
      simp only [put, if_true] at e
      cases e
      obtain ⟨c, v, h1, h2, h3⟩ := I.cel y _ hx k
      exact ⟨c, v, h1, h2, hown v h3⟩
    · simp only [put, if_neg hy] at e
      obtain ⟨c, v, h1, h2, h3⟩ := I.cel y sl e k
      exact ⟨c, v, h1, h2, hsl y sl v hy h3⟩
  · by_cases hy : y = x
    · simp [Fz.disown, hy] at h1
    · by_cases hz : z = x
      · simp [Fz.disown, hz] at h2
      · exact I.inj y z a (by simpa [Fz.disown, hy] using h1) (by simpa [Fz.disown, hz] using h2)
  · by_cases hy : y = x
    · simp [Fz.disown, hy] at h
    · exact I.noZ y a (by simpa [Fz.disown, hy] using h)
theorem exr_disown {x : Str} {xs : List PV} {ss : List Stmt} {res : PV} (hx : ρ x = some (.own xs)) (h : ExR C n env (put ρ x (.val (.list xs))) ss res) : ExR C n env ρ ss res := .mk fun A s f R hf I =>
  wpAny_mono (h.go A s (f.disown x) R hf (I.dis hx)) (fun _ _ q => q) fun _ _ q => q

theorem zof_own {x : Str} {a b : Addr} (z : Zof f.Z (f.own x a).at_ b) : f.Zs b ∨ b = a := by
  rcases z with z | ⟨y, q⟩
  · exact .inl (.inl z)
  · by_cases hy : y = x
    · exact .inr (by simpa [Fz.own, hy] using q.symm)
    · exact .inl (.inr ⟨y, by simpa [Fz.own, hy] using q⟩)
/-- a push of a new list, taken as the frame's own under a name that ρ does not bear -/
theorem Inv.pushOwn {x : Str} (I : Inv C.K C.mg f env ρ s) (hn : ρ x = none) {tk : Nat} : Inv C.K C.mg (f.own x s.heap.objs.size) env ρ { s with heap := s.heap.push { cls := .type "list", data := .seq #[] }, toks := tk } := by
  have up : ∀ b o, s.heap.get? b = some o → (s.heap.push { cls := .type "list", data := .seq #[] }).get? b = some o := fun _ _ e => Heap.get?_push_of_some _ e
  have I' : Inv C.K C.mg f env ρ { s with heap := s.heap.push { cls := .type "list", data := .seq #[] }, toks := tk } := inv_kept I up
  have old : ∀ b ob, Zof f.Z (f.own x s.heap.objs.size).at_ b → s.heap.get? b = some ob → f.Zs b := fun b ob z e => (zof_own z).elim id fun q => absurd (Heap.lt_size e) (by rw [q]; exact Nat.lt_irrefl _)
  -- the slots, told in the heap before the push
  have key : ∀ y sl v, y ≠ x → SlotRep f.Z f.at_ s.heap y sl v → SlotRep f.Z (f.own x s.heap.objs.size).at_ (s.heap.push { cls := .type "list", data := .seq #[] }) y sl v := fun y sl v hy r => by
    cases sl with
    | val p => exact Rep.carry (.of_keeps up) (fun b ob z e => old b ob z e) p v r
    | own xs =>
      obtain ⟨a, its, e, ha, hl, r⟩ := r
      exact ⟨a, its, e, by simpa [Fz.own, hy] using ha, hl.keeps up, Reps.carry (.of_keeps up) (fun b ob z e => old b ob z e) xs _ r⟩
  have h0 : f.h₀.get? s.heap.objs.size = none := by
    cases q : f.h₀.get? s.heap.objs.size with
    | none => rfl
    | some o => exact absurd (Heap.lt_size (I.keep _ _ q)) (Nat.lt_irrefl _)
  have hfr : ¬ f.Zs s.heap.objs.size := I.freshZ (Nat.le_refl _)
  have ho : (s.heap.push { cls := .type "list", data := .seq #[] }).get? s.heap.objs.size = some { cls := .type "list", data := .seq #[] } := Heap.get?_push_size _ rfl
  refine ⟨I'.base, I'.keep, I'.newL, I'.newC, ?_, fun y sl e k => ?_, I'.cal, I'.apt, fun b z => ?_, fun y z b h1 h2 => ?_, fun y b h => ?_⟩
  · obtain ⟨m, hm, q⟩ := I.loc
    refine ⟨m, hm.keeps up, fun y sl e k => ?_⟩
    obtain ⟨v, h1, h2⟩ := q y sl e k
    exact ⟨v, h1, key y sl v (by rintro rfl; rw [hn] at e; cases e) h2⟩
  · obtain ⟨c, v, h1, h2, h3⟩ := I.cel y sl e k
    exact ⟨c, v, h1, h2.keeps up, key y sl v (by rintro rfl; rw [hn] at e; cases e) h3⟩
  · rcases zof_own (f := f) (x := x) z with z | rfl
    · exact I'.zal b z
    · exact ⟨_, _, _, ho, rfl⟩
  · by_cases hy : y = x
    · by_cases hz : z = x
      · exact hy.trans hz.symm
      · have e1 : s.heap.objs.size = b := by simpa [Fz.own, hy] using h1
        subst e1
        exact absurd (.inr ⟨z, by simpa [Fz.own, hz] using h2⟩) hfr
    · by_cases hz : z = x
      · have e1 : s.heap.objs.size = b := by simpa [Fz.own, hz] using h2
        subst e1
        exact absurd (.inr ⟨y, by simpa [Fz.own, hy] using h1⟩) hfr
      · exact I.inj y z b (by simpa [Fz.own, hy] using h1) (by simpa [Fz.own, hz] using h2)
  · by_cases hy : y = x
    · have e1 : s.heap.objs.size = b := by simpa [Fz.own, hy] using h
      subst e1
      exact ⟨fun z => hfr (.inl z), h0⟩
    · exact I.noZ y b (by simpa [Fz.own, hy] using h)
theorem exr_own {x : Str} {px pl pos : Pos} {rest : List Stmt} {res : PV} (hn : ρ x = none) (hx : Sto env x) (h : ExR C n env (put ρ x (.own [])) rest res)
    (hs : swapsWith (.List [] pl) (some (.Name x px)) pos.line env = pure false := by rfl) (hk : env.scope.kind = .function := by rfl) : ExR C n env ρ (.Assign [.Name x px] (.List [] pl) pos :: rest) res := .mk fun A s f R hf I =>
  wpAny_execs_cons (wpAny_Assign_Name (List_ (args_nil (wpAny_newObj_type (data := .seq #[]) (by
    have I' := I.pushOwn (x := x) (tk := s.toks) hn
    refine store I' hx (by show f.W x; rw [hf]; trivial) hk (sl := .own []) ?_ fun s' I'' k' => ?_
    · exact ⟨_, #[], rfl, by simp [Fz.own], ⟨_, _, Heap.get?_push_size _ rfl, rfl, rfl, rfl⟩, rfl⟩
    · obtain ⟨h', tk, rfl, q⟩ := k'
      exact wpAny_mono (h.go A _ (f.own x s.heap.objs.size) R hf I'') (fun fl s₂ ⟨v, h'', tk', e, r, e', q'⟩ => ⟨v, h'', tk', e, r, e', q'⟩) fun _ _ q => q) (by show (0:Nat) ≤ sizeLine; decide)))) hs)

/-- the frame's own list under x is lengthened -/
theorem Inv.app {x : Str} {a : Addr} {xs : List PV} {p : PV} {its : Array Value} {v : Value} {h' : Heap} {tk : Nat} (I : Inv C.K C.mg f env ρ s) (hx : ρ x = some (.own xs)) (ha : f.at_ x = some a) (hl : PlainL s.heap a its) (r : Reps f.Zs s.heap xs its.toList) (rv : Rep f.Zs s.heap p v)
    (hl' : PlainL h' a (its.push v)) (hs : Heap.SameBut a s.heap h') : Inv C.K C.mg f env (put ρ x (.own (xs ++ [p]))) { s with heap := h', toks := tk } ∧ Kp f.Zs s { s with heap := h', toks := tk } := by
  obtain ⟨oa, na, hoa, hca, hda, hsa⟩ := id hl
  have sk : SeqKept f.Zs s.heap h' := .of_same hs fun _ _ _ _ _ => .inr ⟨x, ha⟩
  have off : ∀ b o, s.heap.get? b = some o → (∀ its n, o.data ≠ .seq its n) → h'.get? b = some o := fun b o e hn => (hs.2 b (by rintro rfl; rw [hoa] at e; cases e; exact hn _ _ hsa)).trans e
  have cl : ∀ c v, s.heap.IsCell c v → h'.IsCell c v := fun c v ⟨o, h1, h2⟩ => ⟨o, off c o h1 fun its n e => by (rw [h2] at e; cases e), h2⟩
  have other : ∀ y sl v, y ≠ x → SlotRep f.Z f.at_ s.heap y sl v → SlotRep f.Z f.at_ h' y sl v := fun y sl v hy r => by
    cases sl with
    | val p => exact Rep.carry sk (fun _ _ q _ => q) p v r
    | own ys =>
      obtain ⟨b, its', e, hb, ⟨ob, n, h1, h2⟩, r⟩ := r
      exact ⟨b, its', e, hb, ⟨ob, n, (hs.2 b (by rintro rfl; exact hy (I.inj y x b hb ha))).trans h1, h2⟩, Reps.carry sk (fun _ _ q _ => q) ys _ r⟩
  have mine : ∀ u, SlotRep f.Z f.at_ s.heap x (.own xs) u → SlotRep f.Z f.at_ h' x (.own (xs ++ [p])) u := fun u q => by
    obtain ⟨b, its', e, hb, hl'', _⟩ := q
    have : a = b := Option.some.inj (ha.symm.trans hb)
    subst this
    refine ⟨a, its.push v, e, ha, hl', ?_⟩
    rw [Array.toList_push]
    exact (Reps.carry sk (fun _ _ q _ => q) xs _ r).append ⟨v, [], rfl, Rep.carry sk (fun _ _ q _ => q) p v rv, rfl⟩
  refine ⟨⟨I.base, fun b o e => (hs.2 b (by rintro rfl; rw [(I.noZ x b ha).2] at e; cases e)).trans (I.keep b o e), I.newL, I.newC, ?_, fun y sl e k => ?_, fun y c e => let ⟨v, h⟩ := I.cal y c e; ⟨v, cl c v h⟩, I.apt, fun b z => ?_, I.inj, I.noZ⟩, h', tk, rfl, fun b ob e y => ?_⟩
  · obtain ⟨m, ⟨oL, es, ep, h1, h2, h3⟩, q⟩ := I.loc
    refine ⟨m, ⟨oL, es, ep, off _ _ h1 fun its n e => by (rw [h2] at e; cases e), h2, h3⟩, fun y sl e k => ?_⟩
    by_cases hy : y = x
    · subst hy
      simp only [put, if_true] at e
      cases e
      obtain ⟨v, h1, h2⟩ := q y _ hx k
      exact ⟨v, h1, mine v h2⟩
    · simp only [put, if_neg hy] at e
      obtain ⟨v, h1, h2⟩ := q y sl e k
      exact ⟨v, h1, other y sl v hy h2⟩
  · by_cases hy : y = x
    · subst hy
      simp only [put, if_true] at e
      cases e
      obtain ⟨c, v, h1, h2, h3⟩ := I.cel y _ hx k
      exact ⟨c, v, h1, cl c _ h2, mine v h3⟩
    · simp only [put, if_neg hy] at e
      obtain ⟨c, v, h1, h2, h3⟩ := I.cel y sl e k
      exact ⟨c, v, h1, cl c _ h2, other y sl v hy h3⟩
  · by_cases hb : b = a
    · subst hb
      obtain ⟨o', n', h1, _, _, h4⟩ := hl'
      exact ⟨o', _, n', h1, h4⟩
    · obtain ⟨ob, its', n', h1, h2⟩ := I.zal b z
      exact ⟨ob, its', n', (hs.2 b hb).trans h1, h2⟩
  · have : b ≠ a := by
      rintro rfl
      rcases y with ⟨vs, h⟩ | ⟨_, hz⟩
      · rw [hoa] at e; cases e; rw [hsa] at h; cases h
      · exact hz (.inr ⟨x, ha⟩)
    exact (hs.2 b this).trans e
theorem ld_own {M : Model} {E : Value → Shared → Prop} {Q : Value → Shared → Prop} {x : Str} {xs : List PV} (I : Inv C.K C.mg f env ρ s) (hv : ρ x = some (.own xs)) (hx : Sto env x) (hk : env.scope.kind = .function)
    (q : ∀ a its, f.at_ x = some a → PlainL s.heap a its → Reps f.Zs s.heap xs its.toList → Q (.ref a) s) : wpAny M A (loadName env x) Q E s := by
  rcases hx with hl | ⟨hl, hc⟩
  · obtain ⟨m, hm, hq⟩ := I.loc
    obtain ⟨v, h1, a, its, rfl, h2, h3, h4⟩ := hq x _ hv hl
    exact wpAny_loadName_local hk hl hm h1 (q a its h2 h3 h4)
  · obtain ⟨c, v, h1, h2, a, its, rfl, h3, h4, h5⟩ := I.cel x _ hv (.inl hl)
    exact wpAny_loadName_cell hk hl h1 h2 (q a its h3 h4 h5)
theorem ex_append {x : Str} {px apos cpos pos : Pos} {e : Expr} {xs : List PV} {p : PV} (hv : ρ x = some (.own xs)) (hx : Sto env x) (h : Ev C n env ρ e p) (hsz : xs.length ≤ sizeLine)
    (hbase : attributeBase (.Name x px) "append" env (eval (.Name x px) env) = eval (.Name x px) env := by rfl)
    (hfew : ((backTo cpos (starEach [e] env)).all (fun x => !x.1) && (backToKw cpos (keywordEach [] env)).all (fun x => x.1.isSome) && decide (([e] : List Expr).length + ([] : List Keyword).length + (if ([] : List Keyword).isEmpty then 0 else 1) < 30)) = true := by rfl)
    (hline : (apos.endLine == cpos.line) = true := by rfl) (htrees : backTo cpos (starEach [e] env) = [(false, eval e env)] := by rfl)
    (hi : interactive env = false := by rfl) (hs : swapsWith (.Call (.Attribute (.Name x px) "append" apos) [e] [] cpos) none pos.line env = pure false := by rfl) (hd : (x == ("__debug__" : Str)) = false := by decide) (hk : env.scope.kind = .function := by rfl) :
    Ex1 C n env W ρ (.Expr (.Call (.Attribute (.Name x px) "append" apos) [e] [] cpos) pos) (put ρ x (.own (xs ++ [p]))) := .mk fun A s f R hf I =>
  wpAny_Expr (wpAny_Call_append hbase hfew hline htrees (wpAny_Name (ld_own I hv hx hk fun a its ha hl r => ⟨a, its, rfl, hl, h.use R I fun v s₁ r₁ k₁ I₁ => by
    have hl₁ := hl.keeps (kUp k₁)
    have r' := r.keeps (kUp k₁)
    have hlen : its.size = xs.length := by simpa using r'.length
    refine list_append_plainL hl₁ (fun h' hl' hs' => ?_) (by rw [hlen]; exact hsz)
    obtain ⟨I₂, k₂⟩ := I₁.app (tk := s₁.toks) hv ha hl₁ r' r₁ hl' hs'
    exact ⟨rfl, I₂, (Kp.of k₁).trans k₂⟩⟩) hd)) hi hs
end
end Mine
namespace Mine
open PySem PySem.Calls PyProof.Rows PySem.W
section
variable {C : Cfg} {n : Nat} {env : Env} {ρ ρ' ρ'' : Env1} {f : Fz} {A : Around} {s : Shared} {W : Str → Prop}

/-- a built-in function of one value -/
noncomputable def Op1 (C : Cfg) (n : Nat) (id : String) (p r : PV) : Prop :=
  ∀ (A : Around) (s : Shared) (Z : Addr → Prop) (v : Value), Room n A → (∀ a, Z a → ∃ ob, s.heap.get? a = some ob) → Base C.K C.mg s.heap → Rep Z s.heap p v →
    wpAny C.M A (call (.builtin id) [v]) (fun v' s' => Rep Z s'.heap r v' ∧ Keeps s s') noE s
theorem ev_b1 {x : Str} {id : String} {px pos : Pos} {e : Expr} {p r : PV} (hm : C.mg x = none) (hv : bootBuiltins x = some (.builtin id)) (h : Ev C n env ρ e p) (o : Op1 C n id p r) (hn : x ≠ "__name__" := by decide) (hl : env.kindOf x = some .globalImplicit := by rfl) (hk : env.scope.kind = .function := by rfl)
    (hg : env.globals = mainGlobals := by rfl) (hb : env.builtins = builtinsNs := by rfl) (hd : (x == ("__debug__" : Str)) = false := by decide)
    (hc : eval (.Call (.Name x px) [e] [] pos) env = (do callWith pos (← eval (.Name x px) env) [] (backTo pos (starEach [e] env)) (backToKw pos (keywordEach [] env))) := by rfl)
    (he : starEach [e] env = [(false, eval e env)] := by rfl) : Ev C n env ρ (.Call (.Name x px) [e] [] pos) r := .mk fun A s f R I =>
  Call_ ((ev_built (n := n) (ρ := ρ) hm hv hn hl hk hg hb hd).use R I fun v s₁ r₁ k₁ I₁ => by
    obtain rfl : v = .builtin id := r₁
    refine PyProof.Rows.callWith_builtin1 ((evs_cons h evs_nil he).use R I₁ fun vs s₂ r₂ k₂ I₂ => ?_) he rfl
    obtain ⟨v, rr, rfl, rp, h2⟩ := r₂
    obtain rfl : rr = [] := h2
    exact wpAny_mono (o A s₂ f.Zs v R I₂.zl I₂.bs rp) (fun _ _ q => ⟨q.1, kT (kT k₁ k₂) q.2⟩) fun _ _ q => q) hc
theorem b_len {xs : List PV} (hsz : xs.length < 2 ^ 62) : Op1 C n "len" (.list xs) (.int xs.length) := fun A s Z v R hz B h => by
  obtain ⟨a, its, rfl, z, hl, r⟩ := h
  have e : its.size = xs.length := by simpa using r.length
  refine PyProof.Rows.len_list hl (by omega) ⟨⟨_, by rw [e]⟩, kTok s _⟩
theorem b_lens {x : Str} (hsz : x.length < 2 ^ 62) : Op1 C n "len" (.str x) (.int x.length) := fun A s Z v R hz B ⟨t, e⟩ => by
  subst e
  exact PyProof.Rows.len_str (by omega) ⟨⟨_, rfl⟩, kTok s _⟩
theorem b_abs {a : Int} : Op1 C n "abs" (.int a) (.int (if a < 0 then -a else a)) := fun A s Z v R hz B ⟨t, e⟩ => by
  subst e
  exact PyProof.Rows.call_abs_int fun u tk => ⟨⟨_, rfl⟩, kTok s _⟩
theorem b_chr {a : Nat} (h : a ≤ 0x10FFFF) : Op1 C n "chr" (.int a) (.str ⟨#[a]⟩) := fun A s Z v R hz B ⟨t, e⟩ => by
  subst e
  refine P.chr_of_int (by simp only [Bool.or_eq_false_iff, decide_eq_false_iff_not]; omega) ⟨⟨_, by simp; rfl⟩, kTok s _⟩
theorem b_ord {a : Nat} : Op1 C n "ord" (.str ⟨#[a]⟩) (.int a) := fun A s Z v R hz B ⟨t, e⟩ => by
  subst e
  exact P.ord_of_char ⟨⟨_, rfl⟩, kTok s _⟩
/-- the length of a list of the frame's own -/
theorem ev_lenown {x : Str} {px py pos : Pos} {xs : List PV} (hm : C.mg "len" = none) (hv : ρ x = some (.own xs)) (hx : Sto env x) (hsz : xs.length < 2 ^ 62) (hl : env.kindOf "len" = some .globalImplicit := by rfl) (hk : env.scope.kind = .function := by rfl)
    (hg : env.globals = mainGlobals := by rfl) (hb : env.builtins = builtinsNs := by rfl) (hd : (x == ("__debug__" : Str)) = false := by decide)
    (hc : eval (.Call (.Name "len" px) [.Name x py] [] pos) env = (do callWith pos (← eval (.Name "len" px) env) [] (backTo pos (starEach [.Name x py] env)) (backToKw pos (keywordEach [] env))) := by rfl)
    (he : starEach [.Name x py] env = [(false, eval (.Name x py) env)] := by rfl) : Ev C n env ρ (.Call (.Name "len" px) [.Name x py] [] pos) (.int xs.length) := .mk fun A s f R I =>
  Call_ ((ev_built (n := n) (ρ := ρ) hm (v := .builtin "len") (by decide +kernel) (by decide) hl hk hg hb (by decide)).use R I fun v s₁ r₁ k₁ I₁ => by
    obtain rfl : v = .builtin "len" := r₁
    refine PyProof.Rows.callWith_builtin1 (args_cons (wpAny_Name (ld_own I₁ hv hx hk fun a its ha hp r => args_nil ?_) hd) he) he rfl
    have e : its.size = xs.length := by simpa using r.length
    exact PyProof.Rows.len_list hp.isList (by omega) ⟨⟨_, by rw [e]⟩, kT k₁ (kTok s₁ _)⟩) hc

-- in place
theorem io_add {a b : Int} : Op2 C n (inplaceOp .Add) (.int a) (.int b) (.int (a + b)) := fun A s Z v u R hz B ⟨t, e1⟩ ⟨t', e2⟩ => by
  subst e1 e2; exact PyProof.Rows.iadd_int ⟨⟨_, rfl⟩, kTok s _⟩
theorem io_xor {a b : Int} : Op2 C n (inplaceOp .BitXor) (.int a) (.int b) (.int (Builtin.bitXor a b)) := fun A s Z v u R hz B ⟨t, e1⟩ ⟨t', e2⟩ => by
  subst e1 e2; exact PyProof.Rows.ixor_int ⟨⟨_, rfl⟩, kTok s _⟩
end
end Mine
namespace Mine
open PySem PySem.Calls PyProof.Rows PySem.W
open PySem.Sre (M)

noncomputable def EndsN (n : Nat) (m m' : M) : Prop := M.runFor n m = m' ∧ m'.outcome.isSome = true
theorem runFor_done : ∀ (n : Nat) {m : M}, m.outcome.isSome = true → M.runFor n m = m
  | 0, _, _ => rfl
  | n + 1, m, h => by unfold M.runFor; rw [if_pos h]
theorem runFor_add : ∀ (a b : Nat) (m : M), M.runFor (a + b) m = M.runFor b (M.runFor a m)
  | 0, b, m => by rw [Nat.zero_add]; rfl
  | a + 1, b, m => by
    rw [show a + 1 + b = (a + b) + 1 by omega]
    by_cases h : m.outcome.isSome = true
    · rw [runFor_done _ h, runFor_done _ h, runFor_done _ h]
    · have e : ∀ k, M.runFor (k + 1) m = M.runFor k m.step := fun k => by
        show (if m.outcome.isSome = true then m else M.runFor k m.step) = _
        rw [if_neg h]
      rw [e, e]
      exact runFor_add a b m.step
theorem EndsN.step {n : Nat} {m m' : M} (ho : m.outcome.isSome = false) (h : EndsN n m.step m') : EndsN (n + 1) m m' := by
  refine ⟨?_, h.2⟩
  unfold M.runFor
  rw [if_neg (by rw [ho]; exact Bool.false_ne_true)]
  exact h.1
theorem EndsN.now {m : M} (ho : m.outcome.isSome = true) : EndsN 0 m m := ⟨rfl, ho⟩
theorem EndsN.weak {n k : Nat} {m m' : M} (h : EndsN n m m') (hk : n ≤ k) : EndsN k m m' := by
  obtain ⟨d, rfl⟩ := Nat.exists_eq_add_of_le hk
  exact ⟨by rw [runFor_add, h.1, runFor_done _ h.2], h.2⟩
section
variable {Mo : Model} {A : Around} {E : Value → Shared → Prop} {s : Shared}
open PySem.Builtin.Re
theorem wp_drive {m' : M} {Q : M → Shared → Prop} (hQ : Q m' s) : ∀ (turns n : Nat) (m : M), EndsN n m m' → n ≤ 4 * turns → 0 < turns → wpAny Mo A (reDrive turns m) Q E s
  | 0, _, _, _, _, h => absurd h (Nat.lt_irrefl _)
  | t + 1, n, m, h, hn, _ => by
    unfold reDrive
    show wpAny Mo A (if (M.runFor 4 m).outcome.isSome = true then pure (M.runFor 4 m) else do rule "sre.turn"; reDrive t (M.runFor 4 m)) Q E s
    by_cases ho : (M.runFor 4 m).outcome.isSome = true
    · rw [if_pos ho]
      have : M.runFor 4 m = m' := by
        have e1 := (h.weak (Nat.le_add_right n 4)).1
        rw [Nat.add_comm n 4, runFor_add, runFor_done _ ho] at e1
        exact e1
      rw [this]
      exact wpAny_pure hQ
    · rw [if_neg ho]
      have h4 : ¬ n ≤ 4 := fun q => ho (by rw [(h.weak q).1]; exact h.2)
      refine wpAny_bind (wpAny_rule ?_)
      refine wp_drive hQ t (n - 4) _ ⟨?_, h.2⟩ (by omega) (by omega)
      rw [← runFor_add, show 4 + (n - 4) = n by omega]
      exact h.1
theorem wp_rules {seen : PySem.Sre.Seen} {Q : PUnit → Shared → Prop} (hQ : Q PUnit.unit s) : ∀ l : List Nat, wpAny Mo A (forIn l PUnit.unit fun i _ =>
      if seen.has i = true then do
        rule (PySem.Sre.names.getD i "")
        pure (ForInStep.yield PUnit.unit)
      else pure (ForInStep.yield PUnit.unit) : Sem PUnit) Q E s
  | [] => wpAny_pure hQ
  | i :: l => by
    rw [List.forIn_cons]
    refine wpAny_bind ?_
    by_cases hi : seen.has i = true
    · rw [if_pos hi]
      exact wpAny_bind (wpAny_rule (wpAny_pure (wp_rules hQ l)))
    · rw [if_neg hi]
      exact wpAny_pure (wp_rules hQ l)
theorem wp_runToEnd {m m' : M} {n : Nat} {Q : Option M → Shared → Prop} (h : EndsN n m m') (hn : n ≤ 2 ^ 60) (h1 : m'.outcome = some .matched → Q (some m') s) (h2 : m'.outcome = some .failed → Q none s) (hf : ∀ w, m'.outcome ≠ some (.stuck w)) :
    wpAny Mo A (reRunToEnd m) Q E s := by
  unfold reRunToEnd
  refine wpAny_bind (wp_drive ?_ (2 ^ 64) n m h (by omega) (by omega))
  refine wpAny_bind (wp_rules ?_ _)
  have ho := h.2
  match e : m'.outcome with
  | some .matched => exact wpAny_pure (h1 e)
  | some .failed => exact wpAny_pure (h2 e)
  | some (.stuck w) => exact absurd e (hf w)
  | none => rw [e] at ho; cases ho
end
end Mine
namespace Mine
open PySem PySem.Calls PyProof.Rows PySem.W
open PySem.Sre (M)
noncomputable abbrev Sn := PySem.Sre.Seen

noncomputable abbrev codeA : Array Nat := #[14, 4, 0, 1, 1, 6, 1, 16, 46, 1]
noncomputable abbrev codeC : Array Nat := #[14, 9, 4, 1, 2, 16, 10, 16, 13, 0, 7, 7, 16, 13, 16, 10, 15, 18, 5, 16, 10, 15, 13, 11, 16, 13, 5, 5, 0, 16, 10, 1, 15, 2, 0, 1]
/-- the machine amid a search that need not advance, with no groups -/
noncomputable def mm (code text : Array Nat) (lim start pc pos handed : Nat) (outer : Bool) (fr : List PySem.Sre.Frame) (wt : Nat) (ans : Option Bool) (seen : Sn) (out : Option PySem.Sre.Outcome) : M :=
  { code, text, lim, start, lastStart := lim, wholeText := false, mustAdvance := false, pc, pos, handed, outermost := outer, marks := Array.replicate (2 * 0) none, lastmark := -1, lastindex := -1, loops := #[], inner := none, frames := fr, weight := wt, answer := ans, seen, outcome := out }
noncomputable abbrev frS (pc pos : Nat) (first : Bool) : PySem.Sre.Frame := { wait := .nextStart, pc, pos, outermost := first }
section
variable {text : Array Nat} {lim s h : Nat} {first : Bool} {seen : Sn}
/-- pattern A: the start of an attempt at s -/
noncomputable abbrev atA (text : Array Nat) (lim s : Nat) (first : Bool) (seen : Sn) : M := mm codeA text lim s 5 s s first [frS 5 s first] 1 none seen none
theorem a1 : (atA text lim s first seen).step = if (s == 0 || text.getD (s - 1) 0 == 10) = true then mm codeA text lim s 7 s s first [frS 5 s first] 1 none ((seen.add 6).add 44) none else mm codeA text lim s 5 s s first [frS 5 s first] 1 (some false) ((seen.add 6).add 44) none := by kernel_rfl
theorem a2 : (mm codeA text lim s 7 s s first [frS 5 s first] 1 none seen none).step = if s ≥ lim then mm codeA text lim s 7 s s first [frS 5 s first] 1 (some false) (seen.add 16) none else
    match (text.getD s 0 == 46) with
    | false => mm codeA text lim s 7 s s first [frS 5 s first] 1 (some false) (seen.add 16) none
    | true => mm codeA text lim s 9 (s + 1) s first [frS 5 s first] 1 none (seen.add 16) none := by
  show (if s ≥ lim then _ else _) = _
  by_cases h : s ≥ lim
  · rw [if_pos h, if_pos h]; kernel_rfl
  · rw [if_neg h, if_neg h]
    show (match (Except.ok (text.getD s 0 == 46, seen.add 16) : Except String (Bool × Sn)) with | .error why => _ | .ok (false, seen) => _ | .ok (true, seen) => _) = _
    cases (text.getD s 0 == 46) <;> kernel_rfl
theorem a3 {p : Nat} : (mm codeA text lim s 9 p h first [frS 5 s first] 1 none seen none).step = mm codeA text lim s 9 p p first [frS 5 s first] 1 (some true) (seen.add 1) none := by
  cases first <;> kernel_rfl
theorem a4 {pc p : Nat} : (mm codeA text lim s pc p h first [frS 5 s first] 1 (some true) seen none).step = mm codeA text lim s 5 s h first [] 0 (some true) seen none := by kernel_rfl
theorem a5 {pc p : Nat} : (mm codeA text lim s pc p h first [] 0 (some true) seen none).step = mm codeA text lim s pc p h first [] 0 (some true) seen (some .matched) := by kernel_rfl
theorem a6 {pc p : Nat} : (mm codeA text lim s pc p h first [frS 5 s first] 1 (some false) seen none).step = if s < lim then atA text lim (s + 1) false seen else mm codeA text lim s 5 s h first [] 0 (some false) seen none := by
  show (if s < lim then _ else _) = _
  by_cases h : s < lim
  · rw [if_pos h, if_pos h]; kernel_rfl
  · rw [if_neg h, if_neg h]; kernel_rfl
theorem a7 {pc p : Nat} : (mm codeA text lim s pc p h first [] 0 (some false) seen none).step = mm codeA text lim s pc p h first [] 0 (some false) seen (some .failed) := by kernel_rfl
end

noncomputable def holdsA (text : Array Nat) (s : Nat) : Bool := (s == 0 || text.getD (s - 1) 0 == 10) && (text.getD s 0 == 46)
/-- the first place from s on where A holds -/
noncomputable def findA (text : Array Nat) (lim : Nat) : Nat → Nat → Option Nat
  | 0, _ => none
  | n + 1, s => if s ≥ lim then none else if holdsA text s = true then some s else findA text lim n (s + 1)

noncomputable def Told (n : Nat) (m : M) : Option (Nat × Nat) → Prop
  | some (a, b) => ∃ m', EndsN n m m' ∧ m'.outcome = some .matched ∧ m'.start = a ∧ m'.handed = b
  | none => ∃ m', EndsN n m m' ∧ m'.outcome = some .failed
theorem Told.step {n : Nat} {m : M} {r : Option (Nat × Nat)} (ho : m.outcome.isSome = false) (h : Told n m.step r) : Told (n + 1) m r := by
  cases r with
  | none => obtain ⟨m', h, e⟩ := h; exact ⟨m', .step ho h, e⟩
  | some x => obtain ⟨m', h, e⟩ := h; exact ⟨m', .step ho h, e⟩
theorem Told.weak {n k : Nat} {m : M} {r : Option (Nat × Nat)} (h : Told n m r) (hk : n ≤ k) : Told k m r := by
  cases r with
  | none => obtain ⟨m', h, e⟩ := h; exact ⟨m', h.weak hk, e⟩
  | some x => obtain ⟨m', h, e⟩ := h; exact ⟨m', h.weak hk, e⟩
theorem toldA (text : Array Nat) (lim : Nat) : ∀ (n s : Nat) (first : Bool) (seen : Sn), s + n = lim + 1 → Told (3 * n + 6) (atA text lim s first seen) ((findA text lim n s).map fun a => (a, a + 1))
  | 0, s, first, seen, hn => by
    -- s = lim + 1: not met in a run, but it fails as well
    have hs : ¬ s < lim := by omega
    refine .step rfl ?_
    rw [a1]
    have stop : ∀ (pc : Nat) (seen : Sn), Told 2 (mm codeA text lim s pc s s first [frS 5 s first] 1 (some false) seen none) none := fun pc seen => by
      refine .step rfl ?_
      rw [a6, if_neg hs]
      refine .step rfl ?_
      rw [a7]
      exact ⟨_, .now rfl, rfl⟩
    by_cases hb : (s == 0 || text.getD (s - 1) 0 == 10) = true
    · rw [if_pos hb]
      refine .step rfl ?_
      rw [a2, if_pos (by omega)]
      exact (stop _ _).weak (by omega)
    · rw [if_neg hb]
      exact (stop _ _).weak (by omega)
  | n + 1, s, first, seen, hn => by
    have no : ∀ (pc : Nat) (seen : Sn), (s < lim → holdsA text s = false) → Told (3 * n + 7) (mm codeA text lim s pc s s first [frS 5 s first] 1 (some false) seen none) ((findA text lim (n + 1) s).map fun a => (a, a + 1)) := fun pc seen hh => by
      refine .step rfl ?_
      rw [a6]
      by_cases hs : s < lim
      · rw [if_pos hs]
        have := toldA text lim n (s + 1) false seen (by omega)
        unfold findA
        rw [if_neg (by omega), if_neg (by rw [hh hs]; exact Bool.false_ne_true)]
        exact this
      · rw [if_neg hs]
        unfold findA
        rw [if_pos (by omega)]
        refine .step rfl ?_
        rw [a7]
        exact ⟨_, (EndsN.now rfl).weak (Nat.zero_le _), rfl⟩
    refine (Told.step (n := 3 * n + 8) rfl ?_)
    rw [a1]
    by_cases hb : (s == 0 || text.getD (s - 1) 0 == 10) = true
    · rw [if_pos hb]
      refine .step rfl ?_
      rw [a2]
      by_cases hs : s ≥ lim
      · rw [if_pos hs]
        exact no _ _ fun q => absurd hs (by omega)
      · rw [if_neg hs]
        cases hc : (text.getD s 0 == 46) with
        | false => exact no _ _ fun _ => by unfold holdsA; rw [hc, Bool.and_false]
        | true =>
          have : findA text lim (n + 1) s = some s := by
            unfold findA
            rw [if_neg hs, if_pos (by unfold holdsA; rw [hb, hc]; rfl)]
          rw [this]
          refine Told.weak (n := 3) ?_ (by omega)
          refine .step rfl ?_
          rw [a3]
          refine .step rfl ?_
          rw [a4]
          refine .step rfl ?_
          rw [a5]
          exact ⟨_, .now rfl, rfl, rfl, rfl⟩
    · rw [if_neg hb]
      refine (no _ _ fun _ => ?_).weak (by omega)
      unfold holdsA
      rw [Bool.eq_false_iff.mpr hb, Bool.false_and]
theorem searchA (text : Array Nat) (s : Nat) (hs : s ≤ text.size) : Told (3 * text.size + 9) (PySem.Sre.forSearch codeA text 0 s text.size false) ((findA text text.size (text.size + 1 - s) s).map fun a => (a, a + 1)) := by
  by_cases h : s < text.size
  · have e : PySem.Sre.forSearch codeA text 0 s text.size false = atA text text.size s true (({} : Sn).add 14) := by
      unfold PySem.Sre.forSearch
      show (if (decide (s > text.size) || decide (text.size - s < 1)) = true then _ else _) = _
      rw [if_neg (by simp only [Bool.or_eq_true, decide_eq_true_eq]; omega)]
      kernel_rfl
    rw [e]
    exact (toldA text text.size (text.size + 1 - s) s true _ (by omega)).weak (by omega)
  · have hs' : s = text.size := by omega
    have e : PySem.Sre.forSearch codeA text 0 s text.size false = { mm codeA text text.size s 5 s s true [] 0 (some false) (({} : Sn).add 14) none with lastStart := 0 } := by
      unfold PySem.Sre.forSearch
      show (if (decide (s > text.size) || decide (text.size - s < 1)) = true then _ else _) = _
      rw [if_pos (by simp only [Bool.or_eq_true, decide_eq_true_eq]; omega)]
      kernel_rfl
    rw [e, show findA text text.size (text.size + 1 - s) s = none by
      rw [show text.size + 1 - s = 0 + 1 by omega]; unfold findA; rw [if_pos (by omega)]]
    refine Told.weak (n := 1) (.step rfl ?_) (by omega)
    exact ⟨_, .now rfl, rfl⟩
end Mine
namespace Mine
open PySem PySem.Calls PyProof.Rows PySem.W
open PySem.Sre (M)
section
variable {text : Array Nat} {lim s p h wt : Nat} {first out : Bool} {seen : Sn} {fr : List PySem.Sre.Frame}
noncomputable abbrev kp0 : PySem.Sre.Kept := { lastmark := -1, lastindex := -1, whole := false, marks := #[] }
noncomputable abbrev frB (alt s : Nat) (first : Bool) : PySem.Sre.Frame := { wait := .nextBranch, pc := alt, pos := s, outermost := first, kept := kp0 }
noncomputable abbrev frN (p : Nat) (first : Bool) : PySem.Sre.Frame := { wait := .lookNot, pc := 26, pos := p, outermost := first, kept := kp0 }
theorem l12 : (mm codeC text lim s 12 p h out fr wt none seen none).step = if p ≥ lim then mm codeC text lim s 12 p h out fr wt (some false) (seen.add 16) none else
    match (text.getD p 0 == 13) with
    | false => mm codeC text lim s 12 p h out fr wt (some false) (seen.add 16) none
    | true => mm codeC text lim s 14 (p + 1) h out fr wt none (seen.add 16) none := by
  show (if p ≥ lim then _ else _) = _
  by_cases h : p ≥ lim
  · rw [if_pos h, if_pos h]; kernel_rfl
  · rw [if_neg h, if_neg h]
    show (match (Except.ok (text.getD p 0 == 13, seen.add 16) : Except String (Bool × Sn)) with | .error why => _ | .ok (false, seen) => _ | .ok (true, seen) => _) = _
    cases (text.getD p 0 == 13) <;> kernel_rfl
theorem l12y (hp : p < lim) (hc : (text.getD p 0 == 13) = true) : (mm codeC text lim s 12 p h out fr wt none seen none).step = mm codeC text lim s 14 (p + 1) h out fr wt none (seen.add 16) none := by
  rw [l12, if_neg (by omega), hc]
theorem l12n (hc : p < lim → (text.getD p 0 == 13) = false) : (mm codeC text lim s 12 p h out fr wt none seen none).step = mm codeC text lim s 12 p h out fr wt (some false) (seen.add 16) none := by
  rw [l12]
  by_cases hp : p ≥ lim
  · rw [if_pos hp]
  · rw [if_neg hp, hc (by omega)]
theorem l14 : (mm codeC text lim s 14 p h out fr wt none seen none).step = if p ≥ lim then mm codeC text lim s 14 p h out fr wt (some false) (seen.add 16) none else
    match (text.getD p 0 == 10) with
    | false => mm codeC text lim s 14 p h out fr wt (some false) (seen.add 16) none
    | true => mm codeC text lim s 16 (p + 1) h out fr wt none (seen.add 16) none := by
  show (if p ≥ lim then _ else _) = _
  by_cases h : p ≥ lim
  · rw [if_pos h, if_pos h]; kernel_rfl
  · rw [if_neg h, if_neg h]
    show (match (Except.ok (text.getD p 0 == 10, seen.add 16) : Except String (Bool × Sn)) with | .error why => _ | .ok (false, seen) => _ | .ok (true, seen) => _) = _
    cases (text.getD p 0 == 10) <;> kernel_rfl
theorem l14y (hp : p < lim) (hc : (text.getD p 0 == 10) = true) : (mm codeC text lim s 14 p h out fr wt none seen none).step = mm codeC text lim s 16 (p + 1) h out fr wt none (seen.add 16) none := by
  rw [l14, if_neg (by omega), hc]
theorem l14n (hc : p < lim → (text.getD p 0 == 10) = false) : (mm codeC text lim s 14 p h out fr wt none seen none).step = mm codeC text lim s 14 p h out fr wt (some false) (seen.add 16) none := by
  rw [l14]
  by_cases hp : p ≥ lim
  · rw [if_pos hp]
  · rw [if_neg hp, hc (by omega)]
theorem l19 : (mm codeC text lim s 19 p h out fr wt none seen none).step = if p ≥ lim then mm codeC text lim s 19 p h out fr wt (some false) (seen.add 16) none else
    match (text.getD p 0 == 10) with
    | false => mm codeC text lim s 19 p h out fr wt (some false) (seen.add 16) none
    | true => mm codeC text lim s 21 (p + 1) h out fr wt none (seen.add 16) none := by
  show (if p ≥ lim then _ else _) = _
  by_cases h : p ≥ lim
  · rw [if_pos h, if_pos h]; kernel_rfl
  · rw [if_neg h, if_neg h]
    show (match (Except.ok (text.getD p 0 == 10, seen.add 16) : Except String (Bool × Sn)) with | .error why => _ | .ok (false, seen) => _ | .ok (true, seen) => _) = _
    cases (text.getD p 0 == 10) <;> kernel_rfl
theorem l19y (hp : p < lim) (hc : (text.getD p 0 == 10) = true) : (mm codeC text lim s 19 p h out fr wt none seen none).step = mm codeC text lim s 21 (p + 1) h out fr wt none (seen.add 16) none := by
  rw [l19, if_neg (by omega), hc]
theorem l19n (hc : p < lim → (text.getD p 0 == 10) = false) : (mm codeC text lim s 19 p h out fr wt none seen none).step = mm codeC text lim s 19 p h out fr wt (some false) (seen.add 16) none := by
  rw [l19]
  by_cases hp : p ≥ lim
  · rw [if_pos hp]
  · rw [if_neg hp, hc (by omega)]
theorem l24 : (mm codeC text lim s 24 p h out fr wt none seen none).step = if p ≥ lim then mm codeC text lim s 24 p h out fr wt (some false) (seen.add 16) none else
    match (text.getD p 0 == 13) with
    | false => mm codeC text lim s 24 p h out fr wt (some false) (seen.add 16) none
    | true => mm codeC text lim s 26 (p + 1) h out fr wt none (seen.add 16) none := by
  show (if p ≥ lim then _ else _) = _
  by_cases h : p ≥ lim
  · rw [if_pos h, if_pos h]; kernel_rfl
  · rw [if_neg h, if_neg h]
    show (match (Except.ok (text.getD p 0 == 13, seen.add 16) : Except String (Bool × Sn)) with | .error why => _ | .ok (false, seen) => _ | .ok (true, seen) => _) = _
    cases (text.getD p 0 == 13) <;> kernel_rfl
theorem l24y (hp : p < lim) (hc : (text.getD p 0 == 13) = true) : (mm codeC text lim s 24 p h out fr wt none seen none).step = mm codeC text lim s 26 (p + 1) h out fr wt none (seen.add 16) none := by
  rw [l24, if_neg (by omega), hc]
theorem l24n (hc : p < lim → (text.getD p 0 == 13) = false) : (mm codeC text lim s 24 p h out fr wt none seen none).step = mm codeC text lim s 24 p h out fr wt (some false) (seen.add 16) none := by
  rw [l24]
  by_cases hp : p ≥ lim
  · rw [if_pos hp]
  · rw [if_neg hp, hc (by omega)]
theorem l29 : (mm codeC text lim s 29 p h out fr wt none seen none).step = if p ≥ lim then mm codeC text lim s 29 p h out fr wt (some false) (seen.add 16) none else
    match (text.getD p 0 == 10) with
    | false => mm codeC text lim s 29 p h out fr wt (some false) (seen.add 16) none
    | true => mm codeC text lim s 31 (p + 1) h out fr wt none (seen.add 16) none := by
  show (if p ≥ lim then _ else _) = _
  by_cases h : p ≥ lim
  · rw [if_pos h, if_pos h]; kernel_rfl
  · rw [if_neg h, if_neg h]
    show (match (Except.ok (text.getD p 0 == 10, seen.add 16) : Except String (Bool × Sn)) with | .error why => _ | .ok (false, seen) => _ | .ok (true, seen) => _) = _
    cases (text.getD p 0 == 10) <;> kernel_rfl
theorem l29y (hp : p < lim) (hc : (text.getD p 0 == 10) = true) : (mm codeC text lim s 29 p h out fr wt none seen none).step = mm codeC text lim s 31 (p + 1) h out fr wt none (seen.add 16) none := by
  rw [l29, if_neg (by omega), hc]
theorem l29n (hc : p < lim → (text.getD p 0 == 10) = false) : (mm codeC text lim s 29 p h out fr wt none seen none).step = mm codeC text lim s 29 p h out fr wt (some false) (seen.add 16) none := by
  rw [l29]
  by_cases hp : p ≥ lim
  · rw [if_pos hp]
  · rw [if_neg hp, hc (by omega)]
theorem j16 : (mm codeC text lim s 16 p h out fr wt none seen none).step = mm codeC text lim s 35 p h out fr wt none (seen.add 15) none := by kernel_rfl
theorem j21 : (mm codeC text lim s 21 p h out fr wt none seen none).step = mm codeC text lim s 35 p h out fr wt none (seen.add 15) none := by kernel_rfl
theorem j32 : (mm codeC text lim s 32 p h out fr wt none seen none).step = mm codeC text lim s 35 p h out fr wt none (seen.add 15) none := by kernel_rfl
theorem s35 : (mm codeC text lim s 35 p h out fr wt none seen none).step = mm codeC text lim s 35 p p out fr wt (some true) (seen.add 1) none := by cases out <;> kernel_rfl
theorem b10 : (mm codeC text lim s 10 s s first [frS 10 s first] 1 none seen none).step = mm codeC text lim s 12 s s first [frB 11 s first, frS 10 s first] 2 none (seen.add 7) none := by kernel_rfl
theorem y2 {pc alt : Nat} : (mm codeC text lim s pc p h out [frB alt s first, frS 10 s first] 2 (some true) seen none).step = mm codeC text lim s alt s h first [frS 10 s first] 1 (some true) seen none := by kernel_rfl
theorem y1 {pc : Nat} : (mm codeC text lim s pc p h out [frS 10 s first] 1 (some true) seen none).step = mm codeC text lim s 10 s h first [] 0 (some true) seen none := by kernel_rfl
theorem y0 {pc : Nat} : (mm codeC text lim s pc p h out [] 0 (some true) seen none).step = mm codeC text lim s pc p h out [] 0 (some true) seen (some .matched) := by kernel_rfl
theorem n11 {pc : Nat} : (mm codeC text lim s pc p h out [frB 11 s first, frS 10 s first] 2 (some false) seen none).step = mm codeC text lim s 19 s s first [frB 18 s first, frS 10 s first] 2 none seen none := by kernel_rfl
theorem n18 {pc : Nat} : (mm codeC text lim s pc p h out [frB 18 s first, frS 10 s first] 2 (some false) seen none).step = mm codeC text lim s 24 s s first [frB 23 s first, frS 10 s first] 2 none seen none := by kernel_rfl
theorem k26 : (mm codeC text lim s 26 p h first [frB 23 s first, frS 10 s first] 2 none seen none).step = mm codeC text lim s 29 p p false [frN p first, frB 23 s first, frS 10 s first] 3 none (seen.add 5) none := by kernel_rfl
theorem n26 {pc q : Nat} : (mm codeC text lim s pc q h out [frN p first, frB 23 s first, frS 10 s first] 3 (some false) seen none).step = mm codeC text lim s 32 p h first [frB 23 s first, frS 10 s first] 2 none seen none := by kernel_rfl
end
noncomputable abbrev atC (text : Array Nat) (lim s : Nat) (first : Bool) (seen : Sn) : M := mm codeC text lim s 10 s s first [frS 10 s first] 1 none seen none
theorem endC {text : Array Nat} {lim s p h alt : Nat} {first : Bool} {seen : Sn} : Told 4 (mm codeC text lim s 35 p h first [frB alt s first, frS 10 s first] 2 none seen none) (some (s, p)) := by
  refine .step rfl ?_
  rw [s35]
  refine .step rfl ?_
  rw [y2]
  refine .step rfl ?_
  rw [y1]
  refine .step rfl ?_
  rw [y0]
  exact ⟨_, .now rfl, rfl, rfl, rfl⟩
/-- how much C takes at a place that bears 10 or 13 -/
noncomputable def wideC (text : Array Nat) (lim s : Nat) : Nat := if (text.getD s 0 == 13) = true ∧ s + 1 < lim ∧ (text.getD (s + 1) 0 == 10) = true then 2 else 1
theorem toldC {text : Array Nat} {lim s : Nat} {first : Bool} {seen : Sn} (hs : s < lim) (hc : (text.getD s 0 == 10) = true ∨ (text.getD s 0 == 13) = true) : Told 20 (atC text lim s first seen) (some (s, s + wideC text lim s)) := by
  refine .step rfl ?_
  rw [b10]
  by_cases h13 : (text.getD s 0 == 13) = true
  · have h10 : (text.getD s 0 == 10) = false := by
      rw [beq_iff_eq] at h13
      rw [h13]; rfl
    refine .step rfl ?_
    rw [l12y hs h13]
    by_cases hn : s + 1 < lim ∧ (text.getD (s + 1) 0 == 10) = true
    · have : wideC text lim s = 2 := if_pos ⟨h13, hn⟩
      rw [this]
      refine .step rfl ?_
      rw [l14y hn.1 hn.2]
      refine .step rfl ?_
      rw [j16]
      exact endC.weak (by omega)
    · have : wideC text lim s = 1 := if_neg fun q => hn q.2
      rw [this]
      have hn' : s + 1 < lim → (text.getD (s + 1) 0 == 10) = false := fun q => Bool.eq_false_iff.mpr fun z => hn ⟨q, z⟩
      refine .step rfl ?_
      rw [l14n hn']
      refine .step rfl ?_
      rw [n11]
      refine .step rfl ?_
      rw [l19n fun _ => h10]
      refine .step rfl ?_
      rw [n18]
      refine .step rfl ?_
      rw [l24y hs h13]
      refine .step rfl ?_
      rw [k26]
      refine .step rfl ?_
      rw [l29n hn']
      refine .step rfl ?_
      rw [n26]
      refine .step rfl ?_
      rw [j32]
      exact endC.weak (by omega)
  · have h10 : (text.getD s 0 == 10) = true := hc.resolve_right h13
    have : wideC text lim s = 1 := if_neg fun q => h13 q.1
    rw [this]
    refine .step rfl ?_
    rw [l12n fun _ => Bool.eq_false_iff.mpr h13]
    refine .step rfl ?_
    rw [n11]
    refine .step rfl ?_
    rw [l19y hs h10]
    refine .step rfl ?_
    rw [j21]
    exact endC.weak (by omega)
/-- the first place from s on with 10 or 13 -/
noncomputable def findC (text : Array Nat) (lim : Nat) : Nat → Nat → Option Nat
  | 0, _ => none
  | n + 1, s => if s ≥ lim then none else if (text.getD s 0 == 10 || text.getD s 0 == 13) = true then some s else findC text lim n (s + 1)
theorem findC_some {text : Array Nat} {lim : Nat} : ∀ {n s a : Nat}, findC text lim n s = some a → s ≤ a ∧ a < lim ∧ ((text.getD a 0 == 10) = true ∨ (text.getD a 0 == 13) = true)
  | 0, _, _, h => by cases h
  | n + 1, s, a, h => by
    unfold findC at h
    by_cases h1 : s ≥ lim
    · rw [if_pos h1] at h; cases h
    · rw [if_neg h1] at h
      by_cases h2 : (text.getD s 0 == 10 || text.getD s 0 == 13) = true
      · rw [if_pos h2] at h
        cases h
        exact ⟨Nat.le_refl _, by omega, by simpa using h2⟩
      · rw [if_neg h2] at h
        have := findC_some h
        exact ⟨by omega, this.2⟩
theorem setC (c : Nat) (seen : Sn) : ∃ seen', PySem.Sre.inSet codeC c codeC.size 5 true seen = .ok (c == 10 || c == 13, seen') := by
  show ∃ seen', (if (c == 10) = true then (Except.ok (true, seen.add 16) : Except String (Bool × Sn)) else if (c == 13) = true then .ok (true, (seen.add 16).add 16) else .ok (false, ((seen.add 16).add 16).add 0)) = _
  cases c == 10 with
  | true => exact ⟨_, rfl⟩
  | false =>
    cases c == 13 with
    | true => exact ⟨_, rfl⟩
    | false => exact ⟨_, rfl⟩
theorem admC {m : M} {text : Array Nat} {lim : Nat} (h1 : m.code = codeC) (h2 : m.text = text) (h3 : m.lim = lim) : ∀ (n s : Nat) (seen : Sn), ∃ seen', m.admitted n s seen = .ok (findC text lim n s, seen')
  | 0, s, seen => ⟨seen, rfl⟩
  | n + 1, s, seen => by
    unfold M.admitted findC
    rw [h3]
    by_cases hs : s ≥ lim
    · rw [if_pos hs, if_pos hs]; exact ⟨_, rfl⟩
    · rw [if_neg hs, if_neg hs, h1, h2]
      obtain ⟨seen', e⟩ := setC (text.getD s 0) seen
      rw [e]
      cases hc : (text.getD s 0 == 10 || text.getD s 0 == 13) with
      | true => exact ⟨_, rfl⟩
      | false => exact admC h1 h2 h3 n (s + 1) seen'
theorem searchC (text : Array Nat) (s : Nat) (hs : s ≤ text.size) : Told 21 (PySem.Sre.forSearch codeC text 0 s text.size false) ((findC text text.size (text.size + 1 - s) s).map fun a => (a, a + wideC text text.size a)) := by
  by_cases h : s < text.size
  · have e : PySem.Sre.forSearch codeC text 0 s text.size false = (mm codeC text text.size s 10 s s true [] 0 none (({} : Sn).add 14) none).attemptFrom s true := by
      unfold PySem.Sre.forSearch
      show (if (decide (s > text.size) || decide (text.size - s < 1)) = true then _ else _) = _
      rw [if_neg (by simp only [Bool.or_eq_true, decide_eq_true_eq]; omega)]
      kernel_rfl
    rw [e]
    obtain ⟨seen', ea⟩ := admC (m := mm codeC text text.size s 10 s s true [] 0 none (({} : Sn).add 14) none) (text := text) (lim := text.size) rfl rfl rfl (text.size + 1 - s) s (({} : Sn).add 14)
    have ef : (mm codeC text text.size s 10 s s true [] 0 none (({} : Sn).add 14) none).attemptFrom s true = (match (mm codeC text text.size s 10 s s true [] 0 none (({} : Sn).add 14) none).admitted (text.size + 1 - s) s (({} : Sn).add 14) with
      | .ok (some s', seen) => { mm codeC text text.size s 10 s s true [] 0 none (({} : Sn).add 14) none with mustAdvance := false, seen }.attemptAt s' true
      | .ok (none, seen) => { mm codeC text text.size s 10 s s true [] 0 none (({} : Sn).add 14) none with seen }.say false
      | .error why => (mm codeC text text.size s 10 s s true [] 0 none (({} : Sn).add 14) none).stick why) := by kernel_rfl
    rw [ef, ea]
    cases hf : findC text text.size (text.size + 1 - s) s with
    | none =>
      refine Told.weak (n := 1) (.step rfl ?_) (by omega)
      exact ⟨_, .now rfl, rfl⟩
    | some a =>
      obtain ⟨h1, h2, h3⟩ := findC_some hf
      have : ({ mm codeC text text.size s 10 s s true [] 0 none (({} : Sn).add 14) none with mustAdvance := false, seen := seen' }.attemptAt a true : M) = atC text text.size a true seen' := by kernel_rfl
      show Told 21 ({ mm codeC text text.size s 10 s s true [] 0 none (({} : Sn).add 14) none with mustAdvance := false, seen := seen' }.attemptAt a true) _
      rw [this]
      exact (toldC h2 h3).weak (by omega)
  · have hs' : s = text.size := by omega
    have e : PySem.Sre.forSearch codeC text 0 s text.size false = { mm codeC text text.size s 10 s s true [] 0 (some false) (({} : Sn).add 14) none with lastStart := 0 } := by
      unfold PySem.Sre.forSearch
      show (if (decide (s > text.size) || decide (text.size - s < 1)) = true then _ else _) = _
      rw [if_pos (by simp only [Bool.or_eq_true, decide_eq_true_eq]; omega)]
      kernel_rfl
    rw [e, show findC text text.size (text.size + 1 - s) s = none by
      rw [show text.size + 1 - s = 0 + 1 by omega]; unfold findC; rw [if_pos (by omega)]]
    refine Told.weak (n := 1) (.step rfl ?_) (by omega)
    exact ⟨_, .now rfl, rfl⟩
end Mine
namespace Mine
open PySem PySem.Calls PyProof.Rows PySem.W
open PySem.Sre (M)
open PySem.Builtin.Re

theorem slot_sub : PySem.Slot "re.Pattern" "sub" "re.Pattern.sub" :=
  .of (owner := "re.Pattern") (n := "sub") (by rw [typeLookup_type, builtinLookup_eq_fast]; kernel_rfl) (by decide +kernel) (by decide +kernel) (by decide +kernel)
    (by first | exact .inl (by decide +kernel) | exact .inr (by decide +kernel)) (by rw [isSubtype_type]; kernel_rfl)
theorem type_sub : typeOf (.builtin "re.Pattern.sub") = pure (.type "method_descriptor") := by show builtinType _ = _; rw [builtinType_eq_fast]; kernel_rfl
theorem entry_sub : entryFor table "re.Pattern.sub" = some Builtin.«re.Pattern.sub» := entryFor_of_tree (by kernel_rfl)
theorem entry_subloop : entryFor table "re.Pattern.sub.loop" = some Builtin.«re.Pattern.sub.loop» := entryFor_of_tree (by kernel_rfl)
theorem plain_subloop : plainId "re.Pattern.sub.loop" = true := by decide +kernel
theorem str_nocall : typeLookup (.type "str") "__call__" = pure none := by rw [typeLookup_type, builtinLookup_eq_fast]; kernel_rfl
theorem bytes_nocall : typeLookup (.type "bytes") "__call__" = pure none := by rw [typeLookup_type, builtinLookup_eq_fast]; kernel_rfl
theorem args_sub (a b c : Value) : argsOk "re.Pattern.sub" ⟨[a, b, c], []⟩ := by
  unfold argsOk; kernel_rfl

/-- the value v bears the text a: a str (kind 0) or bytes (kind 1) -/
noncomputable def TV : Nat → Array Nat → Value → Prop
  | 0, a, v => ∃ t, v = .str ⟨a⟩ t
  | _, a, v => ∃ b t, v = .bytes b t ∧ b.map (·.toNat) = a
inductive TVs (k : Nat) : List (Array Nat) → List Value → Prop
  | nil : TVs k [] []
  | cons {a : Array Nat} {v : Value} {as : List (Array Nat)} {vs : List Value} : TV k a v → TVs k as vs → TVs k (a :: as) (v :: vs)
theorem TVs.append {k : Nat} {as bs : List (Array Nat)} {vs us : List Value} (h : TVs k as vs) (g : TVs k bs us) : TVs k (as ++ bs) (vs ++ us) := by
  induction h with
  | nil => exact g
  | cons a _ ih => exact .cons a ih

/-- a compiled pattern without groups -/
structure IsPat (h : Heap) (p : Addr) (kind : Nat) (code : Array Nat) : Prop where
  obj : ∃ o fs cl oc items n, h.get? p = some o ∧ o.cls = .type "re.Pattern" ∧ o.dict = none ∧ o.data = .fields fs ∧ fs.getD 5 .none = .ref cl ∧ reRawNat (fs.getD 6 .none) = kind ∧ reRawNat (fs.getD 2 .none) = 0 ∧
    h.get? cl = some oc ∧ oc.data = .seq items n ∧ (items.map reRawOf).map (·.toNat) = code
theorem IsPat.keeps {h h' : Heap} {p : Addr} {kind : Nat} {code : Array Nat} (x : IsPat h p kind code) (hk : ∀ b o, h.get? b = some o → h'.get? b = some o) : IsPat h' p kind code := by
  obtain ⟨o, fs, cl, oc, items, n, h1, h2, h3, h4, h5, h6, h7, h8, h9, h10⟩ := x.obj
  exact ⟨o, fs, cl, oc, items, n, hk _ _ h1, h2, h3, h4, h5, h6, h7, hk _ _ h8, h9, h10⟩
section
variable {Mo : Model} {A : Around} {E : Value → Shared → Prop} {s : Shared} {p : Addr} {code text : Array Nat} {v : Value}
theorem bytes_buffer_slot : PySem.Slot "bytes" "__buffer__" "bytes.__buffer__" :=
  .of (owner := "bytes") (n := "__buffer__") (by rw [typeLookup_type, builtinLookup_eq_fast]; kernel_rfl) (by decide +kernel) (by decide +kernel) (by decide +kernel)
    (by first | exact .inl (by decide +kernel) | exact .inr (by decide +kernel)) (by rw [isSubtype_type]; kernel_rfl)
theorem wp_textS {x : Str} {t : Tok} {Q : Array Nat × Nat → Shared → Prop} (h : Q (x.cps, 0) s) : wpAny Mo A (reTextOf (.str x t)) Q E s := by
  unfold reTextOf
  exact wpAny_bind (wpAny_pure (wpAny_pure h))
theorem wp_rawItems {cl : Addr} {oc : Obj} {items : Array Value} {n : Nat} {Q : Array Int → Shared → Prop} (h1 : s.heap.get? cl = some oc) (h2 : oc.data = .seq items n) (h : Q (items.map reRawOf) s) : wpAny Mo A (reRawItems (.ref cl)) Q E s := by
  unfold reRawItems
  exact wpAny_bind (wpAny_seqItems h1 h2 (wpAny_pure h))
theorem wp_wholeS {a : Array Nat} {t : Tok} {Q : ReTarget → Shared → Prop} (hp : IsPat s.heap p 0 code) (h : Q ⟨.ref p, .str ⟨a⟩ t, code, a, 0, 0, 0, a.size⟩ s) : wpAny Mo A (reWholeTarget (.ref p) (.str ⟨a⟩ t)) Q E s := by
  obtain ⟨o, fs, cl, oc, items, n, h1, h2, h3, h4, h5, h6, h7, h8, h9, h10⟩ := hp.obj
  unfold reWholeTarget
  refine wpAny_bind (wpAny_fieldsOf h1 h4 (wpAny_bind (wp_textS ?_)))
  rw [h6]
  show wpAny Mo A (reRawItems (fs.getD 5 .none) >>= _) Q E s
  rw [h5]
  refine wpAny_bind (wp_rawItems h8 h9 (wpAny_pure ?_))
  rw [h10, h7]
  exact h
end
end Mine
namespace Mine
open PySem PySem.Calls PyProof.Rows PySem.W
open PySem.Sre (M)
open PySem.Builtin.Re

/-- the pieces that a substitution lays from d on -/
noncomputable def piecesF (find : Nat → Option (Nat × Nat)) (text repl : Array Nat) : Nat → Nat → List (Array Nat)
  | 0, _ => []
  | n + 1, d => match find d with
    | none => if d < text.size then [text.extract d text.size] else []
    | some (a, b) => (if d < a then [text.extract d a] else []) ++ repl :: piecesF find text repl n b
structure Finds (code text : Array Nat) (find : Nat → Option (Nat × Nat)) : Prop where
  told : ∀ d, d ≤ text.size → ∃ k, k ≤ 2 ^ 60 ∧ Told k (PySem.Sre.forSearch code text 0 d text.size false) (find d)
  ok : ∀ d a b, d ≤ text.size → find d = some (a, b) → d ≤ a ∧ a < b ∧ b ≤ text.size
section
variable {C : Cfg} {A : Around} {s : Shared} {p : Addr} {code text repl : Array Nat} {find : Nat → Option (Nat × Nat)}
theorem wp_found {Mo : Model} {E : Value → Shared → Prop} {Q : Option M → Shared → Prop} (F : Finds code text find) {d : Nat} (hd : d ≤ text.size) {st : Value} (t : ReTarget) (h1 : t.code = code) (h2 : t.text = text) (h3 : t.groups = 0) (h4 : t.lim = text.size)
    (h : match find d with | none => Q none s | some (a, b) => ∀ m, m.start = a → m.handed = b → Q (some m) s) : wpAny Mo A (reNextFound t d false) Q E s := by
  unfold reNextFound
  rw [h1, h2, h3, h4]
  obtain ⟨k, hk, T⟩ := F.told d hd
  cases hf : find d with
  | none =>
    rw [hf] at T h
    obtain ⟨m', e, o⟩ := T
    exact wp_runToEnd e hk (fun q => by rw [o] at q; cases q) (fun _ => h) fun w q => by rw [o] at q; cases q
  | some x =>
    obtain ⟨a, b⟩ := x
    rw [hf] at T h
    obtain ⟨m', e, o, e1, e2⟩ := T
    exact wp_runToEnd e hk (fun _ => h m' e1 e2) (fun q => by rw [o] at q; cases q) fun w q => by rw [o] at q; cases q
theorem strVals_append (l l' : List (Str × Tok)) : strValues (l ++ l') = strValues l ++ strValues l' := by simp [strValues]
/-- one more piece -/
theorem wp_pushS {Mo : Model} {E : Value → Shared → Prop} {D : Addr} {l : List (Str × Tok)} {x : Str} {t : Tok} {Q : Unit → Shared → Prop} (hl : s.heap.IsList D (strValues l).toArray) (hsz : l.length ≤ 1000000)
    (h : ∀ h', h'.IsList D (strValues (l ++ [(x, t)])).toArray → Heap.SameBut D s.heap h' → Q () { s with heap := h' }) : wpAny Mo A (updateSeq D (·.push (.str x t))) Q E s := by
  obtain ⟨o, ho, hc, n, hd⟩ := id hl
  obtain ⟨n', hd'⟩ := Obj.data_mapSeq hd (·.push (Value.str x t))
  have hz : (strValues l).toArray.size ≤ 1000000 := by simpa [strValues] using hsz
  have hsl : (1000001 : Nat) ≤ sizeLine := by decide
  refine wpAny_updateSeq ho hd (h _ ?_ (Heap.SameBut.update ..)) (by omega) (by rw [Array.size_push]; omega)
  refine ⟨_, Heap.get?_update_self _ ho (Obj.isFreed_of_seq hd'), (Obj.cls_mapSeq ..).trans hc, n', ?_⟩
  rw [hd']
  simp [strValues]
noncomputable abbrev keep0 (h0 h : Heap) : Prop := ∀ b o, h0.get? b = some o → h.get? b = some o
noncomputable abbrev loopArgs (p : Addr) (v r : Value) (n : Int) (d : Nat) (D : Addr) : Args := ⟨[.ref p, v, r, rawInt 0, rawInt 0, rawInt n, rawInt d, rawInt d, .bool false, .ref D, .bool false], []⟩
theorem len_le_of {text : Array Nat} {a b : Nat} : (Str.mk (text.extract a b)).length ≤ text.size := by
  simp only [Str.length, Array.size_extract]
  omega
theorem sub_loopS {prog : Program} {w : World} {R : Result → Shared → Prop} (F : Finds code text find) {h0 : Heap} (hp : IsPat h0 p 0 code) {D : Addr} (hD : h0.get? D = none) {t tr : Tok} (hsz : text.size ≤ 1000) (hr : repl.size ≤ 16) :
    ∀ (n d : Nat) (k : Int) (l : List (Str × Tok)) (s : Shared), d ≤ text.size → text.size - d < n → keep0 h0 s.heap → s.heap.IsList D (strValues l).toArray → l.length ≤ 2 * d → ((l.map (·.1)).map (·.length)).sum ≤ 16 * d →
      (∀ t' h' tk, keep0 h0 h' → R (.ok (.ret (.str (Txt.join ⟨#[]⟩ (l.map (·.1) ++ (piecesF find text repl n d).map Str.mk)) t'))) { s with heap := h', toks := tk }) →
      codeAny (model prog w) A (.builtin "re.Pattern.sub.loop" (loopArgs p (.str ⟨text⟩ t) (.str ⟨repl⟩ tr) k d D)) R s
  | 0, d, k, l, s, hd, hn, _, _, _, _, _ => absurd hn (Nat.not_lt_zero _)
  | n + 1, d, k, l, s, hd, hn, hk, hl, hll, hlw, hR => by
    refine codeAny_builtin entry_subloop ?_
    rw [Around.under_plainId plain_subloop _]
    unfold Builtin.«re.Pattern.sub.loop»
    refine wpAny_bind (wp_wholeS (hp.keeps hk) ?_)
    show wpAny _ _ (reLiteralCannotBeTurned (.str ⟨repl⟩ tr) >>= _) _ _ s
    refine wpAny_bind (m := reLiteralCannotBeTurned (.str ⟨repl⟩ tr)) (wpAny_pure ?_)
    have hn0 : ((d : Int)).toNat = d := by omega
    show wpAny _ _ (reNextFound ⟨.ref p, .str ⟨text⟩ t, code, text, 0, 0, 0, text.size⟩ ((d : Int)).toNat false >>= _) _ _ s
    rw [hn0]
    refine wpAny_bind (wp_found (st := .none) F hd _ rfl rfl rfl rfl ?_)
    have hlen0 : ∀ l' : List (Str × Tok), (strValues l').toArray.size = l'.length := fun l' => by simp [strValues]
    have hsl : (1000001 : Nat) ≤ sizeLine := by decide
    cases hf : find d with
    | none =>
      simp only
      have tail : ∀ (l' : List (Str × Tok)) (h' : Heap) (tk : Nat), keep0 h0 h' → h'.IsList D (strValues l').toArray → l'.length ≤ 2 * d + 1 → ((l'.map (·.1)).map (·.length)).sum ≤ 16 * d + 1000 → l'.map (·.1) = l.map (·.1) ++ (piecesF find text repl (n + 1) d).map Str.mk →
          wpAny (model prog w) A.in1 (do
            let joiner ← reSlice text 0 0 0
            let __do_lift ← seqItems? (Value.ref D)
            if (__do_lift.getD #[]).isEmpty = true then do
                let text ← pure joiner
                if false = true then do
                    let __do_lift ← holding [text] do
                          let __do_lift ← mkInt k
                          newTuple [text, __do_lift]
                    ret __do_lift
                  else ret text
              else do
                let text ← call (Value.builtin (if (0 == 0) = true then "str.join" else "bytes.join")) [joiner, Value.ref D]
                if false = true then do
                    let __do_lift ← holding [text] do
                          let __do_lift ← mkInt k
                          newTuple [text, __do_lift]
                    ret __do_lift
                  else ret text) (fun fin s' => match fin with
            | Fin.done f => R (Except.ok f) s'
            | Fin.again c' => c'.quiet = true ∧ codeAny (model prog w) A c' R s') (fun e s' => R (Except.error e) s') { s with heap := h', toks := tk } := by
        intro l' h' tk hk' hl' hln hw e
        have e0 : reSlice text 0 0 0 = mkStr ⟨#[]⟩ := by
          show mkStr ⟨text.extract 0 0⟩ = _
          rw [show text.extract 0 0 = #[] by apply Array.eq_empty_of_size_eq_zero; simp]
        rw [e0]
        refine wpAny_bind (wpAny_mkStr ?_ (Nat.zero_le _))
        obtain ⟨od, ho, hc, no, hdd⟩ := id hl'
        refine wpAny_bind (wpAny_seqItems ho hdd ?_)
        by_cases he : ((some (strValues l').toArray).getD #[]).isEmpty = true
        · rw [if_pos he]
          refine wpAny_bind (wpAny_pure ?_)
          rw [if_neg Bool.false_ne_true]
          have hnil : l' = [] := by
            cases l' with
            | nil => rfl
            | cons x r => simp [strValues] at he
          subst hnil
          have := hR tk h' (tk + 1) hk'
          rw [← e] at this
          exact wpAny_pure this
        · rw [if_neg he]
          refine wpAny_bind (SC.join (l := l') (texts := l'.map (·.1)) hl' rfl (joinOk_of_weight (by rw [List.length_map]; omega) (Nat.zero_le _)) fun t' k' => ?_)
          rw [if_neg Bool.false_ne_true]
          have := hR t' h' k' hk'
          rw [← e] at this
          exact wpAny_pure this
      by_cases hlt : d < text.size
      · rw [if_pos hlt]
        refine wpAny_bind (m := reSlice text 0 d text.size) (wpAny_mkStr ?_ (by have := len_le_of (text := text) (a := d) (b := text.size); omega))
        refine wpAny_bind (wp_pushS (s := { s with toks := s.toks + 1 }) hl (by omega) fun h' hl' hs' => ?_)
        refine tail (l ++ [(⟨text.extract d text.size⟩, s.toks)]) h' _ (fun b o e => (hs'.2 b (by rintro rfl; rw [hD] at e; cases e)).trans (hk b o e)) hl' (by simp; omega) ?_ ?_
        · have := len_le_of (text := text) (a := d) (b := text.size)
          simp only [List.map_append, List.map_cons, List.map_nil, List.sum_append, List.sum_cons, List.sum_nil]
          omega
        · unfold piecesF
          rw [hf]
          simp [hlt]
      · rw [if_neg hlt]
        refine tail l s.heap s.toks hk hl (by omega) (by omega) ?_
        unfold piecesF
        rw [hf]
        simp [hlt]
    | some x =>
      obtain ⟨a, b⟩ := x
      simp only
      intro m hma hmb
      obtain ⟨o1, o2, o3⟩ := F.ok d a b hd hf
      have next : ∀ (l' : List (Str × Tok)) (h' : Heap) (tk : Nat), keep0 h0 h' → h'.IsList D (strValues l').toArray → l'.length ≤ 2 * d + 1 → ((l'.map (·.1)).map (·.length)).sum ≤ 16 * d + (a - d) →
          l'.map (·.1) = l.map (·.1) ++ (if d < a then [Str.mk (text.extract d a)] else []) →
          wpAny (model prog w) A.in1 (updateSeq D (fun x => x.push (.str ⟨repl⟩ tr)) >>= fun _ => again (Code.builtin "re.Pattern.sub.loop" { pos := [Value.ref p, Value.str { cps := text } t, Value.str { cps := repl } tr, rawInt 0, rawInt 0,
                          rawInt (k + 1), rawInt ↑m.handed, rawInt ↑m.handed, Value.bool (m.handed == m.start), Value.ref D, Value.bool false] })) (fun fin s' => match fin with
            | Fin.done f => R (Except.ok f) s'
            | Fin.again c' => c'.quiet = true ∧ codeAny (model prog w) A c' R s') (fun e s' => R (Except.error e) s') { s with heap := h', toks := tk } := by
        intro l' h' tk hk' hl' hln hw e
        refine wpAny_bind (wp_pushS (s := { s with heap := h', toks := tk }) hl' (by omega) fun h'' hl'' hs'' => ?_)
        have hne : (m.handed == m.start) = false := by rw [hma, hmb]; exact beq_eq_false_iff_ne.mpr (by omega)
        rw [hne, hmb]
        refine wpAny_pure ⟨plainId_quiet plain_subloop _, ?_⟩
        refine sub_loopS F hp hD hsz hr n b (k + 1) (l' ++ [(⟨repl⟩, tr)]) { s with heap := h'', toks := tk } o3 (by omega) (fun c o e => (hs''.2 c (by rintro rfl; rw [hD] at e; cases e)).trans (hk' c o e)) hl'' (by simp; omega) ?_ ?_
        · have hrl : (Str.mk repl).length = repl.size := rfl
          simp only [List.map_append, List.map_cons, List.map_nil, List.sum_append, List.sum_cons, List.sum_nil, hrl]
          omega
        · intro t' h3 tk3 hk3
          have := hR t' h3 tk3 hk3
          have ep : (piecesF find text repl (n + 1) d).map Str.mk = (if d < a then [Str.mk (text.extract d a)] else []) ++ Str.mk repl :: (piecesF find text repl n b).map Str.mk := by
            conv => lhs; unfold piecesF
            rw [hf]
            by_cases h : d < a <;> simp [h]
          rw [ep, ← List.append_assoc, ← e] at this
          rw [List.map_append, List.append_assoc]
          exact this
      rw [hma]
      by_cases hlt : d < a
      · rw [if_pos hlt]
        refine wpAny_bind (m := reSlice text 0 d a) (wpAny_mkStr ?_ (by have := len_le_of (text := text) (a := d) (b := a); omega))
        refine wpAny_bind (wp_pushS (s := { s with toks := s.toks + 1 }) hl (by omega) fun h' hl' hs' => ?_)
        rw [← hma]
        refine wpAny_bind (wpAny_pure ?_)
        refine next (l ++ [(⟨text.extract d a⟩, s.toks)]) h' _ (fun b o e => (hs'.2 b (by rintro rfl; rw [hD] at e; cases e)).trans (hk b o e)) hl' (by simp; omega) ?_ (by simp [hlt])
        have : (Str.mk (text.extract d a)).length ≤ a - d := by
          simp only [Str.length, Array.size_extract]
          omega
        simp only [List.map_append, List.map_cons, List.map_nil, List.sum_append, List.sum_cons, List.sum_nil]
        omega
      · rw [if_neg hlt, ← hma]
        refine wpAny_bind (wpAny_pure ?_)
        exact next l s.heap s.toks hk hl (by omega) (by omega) (by simp [hlt])
end
end Mine
namespace Mine
open PySem PySem.Calls PyProof.Rows PySem.W
open PySem.Sre (M)
open PySem.Builtin.Re
section
variable {A : Around} {s : Shared} {p : Addr} {code text repl : Array Nat} {find : Nat → Option (Nat × Nat)} {E : Value → Shared → Prop}
theorem named_sub (a b : Value) : reNamed "re.Pattern.sub" "sub" ["repl", "string", "count"] 2 [a, b] [] = pure [some a, some b, none] := by kernel_rfl
noncomputable def subF (find : Nat → Option (Nat × Nat)) (text repl : Array Nat) : Str := Txt.join ⟨#[]⟩ ((piecesF find text repl (text.size + 1) 0).map Str.mk)
theorem call_subS {prog : Program} {w : World} {Q : Value → Shared → Prop} (F : Finds code text find) (hp : IsPat s.heap p 0 code) {t tr : Tok} (hsz : text.size ≤ 1000) (hr : repl.size ≤ 16) (hlit : repl.contains 92 = false)
    (h : ∀ t' s', Keeps s s' → Q (.str (subF find text repl) t') s') : wpAny (model prog w) A (call (.builtin "re.Pattern.sub") [.ref p, .str ⟨repl⟩ tr, .str ⟨text⟩ t]) Q E s := by
  have hT : s.TypeIs (.ref p) "re.Pattern" := by
    obtain ⟨o, fs, cl, oc, items, n, h1, h2, _⟩ := hp.obj
    exact ⟨o, h1, h2⟩
  refine wpAny_call (codeAny_call_builtin slot_sub.plain entry_sub (slot_sub.check _ _ _ _ _ _ _ _ hT (args_sub _ _ _) ?_))
  show wpAny _ _ (reNamed "re.Pattern.sub" "sub" ["repl", "string", "count"] 2 [.str ⟨repl⟩ tr, .str ⟨text⟩ t] [] >>= _) _ _ s
  rw [named_sub]
  refine wpAny_bind (wpAny_pure ?_)
  refine wpAny_bind (m := (pure (0 : Int) : Sem Int)) (wpAny_pure ?_)
  refine wpAny_bind (m := specialOf (.str ⟨repl⟩ tr) "__call__") (wpAny_specialOf (typeIs_str _ _ _) str_nocall ?_)
  refine wpAny_bind (m := (asStr? (.str ⟨repl⟩ tr))) (wpAny_pure ?_)
  refine wpAny_bind (m := (pure (!repl.contains 92) : Sem Bool)) (wpAny_pure ?_)
  rw [hlit]
  refine wpAny_bind (m := (pure (Value.str ⟨repl⟩ tr, (0 : Int)) : Sem (Value × Int))) (wpAny_pure ?_)
  refine wpAny_bind (m := holding [.str ⟨repl⟩ tr] (reWholeTarget (.ref p) (.str ⟨text⟩ t))) (wpAny_holding (wp_wholeS hp ?_))
  show wpAny _ _ (newList [] >>= _) _ _ s
  refine wpAny_bind (wpAny_newList ?_)
  refine wpAny_pure ⟨plainId_quiet plain_subloop _, ?_⟩
  refine sub_loopS (h0 := s.heap) F hp (D := s.heap.objs.size) (fresh_none (Nat.le_refl _)) hsz hr (text.size + 1) 0 0 [] _ (Nat.zero_le _) (by omega) (fun b o e => Heap.get?_push_of_some _ e) ⟨_, Heap.get?_push_size _ rfl, rfl, _, rfl⟩ (Nat.zero_le _) (Nat.zero_le _) ?_
  intro t' h' tk hk
  exact h t' _ ⟨h', tk, rfl, hk⟩
end
end Mine
namespace Mine
open PySem PySem.Calls PyProof.Rows PySem.W
section
variable {C : Cfg} {n : Nat} {env : Env} {ρ : Env1}
/-- a method of a value -/
noncomputable def Gm (C : Cfg) (q : PV) (name : Str) (id : String) : Prop := ∀ (A : Around) (s : Shared) (Z : Addr → Prop) (v : Value) (pl : Sem Bool) (Q : Value × List Value → Shared → Prop), Base C.K C.mg s.heap → Rep Z s.heap q v → Q (.builtin id, [v]) s → wpAny C.M A (getMethod v name pl) Q noE s
noncomputable def OpM (C : Cfg) (n : Nat) (id : String) (ps : List PV) (r : PV) : Prop :=
  ∀ (A : Around) (s : Shared) (Z : Addr → Prop) (vs : List Value), Room n A → (∀ a, Z a → ∃ ob, s.heap.get? a = some ob) → Base C.K C.mg s.heap → Reps Z s.heap ps vs → wpAny C.M A (call (.builtin id) vs) (fun v' s' => Rep Z s'.heap r v' ∧ Keeps s s') noE s
theorem ev_meth {o e : Expr} {es : List Expr} {name : Str} {apos pos : Pos} {q r : PV} {ps : List PV} {id : String} (ho : Ev C n env ρ o q) (hg : Gm C q name id) (he : Evs C n env ρ (e :: es) ps) (hop : OpM C n id (q :: ps) r)
    (hbase : attributeBase o name env (eval o env) = eval o env := by rfl)
    (hform : methodCallForm ((e :: es).length + ([] : List Keyword).length) (backTo pos (starEach (e :: es) env)) (backToKw pos (keywordEach [] env)) = true := by rfl)
    (hline : (apos.endLine == pos.line) = true := by rfl) (hplain : (backTo pos (starEach (e :: es) env)).any (·.1) = false := by rfl) : Ev C n env ρ (.Call (.Attribute o name apos) (e :: es) [] pos) r := .mk fun A s f R I => by
  rw [arm_eval_Call, hbase]
  refine wpAny_bind (ho.use R I fun v s₁ r₁ k₁ I₁ => ?_)
  refine wpAny_bind (wpAny_standAt ?_)
  unfold methodCall
  rw [hform]
  refine wpAny_bind (wpAny_holding (hg A s₁ f.Zs v _ _ I₁.bs r₁ ?_))
  have hpos : methodCallPos true o env apos pos = pure pos := by unfold methodCallPos; simp [hline]
  refine wpAny_bind (wpAny_of_eq hpos ?_)
  refine Calls.callWith_builtin hplain ?_
  have he' := he
  obtain ⟨p0, rr, _, _, hst, _⟩ := he'
  have body : wpAny C.M A (spliced (backTo pos (starEach (e :: es) env))) (fun vs s' => wpAny C.M A (call (.builtin id) ([v] ++ vs) []) (fun v s' => Rep f.Zs s'.heap r v ∧ Keeps s s') noE s') noE s₁ := he.use R I₁ fun vs s₂ r₂ k₂ I₂ =>
    wpAny_mono (hop A s₂ f.Zs (v :: vs) R I₂.zl I₂.bs ⟨v, vs, rfl, r₁.keeps (kUp k₂), r₂⟩) (fun _ _ z => ⟨z.1, kT (kT k₁ k₂) z.2⟩) fun _ _ z => z
  rw [hst] at body ⊢
  exact Calls.evalArgs_plain body
theorem plainAttrs_pat : PlainAttrs "re.Pattern" := ⟨⟨"object.__getattribute__", by rw [typeLookup_type, builtinLookup_eq_fast]; kernel_rfl, by decide +kernel⟩, by rw [typeLookup_type, builtinLookup_eq_fast]; kernel_rfl⟩
/-- the pattern at p, told by the written part -/
noncomputable def PatK (C : Cfg) (p : Addr) (kind : Nat) (code : Array Nat) : Prop := ∀ h : Heap, C.K.In h → IsPat h p kind code
theorem gm_sub {p : Addr} {kind : Nat} {code : Array Nat} (hp : PatK C p kind code) : Gm C (.raw (.ref p)) "sub" "re.Pattern.sub" := fun A s Z v pl Q B r h => by
  obtain rfl : v = .ref p := r
  obtain ⟨o, fs, cl, oc, items, n, h1, h2, h3, h4⟩ := (hp s.heap B.k).obj
  exact getMethod_builtin ⟨o, h1, h2⟩ plainAttrs_pat slot_sub type_sub (fun a e => by cases e; exact ⟨o, h1, h3⟩) h
theorem m_subS {p : Addr} {code text repl : Array Nat} {find : Nat → Option (Nat × Nat)} (hp : PatK C p 0 code) (F : Finds code text find) (hsz : text.size ≤ 1000) (hr : repl.size ≤ 16) (hlit : repl.contains 92 = false) :
    OpM C n "re.Pattern.sub" [.raw (.ref p), .str ⟨repl⟩, .str ⟨text⟩] (.str (subF find text repl)) := fun A s Z vs R hz B r => by
  obtain ⟨v, r1, rfl, e1, r⟩ := r
  obtain ⟨v2, r2, rfl, ⟨t2, rfl⟩, r⟩ := r
  obtain ⟨v3, r3, rfl, ⟨t3, rfl⟩, r⟩ := r
  obtain rfl : r3 = [] := r
  obtain rfl : v = .ref p := e1
  exact call_subS F (hp s.heap B.k) hsz hr hlit fun t' s' k => ⟨⟨_, rfl⟩, k⟩
end
end Mine
namespace Mine
open PySem PySem.Calls PyProof.Rows PySem.W
open PySem.Builtin PySem.Builtin.Bytes
noncomputable def byVals (l : List (Array UInt8 × Tok)) : List Value := l.map fun p => .bytes p.1 p.2
theorem slot_bjoin : PySem.Slot "bytes" "join" "bytes.join" :=
  .of (owner := "bytes") (n := "join") (by rw [typeLookup_type, builtinLookup_eq_fast]; kernel_rfl) (by decide +kernel) (by decide +kernel) (by decide +kernel)
    (by first | exact .inl (by decide +kernel) | exact .inr (by decide +kernel)) (by rw [isSubtype_type]; kernel_rfl)
theorem entry_bjoin : entryFor table "bytes.join" = some Builtin.«bytes.join» := entryFor_of_tree (by kernel_rfl)
theorem args_bjoin (a b : Value) : argsOk "bytes.join" ⟨[a, b], []⟩ := by unfold argsOk; kernel_rfl
theorem take_eq {id : String} {b : Array UInt8} {t : Tok} : Bytes.takeBufferQuiet? id (.bytes b t) 0 = pure (some (b, none)) := by
  have e : Bytes.takeBuffer? id (.bytes b t) 0 = pure (some (b, none)) := by
    unfold Bytes.takeBuffer?
    rw [KBy.special_eq KBy.look_buffer, KBy.own_buffer]
    show ((Bytes.buffer? id (.bytes b t) (full := (0 == fullReadOnly))) >>= fun r => pure (r.map (·, none))) = _
    rw [show Bytes.buffer? id (.bytes b t) (full := (0 == fullReadOnly)) = pure (some b) by
      unfold Bytes.buffer?
      rw [KBy.special_eq KBy.look_buffer, KBy.own_buffer, KBy.own_release]
      kernel_rfl]
    rfl
  unfold Bytes.takeBufferQuiet?
  rw [e]
  rfl
theorem wp_range {M : Model} {A : Around} {E : Value → Shared → Prop} {s : Shared} {σ : Type} {body : Nat → σ → Sem (ForInStep σ)} (I : Nat → σ → Prop) {n : Nat} {Q : σ → Shared → Prop}
    (hs : ∀ i st (R : ForInStep σ → Shared → Prop), i < n → I i st → (∀ st', I (i + 1) st' → R (.yield st') s) → wpAny M A (body i st) R E s) (hQ : ∀ st, I n st → Q st s) : ∀ init, I 0 init → wpAny M A (forIn [:n] init body) Q E s := by
  intro init h0
  rw [Std.Legacy.Range.forIn_eq_forIn_range']
  have key : ∀ k i st, i + k = n → I i st → wpAny M A (forIn (List.range' i k 1) st body) Q E s := by
    intro k
    induction k with
    | zero => intro i st e hi; exact wpAny_pure (hQ st (by rw [← e]; exact hi))
    | succ k ih =>
      intro i st e hi
      show wpAny M A (forIn (i :: List.range' (i + 1) k 1) st body) Q E s
      rw [List.forIn_cons]
      exact wpAny_bind (hs i st _ (by omega) hi fun st' hi' => ih (i + 1) st' (by omega) hi')
  have := key n 0 init (by omega) h0
  simpa [Std.Legacy.Range.size] using this
theorem wp_joinLetGo {M : Model} {A : Around} {E : Value → Shared → Prop} {s : Shared} {Q : Unit → Shared → Prop} (h : Q () s) : ∀ (tk : List (Value × Option Value)) (keep : List Value), (∀ x ∈ tk, x.2 = none) → wpAny M A (joinLetGo tk keep) Q E s
  | [], _, _ => wpAny_pure h
  | (x, w) :: rest, keep, hn => by
    obtain rfl : w = none := hn (x, w) List.mem_cons_self
    exact wpAny_bind (m := letGo _ _) (wpAny_letGo (wp_joinLetGo h rest keep fun y hy => hn y (List.mem_cons_of_mem _ hy)))
theorem call_joinB {prog : Program} {w : World} {A : Around} {E : Value → Shared → Prop} {s : Shared} {D : Addr} {t : Tok} {l : List (Array UInt8 × Tok)} {Q : Value → Shared → Prop} (hl : s.heap.IsList D (byVals l).toArray) (hne : l ≠ []) (hsz : ((l.map (·.1)).foldl (· + ·.size) (0 * 0)) ≤ 16777216) (hsz2 : (joined #[] (l.map (·.1))).size ≤ sizeLine)
    (h : ∀ t' k, Q (.bytes (joined #[] (l.map (·.1))) t') { s with toks := k }) : wpAny (model prog w) A (call (.builtin "bytes.join") [.bytes #[] t, .ref D]) Q E s := by
  refine wpAny_call_entry slot_bjoin (typeIs_bytes _ _ _) entry_bjoin ?_ (args_bjoin _ _)
  obtain ⟨o, ho, hc, n, hd⟩ := id hl
  unfold Builtin.«bytes.join» joinM
  refine wpAny_bind (m := selfAndOne _ _) (wpAny_pure ?_)
  refine wpAny_bind (m := joinItems (.ref D)) ?_
  unfold joinItems
  refine wpAny_bind (wpAny_typeOf_ref ho ?_)
  rw [hc]
  refine wpAny_pure ?_
  refine wpAny_bind (m := seqItems? (.ref D)) (wpAny_seqItems ho hd ?_)
  cases l with
  | nil => exact absurd rfl hne
  | cons a r =>
    cases r with
    | nil =>
      refine wpAny_bind (m := typeOf (.bytes a.1 a.2)) (wpAny_typeOf (typeIs_bytes _ _ _) ?_)
      refine wpAny_bind (m := rule _) (wpAny_rule (wpAny_pure ⟨_, rfl, ?_⟩))
      have : joined #[] (([a] : List (Array UInt8 × Tok)).map (·.1)) = a.1 := by simp [joined]
      rw [this] at h
      exact h a.2 s.toks
    | cons b r =>
      refine wpAny_bind (wp_range (fun i (st : Array (Array UInt8) × List (Value × Option Value)) => st.1.toList = ((a :: b :: r).map (·.1)).take i ∧ (∀ x ∈ st.2, x.2 = none) ∧ (∀ x ∈ st.2, x.1.onHeap = false)) (fun i st R hi hI hR => ?_) (fun st hI => ?_) _ ⟨by simp, fun _ h => (nomatch h), fun _ h => (nomatch h)⟩)
      · refine wpAny_bind (m := seqItems? (.ref D)) (wpAny_seqItems ho hd ?_)
        have hany : (st.2.any fun x => x.1.onHeap) = false := by
          rw [List.any_eq_false]
          intro x hx
          rw [hI.2.2 x hx]
          exact Bool.false_ne_true
        have hi' : i < (a :: b :: r).length := by simpa [byVals] using hi
        obtain ⟨x, hx⟩ : ∃ x, (a :: b :: r)[i]? = some x := ⟨(a :: b :: r)[i], by simp [hi']⟩
        have hget : ((byVals (a :: b :: r)).toArray.getD i Value.none) = .bytes x.1 x.2 := by
          have : (byVals (a :: b :: r))[i]? = some (.bytes x.1 x.2) := by rw [byVals, List.getElem?_map, hx]; rfl
          simp [Array.getD_eq_getD_getElem?, this]
        simp only [hany, hget]
        rw [show (Kind.bytes == Kind.bytearray || false) = false from rfl, if_neg Bool.false_ne_true]
        rw [take_eq]
        refine wpAny_bind (wpAny_holding (wpAny_pure ?_))
        refine wpAny_bind (m := seqItems? (.ref D)) (wpAny_seqItems ho hd ?_)
        simp only [bne_self_eq_false, Bool.false_eq_true, if_false]
        refine wpAny_pure (hR _ ⟨?_, ?_, ?_⟩)
        · have hx' : ((a :: b :: r).map (·.1))[i]? = some x.1 := by rw [List.getElem?_map, hx]; rfl
          rw [List.take_add_one, hx', Array.toList_push, hI.1]
          rfl
        · intro y hy
          rcases List.mem_append.mp hy with hy | hy
          · exact hI.2.1 y hy
          · rw [List.mem_singleton] at hy; subst hy; rfl
        · intro y hy
          rcases List.mem_append.mp hy with hy | hy
          · exact hI.2.2 y hy
          · rw [List.mem_singleton] at hy; subst hy; rfl
      · have e : st.1.toList = (a :: b :: r).map (·.1) := by
          rw [hI.1]
          exact List.take_of_length_le (by simp [byVals])
        refine wpAny_bind (m := payload _) (wpAny_pure ?_)
        have hnl : tooLong (st.1.foldl (· + ·.size) ((#[] : Array UInt8).size * (st.1.size - 1))) = false := by
          refine KBy.tooLong_not ?_
          rw [← Array.foldl_toList, e]
          simpa using hsz
        rw [if_neg (by rw [hnl]; exact Bool.false_ne_true)]
        refine wpAny_bind (m := mkBytes _) (wpAny_mkBytes ?_ ?_)
        · rw [e]
          refine wpAny_bind (m := holding _ point) (wpAny_holding (wpAny_point ?_))
          exact wpAny_bind (wp_joinLetGo (wpAny_pure ⟨_, rfl, h _ _⟩) _ _ hI.2.1)
        · rw [e]; exact hsz2
end Mine
namespace Mine
open PySem PySem.Calls PyProof.Rows PySem.W
open PySem.Sre (M)
open PySem.Builtin.Re
noncomputable def toB (a : Array Nat) : Array UInt8 := a.map (·.toUInt8)
theorem lenB_le {text : Array Nat} {a b : Nat} : (toB (text.extract a b)).size ≤ text.size := by
  simp only [toB, Array.size_map, Array.size_extract]
  omega
theorem foldl_size (l : List (Array UInt8)) : ∀ k, l.foldl (· + ·.size) k = k + (l.map (·.size)).sum := by
  induction l with
  | nil => intro k; simp
  | cons a r ih => intro k; rw [List.foldl_cons, ih]; simp; omega
theorem sizes_fold {l : List (Array UInt8 × Tok)} : ((l.map (·.1)).foldl (· + ·.size) (0 * 0)) = ((l.map (·.1)).map (·.size)).sum := by rw [foldl_size]; simp
theorem joined_eq (l : List (Array UInt8)) : Builtin.Bytes.joined #[] l = l.foldl (· ++ ·) #[] := by
  unfold Builtin.Bytes.joined
  have key : ∀ (l : List (Array UInt8)) (k : Nat) (acc : Array UInt8), (l.zipIdx k).foldl (fun out (p : Array UInt8 × Nat) => (if p.2 > 0 then out ++ #[] else out) ++ p.1) acc = l.foldl (· ++ ·) acc := by
    intro l
    induction l with
    | nil => intro k acc; rfl
    | cons a r ih => intro k acc; rw [List.zipIdx_cons, List.foldl_cons, List.foldl_cons, ih]; congr 1; split <;> simp
  exact key l 0 #[]
theorem joined_size {l : List (Array UInt8)} : (Builtin.Bytes.joined #[] l).size = (l.map (·.size)).sum := by
  rw [joined_eq]
  have key : ∀ (l : List (Array UInt8)) (acc : Array UInt8), (l.foldl (· ++ ·) acc).size = acc.size + (l.map (·.size)).sum := by
    intro l
    induction l with
    | nil => intro acc; simp
    | cons a r ih => intro acc; rw [List.foldl_cons, ih]; simp; omega
  rw [key]; simp
section
variable {C : Cfg} {A : Around} {s : Shared} {p : Addr} {code text repl : Array Nat} {find : Nat → Option (Nat × Nat)}
theorem wp_litB {Mo : Model} {E : Value → Shared → Prop} {b : Array UInt8} {t : Tok} {Q : Unit → Shared → Prop} (h : Q () s) : wpAny Mo A (reLiteralCannotBeTurned (.bytes b t)) Q E s := by
  unfold reLiteralCannotBeTurned
  refine wpAny_bind (m := asStr? (.bytes b t)) (wpAny_pure ?_)
  refine wpAny_bind (m := isInstance (.bytes b t) (.type "bytes")) (wpAny_of_eq KBy.isInstance_eq ?_)
  exact wpAny_pure h
theorem wp_wholeB {Mo : Model} {E : Value → Shared → Prop} {tb : Array UInt8} {t : Tok} {Q : ReTarget → Shared → Prop} (hp : IsPat s.heap p 1 code) (htb : tb.map (·.toNat) = text) (h : Q ⟨.ref p, .bytes tb t, code, text, 1, 0, 0, text.size⟩ s) : wpAny Mo A (reWholeTarget (.ref p) (.bytes tb t)) Q E s := by
  obtain ⟨o, fs, cl, oc, items, n, h1, h2, h3, h4, h5, h6, h7, h8, h9, h10⟩ := hp.obj
  unfold reWholeTarget
  refine wpAny_bind (wpAny_fieldsOf h1 h4 ?_)
  have ht : wpAny Mo A (reTextOf (.bytes tb t)) (fun r s' => r = (text, 1) ∧ s' = s) E s := by
    unfold reTextOf
    refine wpAny_bind (m := asStr? (.bytes tb t)) (wpAny_pure ?_)
    refine wpAny_bind (m := Builtin.Bytes.bufferQuiet? "_sre" (.bytes tb t)) (wpAny_of_eq KBy.quiet_eq ?_)
    rw [← htb]
    exact wpAny_pure ⟨rfl, rfl⟩
  refine wpAny_bind (wpAny_mono ht (fun r s' e => ?_) fun _ _ e => e)
  obtain ⟨rfl, rfl⟩ := e
  rw [h6]
  show wpAny Mo A (reNoCollectionInside (.bytes tb t) 1 >>= fun _ => reRawItems (fs.getD 5 .none) >>= _) Q E s'
  have hn : wpAny Mo A (reNoCollectionInside (.bytes tb t) 1) (fun _ s2 => s2 = s') E s' := by
    unfold reNoCollectionInside
    refine wpAny_bind (m := isInstance (.bytes tb t) (.type "bytes")) (wpAny_of_eq KBy.isInstance_eq ?_)
    exact wpAny_pure rfl
  refine wpAny_bind (wpAny_mono hn (fun _ s2 e => ?_) fun _ _ e => e)
  subst e
  rw [h5]
  refine wpAny_bind (wp_rawItems h8 h9 (wpAny_pure ?_))
  rw [h10, h7]
  exact h
theorem wp_pushB {Mo : Model} {E : Value → Shared → Prop} {D : Addr} {l : List (Array UInt8 × Tok)} {x : Array UInt8} {t : Tok} {Q : Unit → Shared → Prop} (hl : s.heap.IsList D (byVals l).toArray) (hsz : l.length ≤ 1000000)
    (h : ∀ h', h'.IsList D (byVals (l ++ [(x, t)])).toArray → Heap.SameBut D s.heap h' → Q () { s with heap := h' }) : wpAny Mo A (updateSeq D (·.push (.bytes x t))) Q E s := by
  obtain ⟨o, ho, hc, n, hd⟩ := id hl
  obtain ⟨n', hd'⟩ := Obj.data_mapSeq hd (·.push (Value.bytes x t))
  have hz : (byVals l).toArray.size ≤ 1000000 := by simpa [byVals] using hsz
  have hsl : (1000001 : Nat) ≤ sizeLine := by decide
  refine wpAny_updateSeq ho hd (h _ ?_ (Heap.SameBut.update ..)) (by omega) (by rw [Array.size_push]; omega)
  refine ⟨_, Heap.get?_update_self _ ho (Obj.isFreed_of_seq hd'), (Obj.cls_mapSeq ..).trans hc, n', ?_⟩
  rw [hd']
  simp [byVals]
theorem sub_loopB {prog : Program} {w : World} {R : Result → Shared → Prop} (F : Finds code text find) {h0 : Heap} (hp : IsPat h0 p 1 code) {D : Addr} (hD : h0.get? D = none) {t tr : Tok} {tb rb : Array UInt8} (htb : tb.map (·.toNat) = text) (hrb : rb = toB repl) (hsz : text.size ≤ 1000) (hr : repl.size ≤ 16) :
    ∀ (n d : Nat) (k : Int) (l : List (Array UInt8 × Tok)) (s : Shared), d ≤ text.size → text.size - d < n → keep0 h0 s.heap → s.heap.IsList D (byVals l).toArray → l.length ≤ 2 * d → ((l.map (·.1)).map (·.size)).sum ≤ 16 * d →
      (∀ t' h' tk, keep0 h0 h' → R (.ok (.ret (.bytes (Builtin.Bytes.joined #[] (l.map (·.1) ++ (piecesF find text repl n d).map toB)) t'))) { s with heap := h', toks := tk }) →
      codeAny (model prog w) A (.builtin "re.Pattern.sub.loop" (loopArgs p (.bytes tb t) (.bytes rb tr) k d D)) R s
  | 0, d, k, l, s, hd, hn, _, _, _, _, _ => absurd hn (Nat.not_lt_zero _)
  | n + 1, d, k, l, s, hd, hn, hk, hl, hll, hlw, hR => by
    refine codeAny_builtin entry_subloop ?_
    rw [Around.under_plainId plain_subloop _]
    unfold Builtin.«re.Pattern.sub.loop»
    refine wpAny_bind (wp_wholeB (hp.keeps hk) htb ?_)
    show wpAny _ _ (reLiteralCannotBeTurned (.bytes rb tr) >>= _) _ _ s
    refine wpAny_bind (wp_litB ?_)
    have hn0 : ((d : Int)).toNat = d := by omega
    show wpAny _ _ (reNextFound ⟨.ref p, .bytes tb t, code, text, 1, 0, 0, text.size⟩ ((d : Int)).toNat false >>= _) _ _ s
    rw [hn0]
    refine wpAny_bind (wp_found (st := .none) F hd _ rfl rfl rfl rfl ?_)
    have hlen0 : ∀ l' : List (Array UInt8 × Tok), (byVals l').toArray.size = l'.length := fun l' => by simp [byVals]
    have hsl : (1000001 : Nat) ≤ sizeLine := by decide
    cases hf : find d with
    | none =>
      simp only
      have tail : ∀ (l' : List (Array UInt8 × Tok)) (h' : Heap) (tk : Nat), keep0 h0 h' → h'.IsList D (byVals l').toArray → l'.length ≤ 2 * d + 1 → ((l'.map (·.1)).map (·.size)).sum ≤ 16 * d + 1000 → l'.map (·.1) = l.map (·.1) ++ (piecesF find text repl (n + 1) d).map toB →
          wpAny (model prog w) A.in1 (do
            let joiner ← reSlice text 1 0 0
            let __do_lift ← seqItems? (Value.ref D)
            if (__do_lift.getD #[]).isEmpty = true then do
                let text ← pure joiner
                if false = true then do
                    let __do_lift ← holding [text] do
                          let __do_lift ← mkInt k
                          newTuple [text, __do_lift]
                    ret __do_lift
                  else ret text
              else do
                let text ← call (Value.builtin (if (1 == 0) = true then "str.join" else "bytes.join")) [joiner, Value.ref D]
                if false = true then do
                    let __do_lift ← holding [text] do
                          let __do_lift ← mkInt k
                          newTuple [text, __do_lift]
                    ret __do_lift
                  else ret text) (fun fin s' => match fin with
            | Fin.done f => R (Except.ok f) s'
            | Fin.again c' => c'.quiet = true ∧ codeAny (model prog w) A c' R s') (fun e s' => R (Except.error e) s') { s with heap := h', toks := tk } := by
        intro l' h' tk hk' hl' hln hw e
        have e0 : reSlice text 1 0 0 = mkBytes #[] := by
          show mkBytes ((text.extract 0 0).map (·.toUInt8)) = _
          rw [show text.extract 0 0 = #[] by apply Array.eq_empty_of_size_eq_zero; simp]
          simp
        rw [e0]
        refine wpAny_bind (wpAny_mkBytes ?_ (Nat.zero_le _))
        obtain ⟨od, ho, hc, no, hdd⟩ := id hl'
        refine wpAny_bind (wpAny_seqItems ho hdd ?_)
        by_cases he : ((some (byVals l').toArray).getD #[]).isEmpty = true
        · rw [if_pos he]
          refine wpAny_bind (wpAny_pure ?_)
          rw [if_neg Bool.false_ne_true]
          have hnil : l' = [] := by
            cases l' with
            | nil => rfl
            | cons x r => simp [byVals] at he
          subst hnil
          have := hR tk h' (tk + 1) hk'
          rw [← e] at this
          exact wpAny_pure this
        · rw [if_neg he]
          have hne : l' ≠ [] := by rintro rfl; exact he rfl
          refine wpAny_bind (call_joinB (l := l') hl' hne ?_ ?_ fun t' k' => ?_)
          · rw [sizes_fold]; omega
          · rw [joined_size]; omega
          rw [if_neg Bool.false_ne_true]
          have := hR t' h' k' hk'
          rw [← e] at this
          exact wpAny_pure this
      by_cases hlt : d < text.size
      · rw [if_pos hlt]
        refine wpAny_bind (m := reSlice text 1 d text.size) (wpAny_mkBytes ?_ (by have := lenB_le (text := text) (a := d) (b := text.size); show (toB (text.extract d text.size)).size ≤ sizeLine; omega))
        refine wpAny_bind (wp_pushB (s := { s with toks := s.toks + 1 }) hl (by omega) fun h' hl' hs' => ?_)
        refine tail (l ++ [(toB (text.extract d text.size), s.toks)]) h' _ (fun b o e => (hs'.2 b (by rintro rfl; rw [hD] at e; cases e)).trans (hk b o e)) hl' (by simp; omega) ?_ ?_
        · have := lenB_le (text := text) (a := d) (b := text.size)
          simp only [List.map_append, List.map_cons, List.map_nil, List.sum_append, List.sum_cons, List.sum_nil]
          omega
        · unfold piecesF
          rw [hf]
          simp [hlt]
      · rw [if_neg hlt]
        refine tail l s.heap s.toks hk hl (by omega) (by omega) ?_
        unfold piecesF
        rw [hf]
        simp [hlt]
    | some x =>
      obtain ⟨a, b⟩ := x
      simp only
      intro m hma hmb
      obtain ⟨o1, o2, o3⟩ := F.ok d a b hd hf
      have next : ∀ (l' : List (Array UInt8 × Tok)) (h' : Heap) (tk : Nat), keep0 h0 h' → h'.IsList D (byVals l').toArray → l'.length ≤ 2 * d + 1 → ((l'.map (·.1)).map (·.size)).sum ≤ 16 * d + (a - d) →
          l'.map (·.1) = l.map (·.1) ++ (if d < a then [toB (text.extract d a)] else []) →
          wpAny (model prog w) A.in1 (updateSeq D (fun x => x.push (.bytes rb tr)) >>= fun _ => again (Code.builtin "re.Pattern.sub.loop" { pos := [Value.ref p, Value.bytes tb t, Value.bytes rb tr, rawInt 0, rawInt 0,
                          rawInt (k + 1), rawInt ↑m.handed, rawInt ↑m.handed, Value.bool (m.handed == m.start), Value.ref D, Value.bool false] })) (fun fin s' => match fin with
            | Fin.done f => R (Except.ok f) s'
            | Fin.again c' => c'.quiet = true ∧ codeAny (model prog w) A c' R s') (fun e s' => R (Except.error e) s') { s with heap := h', toks := tk } := by
        intro l' h' tk hk' hl' hln hw e
        refine wpAny_bind (wp_pushB (s := { s with heap := h', toks := tk }) hl' (by omega) fun h'' hl'' hs'' => ?_)
        have hne : (m.handed == m.start) = false := by rw [hma, hmb]; exact beq_eq_false_iff_ne.mpr (by omega)
        rw [hne, hmb]
        refine wpAny_pure ⟨plainId_quiet plain_subloop _, ?_⟩
        refine sub_loopB F hp hD htb hrb hsz hr n b (k + 1) (l' ++ [(rb, tr)]) { s with heap := h'', toks := tk } o3 (by omega) (fun c o e => (hs''.2 c (by rintro rfl; rw [hD] at e; cases e)).trans (hk' c o e)) hl'' (by simp; omega) ?_ ?_
        · have hrl : rb.size = repl.size := by rw [hrb]; exact Array.size_map ..
          simp only [List.map_append, List.map_cons, List.map_nil, List.sum_append, List.sum_cons, List.sum_nil, hrl]
          omega
        · intro t' h3 tk3 hk3
          have := hR t' h3 tk3 hk3
          have ep : (piecesF find text repl (n + 1) d).map toB = (if d < a then [toB (text.extract d a)] else []) ++ toB repl :: (piecesF find text repl n b).map toB := by
            conv => lhs; unfold piecesF
            rw [hf]
            by_cases h : d < a <;> simp [h]
          rw [ep, ← List.append_assoc, ← e, ← hrb] at this
          rw [List.map_append, List.append_assoc]
          exact this
      rw [hma]
      by_cases hlt : d < a
      · rw [if_pos hlt]
        refine wpAny_bind (m := reSlice text 1 d a) (wpAny_mkBytes ?_ (by have := lenB_le (text := text) (a := d) (b := a); show (toB (text.extract d a)).size ≤ sizeLine; omega))
        refine wpAny_bind (wp_pushB (s := { s with toks := s.toks + 1 }) hl (by omega) fun h' hl' hs' => ?_)
        rw [← hma]
        refine wpAny_bind (wpAny_pure ?_)
        refine next (l ++ [(toB (text.extract d a), s.toks)]) h' _ (fun b o e => (hs'.2 b (by rintro rfl; rw [hD] at e; cases e)).trans (hk b o e)) hl' (by simp; omega) ?_ (by simp [hlt])
        have : (toB (text.extract d a)).size ≤ a - d := by
          simp only [toB, Array.size_map, Array.size_extract]
          omega
        simp only [List.map_append, List.map_cons, List.map_nil, List.sum_append, List.sum_cons, List.sum_nil]
        omega
      · rw [if_neg hlt, ← hma]
        refine wpAny_bind (wpAny_pure ?_)
        exact next l s.heap s.toks hk hl (by omega) (by omega) (by simp [hlt])
end
end Mine
namespace Mine
open PySem PySem.Calls PyProof.Rows PySem.W
open PySem.Sre (M)
open PySem.Builtin.Re
section
variable {A : Around} {s : Shared} {p : Addr} {code text repl : Array Nat} {find : Nat → Option (Nat × Nat)} {E : Value → Shared → Prop}
noncomputable def subB (find : Nat → Option (Nat × Nat)) (text repl : Array Nat) : Array UInt8 := Builtin.Bytes.joined #[] ((piecesF find text repl (text.size + 1) 0).map toB)
theorem call_subB {prog : Program} {w : World} {Q : Value → Shared → Prop} (F : Finds code text find) (hp : IsPat s.heap p 1 code) {t tr : Tok} {tb rb : Array UInt8} (htb : tb.map (·.toNat) = text) (hrb : rb = toB repl) (hsz : text.size ≤ 1000) (hr : repl.size ≤ 16) (hlit : rb.contains 92 = false)
    (h : ∀ t' s', Keeps s s' → Q (.bytes (subB find text repl) t') s') : wpAny (model prog w) A (call (.builtin "re.Pattern.sub") [.ref p, .bytes rb tr, .bytes tb t]) Q E s := by
  have hT : s.TypeIs (.ref p) "re.Pattern" := by
    obtain ⟨o, fs, cl, oc, items, n, h1, h2, _⟩ := hp.obj
    exact ⟨o, h1, h2⟩
  refine wpAny_call (codeAny_call_builtin slot_sub.plain entry_sub (slot_sub.check _ _ _ _ _ _ _ _ hT (args_sub _ _ _) ?_))
  show wpAny _ _ (reNamed "re.Pattern.sub" "sub" ["repl", "string", "count"] 2 [.bytes rb tr, .bytes tb t] [] >>= _) _ _ s
  rw [named_sub]
  refine wpAny_bind (wpAny_pure ?_)
  refine wpAny_bind (m := (pure (0 : Int) : Sem Int)) (wpAny_pure ?_)
  refine wpAny_bind (m := specialOf (.bytes rb tr) "__call__") (wpAny_specialOf (typeIs_bytes _ _ _) bytes_nocall ?_)
  refine wpAny_bind (m := (asStr? (.bytes rb tr))) (wpAny_pure ?_)
  refine wpAny_bind (m := Builtin.Bytes.bufferQuiet? "re.Pattern.sub" (.bytes rb tr)) (wpAny_of_eq KBy.quiet_eq ?_)
  refine wpAny_bind (m := (pure (!rb.contains 92) : Sem Bool)) (wpAny_pure ?_)
  rw [hlit]
  refine wpAny_bind (m := (pure (Value.bytes rb tr, (0 : Int)) : Sem (Value × Int))) (wpAny_pure ?_)
  refine wpAny_bind (m := holding [.bytes rb tr] (reWholeTarget (.ref p) (.bytes tb t))) (wpAny_holding (wp_wholeB hp htb ?_))
  show wpAny _ _ (newList [] >>= _) _ _ s
  refine wpAny_bind (wpAny_newList ?_)
  refine wpAny_pure ⟨plainId_quiet plain_subloop _, ?_⟩
  refine sub_loopB (h0 := s.heap) F hp (D := s.heap.objs.size) (fresh_none (Nat.le_refl _)) htb hrb hsz hr (text.size + 1) 0 0 [] _ (Nat.zero_le _) (by omega) (fun b o e => Heap.get?_push_of_some _ e) ⟨_, Heap.get?_push_size _ rfl, rfl, _, rfl⟩ (Nat.zero_le _) (Nat.zero_le _) ?_
  intro t' h' tk hk
  exact h t' _ ⟨h', tk, rfl, hk⟩
end
section
variable {C : Cfg} {n : Nat}
theorem m_subB {p : Addr} {code text repl : Array Nat} {tb rb : Array UInt8} {find : Nat → Option (Nat × Nat)} (hp : PatK C p 1 code) (F : Finds code text find) (htb : tb.map (·.toNat) = text) (hrb : rb = toB repl) (hsz : text.size ≤ 1000) (hr : repl.size ≤ 16) (hlit : rb.contains 92 = false) :
    OpM C n "re.Pattern.sub" [.raw (.ref p), .bytes rb, .bytes tb] (.bytes (subB find text repl)) := fun A s Z vs R hz B r => by
  obtain ⟨v, r1, rfl, e1, r⟩ := r
  obtain ⟨v2, r2, rfl, ⟨t2, rfl⟩, r⟩ := r
  obtain ⟨v3, r3, rfl, ⟨t3, rfl⟩, r⟩ := r
  obtain rfl : r3 = [] := r
  obtain rfl : v = .ref p := e1
  exact call_subB F (hp s.heap B.k) htb hrb hsz hr hlit fun t' s' k => ⟨⟨_, rfl⟩, k⟩
end
end Mine
namespace Mine
open PySem PySem.Calls PyProof.Rows PySem.W
open PySem.Builtin PySem.Builtin._codecs
theorem fold_bytes (a : Array Nat) : a.foldl (fun acc y => acc ++ (asciiCodec.bytesOf y).toArray) #[] = toB a := by
  have key : ∀ (l : List Nat) (acc : Array UInt8), l.foldl (fun acc y => acc ++ (asciiCodec.bytesOf y).toArray) acc = acc ++ (l.map (·.toUInt8)).toArray := by
    intro l
    induction l with
    | nil => intro acc; simp
    | cons c r ih =>
      intro acc
      rw [List.foldl_cons, ih]
      show acc ++ [c.toUInt8].toArray ++ _ = _
      simp
  rw [← Array.foldl_toList, key]
  apply Array.toList_inj.mp
  simp [toB]
theorem wp_narrow {M : Model} {A : Around} {E : Value → Shared → Prop} {s : Shared} {Q : Array UInt8 → Shared → Prop} {x : Str} {v : Value} (hx : ∀ c ∈ x.cps, c < 128) (hl : x.cps.size ≤ sizeLine) (h : Q (toB x.cps) s) : wpAny M A (encodeNarrow "str.encode" asciiCodec none v x) Q E s := by
  unfold encodeNarrow
  simp only [Std.Legacy.Range.forIn_eq_forIn_range']
  have hsz : [0:x.length].size = x.length := by simp [Std.Legacy.Range.size]
  rw [hsz]
  cases hn : x.length with
  | zero =>
    refine wpAny_bind (wpAny_pure (wpAny_pure ?_))
    have : toB x.cps = #[] := by
      apply Array.eq_empty_of_size_eq_zero
      simp only [toB, Array.size_map]
      exact hn
    rw [this] at h
    exact h
  | succ n =>
    have h0 : x.cps[0]? = some (x.cps[0]'(by show 0 < x.length; omega)) := by simp
    have hb : asciiCodec.bad (x.cps[0]'(by show 0 < x.length; omega)) = false := by
      have := hx (x.cps[0]'(by show 0 < x.length; omega)) (by simp)
      show decide (_ ≥ 128) = false
      exact decide_eq_false (by omega)
    have hall : Array.findIdx? asciiCodec.bad (x.cps.extract 0) = none := by
      rw [Array.findIdx?_eq_none_iff]
      intro c hc
      have := hx c (by simpa using hc)
      show decide (c ≥ 128) = false
      exact decide_eq_false (by omega)
    have hout : Array.foldl (fun acc y => acc ++ (asciiCodec.bytesOf y).toArray) #[] ((x.cps.extract 0).extract 0 (x.cps.extract 0).size) = toB x.cps := by
      have e : (x.cps.extract 0).extract 0 (x.cps.extract 0).size = x.cps := by simp
      rw [e]
      exact fold_bytes x.cps
    show wpAny M A (forIn (0 :: List.range' 1 n) _ _ >>= _) Q E s
    rw [List.forIn_cons]
    refine wpAny_bind (wpAny_bind ?_)
    rw [if_neg (by show ¬ (0 : Nat) > sizeLine; omega)]
    simp only [h0, hb, hall, Option.getD_none, hout]
    refine wpAny_pure ?_
    have hend : x.cps[0 + (x.cps.extract 0).size]? = none := by
      have : (x.cps.extract 0).size = x.cps.size := by simp
      rw [this]
      simp
    have fin : Q (toB x.cps) s := h
    cases n with
    | zero => exact wpAny_pure (wpAny_pure h)
    | succ n =>
      show wpAny M A (forIn (1 :: List.range' 2 n) _ _) _ E s
      rw [List.forIn_cons]
      refine wpAny_bind ?_
      rw [if_neg (by
        show ¬ (toB x.cps).size > sizeLine
        have : (toB x.cps).size = x.cps.size := Array.size_map ..
        omega)]
      simp only [hend]
      exact wpAny_pure (wpAny_pure (wpAny_pure h))
end Mine
namespace Mine
open PySem PySem.Calls PyProof.Rows PySem.W
open PySem.Builtin PySem.Builtin._codecs PySem.Builtin.Str
theorem enc1 (x : Str) (t : Tok) (v : Value) : strSelf ⟨[.str x t, v], []⟩ = pure (.str x t, x, [v]) := by kernel_rfl
theorem enc2 (v : Value) : Str.bindOptional "str.encode" "encode" 0 ["encoding", "errors"] [v] [] = pure [some v, none] := by kernel_rfl
theorem enc3 (u : Tok) : codecArg "str.encode" "encode" "'encoding'" (some (.str (Str.ofString "ascii") u)) = pure (some (Str.ofString "ascii")) := by kernel_rfl
theorem enc4 : codecArg "str.encode" "encode" "'errors'" none = pure none := by kernel_rfl
theorem enc5 (self : Value) (x : Str) : encodeRoad "str.encode" self x (Str.ofString "ascii") none = (do mkBytes (← encodeNarrow "str.encode" asciiCodec none self x)) := by
  first | rfl | (unfold encodeRoad; rfl) | (unfold encodeRoad; simp only []; rfl) | decide
theorem slot_enc : PySem.Slot "str" "encode" "str.encode" :=
  .of (owner := "str") (n := "encode") (by rw [typeLookup_type, builtinLookup_eq_fast]; kernel_rfl) (by decide +kernel) (by decide +kernel) (by decide +kernel)
    (by first | exact .inl (by decide +kernel) | exact .inr (by decide +kernel)) (by rw [isSubtype_type]; kernel_rfl)
theorem type_enc : typeOf (.builtin "str.encode") = pure (.type "method_descriptor") := by show builtinType _ = _; rw [builtinType_eq_fast]; kernel_rfl
theorem entry_enc : entryFor table "str.encode" = some Builtin.«str.encode» := entryFor_of_tree (by kernel_rfl)
theorem args_enc (a b : Value) : argsOk "str.encode" ⟨[a, b], []⟩ := by unfold argsOk; kernel_rfl
section
variable {C : Cfg} {n : Nat}
theorem m_enc {x : Str} (hx : ∀ c ∈ x.cps, c < 128) (hl : x.cps.size ≤ sizeLine) : OpM C n "str.encode" [.str x, .str (Str.ofString "ascii")] (.bytes (toB x.cps)) := fun A s Z vs R hz B r => by
  obtain ⟨v, r1, rfl, ⟨t1, rfl⟩, r⟩ := r
  obtain ⟨v2, r2, rfl, ⟨t2, rfl⟩, r⟩ := r
  obtain rfl : r2 = [] := r
  refine wpAny_call_entry slot_enc (typeIs_str _ _ _) entry_enc ?_ (args_enc _ _)
  unfold Builtin.«str.encode»
  rw [enc1]
  refine wpAny_bind (wpAny_pure ?_)
  show wpAny _ _ (Str.bindOptional "str.encode" "encode" 0 ["encoding", "errors"] [.str (Str.ofString "ascii") t2] [] >>= _) _ _ s
  rw [enc2]
  refine wpAny_bind (wpAny_pure ?_)
  show wpAny _ _ (codecArg "str.encode" "encode" "'encoding'" (some (.str (Str.ofString "ascii") t2)) >>= _) _ _ s
  rw [enc3]
  refine wpAny_bind (wpAny_pure ?_)
  show wpAny _ _ (codecArg "str.encode" "encode" "'errors'" none >>= _) _ _ s
  rw [enc4]
  refine wpAny_bind (wpAny_pure ?_)
  show wpAny _ _ (encodeRoad "str.encode" (.str x t1) x (Str.ofString "ascii") none >>= _) _ _ s
  rw [enc5]
  refine wpAny_bind (wpAny_bind (wp_narrow hx hl (wpAny_mkBytes ?_ ?_)))
  · exact wpAny_pure ⟨_, rfl, ⟨_, rfl⟩, kTok s _⟩
  · show (toB x.cps).size ≤ sizeLine
    rw [show (toB x.cps).size = x.cps.size from Array.size_map ..]
    exact hl
theorem gm_enc {x : Str} : Gm C (.str x) "encode" "str.encode" := fun A s Z v pl Q B ⟨t, e⟩ h => by
  subst e
  with_reducible exact GM.of (.str x t) (typeIs_str _ _ _) slot_enc type_enc GM.noRef h
theorem gm_split {x : Str} : Gm C (.str x) "split" "str.split" := fun A s Z v pl Q B ⟨t, e⟩ h => by
  subst e
  with_reducible exact GM.split h
theorem gm_dec {b : Array UInt8} : Gm C (.bytes b) "decode" "bytes.decode" := fun A s Z v pl Q B ⟨t, e⟩ h => by
  subst e
  with_reducible exact KBd.method h
end
end Mine
namespace Mine
open PySem PySem.Calls PyProof.Rows PySem.W
open PySem.Builtin PySem.Builtin._codecs
theorem dec_tree (c : UInt8) (cs : List UInt8) (t u : Tok) : «bytes.decode» ⟨[.bytes (c :: cs).toArray t, .str (Str.ofString "ascii") u], []⟩ = (mkStr (Str.ofString "utf-8") >>= fun _ => mkStr (Str.ofString "ascii") >>= fun e => mkStr (Str.ofString "bytes.decode") >>= fun d =>
    call (.builtin "_codecs.decode.text") [.bytes (c :: cs).toArray t, e, .none, d] >>= fun v => ret v) := by kernel_rfl
theorem dec_nil (t u : Tok) : «bytes.decode» ⟨[.bytes #[] t, .str (Str.ofString "ascii") u], []⟩ = (rule "bytes.decode.empty" >>= fun _ => retStr Str.empty) := by kernel_rfl
theorem road_ascii {id : String} {b : Array UInt8} : decodeRoad id b (Str.ofString "ascii") none [] = (runDecoder id asciiDecoder none true b 0 [] >>= fun r => mkStr ⟨r.1⟩) := by kernel_rfl
theorem args_dec (a b : Value) : argsOk "bytes.decode" ⟨[a, b], []⟩ := by unfold argsOk; kernel_rfl
theorem wp_runDec {M : Model} {A : Around} {E : Value → Shared → Prop} {s : Shared} {id : String} {b : Array UInt8} {Q : Array Nat × Nat → Shared → Prop} (hb : ∀ c ∈ b, c.toNat < 128) (hl : b.size ≤ sizeLine) (h : Q (b.map (·.toNat), b.size) s) :
    wpAny M A (runDecoder id asciiDecoder none true b 0 []) Q E s := by
  unfold runDecoder
  refine wpAny_bind (wp_range (fun i st => st.2.1 = ((b.toList.take i).map (·.toNat)).toArray ∧ st.1 = i) (fun i st R hi hI hR => ?_) (fun st hI => ?_) _ ⟨by simp, rfl⟩)
  · obtain ⟨p, out, fs⟩ := st
    obtain ⟨h1, h2⟩ : out = ((b.toList.take i).map (·.toNat)).toArray ∧ p = i := hI
    subst h2
    have hsz : out.size ≤ b.size := by
      rw [h1]
      simp
      omega
    dsimp only
    rw [if_neg (by omega), if_neg (by omega)]
    have hc : b[p]? = some (b[p]'hi) := by simp [hi]
    have hg : b.getD p 0 = b[p]'hi := by simp [Array.getD_eq_getD_getElem?, hc]
    have hf : asciiDecoder.find true b p = .text [(b[p]'hi).toNat] (p + 1) := by
      show (if (b.getD p 0).toNat < 128 then Found.char (b.getD p 0).toNat (p + 1) else _) = _
      rw [hg, if_pos (hb _ (by simp))]
      rfl
    rw [hf]
    refine wpAny_pure (hR _ ⟨?_, rfl⟩)
    show out ++ [(b[p]'hi).toNat].toArray = _
    have : b.toList[p]? = some (b[p]'hi) := by simp [hi]
    rw [h1, List.take_add_one, this]
    simp
  · obtain ⟨p, out, fs⟩ := st
    obtain ⟨h1, h2⟩ : out = ((b.toList.take b.size).map (·.toNat)).toArray ∧ p = b.size := hI
    refine wpAny_pure ?_
    show Q (out, p) s
    rw [h1, h2, List.take_of_length_le (by simp)]
    have : (b.toList.map (·.toNat)).toArray = b.map (·.toNat) := by
      apply Array.toList_inj.mp
      simp
    rw [this]
    exact h
section
variable {C : Cfg} {n : Nat}
theorem m_dec {b : Array UInt8} (hb : ∀ c ∈ b, c.toNat < 128) (hl : b.size ≤ 100000) : OpM C n "bytes.decode" [.bytes b, .str (Str.ofString "ascii")] (.str ⟨b.map (·.toNat)⟩) := fun A s Z vs R hz B r => by
  obtain ⟨v, r1, rfl, ⟨t1, rfl⟩, r⟩ := r
  obtain ⟨v2, r2, rfl, ⟨t2, rfl⟩, r⟩ := r
  obtain rfl : r2 = [] := r
  have hsl : (100001 : Nat) ≤ sizeLine := by decide
  refine wpAny_call_entry FB.slot_bytes_decode (typeIs_bytes _ _ _) FB.entry_bytes_decode ?_ (args_dec _ _)
  obtain ⟨bl⟩ := b
  cases bl with
  | nil =>
    rw [dec_nil]
    refine wpAny_bind (wpAny_rule ?_)
    refine wpAny_bind (m := mkStr Str.empty) (wpAny_mkStr (wpAny_pure ⟨_, rfl, ⟨s.toks, by
      show Value.str Str.empty _ = Value.str ⟨Array.map _ #[]⟩ _
      rw [Array.map_empty]
      rfl⟩, kTok s _⟩) (Nat.zero_le _))
  | cons c cs =>
    have hl' : (c :: cs).toArray.size ≤ 100000 := hl
    rw [dec_tree]
    refine wpAny_bind (wpAny_mkStr ?_ (by decide))
    refine wpAny_bind (wpAny_mkStr ?_ (by decide))
    refine wpAny_bind (wpAny_mkStr ?_ (by decide))
    refine wpAny_bind (call_function_entry KBd.kind_text KBd.plain_text KBd.entry_text (KBd.args_text _ _ _ _) ?_)
    unfold Builtin.«_codecs.decode.text»
    refine wpAny_bind (m := (pure none : Sem (Option Str))) (wpAny_pure ?_)
    refine wpAny_bind (wpAny_of_eq KBd.like_eq ?_)
    refine wpAny_bind (wpAny_of_eq KBd.held_eq ?_)
    rw [road_ascii]
    refine wpAny_bind (wpAny_bind (wp_runDec hb (by omega) (wpAny_mkStr ?_ ?_)))
    · refine wpAny_pure ⟨_, rfl, wpAny_pure ⟨_, rfl, ⟨_, rfl⟩, kTok s _⟩⟩
    · show (Array.map (·.toNat) (c :: cs).toArray).size ≤ sizeLine
      rw [Array.size_map]
      omega
end
end Mine
namespace Mine
open PySem PySem.Calls PyProof.Rows PySem.W
open PySem.Builtin PySem.Builtin.Str
section
variable {prog : Program} {w : World} {A : Around} {E : Value → Shared → Prop} {s : Shared} {x y : Str} {t u : Tok} {Q : Value → Shared → Prop}
theorem call_split (hy : (y.length == 0) = false)
    (hq : ∀ (l : List (Str × Tok)) (k : Nat), l.map (·.1) = Txt.split x y → Q (.ref s.heap.objs.size) { s with heap := s.heap.push { cls := .type "list", data := .seq (strValues l).toArray }, toks := k })
    (hsz : x.length ≤ sizeLine) (hsz2 : (partsBetween x (occurrences x y 0 x.length (x.length + 1)) y.length).length ≤ sizeLine) :
    wpAny (model prog w) A (call (.builtin "str.split") [.str x t, .str y u]) Q E s := by
  cases h1 : (decide (x.length < y.length) || decide (strKind x < strKind y))
  · cases hf : (occurrences x y 0 x.length (x.length + 1)).isEmpty
    · refine call_meets F.slot_str_split (typeIs_str _ _ _) F.entry_str_split (F.args_str_split_2 _ _) (meets_str_split_sep x y t u h1 hy hf hsz hsz2) ?_
      show wants Q E _ { s with toks := _, heap := s.heap.push { cls := .type "list", data := .seq (strsFrom s.toks (partsBetween x (occurrences x y 0 x.length (x.length + 1)) y.length)).toArray } }
      rw [strsFrom_eq]
      exact hq (numbered s.toks _) _ ((numbered_texts _ _).trans ((if_neg (ne_true_of_eq_false h1)).trans (if_neg (ne_true_of_eq_false hf))).symm)
    · exact call_meets F.slot_str_split (typeIs_str _ _ _) F.entry_str_split (F.args_str_split_2 _ _) (meets_str_split_not_found x y t u h1 hy hf)
        (hq [(x, t)] _ ((if_neg (ne_true_of_eq_false h1)).trans (if_pos hf)).symm)
  · exact call_meets F.slot_str_split (typeIs_str _ _ _) F.entry_str_split (F.args_str_split_2 _ _) (meets_str_split_cannot_occur x y t u h1)
      (hq [(x, t)] _ (if_pos h1).symm)
end
theorem reps_strs {Z : Addr → Prop} {h : Heap} : ∀ l : List (Str × Tok), Reps Z h ((l.map (·.1)).map PV.str) (strValues l)
  | [] => rfl
  | (x, t) :: l => ⟨_, _, rfl, ⟨t, rfl⟩, reps_strs l⟩
section
variable {C : Cfg} {n : Nat}
theorem m_split {x y : Str} (hy : (y.length == 0) = false) (hsz : x.length ≤ sizeLine) (hsz2 : (partsBetween x (occurrences x y 0 x.length (x.length + 1)) y.length).length ≤ sizeLine) :
    OpM C n "str.split" [.str x, .str y] (.list ((Txt.split x y).map PV.str)) := fun A s Z vs R hz B r => by
  obtain ⟨v, r1, rfl, ⟨t1, rfl⟩, r⟩ := r
  obtain ⟨v2, r2, rfl, ⟨t2, rfl⟩, r⟩ := r
  obtain rfl : r2 = [] := r
  refine call_split hy (fun l k e => ⟨?_, kPush s _ k⟩) hsz hsz2
  rw [← e]
  exact rep_newlist (s := s) (vs := strValues l) hz (reps_strs l)
end
end Mine
namespace Mine
open PySem PySem.Calls PyProof.Rows PySem.W
/-- the cells that a comprehension takes over -/
noncomputable def closL (env : Env) : List (Str × NameKind) → List (Str × Addr) → Option (List (Str × Addr))
  | [], acc => some acc
  | (x, k) :: r, acc => if k == .free then (match env.cells.lookup x with | some a => closL env r ((x, a) :: acc) | none => none) else closL env r acc
theorem forIn_clos {env : Env} (f : Str × NameKind → List (Str × Addr) → Sem (ForInStep (List (Str × Addr))))
    (hf : ∀ x k cs, f (x, k) cs = if k == .free then (do let a ← cellOf env x; pure (.yield ((x, a) :: cs))) else pure (.yield cs)) :
    ∀ (names : List (Str × NameKind)) (acc cl : List (Str × Addr)), closL env names acc = some cl → forIn names acc f = (pure cl : Sem _)
  | [], acc, cl, h => by rw [List.forIn_nil]; cases h; rfl
  | (x, k) :: r, acc, cl, h => by
    rw [List.forIn_cons, hf]
    rw [closL] at h
    split at h
    · rename_i hk
      rw [if_pos hk]
      cases hc : env.cells.lookup x with
      | none => rw [hc] at h; cases h
      | some a =>
        rw [hc] at h
        have : cellOf env x = pure a := by unfold cellOf; rw [hc]
        rw [this]
        exact forIn_clos f hf r _ _ h
    · rename_i hk
      rw [if_neg hk]
      exact forIn_clos f hf r _ _ h
theorem closureFor_of {env : Env} {scope : Scope} {cl : List (Str × Addr)} (h : closL env scope.names [] = some cl) : closureFor scope env = pure cl := by
  unfold closureFor
  dsimp only
  rw [forIn_clos (env := env) _ (fun x k cs => rfl) _ _ _ h]
  rfl
theorem closL_only {env : Env} : ∀ (names : List (Str × NameKind)) (acc cl : List (Str × Addr)), closL env names acc = some cl → (∀ x c, (x, c) ∈ acc → env.cells.lookup x = some c) → ∀ x c, (x, c) ∈ cl → env.cells.lookup x = some c
  | [], acc, cl, h, ha, x, c, hm => by cases h; exact ha x c hm
  | (y, k) :: r, acc, cl, h, ha, x, c, hm => by
    rw [closL] at h
    split at h
    · cases hc : env.cells.lookup y with
      | none => rw [hc] at h; cases h
      | some a =>
        rw [hc] at h
        refine closL_only r _ _ h (fun x' c' hm' => ?_) x c hm
        rcases List.mem_cons.mp hm' with e | hm'
        · cases e; exact hc
        · exact ha x' c' hm'
    · exact closL_only r _ _ h ha x c hm
theorem closL_sub {env : Env} : ∀ (names : List (Str × NameKind)) (acc cl : List (Str × Addr)), closL env names acc = some cl → ∀ x, (∃ c, (x, c) ∈ acc) ∨ (x, .free) ∈ names → ∃ c, (x, c) ∈ cl
  | [], acc, cl, h, x, hx => by
    cases h
    rcases hx with hx | hx
    · exact hx
    · cases hx
  | (y, k) :: r, acc, cl, h, x, hx => by
    rw [closL] at h
    split at h
    · rename_i hk
      cases hc : env.cells.lookup y with
      | none => rw [hc] at h; cases h
      | some a =>
        rw [hc] at h
        refine closL_sub r _ _ h x ?_
        rcases hx with ⟨c, hx⟩ | hx
        · exact .inl ⟨c, List.mem_cons_of_mem _ hx⟩
        · rcases List.mem_cons.mp hx with e | hx
          · cases e; exact .inl ⟨a, List.mem_cons_self⟩
          · exact .inr hx
    · rename_i hk
      refine closL_sub r _ _ h x ?_
      rcases hx with hx | hx
      · exact .inl hx
      · rcases List.mem_cons.mp hx with e | hx
        · cases e; exact absurd rfl hk
        · exact .inr hx
theorem lookup_of_mem {α : Type} : ∀ {l : List (Str × α)} {x : Str} {c : α}, (x, c) ∈ l → ∃ c', l.lookup x = some c'
  | (k, v) :: r, x, c, h => by
    rw [List.lookup_cons]
    cases hb : x == k with
    | true => exact ⟨v, rfl⟩
    | false =>
      rcases List.mem_cons.mp h with e | h
      · cases e; simp at hb
      · exact lookup_of_mem h

/-- the new cells of a comprehension -/
theorem cellsFrom_mem : ∀ (names : List (Str × NameKind)) (h : Heap) (acc : List (Str × Addr)) (x : Str) (c : Addr), (x, c) ∈ cellsFrom h.objs.size names acc → (x, c) ∈ acc ∨ (h.objs.size ≤ c ∧ (pushCells h names).IsCell c none)
  | [], h, acc, x, c, hm => .inl hm
  | (y, k) :: r, h, acc, x, c, hm => by
    unfold cellsFrom at hm
    unfold pushCells
    split at hm
    · rename_i hk
      rw [if_pos hk]
      have e : h.objs.size + 1 = (h.push { cls := .type "cell", data := .cell none }).objs.size := by rw [Heap.size_push]
      rw [e] at hm
      rcases cellsFrom_mem r _ _ x c hm with hm | ⟨h1, h2⟩
      · rcases List.mem_cons.mp hm with q | hm
        · cases q
          exact .inr ⟨Nat.le_refl _, (show (h.push { cls := .type "cell", data := .cell none }).IsCell h.objs.size none from ⟨_, Heap.get?_push_size _ rfl, rfl⟩).keeps (pushCells_keeps _ _)⟩
        · exact .inl hm
      · exact .inr ⟨by rw [← e] at h1; omega, h2⟩
    · rename_i hk
      rw [if_neg hk]
      exact cellsFrom_mem r h acc x c hm
theorem cellsFrom_uniq : ∀ (names : List (Str × NameKind)) (n : Nat) (acc : List (Str × Addr)), (∀ x c, (x, c) ∈ acc → c < n) → (∀ x y c, (x, c) ∈ acc → (y, c) ∈ acc → x = y) → ∀ x y c, (x, c) ∈ cellsFrom n names acc → (y, c) ∈ cellsFrom n names acc → x = y
  | [], n, acc, h1, h2, x, y, c, hx, hy => h2 x y c hx hy
  | (z, k) :: r, n, acc, h1, h2, x, y, c, hx, hy => by
    unfold cellsFrom at hx hy
    split at hx
    · rename_i hk
      rw [if_pos hk] at hy
      refine cellsFrom_uniq r (n + 1) _ (fun x' c' hm => ?_) (fun x' y' c' hm hm' => ?_) x y c hx hy
      · rcases List.mem_cons.mp hm with e | hm
        · cases e; exact Nat.lt_succ_self _
        · exact Nat.lt_succ_of_lt (h1 x' c' hm)
      · rcases List.mem_cons.mp hm with e | hm <;> rcases List.mem_cons.mp hm' with e' | hm'
        · cases e; cases e'; rfl
        · cases e; exact absurd (h1 _ _ hm') (Nat.lt_irrefl _)
        · cases e'; exact absurd (h1 _ _ hm) (Nat.lt_irrefl _)
        · exact h2 x' y' c' hm hm'
    · rename_i hk
      rw [if_neg hk] at hy
      exact cellsFrom_uniq r n acc h1 h2 x y c hx hy
/-- a name that is no cell of the scope is looked up in what was taken over -/
theorem cellsFrom_lookup {x : Str} : ∀ (names : List (Str × NameKind)) (n : Nat) (acc : List (Str × Addr)), (x, NameKind.cell) ∉ names → (cellsFrom n names acc).lookup x = acc.lookup x
  | [], n, acc, h => rfl
  | (z, k) :: r, n, acc, h => by
    unfold cellsFrom
    split
    · rename_i hk
      have hz : x ≠ z := by
        rintro rfl
        have : k = .cell := by simpa using hk
        subst this
        exact h List.mem_cons_self
      rw [cellsFrom_lookup r _ _ (fun q => h (List.mem_cons_of_mem _ q)), List.lookup_cons, beq_eq_false_iff_ne.mpr hz]
    · exact cellsFrom_lookup r _ _ (fun q => h (List.mem_cons_of_mem _ q))
theorem wp_newComp {M : Model} {A : Around} {E : Value → Shared → Prop} {s : Shared} {scope : Scope} {globals : Addr} {cl : List (Str × Addr)} {qual : Str} {env : Env} {Q : Env → Shared → Prop}
    (hQ : Q (newEnv scope s.heap.objs.size globals (cellsFrom (s.heap.objs.size + 1) scope.names cl) qual none .none (some env) builtinsNs) { s with heap := pushCells (s.heap.push { cls := .type "dict", data := .dict #[] }) scope.names }) :
    wpAny M A (newFunctionEnv scope globals cl [] qual none .none (some env)) Q E s := by
  simp only [newFunctionEnv, Option.isSome_some, if_true]
  refine wpAny_bind (wpAny_alloc ?_)
  refine wpAny_bind (wpAny_layCells _ (fun name kind cells => by cases hkc : kind == NameKind.cell <;> simp [hkc]) _ _ _ _ ?_)
  rw [show ({ s with heap := s.heap.push { cls := .type "dict", data := .dict #[] } } : Shared).heap.objs.size = s.heap.objs.size + 1 from Heap.size_push ..]
  exact wpAny_bind (wpAny_pure (wpAny_pure hQ))
theorem lookup_relabel {env : Env} : ∀ {names : List (Str × NameKind)} {x : Str}, (names.map fun (n, k) => if (k == NameKind.free && env.scope.kind == .function && env.kindOf n == some .cell) then (n, NameKind.cell) else (n, k)).lookup x = some .local → names.lookup x = some .local
  | [], _, h => by simp at h
  | (n, k) :: r, x, h => by
    have ih := @lookup_relabel env r x
    change List.lookup x ((if (k == NameKind.free && env.scope.kind == .function && env.kindOf n == some .cell) = true then (n, NameKind.cell) else (n, k)) :: _) = _ at h
    rw [List.lookup_cons]
    cases hx : x == n with
    | true =>
      split at h
      · rw [List.lookup_cons, hx] at h; cases h
      · rw [List.lookup_cons, hx] at h; exact h
    | false =>
      split at h
      · rw [List.lookup_cons, hx] at h; exact ih h
      · rw [List.lookup_cons, hx] at h; exact ih h
end Mine
namespace Mine
open PySem PySem.Calls PyProof.Rows PySem.W
section
variable {C : Cfg} {n : Nat} {env : Env} {ρ ρ' ρ'' : Env1} {f : Fz} {A : Around} {s s₀ : Shared} {W : Str → Prop}
/-- ρ says no more than ρ' -/
noncomputable def Le (ρ ρ' : Env1) : Prop := ∀ x sl, ρ x = some sl → ρ' x = some sl
theorem Le.refl (ρ : Env1) : Le ρ ρ := fun _ _ e => e
theorem Le.trans {ρ ρ' ρ'' : Env1} (a : Le ρ ρ') (b : Le ρ' ρ'') : Le ρ ρ'' := fun x sl e => b x sl (a x sl e)
theorem Inv.weak {K : Frag} {mg : Str → Option Value} (I : Inv K mg f env ρ' s) (h : Le ρ ρ') : Inv K mg f env ρ s :=
  ⟨I.base, I.keep, I.newL, I.newC, let ⟨m, hm, q⟩ := I.loc; ⟨m, hm, fun x sl e k => q x sl (h x sl e) k⟩, fun x sl e k => I.cel x sl (h x sl e) k, I.cal, I.apt, I.zal, I.inj, I.noZ⟩
/-- what the comprehension has gathered so far lies at D -/
noncomputable def Acc (f : Fz) (D : Addr) (s : Shared) (out : List PV) : Prop := ∃ its, PlainL s.heap D its ∧ Reps f.Zs s.heap out its.toList
theorem plainL_kp0 {D : Addr} {its : Array Value} {s' : Shared} (h : PlainL s.heap D its) (k : Kp0 s s') : PlainL s'.heap D its := by
  obtain ⟨o, n, h1, h2, h3, h4⟩ := h
  exact ⟨o, n, k.up D o h1 (.inr ⟨⟨its, n, h4⟩, id⟩), h2, h3, h4⟩
theorem Acc.kp0 {D : Addr} {out : List PV} {s' : Shared} (h : Acc f D s out) (k : Kp0 s s') : Acc f D s' out := by
  obtain ⟨its, h1, h2⟩ := h
  exact ⟨its, plainL_kp0 h1 k, Reps.carry (Kp.seq (k.weak (Z := f.Zs))) (fun _ _ q _ => q) _ _ h2⟩
theorem Acc.keeps {D : Addr} {out : List PV} {s' : Shared} (h : Acc f D s out) (k : Keeps s s') : Acc f D s' out := h.kp0 (.of k)
/-- a list in Z is lengthened -/
theorem Inv.appZ {D : Addr} {its its' : Array Value} {h' : Heap} {tk : Nat} (I : Inv C.K C.mg f env ρ s) (hz : f.Z D) (h0 : f.h₀.get? D = none) (hl : PlainL s.heap D its) (hl' : PlainL h' D its') (hs : Heap.SameBut D s.heap h') :
    Inv C.K C.mg f env ρ { s with heap := h', toks := tk } ∧ Kp f.Zs s { s with heap := h', toks := tk } ∧ SeqKept f.Zs s.heap h' := by
  obtain ⟨oa, na, hoa, hca, hda, hsa⟩ := id hl
  have sk : SeqKept f.Zs s.heap h' := .of_same hs fun _ _ _ _ _ => .inl hz
  have off : ∀ b o, s.heap.get? b = some o → (∀ its n, o.data ≠ .seq its n) → h'.get? b = some o := fun b o e hn => (hs.2 b (by rintro rfl; rw [hoa] at e; cases e; exact hn _ _ hsa)).trans e
  have cl : ∀ c v, s.heap.IsCell c v → h'.IsCell c v := fun c v ⟨o, h1, h2⟩ => ⟨o, off c o h1 fun its n e => by (rw [h2] at e; cases e), h2⟩
  have ok : ∀ x a o, f.at_ x = some a → s.heap.get? a = some o → h'.get? a = some o := fun x a o ha ho => (hs.2 a (by rintro rfl; exact (I.noZ x a ha).1 hz)).trans ho
  refine ⟨⟨I.base, fun b o e => (hs.2 b (by rintro rfl; rw [h0] at e; cases e)).trans (I.keep b o e), I.newL, I.newC, ?_, fun y sl e k => ?_, fun y c e => let ⟨v, h⟩ := I.cal y c e; ⟨v, cl c v h⟩, I.apt, fun b z => ?_, I.inj, I.noZ⟩, ⟨h', tk, rfl, fun b ob e y => ?_⟩, sk⟩
  · obtain ⟨m, ⟨oL, es, ep, h1, h2, h3⟩, q⟩ := I.loc
    refine ⟨m, ⟨oL, es, ep, off _ _ h1 fun its n e => by (rw [h2] at e; cases e), h2, h3⟩, fun y sl e k => ?_⟩
    obtain ⟨v, h1, h2⟩ := q y sl e k
    exact ⟨v, h1, h2.carry sk ok⟩
  · obtain ⟨c, v, h1, h2, h3⟩ := I.cel y sl e k
    exact ⟨c, v, h1, cl c _ h2, h3.carry sk ok⟩
  · by_cases hb : b = D
    · subst hb
      obtain ⟨o', n', h1, _, _, h4⟩ := hl'
      exact ⟨o', _, n', h1, h4⟩
    · obtain ⟨ob, its', n', h1, h2⟩ := I.zal b z
      exact ⟨ob, its', n', (hs.2 b hb).trans h1, h2⟩
  · have : b ≠ D := by
      rintro rfl
      rcases y with ⟨vs, h⟩ | ⟨_, hz'⟩
      · rw [hoa] at e; cases e; rw [hsa] at h; cases h
      · exact hz' (.inl hz)
    exact (hs.2 b this).trans e

/-- what is done in a turn with the gathered list -/
structure Em (C : Cfg) (n : Nat) (env : Env) (W : Str → Prop) (act : Value → Sem Unit) (ρ : Env1) (o : List PV) (ρ₁ : Env1) : Prop where mk ::
  go :
  ∀ (A : Around) (s : Shared) (f : Fz) (D : Addr) (out : List PV), Room n A → f.W = W → f.Z D → f.h₀.get? D = none → (out ++ o).length ≤ sizeLine → Inv C.K C.mg f env ρ s → Acc f D s out →
    wpAny C.M A (act (.ref D)) (fun _ s' => Inv C.K C.mg f env ρ₁ s' ∧ Acc f D s' (out ++ o) ∧ Kp f.Zs s s') noE s
noncomputable abbrev actElt (elt : Expr) (env : Env) : Value → Sem Unit := fun acc => do let _ ← call (.builtin "list.append") [acc, ← eval elt env]
theorem em_elt {elt : Expr} {p : PV} (h : Ev C n env ρ elt p) : Em C n env W (actElt elt env) ρ [p] ρ := .mk fun A s f D out R hf hz h0 hsz I a => by
  refine wpAny_bind (h.use R I fun v s₁ r₁ k₁ I₁ => ?_)
  obtain ⟨its, hl, r⟩ := a.keeps k₁
  have hlen : its.size = out.length := by simpa using r.length
  refine wpAny_bind (list_append_plainL hl (fun h' hl' hs' => ?_) (by rw [hlen]; simp at hsz; omega))
  obtain ⟨I₂, k₂, sk⟩ := I₁.appZ (tk := s₁.toks) hz h0 hl hl' hs'
  refine wpAny_pure ⟨I₂, ⟨_, hl', ?_⟩, (Kp.of k₁).trans k₂⟩
  rw [Array.toList_push]
  exact (Reps.carry sk (fun _ _ q _ => q) _ _ r).append ⟨v, [], rfl, Rep.carry sk (fun _ _ q _ => q) _ _ r₁, rfl⟩
noncomputable abbrev testsOf (ifs : List Expr) (env : Env) : Sem Bool := forIn ifs true fun c r => if r = true then do let ok ← isTrue c env (eval c env); pure (ForInStep.yield ok) else pure (ForInStep.yield r)
structure Ts (C : Cfg) (n : Nat) (env : Env) (ρ : Env1) (ifs : List Expr) (b : Bool) : Prop where mk ::
  go :
  ∀ (A : Around) (s : Shared) (f : Fz), Room n A → Inv C.K C.mg f env ρ s → wpAny C.M A (testsOf ifs env) (fun ok s' => ok = b ∧ Keeps s s') noE s
theorem ts_nil : Ts C n env ρ [] true := .mk fun A s f R I => wpAny_tests_nil ⟨rfl, kR s⟩
theorem ts_one {c : Expr} {b : Bool} (h : Tr C n env ρ c b) : Ts C n env ρ [c] b := .mk fun A s f R I => wpAny_tests_one (h.go A s f R I)

inductive GoesO (step : PV → Env1 → List PV → Env1 → Prop) : List PV → Env1 → List PV → Env1 → Prop
  | nil (ρ : Env1) : GoesO step [] ρ [] ρ
  | cons {x : PV} {xs o os : List PV} {ρ ρ₁ ρ₂ : Env1} : step x ρ o ρ₁ → GoesO step xs ρ₁ os ρ₂ → GoesO step (x :: xs) ρ (o ++ os) ρ₂
noncomputable def StepG (C : Cfg) (n : Nat) (env : Env) (W : Str → Prop) (t : Expr) (ifs : List Expr) (act : Value → Sem Unit) : PV → Env1 → List PV → Env1 → Prop := fun x ρ o ρ₁ =>
  ∃ ρm, Bd C env W t x ρ ρm ∧ ((Ts C n env ρm ifs false ∧ o = [] ∧ Le ρ₁ ρm) ∨ (Ts C n env ρm ifs true ∧ Em C n env W act ρm o ρ₁))

theorem comp_loop {elt t : Expr} {gens : List Comprehension} {scope : Scope} {pos p0 : Pos} {depth : Nat} {ifs : List Expr} {act : Value → Sem Unit} {it : Value} {xs os out : List PV} {D : Addr}
    (hturn : ∀ it acc, compTurn (.ListComp elt gens scope pos) depth it acc env = (standAt p0 >>= fun _ => pyNext it >>= fun r => match r with
      | none => pure (.done .next)
      | some v => letOwnedTupleGo t it v >>= fun _ => assign t env v >>= fun _ => testsOf ifs env >>= fun ok =>
        if ok = true then act acc >>= fun _ => again (.compLoop (.ListComp elt gens scope pos) depth it acc env) else again (.compLoop (.ListComp elt gens scope pos) depth it acc env)))
    (R : Room n A) (hf : f.W = W) (hz : f.Z D) (h0 : f.h₀.get? D = none) (hsz : (out ++ os).length ≤ sizeLine) (hs0 : ∀ b, s₀.heap.get? b = none → f.h₀.get? b = none)
    (src : Src C A f.Zs s₀ s it xs) (I₀ : Inv C.K C.mg f env ρ s) (k₀ : Kp f.Zs s₀ s) (a₀ : Acc f D s out) (g : GoesO (StepG C n env W t ifs act) xs ρ os ρ') :
    codeAny C.M A (.compLoop (.ListComp elt gens scope pos) depth it (.ref D) env) (fun r s' => r = .ok .next ∧ Inv C.K C.mg f env ρ' s' ∧ Acc f D s' (out ++ os) ∧ Kp f.Zs s₀ s') s := by
  obtain ⟨I, fp, wr, P, St, rfl, Wk, hst, hfp, hwr, hwd, hP, hown⟩ := src
  have hw0 : ∀ b ∈ wr, f.h₀.get? b = none := fun b hb => hs0 b (hwr b hb)
  refine codeAny_loop' rfl (fun m s' => ∃ i ρi od os', m = xs.length + 1 - i ∧ i ≤ xs.length ∧ St i s'.heap ∧ (∀ b ∈ fp, ∃ ob, s'.heap.get? b = some ob ∧ Sty f.Zs b ob) ∧ Inv C.K C.mg f env ρi s' ∧ Kp f.Zs s₀ s' ∧ SeqKept f.Zs s.heap s'.heap ∧ Acc f D s' od ∧ od ++ os' = out ++ os ∧
    GoesO (StepG C n env W t ifs act) (xs.drop i) ρi os' ρ') (fun m s' hI => ?_) (xs.length + 1) ⟨0, ρ, out, os, rfl, Nat.zero_le _, hst, hfp, I₀, k₀, fun _ _ _ _ _ e _ => e, a₀, rfl, by simpa using g⟩
  obtain ⟨i, ρi, od, os', rfl, hi, hst, hfp, Ii, kp, sk, ai, ho, gi⟩ := hI
  show wpAny _ A ((compTurn (.ListComp elt gens scope pos) depth (.ref I) (.ref D) env).onRaise (fun x => do noteFrame x env; theTreesLotGoes x)) _ _ s'
  refine wpAny_noted ?_
  rw [hturn]
  refine wpAny_bind (wpAny_standAt (wpAny_bind ?_))
  have acw : ∀ h₁ tk₁, (∀ b o, b ∉ wr → s'.heap.get? b = some o → h₁.get? b = some o) → Acc f D { s' with heap := h₁, toks := tk₁ } od := fun h₁ tk₁ hk₁ => by
    have off : ∀ b o, s'.heap.get? b = some o → (∀ vs, o.data ≠ .fields vs) → h₁.get? b = some o := fun b o e hn => hk₁ b o (fun m => by
      obtain ⟨ob, vs, h1, h2⟩ := hwd i _ hst b m
      rw [e] at h1; cases h1
      exact hn vs h2) e
    obtain ⟨its, ⟨o, n', q1, q2, q3, q4⟩, r⟩ := ai
    refine ⟨its, ⟨o, n', off _ _ q1 (fun vs e => by rw [q4] at e; cases e), q2, q3, q4⟩, Reps.carry (fun a ob its n z e d => off a ob e fun vs q => by rw [d] at q; cases q) (fun _ _ q _ => q) _ _ r⟩
  by_cases hlt : i < xs.length
  · refine Wk.item i s' _ _ hlt hst fun v h₁ tk₁ hv hst₁ hk₁ => ?_
    obtain ⟨p, hp, rp⟩ := hP i v hv
    have Iw : Inv C.K C.mg f env ρi { s' with heap := h₁, toks := tk₁ } := Ii.wr hw0 (hwd i _ hst) hk₁
    have kp₁ : Kp f.Zs s₀ { s' with heap := h₁, toks := tk₁ } := by
      obtain ⟨h', tk', rfl, q⟩ := kp
      exact ⟨h₁, tk₁, rfl, fun b ob e y => hk₁ b ob (fun m => by rw [hwr b m] at e; cases e) (q b ob e y)⟩
    have sk₁ : SeqKept f.Zs s.heap h₁ := fun a ob its n z e d => hk₁ a ob (fun m => by
      obtain ⟨o', vs, h1, h2⟩ := hwd i _ hst a m
      rw [sk a ob its n z e d] at h1
      cases h1
      rw [d] at h2; cases h2) (sk a ob its n z e d)
    have fp₁ : ∀ b ∈ fp, ∃ ob, h₁.get? b = some ob ∧ Sty f.Zs b ob := fun b hb => by
      by_cases hm : b ∈ wr
      · obtain ⟨ob, vs, h1, h2⟩ := hwd (i + 1) _ hst₁ b hm
        exact ⟨ob, h1, .inl ⟨vs, h2⟩⟩
      · obtain ⟨ob, h1, h2⟩ := hfp b hb
        exact ⟨ob, hk₁ b ob hm h1, h2⟩
    have aw := acw h₁ tk₁ hk₁
    obtain ⟨ob, nm, vs, o1, o2, o3, o4⟩ := hown (i + 1) _ hst₁
    refine wpAny_bind (owned_go (s := { s' with heap := h₁, toks := tk₁ }) o1 o2 o3 o4 ?_)
    rw [List.drop_eq_getElem_cons hlt] at gi
    have hpe : xs[i] = p := by
      have := List.getElem?_eq_getElem hlt
      rw [this] at hp
      exact Option.some.inj hp
    rw [hpe] at gi
    generalize hos : os' = osx at gi
    cases gi with
    | @cons _ _ o os₂ _ ρ₁ _ hstep gi' =>
      obtain ⟨ρm, hb, hx⟩ := hstep
      refine wpAny_bind (wpAny_mono (hb.go A _ f v R.zero hf Iw (Rep.carry sk₁ (fun _ _ q _ => q) p v rp)) (fun _ s₃ q => ?_) fun _ _ q => q.elim)
      obtain ⟨I₃, k₃⟩ := q
      have a₃ := aw.kp0 k₃
      have next : ∀ s₄ od' ρ₁', Inv C.K C.mg f env ρ₁' s₄ → Acc f D s₄ od' → Kp f.Zs s₃ s₄ → od' ++ os₂ = out ++ os → GoesO (StepG C n env W t ifs act) (xs.drop (i + 1)) ρ₁' os₂ ρ' → ∃ m, m < xs.length + 1 - i ∧ ∃ i ρi od os', m = xs.length + 1 - i ∧ i ≤ xs.length ∧ St i s₄.heap ∧ (∀ b ∈ fp, ∃ ob, s₄.heap.get? b = some ob ∧ Sty f.Zs b ob) ∧ Inv C.K C.mg f env ρi s₄ ∧ Kp f.Zs s₀ s₄ ∧ SeqKept f.Zs s.heap s₄.heap ∧ Acc f D s₄ od ∧ od ++ os' = out ++ os ∧
          GoesO (StepG C n env W t ifs act) (xs.drop i) ρi os' ρ' := fun s₄ od' ρ₁' I₄ a₄ k₄ e₄ g₄ => by
        have k₁₄ : Kp f.Zs { s' with heap := h₁, toks := tk₁ } s₄ := k₃.weak.trans k₄
        refine ⟨xs.length + 1 - (i + 1), by omega, i + 1, ρ₁', od', os₂, rfl, hlt, ?_, ?_, I₄, kp₁.trans k₁₄, ?_, a₄, e₄, g₄⟩
        · exact Wk.frame (i + 1) _ _ hst₁ fun b hb o e => by
            obtain ⟨ob, h1, h2⟩ := fp₁ b hb
            have : ob = o := Option.some.inj (h1.symm.trans e)
            subst this
            exact k₁₄.up b ob h1 h2
        · intro b hb
          obtain ⟨ob, h1, h2⟩ := fp₁ b hb
          exact ⟨ob, k₁₄.up b ob h1 h2, h2⟩
        · exact fun a ob its n z e d => k₁₄.seq a ob its n z (sk₁ a ob its n z e d) d
      rcases hx with ⟨ht, rfl, hle⟩ | ⟨ht, hem⟩
      · refine wpAny_bind (wpAny_mono (ht.go A s₃ f R I₃) (fun ok s₄ q => ?_) fun _ _ q => q.elim)
        obtain ⟨rfl, k₄⟩ := q
        simp only [Bool.false_eq_true, if_false]
        exact wpAny_pure (.inl ⟨rfl, next s₄ od _ ((I₃.keeps k₄).weak hle) (a₃.keeps k₄) (.of k₄) (by rw [← ho, hos]; rfl) gi'⟩)
      · refine wpAny_bind (wpAny_mono (ht.go A s₃ f R I₃) (fun ok s₄ q => ?_) fun _ _ q => q.elim)
        obtain ⟨rfl, k₄⟩ := q
        simp only [if_true]
        have hle : (od ++ o).length ≤ sizeLine := by
          have e : od ++ (o ++ os₂) = out ++ os := by rw [← ho, hos]
          rw [← e] at hsz
          simp only [List.length_append] at hsz ⊢
          omega
        refine wpAny_bind (wpAny_mono (hem.go A s₄ f D od R hf hz h0 hle (I₃.keeps k₄) (a₃.keeps k₄)) (fun _ s₅ q => ?_) fun _ _ q => q.elim)
        obtain ⟨I₅, a₅, k₅⟩ := q
        exact wpAny_pure (.inl ⟨rfl, next s₅ _ _ I₅ a₅ ((Kp.of k₄).trans k₅) (by rw [← ho, hos, List.append_assoc]) gi'⟩)
  · have hin : i = xs.length := by omega
    subst hin
    rw [List.drop_length] at gi
    cases gi
    refine Wk.done s' _ _ hst fun h₁ tk₁ hk₁ => ?_
    refine wpAny_pure ⟨rfl, Ii.wr hw0 (hwd _ _ hst) hk₁, ?_, ?_⟩
    · rw [← ho, List.append_nil]
      exact acw h₁ tk₁ hk₁
    · obtain ⟨h', tk', rfl, q⟩ := kp
      exact ⟨h₁, tk₁, rfl, fun b ob e y => hk₁ b ob (fun m => by rw [hwr b m] at e; cases e) (q b ob e y)⟩
end
end Mine
namespace Mine
open PySem PySem.Calls PyProof.Rows PySem.W
noncomputable def captV (scope : Scope) (ρ : Env1) : Env1 := fun y => match ρ y with
  | some (.val p) => if scope.names.lookup y = some .free then some (.val p) else none
  | _ => none
theorem captV_some {scope : Scope} {ρ : Env1} {y : Str} {sl : Slot} (h : captV scope ρ y = some sl) : ∃ p, ρ y = some (.val p) ∧ sl = .val p ∧ scope.names.lookup y = some .free := by
  unfold captV at h
  split at h
  · rename_i p hp
    split at h
    · rename_i hf
      cases h
      exact ⟨p, hp, rfl, hf⟩
    · cases h
  · cases h
noncomputable def compOk (env : Env) (scope : Scope) : Bool :=
  (scope.kind == .function) && (closL env scope.names []).isSome && scope.names.all (fun x => x.2 != .local || scope.names.lookup x.1 == some .local) && scope.names.all (fun x => x.2 != .cell || scope.names.lookup x.1 == some .cell) &&
  scope.names.all (fun x => x.2 != .free || (env.kindOf x.1 == some .cell || env.kindOf x.1 == some .free))
noncomputable def clOf (env : Env) (scope : Scope) : List (Str × Addr) := (closL env scope.names []).getD []
noncomputable def cEnv (scope : Scope) (env : Env) (L : Addr) : Env := compEnvC scope (cellsFrom (L + 1) scope.names (clOf env scope)) L env
noncomputable def cW (env : Env) (scope : Scope) : Str → Prop := fun x => (clOf env scope).lookup x = none
noncomputable def cFz (env : Env) (scope : Scope) (f : Fz) (D : Addr) (h : Heap) : Fz := ⟨fun a => f.Zs a ∨ a = D, fun _ => none, h, cW env scope⟩
theorem cFz_zs {env : Env} {scope : Scope} {f : Fz} {D : Addr} {h : Heap} {a : Addr} (z : (cFz env scope f D h).Zs a) : f.Zs a ∨ a = D := z.elim id fun ⟨_, q⟩ => (nomatch q)
section
variable {C : Cfg} {n : Nat} {env : Env} {ρ ρ' ρ'' : Env1} {f : Fz} {A : Around} {s s₀ s₂ : Shared} {W : Str → Prop}
theorem comp_inv0 {scope : Scope} {D : Addr} {s₃ : Shared} (hok : compOk env scope = true) (I : Inv C.K C.mg f env ρ s₀) (k₂ : Keeps s₀ s₂) (hD : D = s₂.heap.objs.size)
    (hs₃ : s₃ = { s₂ with heap := pushCells ((s₂.heap.push { cls := .type "list", data := .seq #[] }).push { cls := .type "dict", data := .dict #[] }) scope.names }) :
    Inv C.K C.mg (cFz env scope f D s₀.heap) (cEnv scope env (s₂.heap.objs.size + 1)) (captV scope ρ) s₃ ∧ Acc (cFz env scope f D s₀.heap) D s₃ [] ∧ Keeps s₂ s₃ := by
  subst hD
  simp only [compOk, Bool.and_eq_true] at hok
  obtain ⟨⟨⟨⟨o1, o2⟩, o3⟩, o4⟩, o5⟩ := hok
  have e1 : (s₂.heap.push { cls := .type "list", data := .seq #[] }).objs.size = s₂.heap.objs.size + 1 := Heap.size_push ..
  have e2 : ((s₂.heap.push { cls := .type "list", data := .seq #[] }).push { cls := .type "dict", data := .dict #[] }).objs.size = s₂.heap.objs.size + 1 + 1 := by rw [Heap.size_push, e1]
  have up : ∀ b o, s₂.heap.get? b = some o → s₃.heap.get? b = some o := fun b o e => by
    rw [hs₃]
    exact pushCells_keeps _ _ b o (Heap.get?_push_of_some _ (Heap.get?_push_of_some _ e))
  have kk : Keeps s₂ s₃ := ⟨s₃.heap, s₂.toks, by rw [hs₃], up⟩
  have hDo : s₃.heap.get? s₂.heap.objs.size = some { cls := .type "list", data := .seq #[] } := by
    rw [hs₃]
    exact pushCells_keeps _ _ _ _ (Heap.get?_push_of_some _ (Heap.get?_push_size _ rfl))
  have hL : s₃.heap.Ns (s₂.heap.objs.size + 1) (fun _ => none) := by
    rw [hs₃, ← e1]
    exact (Heap.Ns.new _ (.type "dict")).keeps (pushCells_keeps _ _)
  have up0 : ∀ b o, s₀.heap.get? b = some o → s₃.heap.get? b = some o := fun b o e => up b o (kUp k₂ b o e)
  have old : ∀ b o, s₀.heap.get? b = some o → b < s₂.heap.objs.size := fun b o e => Heap.lt_size (kUp k₂ b o e)
  have newA : ∀ b, s₂.heap.objs.size ≤ b → s₀.heap.get? b = none := fun b hb => by
    cases q : s₀.heap.get? b with
    | none => rfl
    | some o => exact absurd (old b o q) (Nat.not_lt.mpr hb)
  obtain ⟨cl, hcl⟩ := Option.isSome_iff_exists.mp o2
  have hcl' : clOf env scope = cl := by unfold clOf; rw [hcl]; rfl
  have clonly : ∀ x c, (x, c) ∈ cl → env.cells.lookup x = some c := closL_only _ _ _ hcl (fun _ _ q => (nomatch q))
  have cllt : ∀ x c, (x, c) ∈ cl → c < s₂.heap.objs.size := fun x c hm => by
    obtain ⟨v, o, h1, _⟩ := I.cal x c (clonly x c hm)
    exact old c o h1
  have csmem : ∀ x c, (x, c) ∈ cellsFrom (s₂.heap.objs.size + 1 + 1) scope.names cl → (x, c) ∈ cl ∨ (s₂.heap.objs.size + 1 + 1 ≤ c ∧ s₃.heap.IsCell c none) := fun x c hm => by
    rw [← e2] at hm ⊢
    rw [hs₃]
    exact cellsFrom_mem _ _ _ x c hm
  have hz : ∀ a ob, (cFz env scope f s₂.heap.objs.size s₀.heap).Zs a → s₀.heap.get? a = some ob → f.Zs a := fun a ob z e => (cFz_zs z).elim id fun q => absurd (old a ob e) (by rw [q]; exact Nat.lt_irrefl _)
  have csel : (cEnv scope env (s₂.heap.objs.size + 1)).cells = cellsFrom (s₂.heap.objs.size + 1 + 1) scope.names cl := by show cellsFrom _ _ (clOf env scope) = _; rw [hcl']
  refine ⟨⟨I.bs, up0, newA _ (Nat.le_succ _), fun x c hw hc => ?_, ⟨_, hL, fun y sl e k => ?_⟩, fun y sl e k => ?_, fun x c hc => ?_, fun x y c hx hy => ?_, fun a z => ?_, fun _ _ _ q => (nomatch q), fun _ _ q => (nomatch q)⟩, ⟨#[], ⟨_, _, hDo, rfl, rfl, rfl⟩, rfl⟩, kk⟩
  · rw [csel] at hc
    rcases csmem x c (mem_of_lookup hc) with hm | ⟨h1, _⟩
    · obtain ⟨c', hc'⟩ := lookup_of_mem hm
      have hw' : (clOf env scope).lookup x = none := hw
      rw [hcl', hc'] at hw'
      cases hw'
    · exact newA c (by omega)
  · have k' : scope.names.lookup y = some .local := lookup_relabel k
    obtain ⟨p, _, _, hf⟩ := captV_some e
    rw [k'] at hf; cases hf
  · obtain ⟨p, hp, rfl, hf⟩ := captV_some e
    have hmem := mem_of_lookup hf
    have hkind : env.kindOf y = some .cell ∨ env.kindOf y = some .free := by
      have := List.all_eq_true.mp o5 _ hmem
      simpa using this
    obtain ⟨c, u, h1, h2, h3⟩ := I.cel y _ hp hkind
    refine ⟨c, u, ?_, h2.keeps up0, Rep.carry (.of_keeps up0) hz _ _ h3⟩
    rw [csel, cellsFrom_lookup _ _ _ (fun q => by
      have := List.all_eq_true.mp o4 _ q
      simp only [bne_self_eq_false, Bool.false_or, beq_iff_eq] at this
      rw [hf] at this
      cases this)]
    obtain ⟨c', hc'⟩ := closL_sub _ _ _ hcl y (.inr hmem)
    obtain ⟨c'', hc''⟩ := lookup_of_mem hc'
    have := clonly y c'' (mem_of_lookup hc'')
    rw [h1] at this
    cases this
    exact hc''
  · rw [csel] at hc
    rcases csmem x c (mem_of_lookup hc) with hm | ⟨_, h2⟩
    · obtain ⟨v, hv⟩ := I.cal x c (clonly x c hm)
      exact ⟨v, hv.keeps up0⟩
    · exact ⟨none, h2⟩
  · rw [csel] at hx hy
    exact cellsFrom_uniq _ _ _ (fun x c hm => Nat.lt_succ_of_lt (Nat.lt_succ_of_lt (cllt x c hm))) (fun x y c hx hy => I.apt x y c (clonly x c hx) (clonly y c hy)) x y c (mem_of_lookup hx) (mem_of_lookup hy)
  · rcases cFz_zs z with z | rfl
    · obtain ⟨ob, its, k, h1, h2⟩ := I.zal a z
      exact ⟨ob, its, k, up0 _ _ h1, h2⟩
    · exact ⟨_, _, _, hDo, rfl⟩
theorem Src.carry {Z Z' : Addr → Prop} {s s' : Shared} {it : Value} {xs : List PV} (h : Src C A Z s₀ s it xs) (hk : ∀ b o, s.heap.get? b = some o → s'.heap.get? b = some o) (hz : ∀ a ob, Z' a → s.heap.get? a = some ob → Z a) : Src C A Z' s₀ s' it xs := by
  obtain ⟨I, fp, wr, P, St, rfl, Wk, hst, hfp, hwr, hwd, hP, hown⟩ := h
  refine ⟨I, fp, wr, P, St, rfl, Wk, Wk.frame _ _ _ hst fun b _ o e => hk b o e, fun b hb => ?_, hwr, hwd, fun i v hv => ?_, hown⟩
  · obtain ⟨ob, h1, h2⟩ := hfp b hb
    exact ⟨ob, hk _ _ h1, h2.imp id fun q => ⟨q.1, fun z => q.2 (hz _ _ z h1)⟩⟩
  · obtain ⟨p, h1, h2⟩ := hP i v hv
    exact ⟨p, h1, Rep.carry (.of_keeps hk) hz _ _ h2⟩
theorem Src.self {Z : Addr → Prop} {s : Shared} {it : Value} {xs : List PV} {Q : Value → Shared → Prop} {E : Value → Shared → Prop} (h : Src C A Z s₀ s it xs) (q : Q it s) : wpAny C.M A (pyIter it) Q E s := by
  obtain ⟨I, fp, wr, P, St, rfl, Wk, hst, _⟩ := h
  exact Wk.self 0 s Q E hst q
theorem comp_core {elt t iter : Expr} {rest : List Comprehension} {scope : Scope} {pos p0 : Pos} {ifs : List Expr} {act : Addr → Value → Sem Unit} {it : Value} {xs os : List PV} {ρ₀ : Env1} {ρ' : Addr → Env1} {RR : Value → Addr → Result → Shared → Prop} {E : Value → Shared → Prop}
    (hok : compOk env scope = true) (R : Room n A) (I₀ : Inv C.K C.mg f env ρ s₀) (k₂ : Keeps s₀ s₂) (src : Src C A f.Zs s₀ s₂ it xs) (hsz : os.length ≤ sizeLine)
    (hturn : ∀ L it acc, compTurn (.ListComp elt (⟨t, iter, ifs, 0⟩ :: rest) scope pos) 0 it acc (cEnv scope env L) = (standAt p0 >>= fun _ => pyNext it >>= fun r => match r with
      | none => pure (.done .next)
      | some v => letOwnedTupleGo t it v >>= fun _ => assign t (cEnv scope env L) v >>= fun _ => testsOf ifs (cEnv scope env L) >>= fun ok =>
        if ok = true then act L acc >>= fun _ => again (.compLoop (.ListComp elt (⟨t, iter, ifs, 0⟩ :: rest) scope pos) 0 it acc (cEnv scope env L)) else again (.compLoop (.ListComp elt (⟨t, iter, ifs, 0⟩ :: rest) scope pos) 0 it acc (cEnv scope env L))))
    (g : ∀ L, GoesO (StepG C n (cEnv scope env L) (cW env scope) t ifs (act L)) xs ρ₀ os (ρ' L)) (hle : Le ρ₀ (captV scope ρ))
    (hRR : ∀ D L s' m, s₀.heap.get? L = none → s'.heap.Ns L m → Rep f.Zs s'.heap (.list os) (.ref D) → Keeps s₀ s' → RR (.ref D) L (.ok .next) s') :
    wpAny C.M A (newList []) (fun acc s₃ => wpAny C.M A (newFunctionEnv scope env.globals (clOf env scope) [] env.qual none .none (some env)) (fun cenv s₄ =>
      codeAny C.M A (.compStart (.ListComp elt (⟨t, iter, ifs, 0⟩ :: rest) scope pos) 0 it acc { cenv with scope := relabel scope env }) (RR acc cenv.locals) s₄) E s₃) E s₂ := by
  refine wpAny_newObj_type (wp_newComp ?_)
  have e1 : (s₂.heap.push { cls := .type "list", data := .seq #[] }).objs.size = s₂.heap.objs.size + 1 := Heap.size_push ..
  generalize hs₄ : ({ s₂ with heap := pushCells ((s₂.heap.push { cls := .type "list", data := .seq #[] }).push { cls := .type "dict", data := .dict #[] }) scope.names } : Shared) = s₄
  obtain ⟨I₄, a₄, k₄⟩ := comp_inv0 (D := s₂.heap.objs.size) (s₃ := s₄) hok I₀ k₂ rfl hs₄.symm
  have src' : Src C A (cFz env scope f s₂.heap.objs.size s₀.heap).Zs s₀ s₄ it xs := src.carry (kUp k₄) fun a ob z e => (cFz_zs z).elim id fun q => absurd (Heap.lt_size e) (by rw [q]; exact Nat.lt_irrefl _)
  have hD0 : s₀.heap.get? s₂.heap.objs.size = none := by
    cases q : s₀.heap.get? s₂.heap.objs.size with
    | none => rfl
    | some o => exact absurd (Heap.lt_size (kUp k₂ _ _ q)) (Nat.lt_irrefl _)
  have lp := comp_loop (hturn (s₂.heap.objs.size + 1)) R (f := cFz env scope f s₂.heap.objs.size s₀.heap) rfl (.inr rfl) hD0 (out := []) hsz (fun b e => e) src' (I₄.weak hle) (.of (kT k₂ k₄)) a₄ (g _)
  have fin : codeAny C.M A (.compLoop (.ListComp elt (⟨t, iter, ifs, 0⟩ :: rest) scope pos) 0 it (.ref s₂.heap.objs.size) (cEnv scope env (s₂.heap.objs.size + 1))) (RR (.ref s₂.heap.objs.size) (s₂.heap.objs.size + 1)) s₄ := codeAny_mono lp fun r s' q => by
    obtain ⟨rfl, I', ⟨its, hl, r⟩, k'⟩ := q
    obtain ⟨m, hm, _⟩ := I'.loc
    obtain ⟨h', tk', rfl, _⟩ := k'
    refine hRR _ _ _ m I'.newL hm ⟨_, its, rfl, fun z => ?_, hl.isList, Reps.carry (fun _ _ _ _ _ e _ => e) (fun a _ q _ => .inl (.inl q)) _ _ r⟩ ⟨h', tk', rfl, I'.keep⟩
    obtain ⟨ob, h⟩ := I₀.zl _ z
    rw [hD0] at h
    cases h
  have := codeAny_compStart_list (prog := C.prog) (w := C.w) fin (src'.self fin)
  unfold newEnv
  simp only
  rw [← e1] at this
  exact this
theorem ev_comp {elt t iter : Expr} {rest : List Comprehension} {scope : Scope} {pos p0 : Pos} {ifs : List Expr} {act : Addr → Value → Sem Unit} {xs os : List PV} {ρ₀ : Env1} {ρ' : Addr → Env1}
    (hit : It C n env ρ iter xs) (hok : compOk env scope = true) (hsz : os.length ≤ sizeLine)
    (hturn : ∀ L it acc, compTurn (.ListComp elt (⟨t, iter, ifs, 0⟩ :: rest) scope pos) 0 it acc (cEnv scope env L) = (standAt p0 >>= fun _ => pyNext it >>= fun r => match r with
      | none => pure (.done .next)
      | some v => letOwnedTupleGo t it v >>= fun _ => assign t (cEnv scope env L) v >>= fun _ => testsOf ifs (cEnv scope env L) >>= fun ok =>
        if ok = true then act L acc >>= fun _ => again (.compLoop (.ListComp elt (⟨t, iter, ifs, 0⟩ :: rest) scope pos) 0 it acc (cEnv scope env L)) else again (.compLoop (.ListComp elt (⟨t, iter, ifs, 0⟩ :: rest) scope pos) 0 it acc (cEnv scope env L))))
    (g : ∀ L, GoesO (StepG C n (cEnv scope env L) (cW env scope) t ifs (act L)) xs ρ₀ os (ρ' L)) (hle : Le ρ₀ (captV scope ρ))
    (hs : ∀ x, foldedSetIterable iter env x = pure x := by intro _; rfl) : Ev C n env ρ (.ListComp elt (⟨t, iter, ifs, 0⟩ :: rest) scope pos) (.list os) := .mk fun A s₀ f R I₀ => by
  have hok' := hok
  simp only [compOk, Bool.and_eq_true] at hok'
  obtain ⟨⟨⟨⟨o1, o2⟩, o3⟩, o4⟩, o5⟩ := hok'
  obtain ⟨cl, hcl⟩ := Option.isSome_iff_exists.mp o2
  have hcl' : clOf env scope = cl := by unfold clOf; rw [hcl]; rfl
  rw [eval_ListComp]
  refine wpAny_comprehension_free (use := none) rfl hs (closureFor_of (hcl'.symm ▸ hcl)) (by simpa using o1) (fun x hx hl => by
    have := List.all_eq_true.mp o3 _ hx
    rw [hl] at this
    simpa using this) (wpAny_mono (hit.go A s₀ f R I₀) (fun xv s₁ h₁ => wpAny_mono h₁ (fun it s₂ h₂ => ?_) fun _ _ e => e.elim) fun _ _ e => e.elim)
  obtain ⟨src, k₂⟩ := h₂
  refine comp_core hok R I₀ k₂ src hsz hturn g hle fun D L s' m hL hm r k => ?_
  refine ⟨m, hm, fun h' hs' => ⟨?_, ?_⟩⟩
  · obtain ⟨oL, es, ep, h1, h2, _⟩ := hm
    exact Rep.carry (.of_same hs' fun ob its n e hd => by rw [h1] at e; cases e; rw [h2] at hd; cases hd) (fun _ _ q _ => q) _ _ r
  · obtain ⟨h'', tk, rfl, kk⟩ := k
    exact ⟨h', tk, rfl, fun b o e => (hs'.2 b (by rintro rfl; rw [hL] at e; cases e)).trans (kk b o e)⟩
end
end Mine
namespace Mine
open PySem PySem.Calls PyProof.Rows PySem.W
noncomputable abbrev nil1 : Env1 := fun _ => none
theorem le_nil {ρ : Env1} : Le nil1 ρ := fun _ _ e => by cases e
theorem le_put {ρ ρ' : Env1} {x : Str} {sl : Slot} (h : ρ' x = some sl) (hl : Le ρ ρ') : Le (put ρ x sl) ρ' := fun y s e => by
  unfold put at e
  split at e
  · rename_i hy
    cases e
    rw [hy]
    exact h
  · exact hl y s e
theorem le_to {ρ ρ' : Env1} {x : Str} {sl : Slot} (hn : ρ x = none) (hl : Le ρ ρ') : Le ρ (put ρ' x sl) := fun y s e => by
  unfold put
  split
  · rename_i hy
    rw [hy, hn] at e
    cases e
  · exact hl y s e
theorem captV_val {scope : Scope} {ρ : Env1} {x : Str} {p : PV} (h : ρ x = some (.val p)) (hf : scope.names.lookup x = some .free) : captV scope ρ x = some (.val p) := by
  unfold captV
  rw [h]
  exact if_pos hf
section
variable {C : Cfg} {n : Nat} {env : Env} {ρ ρ' ρ'' ρ₀ : Env1} {f : Fz} {A : Around} {s s₀ s₂ : Shared} {W : Str → Prop}
theorem Ev.weak {e : Expr} {p : PV} (h : Ev C n env ρ e p) (hl : Le ρ ρ') : Ev C n env ρ' e p := .mk fun A s f R I => h.go A s f R (I.weak hl)
theorem Tr.weak {e : Expr} {p : Bool} (h : Tr C n env ρ e p) (hl : Le ρ ρ') : Tr C n env ρ' e p := .mk fun A s f R I => h.go A s f R (I.weak hl)
theorem ExN.weak {ss : List Stmt} (h : ExN C n env W ρ ss ρ') (hl : Le ρ'' ρ') : ExN C n env W ρ ss ρ'' := .mk fun A s f R hf I => wpAny_mono (h.go A s f R hf I) (fun _ _ q => ⟨q.1, q.2.1.weak hl, q.2.2⟩) fun _ _ q => q
theorem Ex1.weak {ss : Stmt} (h : Ex1 C n env W ρ ss ρ') (hl : Le ρ'' ρ') : Ex1 C n env W ρ ss ρ'' := .mk fun A s f R hf I => wpAny_mono (h.go A s f R hf I) (fun _ _ q => ⟨q.1, q.2.1.weak hl, q.2.2⟩) fun _ _ q => q
theorem ExR.weak {ss : List Stmt} {p : PV} (h : ExR C n env ρ ss p) (hl : Le ρ ρ') : ExR C n env ρ' ss p := .mk fun A s f R hf I => h.go A s f R hf (I.weak hl)
theorem Em.weak {act : Value → Sem Unit} {o : List PV} (h : Em C n env W act ρ o ρ') (hl : Le ρ'' ρ') : Em C n env W act ρ o ρ'' := .mk fun A s f D out R hf hz h0 hs I a => wpAny_mono (h.go A s f D out R hf hz h0 hs I a) (fun _ _ q => ⟨q.1.weak hl, q.2⟩) fun _ _ q => q
/-- turns that leave ρ₀ as it stands -/
theorem goes_flat {α : Type} {t : Expr} {ifs : List Expr} {act : Value → Sem Unit} {inj : α → PV} {bnd : α → Env1} {p : α → Bool} {F : α → List PV} : ∀ (l : List α),
    (∀ a ∈ l, Bd C env W t (inj a) ρ₀ (bnd a)) → (∀ a ∈ l, Le ρ₀ (bnd a)) → (∀ a ∈ l, Ts C n env (bnd a) ifs (p a)) → (∀ a ∈ l, p a = true → Em C n env W act (bnd a) (F a) (bnd a)) →
    GoesO (StepG C n env W t ifs act) (l.map inj) ρ₀ ((l.filter p).flatMap F) ρ₀
  | [], _, _, _, _ => .nil _
  | a :: l, h1, h2, h3, h4 => by
    have ih := goes_flat l (fun b hb => h1 b (List.mem_cons_of_mem _ hb)) (fun b hb => h2 b (List.mem_cons_of_mem _ hb)) (fun b hb => h3 b (List.mem_cons_of_mem _ hb)) (fun b hb => h4 b (List.mem_cons_of_mem _ hb))
    have ha := List.mem_cons_self (a := a) (l := l)
    have t := h3 a ha
    cases hp : p a with
    | false =>
      rw [List.filter_cons, hp]
      rw [hp] at t
      exact .cons (o := []) ⟨_, h1 a ha, .inl ⟨t, rfl, h2 a ha⟩⟩ ih
    | true =>
      rw [List.filter_cons, hp]
      rw [hp] at t
      exact .cons ⟨_, h1 a ha, .inr ⟨t, (h4 a ha hp).weak (h2 a ha)⟩⟩ ih
theorem ev_comp1 {α : Type} {l : List α} {inj : α → PV} {bnd : α → Env1} (p : α → Bool) (F : α → PV) {elt t iter : Expr} {ifs : List Expr} {scope : Scope} {pos : Pos}
    (hit : It C n env ρ iter (l.map inj)) (hok : compOk env scope = true) (hsz : l.length ≤ sizeLine) (hle : Le ρ₀ (captV scope ρ))
    (hbd : ∀ L, ∀ a ∈ l, Bd C (cEnv scope env L) (cW env scope) t (inj a) ρ₀ (bnd a)) (hbl : ∀ a ∈ l, Le ρ₀ (bnd a))
    (hts : ∀ L, ∀ a ∈ l, Ts C n (cEnv scope env L) (bnd a) ifs (p a)) (hel : ∀ L, ∀ a ∈ l, p a = true → Ev C n (cEnv scope env L) (bnd a) elt (F a))
    (hs : ∀ x, foldedSetIterable iter env x = pure x := by intro _; rfl) : Ev C n env ρ (.ListComp elt [⟨t, iter, ifs, 0⟩] scope pos) (.list ((l.filter p).map F)) := by
  have e : (l.filter p).map F = (l.filter p).flatMap fun a => [F a] := List.map_eq_flatMap ..
  rw [e]
  refine ev_comp (act := fun L => actElt elt (cEnv scope env L)) (p0 := iter.pos) (ρ' := fun _ => ρ₀) hit hok ?_ (fun L it acc => rfl) (fun L => goes_flat l (hbd L) hbl (hts L) fun a ha hp => em_elt (hel L a ha hp)) hle hs
  rw [← e, List.length_map]
  exact Nat.le_trans (List.length_filter_le ..) hsz
theorem Inv.butNs {L : Addr} {m : Str → Option Value} {h' : Heap} (I : Inv C.K C.mg f env ρ s) (hm : s.heap.Ns L m) (hs : Heap.SameBut L s.heap h') (hne : L ≠ env.locals) (h0 : f.h₀.get? L = none) :
    Inv C.K C.mg f env ρ { s with heap := h' } ∧ Kp f.Zs s { s with heap := h' } := by
  obtain ⟨oL, es, ep, hoL, hdL, _⟩ := hm
  have hns : ∀ its n, oL.data ≠ .seq its n := fun its n e => by rw [hdL] at e; cases e
  have sk := I.seqKept_but hs hoL hns
  have ok := I.own_but hs hoL hns
  have ne : ∀ c v, s.heap.IsCell c v → c ≠ L := fun c v ⟨o, h1, h2⟩ => ne_data h1 hoL (by rw [h2, hdL]; exact fun e => by cases e)
  refine ⟨⟨I.base, fun b o e => (hs.2 b (by rintro rfl; rw [h0] at e; cases e)).trans (I.keep b o e), I.newL, I.newC, ?_, fun y sl' e k => ?_, fun y c e => let ⟨v, h⟩ := I.cal y c e; ⟨v, h.sameBut hs (ne c v h)⟩, I.apt, fun a z => ?_, I.inj, I.noZ⟩, kp_but (tk := s.toks) hs hoL hns fun vs e => by rw [hdL] at e; cases e⟩
  · obtain ⟨m, hm, hq⟩ := I.loc
    refine ⟨m, hm.sameBut hs hne.symm, fun y sl' e k => ?_⟩
    obtain ⟨v', h1, h2⟩ := hq y sl' e k
    exact ⟨v', h1, h2.carry sk ok⟩
  · obtain ⟨c, v', h1, h2, h3⟩ := I.cel y sl' e k
    exact ⟨c, v', h1, h2.sameBut hs (ne c _ h2), h3.carry sk ok⟩
  · obtain ⟨ob, its, n, h1, h2⟩ := I.zal a z
    exact ⟨ob, its, n, (hs.2 a (ne_data h1 hoL (by rw [h2, hdL]; exact fun e => by cases e))).trans h1, h2⟩
/-- the value goes to a local name on the way -/
theorem ex_comp {elt t iter : Expr} {rest : List Comprehension} {scope : Scope} {y : Str} {py pos p0 spos : Pos} {ifs : List Expr} {act : Addr → Value → Sem Unit} {xs os : List PV} {ρ' : Addr → Env1}
    (hit : It C n env ρ iter xs) (hok : compOk env scope = true) (hsz : os.length ≤ sizeLine)
    (hturn : ∀ L it acc, compTurn (.ListComp elt (⟨t, iter, ifs, 0⟩ :: rest) scope pos) 0 it acc (cEnv scope env L) = (standAt p0 >>= fun _ => pyNext it >>= fun r => match r with
      | none => pure (.done .next)
      | some v => letOwnedTupleGo t it v >>= fun _ => assign t (cEnv scope env L) v >>= fun _ => testsOf ifs (cEnv scope env L) >>= fun ok =>
        if ok = true then act L acc >>= fun _ => again (.compLoop (.ListComp elt (⟨t, iter, ifs, 0⟩ :: rest) scope pos) 0 it acc (cEnv scope env L)) else again (.compLoop (.ListComp elt (⟨t, iter, ifs, 0⟩ :: rest) scope pos) 0 it acc (cEnv scope env L))))
    (g : ∀ L, GoesO (StepG C n (cEnv scope env L) (cW env scope) t ifs (act L)) xs ρ₀ os (ρ' L)) (hle : Le ρ₀ (captV scope ρ))
    (hy : env.kindOf y = some .local) (hw : W y)
    (hsw : swapsWith (.ListComp elt (⟨t, iter, ifs, 0⟩ :: rest) scope pos) (some (.Name y py)) spos.line env = pure true := by rfl)
    (hs : ∀ x, foldedSetIterable iter env x = pure x := by intro _; rfl) (hk : env.scope.kind = .function := by rfl) :
    Ex1 C n env W ρ (.Assign [.Name y py] (.ListComp elt (⟨t, iter, ifs, 0⟩ :: rest) scope pos) spos) (put ρ y (.val (.list os))) := .mk fun A s₀ f R hf I₀ => by
  have hok' := hok
  simp only [compOk, Bool.and_eq_true] at hok'
  obtain ⟨⟨⟨⟨o1, o2⟩, o3⟩, o4⟩, o5⟩ := hok'
  obtain ⟨cl, hcl⟩ := Option.isSome_iff_exists.mp o2
  have hcl' : clOf env scope = cl := by unfold clOf; rw [hcl]; rfl
  rw [exec_Assign_Name_used _ _ _ _ hsw]
  refine wpAny_bind (wpAny_standAt (wpAny_bind ?_))
  show wpAny _ A (do let _ ← comprehension (.ListComp elt (⟨t, iter, ifs, 0⟩ :: rest) scope pos) scope env _ (newList []) false (eval iter env) (some (assign (.Name y py) env))) _ _ s₀
  refine wpAny_bind (wpAny_mono (wpAny_comprehension_free (E := noE) (Q := fun _ s' => Inv C.K C.mg f env (put ρ y (.val (.list os))) s' ∧ Kp f.Zs s₀ s') rfl hs (closureFor_of (hcl'.symm ▸ hcl)) (by simpa using o1) (fun x hx hl => by
    have := List.all_eq_true.mp o3 _ hx
    rw [hl] at this
    simpa using this) (wpAny_mono (hit.go A s₀ f R I₀) (fun xv s₁ h₁ => wpAny_mono h₁ (fun it s₂ h₂ => ?_) fun _ _ e => e.elim) fun _ _ e => e.elim))
    (fun _ s' hq => wpAny_pure (wpAny_pure ⟨rfl, hq⟩)) fun _ _ e => e)
  obtain ⟨src, k₂⟩ := h₂
  refine comp_core hok R I₀ k₂ src hsz hturn g hle fun D L s' m hL hm r k => ?_
  have I' := I₀.keeps k
  refine wpAny_assign_Name (store_local I' hy hk (sl := .val (.list os)) r fun s'' I'' k'' hsb => ?_)
  -- the comprehension's locals stand apart from the frame's
  have hne : L ≠ env.locals := by
    rintro rfl
    obtain ⟨_, ⟨o, _, _, q, _⟩, _⟩ := I₀.loc
    rw [hL] at q
    cases q
  have hm' := hm.sameBut hsb hne
  refine ⟨m, hm', fun h' hs' => ?_⟩
  have h0 : f.h₀.get? L = none := by
    cases q : f.h₀.get? L with
    | none => rfl
    | some o => have := I₀.keep L o q; rw [hL] at this; cases this
  obtain ⟨I₃, k₃⟩ := I''.butNs hm' hs' hne h0
  exact ⟨I₃, ((Kp.of k).trans k''.weak).trans k₃⟩
end
end Mine
namespace Mine
open PySem PySem.Calls PyProof.Rows PySem.W
section
variable {C : Cfg} {n : Nat} {env : Env} {ρ ρ' ρ'' : Env1} {f : Fz} {A : Around} {s : Shared} {W : Str → Prop}
theorem ev_neg {x : Expr} {pos : Pos} {i : Int} (h : Ev C n env ρ x (.int i)) : Ev C n env ρ (.UnaryOp .USub x pos) (.int (-i)) :=
  .mk fun A s f R I => UnaryOp_ (h.use R I fun v s₁ r₁ k₁ I₁ => by
    obtain ⟨t, rfl⟩ := r₁
    exact PyProof.Rows.neg_int ⟨⟨_, rfl⟩, kT k₁ (kTok s₁ _)⟩)
theorem io_adds {a b : Str} (hsz : a.length + b.length ≤ sizeLine) : Op2 C n (inplaceOp .Add) (.str a) (.str b) (.str (a ++ b)) := fun A s Z v u R hz B ⟨t, e1⟩ ⟨t', e2⟩ => by
  subst e1 e2; exact PyProof.Rows.iadd_str (fun t' tk => ⟨⟨_, rfl⟩, kTok s _⟩) hsz
theorem cp_indict {x : Str} {a : Addr} {o : Obj} {kvs : List (Str × Value)} (hK : C.K.lookup a = some o) (hD : o.IsDictOf (strKind C.prog C.w) kvs) (ha : (a == sysModules) = false) :
    Op2 C n (compareOp .In) (.str x) (.raw (.ref a)) (.bool (valueAt kvs x).isSome) := fun A s Z v u R hz B h1 h2 => by
  obtain ⟨t, rfl⟩ := h1
  obtain rfl : u = .ref a := h2
  exact wpAny_in_of (strKind_is C.prog C.w x t) ha (Heap.dictOf_iff.mpr ⟨o, B.k a o hK, hD⟩).mapOf ⟨rfl, kTok s _⟩
theorem ev_ditem {value slice : Expr} {pos : Pos} {x : Str} {i : Int} {t : Tok} {a : Addr} {o : Obj} {kvs : List (Str × Value)} (hK : C.K.lookup a = some o) (hD : o.IsDictOf (strKind C.prog C.w) kvs)
    (h1 : Ev C n env ρ value (.raw (.ref a))) (h2 : Ev C n env ρ slice (.str x)) (hx : valueAt kvs x = some (.int i t)) (hp : plainSlice slice = true := by rfl) : Ev C n env ρ (.Subscript value slice pos) (.int i) := .mk fun A s f R I =>
  Subscript_ (h1.use R I fun v s₁ r₁ k₁ I₁ => h2.use R I₁ fun u s₂ r₂ k₂ I₂ => by
    obtain rfl : v = .ref a := r₁
    obtain ⟨t', rfl⟩ := r₂
    have hd := Heap.dictOf_iff.mpr ⟨o, I₂.bs.k a o hK, hD⟩
    exact subTail hd.mapOf.typeIs slot_dict_getitem.lookup (wpAny_getItem_of (strKind_is C.prog C.w x t') hd.mapOf hx ⟨⟨_, rfl⟩, kT (kT k₁ k₂) (kTok s₂ _)⟩) (subscripted_plain hp))
theorem ev_dict2 {k1 k2 v1 v2 slice : Expr} {pos dpos : Pos} {a1 a2 b1 b2 k r : Int} (h1 : Ev C n env ρ k1 (.int a1)) (h2 : Ev C n env ρ v1 (.int b1)) (h3 : Ev C n env ρ k2 (.int a2)) (h4 : Ev C n env ρ v2 (.int b2)) (h5 : Ev C n env ρ slice (.int k))
    (hne : a1 ≠ a2) (hr : (k = a1 ∧ r = b1) ∨ (k = a2 ∧ r = b2)) (hp : plainSlice slice = true := by rfl)
    (hshape : (evalEachOpt [some k1, some k2] env).zip ((evalEach [v1, v2] env).map fun v => do let x ← v; standAt dpos; pure x) =
      [(eval k1 env, do let x ← eval v1 env; standAt dpos; pure x), (eval k2 env, do let x ← eval v2 env; standAt dpos; pure x)].map fun p => (some p.1, p.2) := by rfl) :
    Ev C n env ρ (.Subscript (.Dict [some k1, some k2] [v1, v2] dpos) slice pos) (.int r) := .mk fun A s f R I => by
  refine Subscript_ (wpAny_Dict_pairs (knd := intKind C.prog C.w) hshape (by simp) (by simp) ?_)
  have I0 : Inv C.K C.mg f env ρ { s with heap := s.heap.push { cls := .type "dict", data := .dict #[] } } := inv_kept (tk := s.toks) I fun _ _ e => Heap.get?_push_of_some _ e
  refine evalPairs_cons (h1.use R I0 fun v s₁ r₁ c₁ I₁ => wpAny_bind (h2.use R I₁ fun v' s₂ r₂ c₂ I₂ => wpAny_bind (wpAny_standAt (wpAny_pure ?_))))
  refine evalPairs_cons (h3.use R I₂ fun u s₃ r₃ c₃ I₃ => wpAny_bind (h4.use R I₃ fun u' s₄ r₄ c₄ I₄ => wpAny_bind (wpAny_standAt (wpAny_pure (evalPairs_nil ?_)))))
  obtain ⟨t1, rfl⟩ := r₁
  obtain ⟨t2, rfl⟩ := r₂
  obtain ⟨t3, rfl⟩ := r₃
  obtain ⟨t4, rfl⟩ := r₄
  have kk := kT (kT (kT c₁ c₂) c₃) c₄
  have hd0 := (Heap.DictOf.new (knd := intKind C.prog C.w) s.heap).keep (kUp kk)
  refine display_done_int rfl (by simp [intKeyPairs, hne]) hd0 fun h' hm hs => ?_
  have up : ∀ b o, s.heap.get? b = some o → h'.get? b = some o := fun b o e => (hs.2 b (Nat.ne_of_lt (Heap.lt_size e))).trans (kUp kk b o (Heap.get?_push_of_some _ e))
  obtain ⟨h'', tk, e4, _⟩ := id kk
  have K0 : Keeps s { s₄ with heap := h', toks := s₄.toks + 2 } := ⟨h', s₄.toks + 2, by rw [e4], up⟩
  refine h5.use R (I.keeps K0) fun u s₅ r₅ c₅ I₅ => ?_
  obtain ⟨t5, rfl⟩ := r₅
  have hd5 := hm.keep (kUp c₅)
  refine subTail hd5.mapOf.typeIs slot_dict_getitem.lookup (wpAny_getItem_of (v := .int r (if k = a1 then t2 else t4)) (intKind_is C.prog C.w k t5) hd5.mapOf ?_ ⟨⟨_, rfl⟩, kT (kT K0 c₅) (kTok s₅ _)⟩) (subscripted_plain hp)
  simp only [valueAt, intKeyPairs, List.find?_cons, List.find?_nil]
  rcases hr with ⟨rfl, rfl⟩ | ⟨rfl, rfl⟩
  · simp
  · have : ¬ a1 = k := hne
    have h2 : ¬ k = a1 := fun e => hne e.symm
    simp [this, h2]
/-- a slice of a text, no step -/
theorem part_of {v : Value} {k : Option Int} (h : IsPart v k) : ∃ l : Option (Int × Tok), v = partValue l ∧ l.map (·.1) = k := by
  cases h with
  | none => exact ⟨none, rfl, rfl⟩
  | int i t => exact ⟨some (i, t), rfl, rfl⟩
open PySem.Builtin PySem.Builtin.Str in
theorem txt_slice {x : Str} {t : Tok} {l u : Option (Int × Tok)} : sliceMade x t l u none = (if ((1 : Int) == 1 && (strSliceIndices (l.map (·.1)) (u.map (·.1)) 1 x.length).length == x.length) = true then Made.val (.str x t) else Made.str ⟨((strSliceIndices (l.map (·.1)) (u.map (·.1)) 1 x.length).filterMap (x.cps[·]?)).toArray⟩) := rfl
theorem ev_sslice {value : Expr} {lo hi : Option Expr} {p pos : Pos} {x : Str} {a b : Option Int} (h1 : Ev C n env ρ value (.str x)) (h2 : EvP C n env ρ lo a) (h3 : EvP C n env ρ hi b) (hsz : x.length ≤ sizeLine) :
    Ev C n env ρ (.Subscript value (.Slice lo hi none p) pos) (.str (Txt.slice x a b)) := .mk fun A s f R I =>
  Subscript_ (h1.use R I fun v s₁ r₁ k₁ I₁ => wpAny_Slice (h2.use R I₁ fun vl s₂ pl k₂ I₂ => h3.use R I₂ fun vu s₃ pu k₃ I₃ => wpAny_pure (by
    have k := kT k₂ k₃
    obtain ⟨t, rfl⟩ := r₁
    obtain ⟨l, rfl, el⟩ := part_of pl
    obtain ⟨u, rfl, eu⟩ := part_of pu
    obtain ⟨ops, hops⟩ := subscripted_slice (lo := lo) (hi := hi) (st := none) (p := p) (o := .str x t) (i := .ref s₃.heap.objs.size)
    refine subTail (T := "str") (typeIs_str _ _ _) F.slot_str_getitem.lookup (wpAny_getItem_str_slice (l := l) (u := u) (st := none) ⟨_, Heap.get?_push_size _ rfl, rfl, rfl⟩ rfl ?_) hops
    rw [txt_slice, el, eu]
    refine post_val_or_str ⟨Nat.le_trans (Txt.slice_le x a b) hsz, fun t' tk => ⟨⟨_, rfl⟩, kT (kT k₁ k) (kPush s₃ _ _)⟩⟩)))
end
end Mine
namespace Mine
open PySem PySem.Calls PyProof.Rows PySem.W
section
variable {C : Cfg} {n : Nat} {env : Env} {ρ ρ' ρ'' ρ₀ : Env1} {f : Fz} {A : Around} {s : Shared} {W : Str → Prop}
theorem compStart1 {prog : Program} {w : World} {R : Result → Shared → Prop} {elt t1 it1 t2 it2 : Expr} {if1 if2 : List Expr} {scope : Scope} {pos : Pos} {it acc : Value}
    (h0 : codeAny (model prog w) A (.compLoop (.ListComp elt [⟨t1, it1, if1, 0⟩, ⟨t2, it2, if2, 0⟩] scope pos) 1 it acc env) R s)
    (h : wpAny (model prog w) A (pyIter it) (fun it' s' => codeAny (model prog w) A (.compLoop (.ListComp elt [⟨t1, it1, if1, 0⟩, ⟨t2, it2, if2, 0⟩] scope pos) 1 it' acc env) R s')
      (notedBy (model prog w) A env fun x s' => R (.error x) s') s) :
    codeAny (model prog w) A (.compStart (.ListComp elt [⟨t1, it1, if1, 0⟩, ⟨t2, it2, if2, 0⟩] scope pos) 1 it acc env) R s := by
  refine codeAny_of_tree ?_
  show wpAny _ _ ((compStart (.ListComp elt [⟨t1, it1, if1, 0⟩, ⟨t2, it2, if2, 0⟩] scope pos) 1 it acc env).onRaise (fun x => do noteFrame x env; standAt theWindowsPlace)) _ _ s
  refine wpAny_notedAt ?_
  unfold compStart
  show wpAny _ _ (ask >>= _) _ _ s
  refine wpAny_bind (wpAny_askSetting (wpAny_ite ?_))
  split
  · first
      | exact wpAny_bind (wpAny_pure (wpAny_pure (And.intro rfl h0)))
      | exact wpAny_pure (And.intro rfl h0)
  · first
      | exact wpAny_bind (wpAny_rule (wpAny_bind (wpAny_standAt (wpAny_bind (wpAny_mono h (fun it' s' h' => wpAny_pure (And.intro rfl h')) fun _ _ x => x)))))
      | (refine wpAny_bind (wpAny_rule ?_); show wpAny _ _ (standAt it2.pos >>= _) _ _ s; exact wpAny_bind (wpAny_standAt (wpAny_bind (wpAny_mono h (fun it' s' h' => wpAny_pure (And.intro rfl h')) fun _ _ x => x))))
noncomputable abbrev actIn (elt t1 it1 t2 it2 : Expr) (if1 if2 : List Expr) (scope : Scope) (pos : Pos) (env : Env) : Value → Sem Unit := fun acc => do
  let x ← eval it2 env
  standAt it2.pos
  let x ← foldedSetIterable it2 env x
  let _ ← runOwn (.compStart (.ListComp elt [⟨t1, it1, if1, 0⟩, ⟨t2, it2, if2, 0⟩] scope pos) 1 (← holding [x] (pyIter x)) acc env) env
theorem em_inner {elt t1 it1 t2 it2 : Expr} {if1 if2 : List Expr} {scope : Scope} {pos p0 : Pos} {xs os : List PV} (hit : It C n env ρ it2 xs)
    (hturn : ∀ it acc, compTurn (.ListComp elt [⟨t1, it1, if1, 0⟩, ⟨t2, it2, if2, 0⟩] scope pos) 1 it acc env = (standAt p0 >>= fun _ => pyNext it >>= fun r => match r with
      | none => pure (.done .next)
      | some v => letOwnedTupleGo t2 it v >>= fun _ => assign t2 env v >>= fun _ => testsOf if2 env >>= fun ok =>
        if ok = true then actElt elt env acc >>= fun _ => again (.compLoop (.ListComp elt [⟨t1, it1, if1, 0⟩, ⟨t2, it2, if2, 0⟩] scope pos) 1 it acc env) else again (.compLoop (.ListComp elt [⟨t1, it1, if1, 0⟩, ⟨t2, it2, if2, 0⟩] scope pos) 1 it acc env)))
    (g : GoesO (StepG C n env W t2 if2 (actElt elt env)) xs ρ os ρ') (hs : ∀ x, foldedSetIterable it2 env x = pure x) :
    Em C n env W (actIn elt t1 it1 t2 it2 if1 if2 scope pos env) ρ os ρ' := .mk fun A s f D out R hf hz h0 hsz I a => by
  refine wpAny_bind (wpAny_mono (hit.go A s f R I) (fun x s₁ h₁ => ?_) fun _ _ q => q.elim)
  refine wpAny_bind (wpAny_standAt (wpAny_bind (wpAny_of_eq (hs x) ?_)))
  refine wpAny_bind (wpAny_holding (wpAny_mono h₁ (fun it s₂ h₂ => ?_) fun _ _ q => q.elim))
  obtain ⟨src, k⟩ := h₂
  have lp := comp_loop (s₀ := s) hturn R hf hz h0 hsz (fun b e => by
    cases q : f.h₀.get? b with
    | none => rfl
    | some o => have := I.keep b o q; rw [e] at this; cases this) src (I.keeps k) (.of k) (a.keeps k) g
  have fin : codeAny C.M A (.compLoop (.ListComp elt [⟨t1, it1, if1, 0⟩, ⟨t2, it2, if2, 0⟩] scope pos) 1 it (.ref D) env) (fun r s' => match r with
    | .ok fl => wpAny C.M A (pure () : Sem Unit) (fun _ s' => Inv C.K C.mg f env ρ' s' ∧ Acc f D s' (out ++ os) ∧ Kp f.Zs s s') noE s'
    | .error e => cameBackBy C.M A env noE e s') s₂ := codeAny_mono lp fun r s' q => by
    obtain ⟨rfl, q⟩ := q
    exact wpAny_pure q
  exact wpAny_bind (wpAny_runOwn (compStart1 fin (src.self fin)))
end
end Mine
namespace Mine
open PySem PySem.Calls PyProof.Rows PySem.W
-- the globals, by their codes
noncomputable def tabM : List (List Nat × Nat × Value) := [([95, 95, 110, 97, 109, 101, 95, 95], 165, (.str (Str.ofString "law_re0070_01") 996)), ([95, 95, 100, 111, 99, 95, 95], 166, .none), ([95, 95, 112, 97, 99, 107, 97, 103, 101, 95, 95], 167, .none), ([95, 95, 108, 111, 97, 100, 101, 114, 95, 95], 168, (.builtin "__main__.__loader__#opaque")), ([95, 95, 115, 112, 101, 99, 95, 95], 169, .none), ([95, 95, 97, 110, 110, 111, 116, 97, 116, 105, 111, 110, 115, 95, 95], 170, (.ref 6)), ([95, 95, 98, 117, 105, 108, 116, 105, 110, 115, 95, 95], 171, (.ref 4)), ([95, 95, 102, 105, 108, 101, 95, 95], 173, (.str (Str.ofString "/claim/cut.py") 172)), ([95, 95, 99, 97, 99, 104, 101, 100, 95, 95], 174, .none), ([95, 115, 114, 101], 275, (.ref 12)), ([95, 116, 119, 105, 110, 95, 114, 101, 95, 49], 299, (.ref 36)), ([95, 116, 119, 105, 110, 95, 114, 101, 95, 50], 315, (.ref 41)), ([95, 116, 119, 105, 110, 95, 114, 101, 95, 51], 357, (.ref 46)), ([67, 82, 76, 70], 359, (.str (Str.ofString "\x0d\n") 358)), ([113, 117, 111, 116, 101, 100, 97, 116, 97], 366, (.ref 53)), ([95, 113, 117, 111, 116, 101, 95, 112, 101, 114, 105, 111, 100, 115], 373, (.ref 60)), ([95, 102, 105, 120, 95, 101, 111, 108, 115], 380, (.ref 67)), ([98, 49, 95, 115, 101, 116], 442, (.ref 75)), ([105, 110, 95, 116, 97, 98, 108, 101, 95, 98, 49], 449, (.ref 85)), ([105, 110, 95, 116, 97, 98, 108, 101, 95, 99, 49, 49], 456, (.ref 92)), ([105, 110, 95, 116, 97, 98, 108, 101, 95, 99, 52], 464, (.ref 99)), ([99, 54, 95, 115, 101, 116], 478, (.ref 101)), ([105, 110, 95, 116, 97, 98, 108, 101, 95, 99, 54], 485, (.ref 111)), ([99, 55, 95, 115, 101, 116], 513, (.ref 113)), ([105, 110, 95, 116, 97, 98, 108, 101, 95, 99, 55], 520, (.ref 123)), ([99, 56, 95, 115, 101, 116], 561, (.ref 137)), ([105, 110, 95, 116, 97, 98, 108, 101, 95, 99, 56], 568, (.ref 147)), ([99, 57, 95, 115, 101, 116], 768, (.ref 155)), ([105, 110, 95, 116, 97, 98, 108, 101, 95, 99, 57], 775, (.ref 165)), ([69, 78, 68, 77, 65, 82, 75, 69, 82], 779, (.int (0) 778)), ([76, 80, 65, 82], 781, (.int (7) 780)), ([82, 80, 65, 82], 783, (.int (8) 782)), ([76, 83, 81, 66], 785, (.int (9) 784)), ([82, 83, 81, 66], 787, (.int (10) 786)), ([67, 79, 76, 79, 78], 789, (.int (11) 788)), ([67, 79, 77, 77, 65], 791, (.int (12) 790)), ([83, 69, 77, 73], 793, (.int (13) 792)), ([80, 76, 85, 83], 795, (.int (14) 794)), ([77, 73, 78, 85, 83], 797, (.int (15) 796)), ([83, 84, 65, 82], 799, (.int (16) 798)), ([83, 76, 65, 83, 72], 801, (.int (17) 800)), ([86, 66, 65, 82], 803, (.int (18) 802)), ([65, 77, 80, 69, 82], 805, (.int (19) 804)), ([76, 69, 83, 83], 807, (.int (20) 806)), ([71, 82, 69, 65, 84, 69, 82], 809, (.int (21) 808)), ([69, 81, 85, 65, 76], 811, (.int (22) 810)), ([68, 79, 84], 813, (.int (23) 812)), ([80, 69, 82, 67, 69, 78, 84], 815, (.int (24) 814)), ([76, 66, 82, 65, 67, 69], 817, (.int (25) 816)), ([82, 66, 82, 65, 67, 69], 819, (.int (26) 818)), ([69, 81, 69, 81, 85, 65, 76], 821, (.int (27) 820)), ([78, 79, 84, 69, 81, 85, 65, 76], 823, (.int (28) 822)), ([76, 69, 83, 83, 69, 81, 85, 65, 76], 825, (.int (29) 824)), ([71, 82, 69, 65, 84, 69, 82, 69, 81, 85, 65, 76], 827, (.int (30) 826)), ([84, 73, 76, 68, 69], 829, (.int (31) 828)), ([67, 73, 82, 67, 85, 77, 70, 76, 69, 88], 831, (.int (32) 830)), ([76, 69, 70, 84, 83, 72, 73, 70, 84], 833, (.int (33) 832)), ([82, 73, 71, 72, 84, 83, 72, 73, 70, 84], 835, (.int (34) 834)), ([68, 79, 85, 66, 76, 69, 83, 84, 65, 82], 837, (.int (35) 836)), ([80, 76, 85, 83, 69, 81, 85, 65, 76], 839, (.int (36) 838)), ([77, 73, 78, 69, 81, 85, 65, 76], 841, (.int (37) 840)), ([83, 84, 65, 82, 69, 81, 85, 65, 76], 843, (.int (38) 842)), ([83, 76, 65, 83, 72, 69, 81, 85, 65, 76], 845, (.int (39) 844)), ([80, 69, 82, 67, 69, 78, 84, 69, 81, 85, 65, 76], 847, (.int (40) 846)), ([65, 77, 80, 69, 82, 69, 81, 85, 65, 76], 849, (.int (41) 848)), ([86, 66, 65, 82, 69, 81, 85, 65, 76], 851, (.int (42) 850)), ([67, 73, 82, 67, 85, 77, 70, 76, 69, 88, 69, 81, 85, 65, 76], 853, (.int (43) 852)), ([76, 69, 70, 84, 83, 72, 73, 70, 84, 69, 81, 85, 65, 76], 855, (.int (44) 854)), ([82, 73, 71, 72, 84, 83, 72, 73, 70, 84, 69, 81, 85, 65, 76], 857, (.int (45) 856)), ([68, 79, 85, 66, 76, 69, 83, 84, 65, 82, 69, 81, 85, 65, 76], 859, (.int (46) 858)), ([68, 79, 85, 66, 76, 69, 83, 76, 65, 83, 72], 861, (.int (47) 860)), ([68, 79, 85, 66, 76, 69, 83, 76, 65, 83, 72, 69, 81, 85, 65, 76], 863, (.int (48) 862)), ([65, 84], 865, (.int (49) 864)), ([65, 84, 69, 81, 85, 65, 76], 867, (.int (50) 866)), ([82, 65, 82, 82, 79, 87], 869, (.int (51) 868)), ([69, 76, 76, 73, 80, 83, 73, 83], 871, (.int (52) 870)), ([67, 79, 76, 79, 78, 69, 81, 85, 65, 76], 873, (.int (53) 872)), ([69, 88, 67, 76, 65, 77, 65, 84, 73, 79, 78], 875, (.int (54) 874)), ([78, 84, 95, 79, 70, 70, 83, 69, 84], 877, (.int (256) 876)), ([69, 88, 65, 67, 84, 95, 84, 79, 75, 69, 78, 95, 84, 89, 80, 69, 83], 974, (.ref 166)), ([73, 83, 84, 69, 82, 77, 73, 78, 65, 76], 981, (.ref 175)), ([73, 83, 78, 79, 78, 84, 69, 82, 77, 73, 78, 65, 76], 988, (.ref 182)), ([73, 83, 69, 79, 70], 995, (.ref 189)), ([95, 108, 97, 119, 95, 115, 105, 103, 110], 1006, (.ref 196)), ([95, 108, 97, 119, 95, 104, 101, 108, 100], 1013, (.ref 203)), ([95, 108, 97, 119, 95, 109, 97, 105, 108], 1023, (.ref 210)), ([95, 108, 97, 119, 95, 112, 108, 97, 99, 101, 115], 1029, (.ref 215)), ([95, 108, 97, 119, 95, 119, 111, 114, 116, 104], 1040, (.ref 222)), ([108, 97, 119], 1046, (.ref 227))]
noncomputable def tabN : Nat := 89
noncomputable def lookM (c : List Nat) : List (List Nat × Nat × Value) → Option Value
  | [] => none
  | e :: r => bif e.1 == c then some e.2.2 else lookM c r
noncomputable def mgOf (P : Params) (x : Str) : Option Value := lookM x.cps.toList tabM
noncomputable def tabE (P : Params) (l : List (List Nat × Nat × Value)) : List DictEntry := l.map fun e => ⟨PyData.keyHash P ⟨e.1.toArray⟩, .str ⟨e.1.toArray⟩ e.2.1, e.2.2⟩
theorem o138_tab (P : Params) : (o138 P).data = .dict (tabE P tabM).toArray tabN := by kernel_rfl
theorem boot_ord : bootBuiltins "ord" = some (.builtin "ord") := by kernel_rfl
theorem boot_chr : bootBuiltins "chr" = some (.builtin "chr") := by kernel_rfl
theorem boot_len : bootBuiltins "len" = some (.builtin "len") := by kernel_rfl
theorem boot_abs : bootBuiltins "abs" = some (.builtin "abs") := by kernel_rfl
theorem find_tab (P : Params) (x : Str) : ∀ l : List (List Nat × Nat × Value), nsFind (tabE P l).toArray x = lookM x.cps.toList l
  | [] => by simp [nsFind, findBy, tabE, lookM]
  | e :: l => by
    have ih := find_tab P x l
    simp only [nsFind, findBy, tabE, List.find?_toArray, List.map_cons, List.find?_cons] at ih ⊢
    rw [lookM]
    have hk : (Value.str ⟨e.1.toArray⟩ e.2.1).isStr x = (e.1 == x.cps.toList) := by
      show ((⟨e.1.toArray⟩ : Str) == x) = _
      obtain ⟨⟨c⟩⟩ := x
      by_cases h : e.1 = c
      · subst h; simp
      · have h2 : ¬ (⟨e.1.toArray⟩ : Str) = ⟨⟨c⟩⟩ := fun q => h (by injection q with q; injection q)
        rw [beq_eq_false_iff_ne.mpr h2, beq_eq_false_iff_ne.mpr h]
    rw [hk]
    cases (e.1 == x.cps.toList) with
    | true => rfl
    | false => exact ih
noncomputable abbrev CC (w : World) : Cfg := ⟨pg, w, KK w.params, mgOf w.params⟩
set_option maxRecDepth 100000
section
variable {w : World} {n : Nat} {env : Env} {ρ : Env1}
-- leaves
theorem vl {x : Str} {pos : Pos} (p : PV) (hv : ρ x = some (.val p) := by kernel_rfl) (hl : env.kindOf x = some .local := by kernel_rfl) (hk : env.scope.kind = .function := by kernel_rfl)
    (hd : (x == ("__debug__" : Str)) = false := by kernel_rfl) : Ev (CC w) n env ρ (.Name x pos) p := ev_local hv hl hk hd
theorem vc {x : Str} {pos : Pos} (p : PV) (hv : ρ x = some (.val p) := by kernel_rfl) (hl : env.kindOf x = some .cell := by kernel_rfl) (hk : env.scope.kind = .function := by kernel_rfl)
    (hd : (x == ("__debug__" : Str)) = false := by kernel_rfl) : Ev (CC w) n env ρ (.Name x pos) p := ev_cell hv hl hk hd
theorem vgr {x : Str} {pos : Pos} (a : Addr) (hv : mgOf w.params x = some (.ref a) := by kernel_rfl) (hl : env.kindOf x = some .globalImplicit := by kernel_rfl) (hk : env.scope.kind = .function := by kernel_rfl)
    (hg : env.globals = mainGlobals := by kernel_rfl) (hd : (x == ("__debug__" : Str)) = false := by kernel_rfl) : Ev (CC w) n env ρ (.Name x pos) (.raw (.ref a)) := ev_glob (C := CC w) hv rfl hl hk hg hd
theorem vgi {x : Str} {pos : Pos} (i : Int) (t : Tok) (hv : mgOf w.params x = some (.int i t) := by kernel_rfl) (hl : env.kindOf x = some .globalImplicit := by kernel_rfl) (hk : env.scope.kind = .function := by kernel_rfl)
    (hg : env.globals = mainGlobals := by kernel_rfl) (hd : (x == ("__debug__" : Str)) = false := by kernel_rfl) : Ev (CC w) n env ρ (.Name x pos) (.int i) := ev_glob (C := CC w) hv ⟨t, rfl⟩ hl hk hg hd
theorem vgs {x : Str} {pos : Pos} (i : Str) (t : Tok) (hv : mgOf w.params x = some (.str i t) := by kernel_rfl) (hl : env.kindOf x = some .globalImplicit := by kernel_rfl) (hk : env.scope.kind = .function := by kernel_rfl)
    (hg : env.globals = mainGlobals := by kernel_rfl) (hd : (x == ("__debug__" : Str)) = false := by kernel_rfl) : Ev (CC w) n env ρ (.Name x pos) (.str i) := ev_glob (C := CC w) hv ⟨t, rfl⟩ hl hk hg hd
/-- a call of a built-in of one value -/
theorem vb {x : Str} {px pos : Pos} {e : Expr} {p r : PV} (id : String) (h : Ev (CC w) n env ρ e p) (o : Op1 (CC w) n id p r) (hm : mgOf w.params x = none := by kernel_rfl) (hv : bootBuiltins x = some (.builtin id) := by first | with_reducible exact boot_ord | with_reducible exact boot_len | with_reducible exact boot_chr | with_reducible exact boot_abs) (hn : x ≠ "__name__" := by decide)
    (hl : env.kindOf x = some .globalImplicit := by kernel_rfl) (hk : env.scope.kind = .function := by kernel_rfl) (hg : env.globals = mainGlobals := by kernel_rfl) (hb : env.builtins = builtinsNs := by kernel_rfl) (hd : (x == ("__debug__" : Str)) = false := by kernel_rfl)
    (hc : eval (.Call (.Name x px) [e] [] pos) env = (do callWith pos (← eval (.Name x px) env) [] (backTo pos (starEach [e] env)) (backToKw pos (keywordEach [] env))) := by rfl)
    (he : starEach [e] env = [(false, eval e env)] := by rfl) : Ev (CC w) n env ρ (.Call (.Name x px) [e] [] pos) r := ev_b1 (C := CC w) hm hv h o hn hl hk hg hb hd hc he
theorem vlen {xs : List PV} {e : Expr} {px pos : Pos} (h : Ev (CC w) n env ρ e (.list xs)) (hsz : xs.length < 2 ^ 62) (hl : env.kindOf "len" = some .globalImplicit := by kernel_rfl) (hk : env.scope.kind = .function := by kernel_rfl) (hg : env.globals = mainGlobals := by kernel_rfl) (hb : env.builtins = builtinsNs := by kernel_rfl)
    (hc : eval (.Call (.Name "len" px) [e] [] pos) env = (do callWith pos (← eval (.Name "len" px) env) [] (backTo pos (starEach [e] env)) (backToKw pos (keywordEach [] env))) := by rfl)
    (he : starEach [e] env = [(false, eval e env)] := by rfl) : Ev (CC w) n env ρ (.Call (.Name "len" px) [e] [] pos) (.int xs.length) :=
  vb "len" h (b_len hsz) (by kernel_rfl) boot_len (by decide) hl hk hg hb (by kernel_rfl) hc he
end
section
variable {w : World} {n : Nat}
-- the small functions
theorem f_c11 {x : Str} : Fn (CC w) (n + 1) 92 [.str x] (.bool (x == " ")) :=
  fn_def1 (o := o71 w.params) (name := "in_table_c11") (params := fnP (st 11)) (body := fnB (st 11)) (scope := fnS (st 11)) (cd := .ref 91) (doc := .none) (x := "code") (by kernel_rfl) rfl (by kernel_rfl) (fun v => by kernel_rfl) (.inl (by kernel_rfl))
    (fun L => exr_ret (ev_cmp (vl (.str x)) ev_str cp_eqs (by kernel_rfl))) (by kernel_rfl) (by kernel_rfl) (by kernel_rfl)
theorem f_term {i : Int} : Fn (CC w) (n + 1) 175 [.int i] (.bool (decide (i < 256))) :=
  fn_def1 (o := o143 w.params) (name := "ISTERMINAL") (params := fnP (st 73)) (body := fnB (st 73)) (scope := fnS (st 73)) (cd := .ref 174) (doc := .none) (x := "x") (by kernel_rfl) rfl (by kernel_rfl) (fun v => by kernel_rfl) (.inl (by kernel_rfl))
    (fun L => exr_ret (ev_cmp (vl (.int i)) (vgi 256 876) cp_lt (by kernel_rfl))) (by kernel_rfl) (by kernel_rfl) (by kernel_rfl)
theorem f_nonterm {i : Int} : Fn (CC w) (n + 1) 182 [.int i] (.bool (decide (256 ≤ i))) :=
  fn_def1 (o := o147 w.params) (name := "ISNONTERMINAL") (params := fnP (st 74)) (body := fnB (st 74)) (scope := fnS (st 74)) (cd := .ref 181) (doc := .none) (x := "x") (by kernel_rfl) rfl (by kernel_rfl) (fun v => by kernel_rfl) (.inl (by kernel_rfl))
    (fun L => exr_ret (ev_cmp (vl (.int i)) (vgi 256 876) cp_ge (by kernel_rfl))) (by kernel_rfl) (by kernel_rfl) (by kernel_rfl)
theorem f_eof {i : Int} : Fn (CC w) (n + 1) 189 [.int i] (.bool (i == 0)) :=
  fn_def1 (o := o151 w.params) (name := "ISEOF") (params := fnP (st 75)) (body := fnB (st 75)) (scope := fnS (st 75)) (cd := .ref 188) (doc := .none) (x := "x") (by kernel_rfl) rfl (by kernel_rfl) (fun v => by kernel_rfl) (.inl (by kernel_rfl))
    (fun L => exr_ret (ev_cmp (vl (.int i)) (vgi 0 778) cp_eq (by kernel_rfl))) (by kernel_rfl) (by kernel_rfl) (by kernel_rfl)
end
-- the sets
noncomputable def setEs (o : Obj) : List (Int × Value) := match o.data with
  | .set es _ _ => es.toList
  | _ => []
noncomputable def intEnts (l : List (Int × Value)) : Bool := l.all fun e => match e.2 with
  | .int i _ => e.1 == hashInt i
  | _ => false
noncomputable def setS (o : Obj) (k : Int) : Bool := (setEs o).any fun e => Value.isInt k e.2
noncomputable def setOk (o : Obj) : Bool := match o with
  | ⟨c, d, .set es _ t, sl⟩ => (match c with | .type "set" => true | _ => false) && d.isNone && sl.size == 0 && intEnts es.toList && t.fits es.size
  | _ => false
theorem set_of {o : Obj} {m : Nat} {prog : Program} {w : World} (h : setOk o = true) (hm : (setEs o).length = m) : o.SetObjOf (intKind prog w) (setS o) m := by
  obtain ⟨c, d, dt, sl⟩ := o
  cases dt with
  | set es ep t =>
    simp only [setOk, Bool.and_eq_true, Option.isNone_iff_eq_none, beq_iff_eq] at h
    obtain ⟨⟨⟨⟨h1, rfl⟩, h3⟩, h4⟩, h5⟩ := h
    have hc : c = .type "set" := by
      split at h1
      · rfl
      · cases h1
    subst hc
    obtain rfl : sl = #[] := Array.eq_empty_of_size_eq_zero h3
    refine ⟨⟨rfl, rfl, rfl⟩, es, ep, t, rfl, fun e he => ?_, fun k => List.any_eq_true, ?_, h5⟩
    · have := List.all_eq_true.mp h4 e he
      obtain ⟨hh, v⟩ := e
      cases v <;> simp at this
      rename_i i t
      exact ⟨⟨i, by simp [intKind, Value.isInt], this⟩, rfl⟩
    · simpa [setEs] using hm
  | _ => simp [setOk] at h
section
variable {w : World} {n : Nat} {env : Env} {ρ ρ' : Env1} {W : Str → Prop}
theorem tr_or {C : Cfg} {x : Expr} {rest : List Expr} {pos : Pos} {a b : Bool} (h : Tr C n env ρ x a) (h2 : Tr C n env ρ (.BoolOp .Or rest pos) b) : Tr C n env ρ (.BoolOp .Or (x :: rest) pos) (a || b) := by
  cases a with
  | true => exact tr_or_true h
  | false => exact tr_or_false h h2
theorem ev_or {C : Cfg} {x y : Expr} {rest : List Expr} {pos : Pos} {a b : Bool} (h : Ev C n env ρ x (.bool a)) (h2 : Ev C n env ρ (.BoolOp .Or (y :: rest) pos) (.bool b)) : Ev C n env ρ (.BoolOp .Or (x :: y :: rest) pos) (.bool (a || b)) := by
  cases a with
  | true => exact ev_or_true h
  | false => exact ev_or_false h h2
/-- a test that returns, and what comes else -/
theorem exr_ifret {C : Cfg} {t e : Expr} {pos p2 : Pos} {rest : List Stmt} {c : Bool} {p q : PV} (h : Tr C n env ρ t c) (h1 : c = true → Ev C n env ρ e p) (h2 : c = false → ExR C n env ρ rest q) :
    ExR C n env ρ (.If t [.Return (some e) p2] [] pos :: rest) (if c then p else q) := by
  cases c with
  | true => exact exr_if_true h (exr_ret (h1 rfl))
  | false => exact exr_step (ex_if h (fun e => nomatch e) fun _ => ex_nil) (h2 rfl)
theorem ExR.eq {C : Cfg} {ss : List Stmt} {p q : PV} (h : ExR C n env ρ ss p) (e : p = q) : ExR C n env ρ ss q := e ▸ h
theorem Ev.eq {C : Cfg} {x : Expr} {p q : PV} (h : Ev C n env ρ x p) (e : p = q) : Ev C n env ρ x q := e ▸ h
noncomputable def isFnAt (K : Frag) (a : Addr) : Bool := match K.lookup a with
  | some ⟨_, _, .func _, _⟩ => true
  | _ => false
theorem fnAt {K : Frag} {a : Addr} (h : isFnAt K a = true) : ∃ o fd, K.lookup a = some o ∧ o.data = .func fd := by
  unfold isFnAt at h
  split at h
  · rename_i x
    exact ⟨_, _, x, rfl⟩
  · cases h
theorem vcall1 {fe e : Expr} {pos : Pos} {p r : PV} (a : Addr) (hf : Ev (CC w) n env ρ fe (.raw (.ref a))) (he : Ev (CC w) n env ρ e p) (g : Fn (CC w) n a [p] r) (hK : isFnAt (KK w.params) a = true := by kernel_rfl)
    (hs : starEach [e] env = [(false, eval e env)] := by rfl)
    (hc : eval (.Call fe [e] [] pos) env = (do callWith pos (← eval fe env) [] (backTo pos (starEach [e] env)) (backToKw pos (keywordEach [] env))) := by rfl) : Ev (CC w) n env ρ (.Call fe [e] [] pos) r :=
  let ⟨_, _, h1, h2⟩ := fnAt hK; ev_call (C := CC w) hf h1 h2 (evs_cons he evs_nil hs) g hc
theorem vcall2 {fe e e' : Expr} {pos : Pos} {p p' r : PV} (a : Addr) (hf : Ev (CC w) n env ρ fe (.raw (.ref a))) (he : Ev (CC w) n env ρ e p) (he' : Ev (CC w) n env ρ e' p') (g : Fn (CC w) n a [p, p'] r) (hK : isFnAt (KK w.params) a = true := by kernel_rfl)
    (hs : starEach [e, e'] env = (false, eval e env) :: starEach [e'] env := by rfl) (hs' : starEach [e'] env = [(false, eval e' env)] := by rfl)
    (hc : eval (.Call fe [e, e'] [] pos) env = (do callWith pos (← eval fe env) [] (backTo pos (starEach [e, e'] env)) (backToKw pos (keywordEach [] env))) := by rfl) : Ev (CC w) n env ρ (.Call fe [e, e'] [] pos) r :=
  let ⟨_, _, h1, h2⟩ := fnAt hK; ev_call (C := CC w) hf h1 h2 (evs_cons he (evs_cons he' evs_nil hs') hs) g hc
end
section
variable {w : World} {n : Nat}
noncomputable abbrev ch (a : Nat) : Str := ⟨#[a]⟩
theorem f_b1 {a : Nat} : Fn (CC w) (n + 1) 85 [.str (ch a)] (.bool (setS (o59 w.params) a)) :=
  fn_def1 (o := o67 w.params) (name := "in_table_b1") (params := fnP (st 10)) (body := fnB (st 10)) (scope := fnS (st 10)) (cd := .ref 84) (doc := .none) (x := "code") (by kernel_rfl) rfl (by kernel_rfl) (fun v => by kernel_rfl) (.inl (by kernel_rfl))
    (fun L => exr_ret (ev_cmp (vb "ord" (vl (.str (ch a))) b_ord) (vgr 75) (cp_inset (C := CC w) (m := 27) (by kernel_rfl) (set_of (by kernel_rfl) (by kernel_rfl)) (by decide)) (by kernel_rfl))) (by kernel_rfl) (by kernel_rfl) (by kernel_rfl)
theorem f_c6 {a : Nat} : Fn (CC w) (n + 1) 111 [.str (ch a)] (.bool (setS (o79 w.params) a)) :=
  fn_def1 (o := o85 w.params) (name := "in_table_c6") (params := fnP (st 14)) (body := fnB (st 14)) (scope := fnS (st 14)) (cd := .ref 110) (doc := .none) (x := "code") (by kernel_rfl) rfl (by kernel_rfl) (fun v => by kernel_rfl) (.inl (by kernel_rfl))
    (fun L => exr_ret (ev_cmp (vb "ord" (vl (.str (ch a))) b_ord) (vgr 101) (cp_inset (C := CC w) (m := 5) (by kernel_rfl) (set_of (by kernel_rfl) (by kernel_rfl)) (by decide)) (by kernel_rfl))) (by kernel_rfl) (by kernel_rfl) (by kernel_rfl)
theorem f_c7 {a : Nat} : Fn (CC w) (n + 1) 123 [.str (ch a)] (.bool (setS (o89 w.params) a)) :=
  fn_def1 (o := o95 w.params) (name := "in_table_c7") (params := fnP (st 16)) (body := fnB (st 16)) (scope := fnS (st 16)) (cd := .ref 122) (doc := .none) (x := "code") (by kernel_rfl) rfl (by kernel_rfl) (fun v => by kernel_rfl) (.inl (by kernel_rfl))
    (fun L => exr_ret (ev_cmp (vb "ord" (vl (.str (ch a))) b_ord) (vgr 113) (cp_inset (C := CC w) (m := 12) (by kernel_rfl) (set_of (by kernel_rfl) (by kernel_rfl)) (by decide)) (by kernel_rfl))) (by kernel_rfl) (by kernel_rfl) (by kernel_rfl)
theorem f_c8 {a : Nat} : Fn (CC w) (n + 1) 147 [.str (ch a)] (.bool (setS (o108 w.params) a)) :=
  fn_def1 (o := o116 w.params) (name := "in_table_c8") (params := fnP (st 18)) (body := fnB (st 18)) (scope := fnS (st 18)) (cd := .ref 146) (doc := .none) (x := "code") (by kernel_rfl) rfl (by kernel_rfl) (fun v => by kernel_rfl) (.inl (by kernel_rfl))
    (fun L => exr_ret (ev_cmp (vb "ord" (vl (.str (ch a))) b_ord) (vgr 137) (cp_inset (C := CC w) (m := 15) (by kernel_rfl) (set_of (by kernel_rfl) (by kernel_rfl)) (by decide)) (by kernel_rfl))) (by kernel_rfl) (by kernel_rfl) (by kernel_rfl)
theorem f_c9 {a : Nat} : Fn (CC w) (n + 1) 165 [.str (ch a)] (.bool (setS (o124 w.params) a)) :=
  fn_def1 (o := o132 w.params) (name := "in_table_c9") (params := fnP (st 20)) (body := fnB (st 20)) (scope := fnS (st 20)) (cd := .ref 164) (doc := .none) (x := "code") (by kernel_rfl) rfl (by kernel_rfl) (fun v => by kernel_rfl) (.inl (by kernel_rfl))
    (fun L => exr_ret (ev_cmp (vb "ord" (vl (.str (ch a))) b_ord) (vgr 155) (cp_inset (C := CC w) (m := 97) (by kernel_rfl) (set_of (by kernel_rfl) (by kernel_rfl)) (by decide)) (by kernel_rfl))) (by kernel_rfl) (by kernel_rfl) (by kernel_rfl)
noncomputable def heldC4 (a : Int) : Bool := decide (64976 ≤ a) && (decide (a < 65008) || ([65534, 65535] : List Int).any (· == Builtin.bitAnd a 65535))
theorem f_c4 {a : Nat} : Fn (CC w) (n + 1) 99 [.str (ch a)] (.bool (heldC4 a)) :=
  fn_def1 (o := o75 w.params) (name := "in_table_c4") (params := fnP (st 12)) (body := fnB (st 12)) (scope := fnS (st 12)) (cd := .ref 98) (doc := .none) (x := "code") (by kernel_rfl) rfl (by kernel_rfl) (fun v => by kernel_rfl) (.inl (by kernel_rfl))
    (fun L => by
      refine exr_step (ex_assign (p := .int a) (vb "ord" (vl (.str (ch a))) b_ord) (.inl (by kernel_rfl)) trivial (by kernel_rfl) (by kernel_rfl)) ?_
      refine ExR.eq (exr_ifret (tr_cmp (vl (.int a)) ev_int cp_lt (by kernel_rfl)) (fun _ => ev_bool) fun _ => exr_ifret (tr_cmp (vl (.int a)) ev_int cp_lt (by kernel_rfl)) (fun _ => ev_bool) fun _ =>
        exr_ret (ev_cmp (ev_bin (vb "ord" (vl (.str (ch a))) b_ord) ev_int op_and) (ev_tup (ps := ([65534, 65535] : List Int).map PV.int) (evs_cons ev_int (evs_cons ev_int evs_nil))) (cp_intup (ns := [65534, 65535])) (by kernel_rfl))) ?_
      unfold heldC4
      by_cases h1 : (a : Int) < 64976
      · simp [h1, Int.not_le.mpr h1]
      · by_cases h2 : (a : Int) < 65008
        · simp [h1, h2, Int.not_lt.mp h1]
        · simp [h1, h2, Int.not_lt.mp h1]) (by kernel_rfl) (by kernel_rfl) (by kernel_rfl)
end
end Mine
namespace Mine
open PySem PySem.Calls PyProof.Rows PySem.W
set_option maxRecDepth 100000
section
variable {w : World} {n : Nat} {env : Env} {ρ ρ' : Env1}
-- lists of written ints
noncomputable def elts : Expr → List Expr
  | .List es _ => es
  | _ => []
noncomputable def isList : Expr → Bool
  | .List _ _ => true
  | _ => false
noncomputable def ci : Expr → Int
  | .Constant (.int i) _ _ => i
  | _ => 0
noncomputable def isCi : Expr → Bool
  | .Constant (.int _) _ _ => true
  | _ => false
theorem evs_ints {C : Cfg} : ∀ (es : List Expr), es.all isCi = true → Evs C n env ρ es (es.map fun e => .int (ci e))
  | [], _ => evs_nil
  | e :: es, h => by
    rw [List.all_cons, Bool.and_eq_true] at h
    have ih := evs_ints (C := C) es h.2
    cases e with
    | Constant c k pos =>
      cases c with
      | int i => exact evs_cons ev_int ih
      | _ => exact nomatch h.1
    | _ => exact nomatch h.1
theorem evs_lists {C : Cfg} : ∀ (es : List Expr), es.all (fun e => isList e && (elts e).all isCi && decide ((elts e).length ≤ 100)) = true → Evs C n env ρ es (es.map fun e => .list ((elts e).map fun c => .int (ci c)))
  | [], _ => evs_nil
  | e :: es, h => by
    rw [List.all_cons, Bool.and_eq_true, Bool.and_eq_true, Bool.and_eq_true] at h
    have ih := evs_lists (C := C) es h.2
    cases e with
    | List es pos => exact evs_cons (ev_list (evs_ints es h.1.1.2) (by
        have := of_decide_eq_true h.1.2
        rw [List.length_map]
        have h2 : (100 : Nat) ≤ sizeLine := by decide
        exact Nat.le_trans this h2)) ih
    | _ => exact nomatch h.1.1.1
noncomputable def heldN (P : Params) (a : Nat) : Bool := (setS (o59 P) a || ((ch a == " ") || (heldC4 a || setS (o79 P) a))) || (setS (o89 P) a || (setS (o108 P) a || setS (o124 P) a))
theorem f_held {a : Nat} : Fn (CC w) (n + 2) 203 [.str (ch a)] (.bool (heldN w.params a)) :=
  fn_def1 (o := o159 w.params) (name := "_law_held") (params := fnP (st 78)) (body := fnB (st 78)) (scope := fnS (st 78)) (cd := .ref 202) (doc := .none) (x := "sign") (by kernel_rfl) rfl (by kernel_rfl) (fun v => by kernel_rfl) (.inl (by kernel_rfl))
    (fun L => by
      refine ExR.eq (exr_ifret (tr_or (tr_plain (vcall1 85 (vgr 85) (vl (.str (ch a))) f_b1)) (tr_or (tr_plain (vcall1 92 (vgr 92) (vl (.str (ch a))) f_c11)) (tr_or (tr_plain (vcall1 99 (vgr 99) (vl (.str (ch a))) f_c4)) (tr_or (tr_plain (vcall1 111 (vgr 111) (vl (.str (ch a))) f_c6)) tr_or_nil))))
        (fun _ => ev_bool) fun _ => exr_ret (ev_or (vcall1 123 (vgr 123) (vl (.str (ch a))) f_c7) (ev_or (vcall1 147 (vgr 147) (vl (.str (ch a))) f_c8) (ev_or_one (vcall1 165 (vgr 165) (vl (.str (ch a))) f_c9))))) ?_
      unfold heldN
      rw [Bool.or_false]
      cases (setS (o59 w.params) a || ((ch a == " ") || (heldC4 a || setS (o79 w.params) a))) <;> rfl) (by kernel_rfl) (by kernel_rfl) (by kernel_rfl)
noncomputable def stE : Expr := match fnB (st 77) with
  | .Assign _ e _ :: _ => e
  | _ => .Constant .none 0 ⟨0, 0, 0, 0⟩
noncomputable def stL : List (List Nat) := (elts stE).map fun e => (elts e).map fun c => (ci c).toNat
noncomputable def stock (m : Nat) : List Nat := stL.getD (m % 4) []
noncomputable def codeOf (m : Nat) : Nat := (stock m).getD (m / 4 % (stock m).length) 0
theorem stE_eq : (elts stE).map (fun e => PV.list ((elts e).map fun c => .int (ci c))) = stL.map fun l => .list (l.map fun (c : Nat) => PV.int c) := by kernel_rfl
noncomputable def posE : Expr → Pos
  | .List _ p => p
  | _ => ⟨0, 0, 0, 0⟩
theorem stE_list : stE = .List (elts stE) (posE stE) := by kernel_rfl
theorem stE_len : (elts stE).length = 4 := by kernel_rfl
theorem ev_stE {C : Cfg} : Ev C n env ρ stE (.list (stL.map fun l => .list (l.map fun (c : Nat) => PV.int c))) := by
  have h : Ev C n env ρ (.List (elts stE) (posE stE)) (.list ((elts stE).map (fun e => PV.list ((elts e).map fun c => .int (ci c))))) := ev_list (evs_lists _ (by kernel_rfl)) (by rw [List.length_map, stE_len]; decide)
  exact Eq.mpr (congrArg (fun e => Ev C n env ρ e _) stE_list) (h.eq (congrArg PV.list stE_eq))
theorem stL_len : stL.length = 4 := by kernel_rfl
theorem stocks_ok : (stL.all fun l => decide (0 < l.length) && decide (l.length < 100) && l.all fun c => decide (c ≤ 0x10FFFF)) = true := by kernel_rfl
theorem stock_get (m : Nat) : stL[m % 4]? = some (stock m) := by unfold stock; simp [List.getD, stL_len, Nat.mod_lt]
theorem stock_ok (m : Nat) : 0 < (stock m).length ∧ (stock m).length < 100 ∧ ∀ c ∈ stock m, c ≤ 0x10FFFF := by
  have := List.all_eq_true.mp stocks_ok (stock m) (List.mem_of_getElem? (stock_get m))
  simpa [and_assoc] using this
theorem code_mem (m : Nat) : codeOf m ∈ stock m := by
  have h := Nat.mod_lt (m / 4) (stock_ok m).1
  have e : codeOf m = (stock m)[m / 4 % (stock m).length] := by unfold codeOf; simp [List.getD, h]
  rw [e]
  exact List.getElem_mem h
theorem code_ok {m : Nat} (h : m < 480) : codeOf m ≤ 0x10FFFF ∧ m / 4 % (stock m).length < (stock m).length ∧ (stock m).length < 100 :=
  ⟨(stock_ok m).2.2 _ (code_mem m), Nat.mod_lt _ (stock_ok m).1, (stock_ok m).2.1⟩
theorem f_sign {m : Nat} (hm : m < 480) : Fn (CC w) (n + 1) 196 [.int m] (.str (ch (codeOf m))) := by
  obtain ⟨h1, h2, h3⟩ := code_ok hm
  have e1 : (m : Int).fmod 4 = ((m % 4 : Nat) : Int) := by rw [Int.fmod_eq_emod_of_nonneg _ (by decide)]; omega
  have e2 : ((m : Int).fdiv 4).fmod (stock m).length = ((m / 4 % (stock m).length : Nat) : Int) := by
    rw [Int.fdiv_eq_ediv_of_nonneg _ (by decide), Int.fmod_eq_emod_of_nonneg _ (by omega)]
    push_cast
    rfl
  refine fn_def1 (o := o155 w.params) (name := "_law_sign") (params := fnP (st 77)) (body := fnB (st 77)) (scope := fnS (st 77)) (cd := .ref 195) (doc := .none) (x := "x") (by kernel_rfl) rfl (by kernel_rfl) (fun v => by kernel_rfl) (.inl (by kernel_rfl))
    (fun L => ?_) (by kernel_rfl) (by kernel_rfl) (by kernel_rfl)
  have hl : stL.length = 4 := by kernel_rfl
  have hs : (stL.map fun l => PV.list (l.map fun (c : Nat) => PV.int c))[m % 4]? = some (.list ((stock m).map fun (c : Nat) => PV.int c)) := by
    rw [List.getElem?_map]
    have : stL[m % 4]? = some (stock m) := by unfold stock; simp [List.getD, hl, Nat.mod_lt]
    rw [this]
    rfl
  have hc : ((stock m).map fun (c : Nat) => PV.int c)[m / 4 % (stock m).length]? = some (.int (codeOf m)) := by
    rw [List.getElem?_map]
    have : (stock m)[m / 4 % (stock m).length]? = some (codeOf m) := by unfold codeOf; simp [List.getD, h2]
    rw [this]
    rfl
  have hb : fnB (st 77) = .Assign [.Name "stocks" ⟨98, 4, 98, 10⟩] stE ⟨98, 4, 98, 452⟩ :: (fnB (st 77)).drop 1 := by kernel_rfl
  rw [hb]
  refine exr_step (ex_assign ev_stE (.inl (by kernel_rfl)) trivial (by kernel_rfl) (by kernel_rfl)) ?_
  refine exr_step (ex_assign (ev_item (vl (.list (stL.map fun l => PV.list (l.map fun (c : Nat) => PV.int c)))) (ev_bin (vl (.int m)) ev_int (op_mod (by decide))) (by rw [e1]; omega) (by rw [e1, Int.toNat_natCast]; exact hs) (by rw [e1]; omega)) (.inl (by kernel_rfl)) trivial (by kernel_rfl) (by kernel_rfl)) ?_
  refine exr_ret (vb "chr" (ev_item (vl (.list ((stock m).map fun (c : Nat) => PV.int c))) (ev_bin (ev_bin (vl (.int m)) ev_int (op_fdiv (by decide) (by kernel_rfl))) (vlen (vl (.list ((stock m).map fun (c : Nat) => PV.int c))) (by rw [List.length_map]; omega)) (op_mod (by rw [List.length_map]; omega))) ?_ ?_ ?_) (b_chr h1))
  · rw [List.length_map, e2]; omega
  · rw [List.length_map, e2, Int.toNat_natCast]; exact hc
  · rw [List.length_map, e2]; omega
end
end Mine
namespace Mine
open PySem PySem.Calls PyProof.Rows PySem.W
noncomputable def fA (text : Array Nat) (d : Nat) : Option (Nat × Nat) := (findA text text.size (text.size + 1 - d) d).map fun a => (a, a + 1)
noncomputable def fC (text : Array Nat) (d : Nat) : Option (Nat × Nat) := (findC text text.size (text.size + 1 - d) d).map fun a => (a, a + wideC text text.size a)
theorem findA_some {text : Array Nat} {lim : Nat} : ∀ {n s a : Nat}, findA text lim n s = some a → s ≤ a ∧ a < lim ∧ holdsA text a = true ∧ ∀ i, s ≤ i → i < a → holdsA text i = false
  | 0, _, _, h => by cases h
  | n + 1, s, a, h => by
    unfold findA at h
    by_cases h1 : s ≥ lim
    · rw [if_pos h1] at h; cases h
    · rw [if_neg h1] at h
      by_cases h2 : holdsA text s = true
      · rw [if_pos h2] at h
        cases h
        exact ⟨Nat.le_refl _, by omega, h2, fun i h3 h4 => by omega⟩
      · rw [if_neg h2] at h
        obtain ⟨q1, q2, q3, q4⟩ := findA_some h
        exact ⟨by omega, q2, q3, fun i h3 h4 => by
          by_cases e : i = s
          · subst e; simpa using h2
          · exact q4 i (by omega) h4⟩
theorem findA_none {text : Array Nat} {lim : Nat} : ∀ {n s : Nat}, lim ≤ n + s → findA text lim n s = none → ∀ i, s ≤ i → i < lim → holdsA text i = false
  | 0, s, hl, h, i, h1, h2 => by omega
  | n + 1, s, hl, h, i, h1, h2 => by
    unfold findA at h
    rw [if_neg (by omega)] at h
    by_cases h3 : holdsA text s = true
    · rw [if_pos h3] at h; cases h
    · rw [if_neg h3] at h
      by_cases e : i = s
      · subst e; simpa using h3
      · exact findA_none (by omega) h i (by omega) h2
noncomputable def isEnd (c : Nat) : Bool := c == 10 || c == 13
theorem findC_some2 {text : Array Nat} {lim : Nat} : ∀ {n s a : Nat}, findC text lim n s = some a → s ≤ a ∧ a < lim ∧ isEnd (text.getD a 0) = true ∧ ∀ i, s ≤ i → i < a → isEnd (text.getD i 0) = false
  | 0, _, _, h => by cases h
  | n + 1, s, a, h => by
    unfold findC at h
    by_cases h1 : s ≥ lim
    · rw [if_pos h1] at h; cases h
    · rw [if_neg h1] at h
      by_cases h2 : (text.getD s 0 == 10 || text.getD s 0 == 13) = true
      · rw [if_pos h2] at h
        cases h
        exact ⟨Nat.le_refl _, by omega, h2, fun i h3 h4 => by omega⟩
      · rw [if_neg h2] at h
        obtain ⟨q1, q2, q3, q4⟩ := findC_some2 h
        exact ⟨by omega, q2, q3, fun i h3 h4 => by
          by_cases e : i = s
          · subst e; unfold isEnd; exact Bool.eq_false_iff.mpr h2
          · exact q4 i (by omega) h4⟩
theorem findC_none {text : Array Nat} {lim : Nat} : ∀ {n s : Nat}, lim ≤ n + s → findC text lim n s = none → ∀ i, s ≤ i → i < lim → isEnd (text.getD i 0) = false
  | 0, s, hl, h, i, h1, h2 => by omega
  | n + 1, s, hl, h, i, h1, h2 => by
    unfold findC at h
    rw [if_neg (by omega)] at h
    by_cases h3 : (text.getD s 0 == 10 || text.getD s 0 == 13) = true
    · rw [if_pos h3] at h; cases h
    · rw [if_neg h3] at h
      by_cases e : i = s
      · subst e; unfold isEnd; exact Bool.eq_false_iff.mpr h3
      · exact findC_none (by omega) h i (by omega) h2
theorem findsA {text : Array Nat} (hsz : text.size ≤ 1000) : Finds codeA text (fA text) := by
  refine ⟨fun d hd => ⟨_, ?_, searchA text d hd⟩, fun d a b hd h => ?_⟩
  · have : (2 : Nat) ^ 60 = 1152921504606846976 := by decide
    omega
  · unfold fA at h
    obtain ⟨a', h1, h2⟩ := Option.map_eq_some_iff.mp h
    cases h2
    obtain ⟨q1, q2, _⟩ := findA_some h1
    omega
theorem wide_le {text : Array Nat} {lim a : Nat} (h : a < lim) : a < a + wideC text lim a ∧ a + wideC text lim a ≤ lim := by
  unfold wideC
  split
  · rename_i q; omega
  · omega
theorem findsC {text : Array Nat} : Finds codeC text (fC text) := by
  refine ⟨fun d hd => ⟨21, by decide, searchC text d hd⟩, fun d a b hd h => ?_⟩
  unfold fC at h
  obtain ⟨a', h1, h2⟩ := Option.map_eq_some_iff.mp h
  cases h2
  obtain ⟨q1, q2, _⟩ := findC_some2 h1
  have := wide_le (text := text) q2
  omega

-- what the substitutions lay, on lists
noncomputable def catL (l : List (Array Nat)) : List Nat := l.flatMap (·.toList)
noncomputable def fixL : List Nat → List Nat
  | [] => []
  | 13 :: 10 :: r => 13 :: 10 :: fixL r
  | c :: r => if isEnd c = true then 13 :: 10 :: fixL r else c :: fixL r
noncomputable def quoteL : Bool → List Nat → List Nat
  | _, [] => []
  | b, c :: r => if (b && c == 46) = true then 46 :: 46 :: quoteL false r else c :: quoteL (c == 10) r
theorem fixL_off {c : Nat} {r : List Nat} (h : isEnd c = false) : fixL (c :: r) = c :: fixL r := by
  rw [fixL.eq_def]
  split
  · rename_i e; cases e
  · rename_i e; cases e; cases h
  · rename_i e; cases e; simp [h]
theorem fixL_two {r : List Nat} : fixL (13 :: 10 :: r) = 13 :: 10 :: fixL r := by rw [fixL]
theorem fixL_one {c : Nat} {r : List Nat} (h : isEnd c = true) (hn : ¬ (c = 13 ∧ ∃ r', r = 10 :: r')) : fixL (c :: r) = 13 :: 10 :: fixL r := by
  rw [fixL.eq_def]
  split
  · rename_i e; cases e
  · rename_i e; cases e; exact absurd ⟨rfl, _, rfl⟩ hn
  · rename_i e; cases e; simp [h]
theorem drop_getD {l : List Nat} {d : Nat} (h : d < l.length) : l.drop d = l.getD d 0 :: l.drop (d + 1) := by
  rw [List.drop_eq_getElem_cons h]
  simp [List.getD, h]
theorem arr_getD (t : Array Nat) (i : Nat) : t.getD i 0 = t.toList.getD i 0 := by simp [Array.getD_eq_getD_getElem?, List.getD]
theorem ext_list (t : Array Nat) (a b : Nat) : (t.extract a b).toList = (t.toList.drop a).take (b - a) := by simp
theorem take_drop_split {l : List Nat} {d a : Nat} (h : d ≤ a) : l.drop d = (l.drop d).take (a - d) ++ l.drop a := by
  have : l.drop a = (l.drop d).drop (a - d) := by rw [List.drop_drop]; congr 1; omega
  rw [this, List.take_append_drop]
theorem fixL_run {l : List Nat} : ∀ (k d a : Nat), a = d + k → a ≤ l.length → (∀ i, d ≤ i → i < a → isEnd (l.getD i 0) = false) → fixL (l.drop d) = (l.drop d).take (a - d) ++ fixL (l.drop a)
  | 0, d, a, h, ha, hn => by
    have : a = d := by omega
    subst this
    simp
  | k + 1, d, a, h, ha, hn => by
    rw [drop_getD (l := l) (d := d) (by omega), fixL_off (hn d (Nat.le_refl _) (by omega)), fixL_run k (d + 1) a (by omega) ha (fun i h1 h2 => hn i (by omega) h2), show a - d = (a - (d + 1)) + 1 by omega, List.take_succ_cons]
    rfl
theorem fix_pieces {text : Array Nat} : ∀ (n d : Nat), d ≤ text.size → text.size < n + d → catL (piecesF (fC text) text #[13, 10] n d) = fixL (text.toList.drop d)
  | 0, d, hd, hn => by omega
  | n + 1, d, hd, hn => by
    have hlen : text.toList.length = text.size := by simp
    rw [piecesF]
    cases hf : findC text text.size (text.size + 1 - d) d with
    | none =>
      have e : fC text d = none := by unfold fC; rw [hf]; rfl
      rw [e]
      have hno := findC_none (by omega) hf
      have key := fixL_run (l := text.toList) (text.size - d) d text.size (by omega) (by omega) fun i h1 h2 => by rw [← arr_getD]; exact hno i h1 h2
      rw [key]
      simp only
      have hz : text.toList.drop text.size = [] := by simp
      rw [hz, fixL]
      split
      · simp [catL]
      · rename_i q
        have : d = text.size := by omega
        subst this
        simp [catL]
    | some a =>
      obtain ⟨h1, h2, h3, h4⟩ := findC_some2 hf
      have e : fC text d = some (a, a + wideC text text.size a) := by unfold fC; rw [hf]; rfl
      rw [e]
      simp only
      obtain ⟨w1, w2⟩ := wide_le (text := text) h2
      have ih := fix_pieces n (a + wideC text text.size a) w2 (by omega)
      have key := fixL_run (l := text.toList) (a - d) d a (by omega) (by omega) fun i q1 q2 => by rw [← arr_getD]; exact h4 i q1 q2
      rw [key]
      have hp : catL (if d < a then [text.extract d a] else []) = (text.toList.drop d).take (a - d) := by
        split
        · simp [catL]
        · have : a - d = 0 := by omega
          simp [catL, this]
      have happ : ∀ x y : List (Array Nat), catL (x ++ y) = catL x ++ catL y := fun x y => by simp [catL]
      have hcons : ∀ (x : Array Nat) (y : List (Array Nat)), catL (x :: y) = x.toList ++ catL y := fun x y => by simp [catL]
      rw [happ, hp, hcons, ih]
      congr 1
      have hd0 := drop_getD (l := text.toList) (d := a) (by omega)
      rw [arr_getD] at h3
      unfold wideC
      by_cases hw : (text.getD a 0 == 13) = true ∧ a + 1 < text.size ∧ (text.getD (a + 1) 0 == 10) = true
      · rw [if_pos hw, hd0, drop_getD (l := text.toList) (d := a + 1) (by omega)]
        have e1 : text.toList.getD a 0 = 13 := by have := hw.1; rw [arr_getD] at this; simpa using this
        have e2 : text.toList.getD (a + 1) 0 = 10 := by have := hw.2.2; rw [arr_getD] at this; simpa using this
        rw [e1, e2, fixL_two]
        rfl
      · rw [if_neg hw, hd0, fixL_one h3 ?_]
        · rfl
        · rintro ⟨q1, r', q2⟩
          refine hw ⟨by rw [arr_getD, q1]; rfl, ?_⟩
          by_cases hl : a + 1 < text.size
          · refine ⟨hl, ?_⟩
            rw [drop_getD (l := text.toList) (d := a + 1) (by omega)] at q2
            rw [arr_getD, (List.cons.inj q2).1]
            rfl
          · rw [List.drop_of_length_le (by omega)] at q2
            cases q2
noncomputable def bol (l : List Nat) (d : Nat) : Bool := d == 0 || l.getD (d - 1) 0 == 10
theorem holdsA_eq (text : Array Nat) (d : Nat) : holdsA text d = (bol text.toList d && text.toList.getD d 0 == 46) := by
  unfold holdsA bol
  rw [arr_getD, arr_getD]
theorem quoteL_run {l : List Nat} : ∀ (k d a : Nat), a = d + k → a ≤ l.length → (∀ i, d ≤ i → i < a → (bol l i && l.getD i 0 == 46) = false) → quoteL (bol l d) (l.drop d) = (l.drop d).take (a - d) ++ quoteL (bol l a) (l.drop a)
  | 0, d, a, h, ha, hn => by
    have : a = d := by omega
    subst this
    simp
  | k + 1, d, a, h, ha, hn => by
    have e : bol l (d + 1) = (l.getD d 0 == 10) := by unfold bol; simp
    have hq : quoteL (bol l d) (l.getD d 0 :: l.drop (d + 1)) = l.getD d 0 :: quoteL (l.getD d 0 == 10) (l.drop (d + 1)) := by
      rw [quoteL, if_neg (by rw [hn d (Nat.le_refl _) (by omega)]; exact Bool.false_ne_true)]
    rw [drop_getD (l := l) (d := d) (by omega), hq, ← e, quoteL_run k (d + 1) a (by omega) ha (fun i h1 h2 => hn i (by omega) h2), show a - d = (a - (d + 1)) + 1 by omega, List.take_succ_cons]
    rfl
theorem quote_pieces {text : Array Nat} : ∀ (n d : Nat), d ≤ text.size → text.size < n + d → catL (piecesF (fA text) text #[46, 46] n d) = quoteL (bol text.toList d) (text.toList.drop d)
  | 0, d, hd, hn => by omega
  | n + 1, d, hd, hn => by
    have hlen : text.toList.length = text.size := by simp
    rw [piecesF]
    cases hf : findA text text.size (text.size + 1 - d) d with
    | none =>
      have e : fA text d = none := by unfold fA; rw [hf]; rfl
      rw [e]
      have hno := findA_none (by omega) hf
      have key := quoteL_run (l := text.toList) (text.size - d) d text.size (by omega) (by omega) fun i h1 h2 => by rw [← holdsA_eq]; exact hno i h1 h2
      rw [key]
      simp only
      have hz : text.toList.drop text.size = [] := by simp
      rw [hz, quoteL]
      split
      · simp [catL]
      · rename_i q
        have : d = text.size := by omega
        subst this
        simp [catL]
    | some a =>
      obtain ⟨h1, h2, h3, h4⟩ := findA_some hf
      have e : fA text d = some (a, a + 1) := by unfold fA; rw [hf]; rfl
      rw [e]
      simp only
      have ih := quote_pieces (text := text) n (a + 1) (by omega) (by omega)
      have key := quoteL_run (l := text.toList) (a - d) d a (by omega) (by omega) fun i q1 q2 => by rw [← holdsA_eq]; exact h4 i q1 q2
      rw [key]
      have hp : catL (if d < a then [text.extract d a] else []) = (text.toList.drop d).take (a - d) := by
        split
        · simp [catL]
        · have : a - d = 0 := by omega
          simp [catL, this]
      have happ : ∀ x y : List (Array Nat), catL (x ++ y) = catL x ++ catL y := fun x y => by simp [catL]
      have hcons : ∀ (x : Array Nat) (y : List (Array Nat)), catL (x :: y) = x.toList ++ catL y := fun x y => by simp [catL]
      rw [happ, hp, hcons, ih]
      congr 1
      rw [holdsA_eq] at h3
      have h5 : text.toList.getD a 0 = 46 := by
        have := (Bool.and_eq_true_iff.mp h3).2
        exact eq_of_beq this
      have hb : bol text.toList (a + 1) = false := by unfold bol; simp only [Nat.add_sub_cancel]; rw [h5]; simp
      rw [drop_getD (l := text.toList) (d := a) (by omega), hb, quoteL, if_pos h3]
      rfl
theorem join_list (l : List (Array Nat)) : Txt.join ⟨#[]⟩ (l.map Str.mk) = ⟨(catL l).toArray⟩ := by
  have key : ∀ (l : List (Array Nat)) (acc : Array Nat), ((l.map Str.mk).foldl (fun acc p => acc ++ (Str.mk #[]).cps ++ p.cps) acc) = acc ++ (catL l).toArray := by
    intro l
    induction l with
    | nil => intro acc; simp [catL]
    | cons a r ih => intro acc; rw [List.map_cons, List.foldl_cons, ih]; apply Array.toList_inj.mp; simp [catL]
  show Str.mk _ = _
  congr 1
  cases l with
  | nil => rfl
  | cons a r =>
    show ((r.map Str.mk).foldl (fun acc p => acc ++ (Str.mk #[]).cps ++ p.cps) a) = _
    rw [key]
    simp [catL]
theorem subF_fix (t : Array Nat) : subF (fC t) t #[13, 10] = ⟨(fixL t.toList).toArray⟩ := by
  unfold subF
  rw [join_list, fix_pieces _ _ (Nat.zero_le _) (by omega), List.drop_zero]
theorem subF_quote (t : Array Nat) : subF (fA t) t #[46, 46] = ⟨(quoteL true t.toList).toArray⟩ := by
  unfold subF
  rw [join_list, quote_pieces _ _ (Nat.zero_le _) (by omega), List.drop_zero]
  rfl
theorem subB_quote (t : Array Nat) : subB (fA t) t #[46, 46] = toB (quoteL true t.toList).toArray := by
  unfold subB
  rw [joined_eq]
  have key : ∀ (l : List (Array Nat)) (acc : Array UInt8), (l.map toB).foldl (· ++ ·) acc = acc ++ toB (catL l).toArray := by
    intro l
    induction l with
    | nil => intro acc; simp [catL, toB]
    | cons a r ih => intro acc; rw [List.map_cons, List.foldl_cons, ih]; apply Array.toList_inj.mp; simp [catL, toB]
  rw [key, quote_pieces _ _ (Nat.zero_le _) (by omega), List.drop_zero]
  simp
  rfl
end Mine
namespace Mine
open PySem PySem.Calls PyProof.Rows PySem.W
set_option maxRecDepth 100000
noncomputable abbrev S (l : List Nat) : Str := ⟨l.toArray⟩
noncomputable abbrev B (l : List Nat) : Array UInt8 := toB l.toArray
section
variable {w : World} {n : Nat} {env : Env} {ρ ρ' : Env1}
theorem pat1 : PatK (CC w) 36 0 codeA := fun h hk => ⟨⟨o34 w.params, _, 35, o33 w.params, _, 0, hk 36 _ (by kernel_rfl), rfl, rfl, rfl, by kernel_rfl, by kernel_rfl, by kernel_rfl, hk 35 _ (by kernel_rfl), rfl, by kernel_rfl⟩⟩
theorem pat2 : PatK (CC w) 41 1 codeA := fun h hk => ⟨⟨o36 w.params, _, 40, o33 w.params, _, 0, hk 41 _ (by kernel_rfl), rfl, rfl, rfl, by kernel_rfl, by kernel_rfl, by kernel_rfl, hk 40 _ (by kernel_rfl), rfl, by kernel_rfl⟩⟩
theorem pat3 : PatK (CC w) 46 0 codeC := fun h hk => ⟨⟨o39 w.params, _, 45, o38 w.params, _, 0, hk 46 _ (by kernel_rfl), rfl, rfl, rfl, by kernel_rfl, by kernel_rfl, by kernel_rfl, hk 45 _ (by kernel_rfl), rfl, by kernel_rfl⟩⟩
theorem evs2 {e e' : Expr} {p p' : PV} (h : Ev (CC w) n env ρ e p) (h' : Ev (CC w) n env ρ e' p') (hs : starEach [e, e'] env = (false, eval e env) :: starEach [e'] env := by rfl) (hs' : starEach [e'] env = [(false, eval e' env)] := by rfl) : Evs (CC w) n env ρ [e, e'] [p, p'] :=
  evs_cons h (evs_cons h' evs_nil hs') hs
theorem evs1 {e : Expr} {p : PV} (h : Ev (CC w) n env ρ e p) (hs : starEach [e] env = [(false, eval e env)] := by rfl) : Evs (CC w) n env ρ [e] [p] := evs_cons h evs_nil hs
theorem f_fix {l : List Nat} (hl : l.length ≤ 1000) : Fn (CC w) (n + 1) 67 [.str (S l)] (.str (S (fixL l))) :=
  fn_def1 (o := o51 w.params) (name := "_fix_eols") (params := fnP (st 7)) (body := fnB (st 7)) (scope := fnS (st 7)) (cd := .ref 66) (doc := .none) (x := "data") (by kernel_rfl) rfl (by kernel_rfl) (fun v => by kernel_rfl) (.inl (by kernel_rfl))
    (fun L => ExR.eq (exr_ret (ev_meth (vgr 46) (gm_sub pat3) (evs2 (vgs (S [13, 10]) 358) (vl (.str (S l)))) (m_subS pat3 findsC (by simpa using hl) (by decide) (by decide +kernel)))) (by rw [show ([13, 10] : List Nat).toArray = #[13, 10] from rfl, subF_fix])) (by kernel_rfl) (by kernel_rfl) (by kernel_rfl)
theorem f_qdata {l : List Nat} (hl : l.length ≤ 1000) (hl2 : (fixL l).length ≤ 1000) : Fn (CC w) (n + 1) 53 [.str (S l)] (.str (S (quoteL true (fixL l)))) :=
  fn_def1 (o := o43 w.params) (name := "quotedata") (params := fnP (st 5)) (body := fnB (st 5)) (scope := fnS (st 5)) (cd := .ref 52) (doc := .none) (x := "data") (by kernel_rfl) rfl (by kernel_rfl) (fun v => by kernel_rfl) (.inl (by kernel_rfl))
    (fun L => by
      have h1 : OpM (CC w) n "re.Pattern.sub" [.raw (.ref 46), .str (S [13, 10]), .str (S l)] (.str (S (fixL l))) := by
        have := m_subS (C := CC w) (n := n) (repl := #[13, 10]) pat3 (findsC (text := l.toArray)) (by simpa using hl) (by decide) (by decide +kernel)
        rw [subF_fix] at this
        exact this
      have h2 : OpM (CC w) n "re.Pattern.sub" [.raw (.ref 36), .str (S [46, 46]), .str (S (fixL l))] (.str (S (quoteL true (fixL l)))) := by
        have := m_subS (C := CC w) (n := n) (repl := #[46, 46]) pat1 (findsA (text := (fixL l).toArray) (by simpa using hl2)) (by simpa using hl2) (by decide) (by decide +kernel)
        rw [subF_quote] at this
        exact this
      exact exr_ret (ev_meth (vgr 36) (gm_sub pat1) (evs2 (ev_str.eq (by kernel_rfl)) (ev_meth (vgr 46) (gm_sub pat3) (evs2 (vgs (S [13, 10]) 358) (vl (.str (S l)))) h1)) h2)) (by kernel_rfl) (by kernel_rfl) (by kernel_rfl)
theorem toB_nat {l : List Nat} (h : ∀ c ∈ l, c < 128) : (B l).map (·.toNat) = l.toArray := by
  apply Array.toList_inj.mp
  simp only [B, toB, Array.toList_map, List.map_map]
  conv => rhs; rw [← List.map_id l]
  refine List.map_congr_left fun c hc => ?_
  have := h c (by simpa using hc)
  simp [Nat.mod_eq_of_lt (show c < 256 by omega)]
theorem f_qper {l : List Nat} (hl : l.length ≤ 1000) (hc : ∀ c ∈ l, c < 128) : Fn (CC w) (n + 1) 60 [.bytes (B l)] (.bytes (B (quoteL true l))) :=
  fn_def1 (o := o47 w.params) (name := "_quote_periods") (params := fnP (st 6)) (body := fnB (st 6)) (scope := fnS (st 6)) (cd := .ref 59) (doc := .none) (x := "bindata") (by kernel_rfl) rfl (by kernel_rfl) (fun v => by kernel_rfl) (.inl (by kernel_rfl))
    (fun L => by
      have h2 : OpM (CC w) n "re.Pattern.sub" [.raw (.ref 41), .bytes (B [46, 46]), .bytes (B l)] (.bytes (B (quoteL true l))) := by
        have := m_subB (C := CC w) (n := n) (repl := #[46, 46]) (rb := B [46, 46]) (tb := B l) pat2 (findsA (text := l.toArray) (by simpa using hl)) (toB_nat hc) rfl (by simpa using hl) (by decide) (by decide +kernel)
        rw [subB_quote] at this
        exact this
      exact exr_ret (ev_meth (vgr 41) (gm_sub pat2) (evs2 (ev_bytes.eq (by kernel_rfl)) (vl (.bytes (B l)))) h2)) (by kernel_rfl) (by kernel_rfl) (by kernel_rfl)
end
-- rows of dots
noncomputable def eolT (h b : Bool) : List Nat := if b then [13, 10] else if h then [13] else [10]
noncomputable def rt (h : Bool) (rows : List (Nat × Bool)) : List Nat := rows.flatMap fun r => List.replicate r.1 46 ++ eolT h r.2
noncomputable def stepR (rows : List (Nat × Bool)) (c : Bool) : List (Nat × Bool) := if c then rows ++ [(1, false)] else rows.map fun r => (r.1 + 1, true)
noncomputable def endR (rows : List (Nat × Bool)) : List (Nat × Bool) := rows.map fun r => (r.1, true)
noncomputable def Good (k : Nat) (rows : List (Nat × Bool)) : Prop := rows.length ≤ k ∧ ∀ r ∈ rows, 1 ≤ r.1 ∧ r.1 ≤ k
theorem Good.step {k : Nat} {rows : List (Nat × Bool)} (g : Good k rows) (c : Bool) : Good (k + 1) (stepR rows c) := by
  obtain ⟨g1, g2⟩ := g
  cases c with
  | true =>
    refine ⟨by simp [stepR]; omega, fun r hr => ?_⟩
    simp only [stepR, if_true, List.mem_append, List.mem_singleton] at hr
    rcases hr with hr | rfl
    · have := g2 r hr; omega
    · simp
  | false =>
    refine ⟨by simp [stepR]; omega, fun r hr => ?_⟩
    simp only [stepR, Bool.false_eq_true, if_false, List.mem_map] at hr
    obtain ⟨r', h', rfl⟩ := hr
    have := g2 r' h'
    simp only
    omega
theorem rt_len {h : Bool} {k : Nat} : ∀ {rows : List (Nat × Bool)}, (∀ r ∈ rows, 1 ≤ r.1 ∧ r.1 ≤ k) → (rt h rows).length ≤ rows.length * (k + 2)
  | [], _ => by simp [rt]
  | r :: rows, g => by
    have ih := rt_len (h := h) (rows := rows) fun r' h' => g r' (List.mem_cons_of_mem _ h')
    have h1 := g r List.mem_cons_self
    have h2 : (eolT h r.2).length ≤ 2 := by unfold eolT; cases h <;> cases r.2 <;> simp
    have e : rt h (r :: rows) = (List.replicate r.1 46 ++ eolT h r.2) ++ rt h rows := by simp [rt]
    rw [e, List.length_append, List.length_append, List.length_replicate, List.length_cons, Nat.succ_mul]
    omega
theorem Good.len {h : Bool} {k : Nat} {rows : List (Nat × Bool)} (g : Good k rows) (hk : k ≤ 20) : (rt h rows).length ≤ 500 := by
  have h1 := rt_len (h := h) g.2
  have h2 : rows.length * (k + 2) ≤ 20 * 22 := Nat.mul_le_mul (by have := g.1; omega) (by omega)
  omega
theorem rt_asc {h : Bool} {rows : List (Nat × Bool)} : ∀ c ∈ rt h rows, c < 128 := fun c hc => by
  simp only [rt, List.mem_flatMap, List.mem_append, List.mem_replicate] at hc
  obtain ⟨r, _, hc⟩ := hc
  rcases hc with ⟨_, rfl⟩ | hc
  · decide
  · unfold eolT at hc
    have key : ∀ h b : Bool, ∀ c ∈ (if b then [13, 10] else if h then [13] else [10] : List Nat), c < 128 := by decide
    exact key h r.2 c hc
theorem fix_dots : ∀ (k : Nat) (r : List Nat), fixL (List.replicate k 46 ++ r) = List.replicate k 46 ++ fixL r
  | 0, r => by simp
  | k + 1, r => by
    rw [List.replicate_succ, List.cons_append, fixL_off (by decide), fix_dots k r]
    rfl
theorem fix_rows {h : Bool} : ∀ {rows : List (Nat × Bool)}, (∀ r ∈ rows, 1 ≤ r.1) → fixL (rt h rows) = rt h (endR rows)
  | [], _ => by simp [rt, endR, fixL]
  | r :: rows, g => by
    have ih := fix_rows (h := h) (rows := rows) fun r' h' => g r' (List.mem_cons_of_mem _ h')
    have e : rt h (r :: rows) = List.replicate r.1 46 ++ (eolT h r.2 ++ rt h rows) := by simp [rt]
    have e2 : rt h (endR (r :: rows)) = List.replicate r.1 46 ++ (13 :: 10 :: rt h (endR rows)) := by simp [rt, endR, eolT]
    rw [e, e2, fix_dots]
    congr 1
    have nb : ¬ ∃ r', rt h rows = 10 :: r' := by
      rintro ⟨r', q⟩
      cases rows with
      | nil => simp [rt] at q
      | cons x xs =>
        have h1 := g x (by simp)
        have e : rt h (x :: xs) = List.replicate x.1 46 ++ (eolT h x.2 ++ rt h xs) := by simp [rt]
        rw [e, show x.1 = (x.1 - 1) + 1 by omega, List.replicate_succ] at q
        simp at q
    unfold eolT
    cases hr : r.2 with
    | true => simp only [if_true]; rw [show ([13, 10] : List Nat) ++ rt h rows = 13 :: 10 :: rt h rows from rfl, fixL_two, ih]
    | false =>
      cases h with
      | true =>
        simp only [Bool.false_eq_true, if_false, if_true]
        rw [show ([13] : List Nat) ++ rt true rows = 13 :: rt true rows from rfl, fixL_one (by decide) (fun q => nb q.2), ih]
      | false =>
        simp only [Bool.false_eq_true, if_false]
        rw [show ([10] : List Nat) ++ rt false rows = 10 :: rt false rows from rfl, fixL_one (c := 10) (by decide) (fun q => absurd q.1 (by decide)), ih]
theorem quote_dots : ∀ (k : Nat) (r : List Nat), quoteL false (List.replicate k 46 ++ 13 :: 10 :: r) = List.replicate k 46 ++ 13 :: 10 :: quoteL true r
  | 0, r => by simp [quoteL]
  | k + 1, r => by
    rw [List.replicate_succ, List.cons_append, quoteL]
    simp only [Bool.false_and, Bool.false_eq_true, if_false]
    rw [show ((46 : Nat) == 10) = false from rfl, quote_dots k r]
    rfl
theorem quote_rows {h : Bool} : ∀ {rows : List (Nat × Bool)}, (∀ r ∈ rows, 1 ≤ r.1) → quoteL true (rt h (endR rows)) = rt h (rows.map fun r => (r.1 + 1, true))
  | [], _ => by simp [rt, endR, quoteL]
  | r :: rows, g => by
    have ih := quote_rows (h := h) (rows := rows) fun r' h' => g r' (List.mem_cons_of_mem _ h')
    have h1 := g r List.mem_cons_self
    have e2 : rt h (endR (r :: rows)) = List.replicate r.1 46 ++ (13 :: 10 :: rt h (endR rows)) := by simp [rt, endR, eolT]
    have e3 : rt h ((r :: rows).map fun r => (r.1 + 1, true)) = List.replicate (r.1 + 1) 46 ++ (13 :: 10 :: rt h (rows.map fun r => (r.1 + 1, true))) := by simp [rt, eolT]
    rw [e2, e3, ← ih]
    obtain ⟨k, hk⟩ : ∃ k, r.1 = k + 1 := ⟨r.1 - 1, by omega⟩
    rw [hk, List.replicate_succ, List.cons_append, quoteL, if_pos (by decide), quote_dots, List.replicate_succ, List.replicate_succ]
    rfl
end Mine
namespace Mine
open PySem PySem.Calls PyProof.Rows PySem.W
set_option maxRecDepth 100000
noncomputable def nth (l : List Stmt) (i : Nat) : Stmt := match l.drop i with
  | x :: _ => x
  | [] => .Pass ⟨0, 0, 0, 0⟩
noncomputable def forB : Stmt → List Stmt
  | .For _ _ b _ _ => b
  | .While _ b _ _ => b
  | _ => []
noncomputable def forT : Stmt → Expr
  | .For t _ _ _ _ => t
  | .While t _ _ _ => t
  | _ => .Constant .none 0 ⟨0, 0, 0, 0⟩
theorem hy_rev {C : Cfg} {xs : List PV} (Z : Addr → Prop) (h : Heap) (its : Array Value) (r : Reps Z h xs its.toList) : Reps Z h xs.reverse (slicePick its none none (some (-1))).toList := by
  rw [krv_pick]
  exact r.reverse
theorem hy_init {xs : List PV} (Z : Addr → Prop) (h : Heap) (its : Array Value) (r : Reps Z h xs its.toList) : Reps Z h (xs.take (xs.length - 1)) (slicePick its none (some (-1)) none).toList := by
  have e := r.length
  have := slicePick_butLast its 1 (Nat.le_refl _)
  rw [show (-((1 : Nat) : Int)) = -1 from rfl] at this
  rw [this, ← e, show its.toList.length = its.size from Array.length_toList]
  exact r.take _
theorem hy_upto {xs : List PV} (b : Nat) (Z : Addr → Prop) (h : Heap) (its : Array Value) (r : Reps Z h xs its.toList) : Reps Z h (xs.take b) (slicePick its none (some (b : Int)) none).toList := by
  rw [slicePick_upto']
  exact r.take _
theorem hy_from {xs : List PV} (b : Nat) (Z : Addr → Prop) (h : Heap) (its : Array Value) (r : Reps Z h xs its.toList) : Reps Z h (xs.drop b) (slicePick its (some (b : Int)) none none).toList := by
  rw [slicePick_from']
  exact r.drop _
section
variable {w : World} {n : Nat} {env : Env} {ρ ρ' : Env1}
theorem sl {x : Str} (h : env.kindOf x = some .local := by kernel_rfl) : Sto env x := .inl h
theorem sc {x : Str} (h : env.kindOf x = some .cell := by kernel_rfl) (h2 : (env.cells.lookup x).isSome = true := by kernel_rfl) : Sto env x := .inr ⟨h, h2⟩
noncomputable abbrev W1 : Str → Prop := fun _ => True
/-- an assignment -/
theorem xa {x : Str} {px pos : Pos} {e : Expr} {p : PV} (h : Ev (CC w) n env ρ e p) (hx : Sto env x := by exact sl) (hs : swapsWith e (some (.Name x px)) pos.line env = pure false := by rfl) (hk : env.scope.kind = .function := by kernel_rfl) :
    Ex1 (CC w) n env W1 ρ (.Assign [.Name x px] e pos) (put ρ x (.val p)) := ex_assign h hx trivial hs hk
theorem xo {x : Str} {px pos : Pos} {op : Operator} {e : Expr} (p : PV) {q t : PV} (h : Ev (CC w) n env ρ e q) (o : Op2 (CC w) n (inplaceOp op) p q t) (hv : ρ x = some (.val p) := by kernel_rfl) (hx : Sto env x := by exact sl) (hk : env.scope.kind = .function := by kernel_rfl) :
    Ex1 (CC w) n env W1 ρ (.AugAssign (.Name x px) op e pos) (put ρ x (.val t)) := ex_aug hv h o hx trivial hk
theorem bn {x : Str} {pos : Pos} {p : PV} (hx : Sto env x := by exact sl) (hk : env.scope.kind = .function := by kernel_rfl) : Bd (CC w) env W1 (.Name x pos) p ρ (put ρ x (.val p)) := bd_name hx trivial hk
noncomputable abbrev evM (L : Addr) : Env := envOfC "_law_mail" (fnS (st 79)) L 210 (.ref 209)
noncomputable abbrev R0 (cp : PV) (h : Bool) (m : Str) : Env1 := put (put (put nil1 "coins" (.val cp)) "halves" (.val (.bool h))) "mail" (.val (.str m))
theorem rt_add {h : Bool} {rows : List (Nat × Bool)} : S (rt h rows) ++ S (46 :: (if h then [13] else [10])) = S (rt h (rows ++ [(1, false)])) := by
  show Str.mk _ = Str.mk _
  congr 1
  apply Array.toList_inj.mp
  cases h <;> simp [rt, eolT]
theorem str_len (l : List Nat) : (S l).length = l.length := by show l.toArray.size = _; simp
theorem sz500 : (100000 : Nat) ≤ sizeLine := by decide
theorem step_mail {L : Addr} {h : Bool} {cp : PV} {k : Nat} {rows : List (Nat × Bool)} (g : Good k rows) (hk : k ≤ 19) (c : Bool) :
    ExN (CC w) (n + 1) (evM L) W1 (put (R0 cp h (S (rt h rows))) "coin" (.val (.bool c))) (forB (nth (fnB (st 79)) 1)) (R0 cp h (S (rt h (stepR rows c)))) := by
  have hl := g.len (h := h) (by omega)
  have hl2 : (fixL (rt h rows)).length ≤ 500 := by
    rw [fix_rows fun r hr => (g.2 r hr).1]
    have g' : Good k (endR rows) := ⟨by simpa [endR] using g.1, fun r hr => by
      simp only [endR, List.mem_map] at hr
      obtain ⟨r', h', rfl⟩ := hr
      exact g.2 r' h'⟩
    exact g'.len (by omega)
  have hq : quoteL true (fixL (rt h rows)) = rt h (stepR rows false) := by
    rw [fix_rows fun r hr => (g.2 r hr).1, quote_rows fun r hr => (g.2 r hr).1]
    rfl
  have hl3 : (quoteL true (fixL (rt h rows))).length ≤ 500 := by rw [hq]; exact (g.step false).len (by omega)
  refine ex_cons (ex_if (ρ' := R0 cp h (S (rt h (stepR rows c)))) (tr_plain (vl (.bool c))) (fun hc => ?_) fun hc => ?_) ex_nil
  · subst hc
    have o : Op2 (CC w) (n + 1) (inplaceOp .Add) (.str (S (rt h rows))) (.str (S (46 :: (if h then [13] else [10])))) (.str (S (rt h (stepR rows true)))) := by
      have := io_adds (C := CC w) (n := n + 1) (a := S (rt h rows)) (b := S (46 :: (if h then [13] else [10]))) (by
        rw [str_len, str_len]
        have : (46 :: (if h then [13] else [10]) : List Nat).length = 2 := by cases h <;> rfl
        have := sz500
        omega)
      rw [rt_add] at this
      exact this
    refine (ex_cons (xo (.str (S (rt h rows))) (ev_if (tr_plain (vl (.bool h))) (fun hh => ?_) fun hh => ?_) o) ex_nil).weak (le_put (by kernel_rfl) (le_put (by kernel_rfl) (le_put (by kernel_rfl) le_nil)))
    · subst hh; exact ev_str.eq (by kernel_rfl)
    · subst hh; exact ev_str.eq (by kernel_rfl)
  · subst hc
    refine (ex_cons (ex_if (ρ' := put (put (R0 cp h (S (rt h rows))) "coin" (.val (.bool false))) "mail" (.val (.str (S (rt h (stepR rows false)))))) (tr_plain (vl (.bool h))) (fun hh => ?_) fun hh => ?_) ex_nil).weak (le_put (by kernel_rfl) (le_put (by kernel_rfl) (le_put (by kernel_rfl) le_nil)))
    · have o1 : OpM (CC w) (n + 1) "str.encode" [.str (S (fixL (rt h rows))), .str (Str.ofString "ascii")] (.bytes (B (fixL (rt h rows)))) := m_enc (fun c hc => by
        have hc : c ∈ fixL (rt h rows) := by simpa using hc
        rw [fix_rows fun r hr => (g.2 r hr).1] at hc
        exact rt_asc c hc) (by
          show (fixL (rt h rows)).toArray.size ≤ _
          rw [List.size_toArray]
          have := sz500
          omega)
      have o2 : OpM (CC w) (n + 1) "bytes.decode" [.bytes (B (quoteL true (fixL (rt h rows)))), .str (Str.ofString "ascii")] (.str (S (rt h (stepR rows false)))) := by
        have hb := toB_nat (l := quoteL true (fixL (rt h rows))) (by rw [hq]; exact rt_asc)
        have := m_dec (C := CC w) (n := n + 1) (b := B (quoteL true (fixL (rt h rows)))) (fun c hc => by
          have hm : c.toNat ∈ (B (quoteL true (fixL (rt h rows)))).map (·.toNat) := Array.mem_map_of_mem hc
          rw [hb, hq] at hm
          exact rt_asc _ (by simpa using hm)) (by
            show (toB _).size ≤ _
            simp only [toB, Array.size_map, List.size_toArray]
            omega)
        rw [hb] at this
        rw [← hq]
        exact this
      exact ex_cons (xa (ev_meth (vcall1 60 (vgr 60) (ev_meth (vcall1 67 (vgr 67) (vl (.str (S (rt h rows)))) (f_fix (by omega))) gm_enc (evs1 ev_str) o1) (f_qper (by omega) (by rw [fix_rows fun r hr => (g.2 r hr).1]; exact rt_asc))) gm_dec (evs1 ev_str) o2)) ex_nil
    · have q := f_qdata (w := w) (n := n) (l := rt h rows) (by omega) (by omega)
      rw [hq] at q
      exact ex_cons (xa (vcall1 53 (vgr 53) (vl (.str (S (rt h rows)))) q)) ex_nil
theorem goes_mail {L : Addr} {h : Bool} {cp : PV} : ∀ (cs : List Bool) (rows : List (Nat × Bool)) (k : Nat), Good k rows → k + cs.length ≤ 20 →
    Goes (fun x ρ ρ₁ => ∃ ρm, Bd (CC w) (evM L) W1 (forT (nth (fnB (st 79)) 1)) x ρ ρm ∧ ExN (CC w) (n + 1) (evM L) W1 ρm (forB (nth (fnB (st 79)) 1)) ρ₁) (cs.map PV.bool) (R0 cp h (S (rt h rows))) (R0 cp h (S (rt h (cs.foldl stepR rows))))
  | [], rows, k, g, hk => .nil _
  | c :: cs, rows, k, g, hk => by
    rw [List.length_cons] at hk
    exact .cons ⟨_, bn (by exact sl), step_mail g (by omega) c⟩ (goes_mail cs (stepR rows c) (k + 1) (g.step c) (by omega))
noncomputable def rowsEnd (cs : List Bool) : List (Nat × Bool) := endR (cs.reverse.foldl stepR [])
theorem foldl_good : ∀ (cs : List Bool) (rows : List (Nat × Bool)) (k : Nat), Good k rows → Good (k + cs.length) (cs.foldl stepR rows)
  | [], rows, k, g => g
  | c :: cs, rows, k, g => by
    have := foldl_good cs (stepR rows c) (k + 1) (g.step c)
    rw [List.length_cons, show k + (cs.length + 1) = k + 1 + cs.length by omega]
    exact this
theorem f_mail {cs : List Bool} {h : Bool} (hc : cs.length ≤ 20) : Fn (CC w) (n + 2) 210 [.list (cs.map PV.bool), .bool h] (.str (S (rt h (rowsEnd cs)))) := by
  have g := foldl_good cs.reverse [] 0 ⟨Nat.le_refl _, fun r hr => nomatch hr⟩
  rw [List.length_reverse, Nat.zero_add] at g
  have hl := g.len (h := h) hc
  have hfix : fixL (rt h (cs.reverse.foldl stepR [])) = rt h (rowsEnd cs) := fix_rows fun r hr => (g.2 r hr).1
  have ff := f_fix (w := w) (n := n) (l := rt h (cs.reverse.foldl stepR [])) (by omega)
  rw [hfix] at ff
  refine fn_def2 (o := o163 w.params) (name := "_law_mail") (params := fnP (st 79)) (body := fnB (st 79)) (scope := fnS (st 79)) (cd := .ref 209) (doc := .none) (x := "coins") (y := "halves") (by kernel_rfl) rfl (by kernel_rfl) (fun v u => by kernel_rfl) (by kernel_rfl) (by kernel_rfl) (by decide)
    (fun L => ?_) (by kernel_rfl) (by kernel_rfl) (by kernel_rfl)
  refine exr_step (xa (p := .str (S [])) (ev_str.eq (by kernel_rfl))) ?_
  have gm := goes_mail (w := w) (n := n) (L := L) (h := h) (cp := .list (cs.map PV.bool)) cs.reverse [] 0 ⟨Nat.le_refl _, fun r hr => nomatch hr⟩ (by rw [List.length_reverse]; omega)
  refine exr_step (ex_for (it_list (ev_slice (ys := cs.reverse.map PV.bool) (vl (.list (cs.map PV.bool))) evp_none evp_none (evp_some (ev_neg ev_int)) (by decide) (fun Z h its r => ?_) (by rw [List.length_map]; have := sz500; omega))) gm) ?_
  · rw [List.map_reverse]
    exact hy_rev (C := CC w) Z h its r
  · exact exr_ret (vcall1 67 (vgr 67) (vl (.str (S (rt h (cs.reverse.foldl stepR []))))) ff)
end
end Mine
namespace Mine
open PySem PySem.Calls PyProof.Rows PySem.W
set_option maxRecDepth 100000
-- the table of tokens
inductive Ents (P : Params) : List DictEntry → List (Str × Value) → Prop
  | nil : Ents P [] []
  | cons {es : List DictEntry} {kvs : List (Str × Value)} (x : Str) (t : Nat) (v : Value) : Ents P es kvs → Ents P (de P x t v :: es) ((x, v) :: kvs)
theorem hash_eq (w : World) (x : Str) : PyData.keyHash w.params x = hashStr w x := rfl
theorem Ents.pairs {w : World} {es : List DictEntry} {kvs : List (Str × Value)} (h : Ents w.params es kvs) : Pairs (strKind pg w) es kvs ∧ ∀ e ∈ es, ∃ k, (strKind pg w).is k e.key = true ∧ e.hash = (strKind pg w).hash k := by
  induction h with
  | nil => exact ⟨.nil, fun e he => nomatch he⟩
  | @cons es kvs x t v _ ih =>
    refine ⟨.cons (strKind_is pg w x t) rfl ih.1, fun e he => ?_⟩
    rcases List.mem_cons.mp he with rfl | he
    · exact ⟨x, strKind_is pg w x t, rfl⟩
    · exact ih.2 e he
theorem dict_of {w : World} {o : Obj} {es : List DictEntry} {kvs : List (Str × Value)} {ep : Nat} (ho : o = ⟨.type "dict", none, .dict es.toArray ep, #[]⟩) (he : Ents w.params es kvs) (hn : (kvs.map (·.1)).Nodup) : o.IsDictOf (strKind pg w) kvs := by
  subst ho
  refine ⟨es.toArray, ep, ⟨rfl, rfl, rfl⟩, rfl, fun e hm => he.pairs.2 e (by simpa using hm), by simpa using he.pairs.1, hn⟩
/-- what the entries are made of -/
noncomputable def rawOf : List DictEntry → List (Str × Nat × Value)
  | [] => []
  | e :: r => (match e.key with
    | .str x t => [(x, t, e.val)]
    | _ => []) ++ rawOf r
theorem ents_of (P : Params) : ∀ l : List (Str × Nat × Value), Ents P (l.map fun x => de P x.1 x.2.1 x.2.2) (l.map fun x => (x.1, x.2.2))
  | [] => .nil
  | x :: l => .cons x.1 x.2.1 x.2.2 (ents_of P l)
noncomputable def rawE : List (Str × Nat × Value) := rawOf (match (o135 (aWorld 1).params).data with
  | .dict es _ => es.toList
  | _ => [])
noncomputable def epE : Nat := match (o135 (aWorld 1).params).data with
  | .dict _ n => n
  | _ => 0
noncomputable def kvE : List (Str × Value) := rawE.map fun x => (x.1, x.2.2)
theorem o135_eq (P : Params) : o135 P = ⟨.type "dict", none, .dict (rawE.map fun x => de P x.1 x.2.1 x.2.2).toArray epE, #[]⟩ := by kernel_rfl
theorem kvE_nodup : (kvE.map (·.1)).Nodup := by decide +kernel
theorem dictE {w : World} : (o135 w.params).IsDictOf (strKind pg w) kvE := dict_of (o135_eq w.params) (ents_of _ rawE) kvE_nodup
noncomputable abbrev dots (k : Nat) : Str := S (List.replicate k 46)
theorem val3 : valueAt kvE (dots 3) = some (.int 52 870) := by kernel_rfl
theorem val2 : valueAt kvE (dots 2) = none := by kernel_rfl
theorem val1 : valueAt kvE (dots 1) = some (.int 23 812) := by kernel_rfl
theorem slices_ok : ((List.range 13).all fun k => (List.range k).all fun a => ([3, 2, 1] : List Nat).all fun n => (Txt.slice (dots k) (some (a : Int)) (some ((a : Int) + (n : Int)))).cps.toList == List.replicate (min n (k - a)) 46) = true := by kernel_rfl
theorem slice_ok {k a n : Nat} (hk : k ≤ 12) (ha : a < k) (hn : n ∈ ([3, 2, 1] : List Nat)) : Txt.slice (dots k) (some (a : Int)) (some ((a : Int) + (n : Int))) = dots (min n (k - a)) := by
  have h1 := List.all_eq_true.mp slices_ok k (List.mem_range.mpr (by omega))
  have h2 := List.all_eq_true.mp h1 a (List.mem_range.mpr ha)
  have h3 := eq_of_beq (List.all_eq_true.mp h2 n hn)
  show _ = Str.mk _
  generalize Txt.slice (dots k) (some (a : Int)) (some ((a : Int) + (n : Int))) = z at h3
  obtain ⟨z⟩ := z
  congr 1
  apply Array.toList_inj.mp
  exact h3
section
variable {w : World} {n : Nat} {env : Env} {ρ ρ' : Env1}
theorem cw {scope : Scope} {x : Str} (h : (clOf env scope).lookup x = none) : cW env scope x := h
noncomputable abbrev evP (L : Addr) : Env := envOfC "_law_places" (fnS (st 80)) L 215 (.ref 214)
noncomputable def pints (l : List Int) : List PV := l.map PV.int
noncomputable abbrev P0 (mp : PV) (acc : List Int) : Env1 := put (put nil1 "mail" (.val mp)) "places" (.own (pints acc))
noncomputable abbrev P1 (mp : PV) (acc : List Int) (k d a : Nat) : Env1 := put (put (put (P0 mp acc) "row" (.val (.str (dots k)))) "dots" (.val (.int (d : Int)))) "at" (.val (.int (a : Int)))
noncomputable def stepD (r : Nat) : Nat := if 3 ≤ r then 3 else 1
noncomputable abbrev whS : Stmt := nth (forB (nth (fnB (st 80)) 1)) 2
theorem pieces_ok : ((List.range 13).all fun k => (List.range k).all fun a =>
    (((([3, 2, 1] : List Nat).filter fun (n : Nat) => (valueAt kvE (Txt.slice (dots k) (some (a : Int)) (some ((a : Int) + (n : Int))))).isSome).map fun (n : Nat) => (Txt.slice (dots k) (some (a : Int)) (some ((a : Int) + (n : Int)))).cps.toList)[0]? == some (List.replicate (stepD (k - a)) 46))) = true := by kernel_rfl
theorem piece_ok {k a : Nat} (hk : k ≤ 12) (ha : a < k) :
    ((([3, 2, 1] : List Nat).filter fun (n : Nat) => (valueAt kvE (Txt.slice (dots k) (some (a : Int)) (some ((a : Int) + (n : Int))))).isSome).map fun (n : Nat) => PV.str (Txt.slice (dots k) (some (a : Int)) (some ((a : Int) + (n : Int)))))[0]? = some (.str (dots (stepD (k - a)))) := by
  have h1 := List.all_eq_true.mp pieces_ok k (List.mem_range.mpr (by omega))
  have h2 := eq_of_beq (List.all_eq_true.mp h1 a (List.mem_range.mpr ha))
  rw [List.getElem?_map] at h2 ⊢
  obtain ⟨n, e1, e2⟩ := Option.map_eq_some_iff.mp h2
  rw [e1]
  show some (PV.str _) = some (PV.str _)
  congr 2
  generalize Txt.slice (dots k) (some (a : Int)) (some ((a : Int) + (n : Int))) = z at e2
  obtain ⟨z⟩ := z
  show Str.mk _ = Str.mk _
  congr 1
  apply Array.toList_inj.mp
  exact e2
theorem dots_len (k : Nat) : (dots k).length = k := by show (List.replicate k 46).toArray.size = k; simp
noncomputable abbrev C0 (k a : Nat) : Env1 := put (put nil1 "at" (.val (.int (a : Int)))) "row" (.val (.str (dots k)))
theorem wh_places {L : Addr} {mp : PV} {acc : List Int} {k : Nat} (hk : k ≤ 12) : ∀ (m a : Nat), k - a ≤ m → a ≤ k → Wh (CC w) n (evP L) W1 (forT whS) (forB whS) (P1 mp acc k a a) (P1 mp acc k k k)
  | m, a, hm, ha => by
    have t : Tr (CC w) n (evP L) (P1 mp acc k a a) (forT whS) (decide ((a : Int) < ((dots k).length : Int))) := tr_cmp (vc (.int a)) (vb "len" (vc (.str (dots k))) (b_lens (by rw [dots_len]; omega))) cp_lt (by kernel_rfl)
    rw [dots_len] at t
    by_cases h : a < k
    · have ht : decide ((a : Int) < (k : Int)) = true := by simpa using h
      rw [ht] at t
      have hs : 1 ≤ stepD (k - a) ∧ a + stepD (k - a) ≤ k := by unfold stepD; split <;> omega
      match m with
      | 0 => omega
      | m + 1 =>
      refine .turn t ?_ (wh_places hk m (a + stepD (k - a)) (by omega) hs.2)
      have hpc : valueAt kvE (dots (stepD (k - a))) = some (.int (if 3 ≤ k - a then 52 else 23) (if 3 ≤ k - a then 870 else 812)) := by
        unfold stepD
        split
        · exact val3
        · exact val1
      have hd : ((stepD (k - a) : Nat) : Int) = if 3 ≤ k - a then 3 else 1 := by unfold stepD; split <;> rfl
      refine (ex_cons (xa (p := .str (dots (stepD (k - a)))) (ev_item (k := 0) (ev_comp1 (l := [3, 2, 1]) (inj := fun (n : Nat) => .int (n : Int)) (ρ₀ := C0 k a) (bnd := fun (n : Nat) => put (C0 k a) "n" (.val (.int (n : Int))))
        (fun (n : Nat) => (valueAt kvE (Txt.slice (dots k) (some (a : Int)) (some ((a : Int) + (n : Int))))).isSome) (fun (n : Nat) => .str (Txt.slice (dots k) (some (a : Int)) (some ((a : Int) + (n : Int))))) (it_tup (ev_tup (evs_cons ev_int (evs_cons ev_int (evs_cons ev_int evs_nil))))) (by kernel_rfl) (by decide) ?_ (fun L' n hn => ?_) (fun n hn => ?_) (fun L' n hn => ?_) fun L' n hn hp => ?_) ev_int (Int.le_refl 0) (piece_ok hk h) (by decide)))
        (ex_cons (xo (.int a) (ev_dict2 ev_int ev_int ev_int ev_int (ev_ditem (C := CC w) (o := o135 w.params) (by kernel_rfl) dictE (vgr 166) (vl (.str (dots (stepD (k - a))))) hpc) (by decide) (r := if 3 ≤ k - a then 3 else 1) ?_) io_add)
        (ex_cons (xo (.int a) (vb "len" (vl (.str (dots (stepD (k - a))))) (b_lens (by rw [dots_len]; unfold stepD; split <;> omega))) io_add (hx := sc)) ex_nil))).weak ?_
      · exact le_put (by kernel_rfl) (le_put (by kernel_rfl) le_nil)
      · exact bd_name sl (cw (by kernel_rfl)) (by kernel_rfl)
      · exact le_to (by kernel_rfl) (Le.refl _)
      · exact ts_one (tr_cmp (ev_sslice (vc (.str (dots k))) (evp_some (vc (.int a))) (evp_some (ev_bin (vc (.int a)) (vl (.int n)) op_add)) (by rw [dots_len]; have := sz500; omega)) (vgr 166) (cp_indict (C := CC w) (o := o135 w.params) (by kernel_rfl) dictE (by decide)) (by kernel_rfl))
      · exact ev_sslice (vc (.str (dots k))) (evp_some (vc (.int a))) (evp_some (ev_bin (vc (.int a)) (vl (.int n)) op_add)) (by rw [dots_len]; have := sz500; omega)
      · split
        · exact .inr ⟨rfl, rfl⟩
        · exact .inl ⟨rfl, rfl⟩
      · rw [dots_len, ← hd, ← Int.natCast_add]
        exact le_put (by kernel_rfl) (le_put (by kernel_rfl) (le_put (by kernel_rfl) (le_put (by kernel_rfl) (le_put (by kernel_rfl) le_nil))))
    · have : a = k := by omega
      subst this
      have ht : decide ((a : Int) < (a : Int)) = false := by simp
      rw [ht] at t
      exact .stop t
end
end Mine
namespace Mine
open PySem PySem.Calls PyProof.Rows PySem.W
set_option maxRecDepth 100000
section
variable {w : World} {n : Nat} {env : Env} {ρ ρ' : Env1}
noncomputable def plStep (acc : List Int) (k : Nat) : List Int := acc ++ [(k : Int) - 1 + acc.length]
theorem pints_len (l : List Int) : (pints l).length = l.length := by simp [pints]
theorem step_places {L : Addr} {mp : PV} {acc : List Int} {k : Nat} (hk : k ≤ 12) (ha : acc.length ≤ 1000) :
    ExN (CC w) n (evP L) W1 (put (P0 mp acc) "row" (.val (.str (dots k)))) (forB (nth (fnB (st 80)) 1)) (P0 mp (plStep acc k)) := by
  have hw := wh_places (w := w) (n := n) (L := L) (mp := mp) (acc := acc) hk k 0 (by omega) (by omega)
  have e : pints (plStep acc k) = pints acc ++ [.int ((k : Int) - 1 + (pints acc).length)] := by simp [pints, plStep]
  refine (ex_cons (xa (p := .int ((0 : Nat) : Int)) ev_int) (ex_cons (xa (p := .int ((0 : Nat) : Int)) ev_int (hx := sc)) (ex_cons (ex_while hw) (ex_cons
    (ex_append (p := .int ((k : Int) - 1 + (pints acc).length)) (xs := pints acc) (by kernel_rfl) sl (ev_bin (ev_bin (vl (.int k)) ev_int op_sub) (ev_lenown (xs := pints acc) (by kernel_rfl) (by kernel_rfl) sl (by rw [pints_len]; omega) (by kernel_rfl) (by kernel_rfl) (by kernel_rfl) (by kernel_rfl) (by kernel_rfl)) op_add) (by rw [pints_len]; have := sz500; omega) (hk := by kernel_rfl)) ex_nil)))).weak ?_
  show Le (put (put nil1 "mail" (.val mp)) "places" (.own (pints (plStep acc k)))) _
  rw [e]
  exact le_put (by kernel_rfl) (le_put (by kernel_rfl) le_nil)
theorem goes_places {L : Addr} {mp : PV} : ∀ (ks : List Nat) (acc : List Int), (∀ k ∈ ks, k ≤ 12) → acc.length + ks.length ≤ 1000 →
    Goes (fun x ρ ρ₁ => ∃ ρm, Bd (CC w) (evP L) W1 (forT (nth (fnB (st 80)) 1)) x ρ ρm ∧ ExN (CC w) n (evP L) W1 ρm (forB (nth (fnB (st 80)) 1)) ρ₁) (ks.map fun k => .str (dots k)) (P0 mp acc) (P0 mp (ks.foldl plStep acc))
  | [], acc, h, hl => .nil _
  | k :: ks, acc, h, hl => by
    rw [List.length_cons] at hl
    exact .cons ⟨_, bn (by exact sc), step_places (h k List.mem_cons_self) (by omega)⟩ (goes_places ks (plStep acc k) (fun q hq => h q (List.mem_cons_of_mem _ hq)) (by simp [plStep]; omega))
theorem f_places {l : List Nat} {ks : List Nat} (hs : Txt.split (S l) (S [13, 10]) = (ks.map fun k => dots k) ++ [S []]) (hk : ∀ k ∈ ks, k ≤ 12) (hl : l.length ≤ 1000) (hkl : ks.length ≤ 1000) :
    Fn (CC w) (n + 1) 215 [.str (S l)] (.list (pints (ks.reverse.foldl plStep []))) := by
  refine fn_def1 (o := o166 w.params) (name := "_law_places") (params := fnP (st 80)) (body := fnB (st 80)) (scope := fnS (st 80)) (cd := .ref 214) (doc := .none) (x := "mail") (by kernel_rfl) rfl (by kernel_rfl) (fun v => by kernel_rfl) (.inl (by kernel_rfl))
    (fun L => ?_) (by kernel_rfl) (by kernel_rfl) (by kernel_rfl)
  refine exr_own (by kernel_rfl) sl ?_ (hk := by kernel_rfl)
  have hsp : OpM (CC w) n "str.split" [.str (S l), .str (S [13, 10])] (.list (((ks.map fun k => dots k) ++ [S []]).map PV.str)) := by
    have := m_split (C := CC w) (n := n) (x := S l) (y := S [13, 10]) (by rfl) (by rw [str_len]; have := sz500; omega) (by
      rw [len_partsBetween]
      have h1 := StrLaws.occ_length_le (S l) (S [13, 10]) 0 (S l).length ((S l).length + 1)
      rw [str_len] at h1 ⊢
      have := sz500
      omega)
    rw [hs] at this
    exact this
  have e1 : ((((ks.map fun k => dots k) ++ [S []]).map PV.str).take ((((ks.map fun k => dots k) ++ [S []]).map PV.str).length - 1)) = ks.map fun k => PV.str (dots k) := by simp
  have e2 : (ks.map fun k => PV.str (dots k)).reverse = ks.reverse.map fun k => PV.str (dots k) := by rw [List.map_reverse]
  have hbig := sz500
  refine exr_step (ex_for (it_list (ev_slice (ys := ks.reverse.map fun k => PV.str (dots k)) (ev_slice (ys := ks.map fun k => PV.str (dots k)) (ev_meth (vl (.str (S l))) gm_split (evs1 (ev_str.eq (by kernel_rfl))) hsp) evp_none (evp_some (ev_neg ev_int)) evp_none (by decide) (fun Z h its r => ?_) ?_) evp_none evp_none (evp_some (ev_neg ev_int)) (by decide) (fun Z h its r => ?_) ?_))
    (goes_places ks.reverse [] (fun k hm => hk k (by simpa using hm)) (by simp; omega))) ?_
  · rw [← e1]; exact hy_init Z h its r
  · simp; omega
  · rw [← e2]; exact hy_rev (C := CC w) Z h its r
  · simp; omega
  · exact exr_disown (x := "places") (xs := pints (ks.reverse.foldl plStep [])) (by kernel_rfl) (exr_ret (vl (.list (pints (ks.reverse.foldl plStep [])))))
end
end Mine
namespace Mine
open PySem PySem.Calls PyProof.Rows PySem.W
set_option maxRecDepth 100000
section
variable {w : World} {n : Nat} {env : Env} {ρ ρ' : Env1}
theorem goes_fold {α σ : Type} {t : Expr} {body : List Stmt} (inj : α → PV) (R : σ → Env1) (f : σ → α → σ) (P : α → Prop)
    (hb : ∀ a s, P a → ∃ ρm, Bd (CC w) env W1 t (inj a) (R s) ρm ∧ ExN (CC w) n env W1 ρm body (R (f s a))) : ∀ (l : List α), (∀ a ∈ l, P a) → ∀ s,
      Goes (fun x ρ ρ₁ => ∃ ρm, Bd (CC w) env W1 t x ρ ρm ∧ ExN (CC w) n env W1 ρm body ρ₁) (l.map inj) (R s) (R (l.foldl f s))
  | [], h, s => .nil _
  | a :: l, h, s => .cons (hb a s (h a List.mem_cons_self)) (goes_fold inj R f P hb l (fun b q => h b (List.mem_cons_of_mem _ q)) (f s a))
noncomputable abbrev bx : Int → Int → Int := Builtin.bitXor
noncomputable def absI (a : Int) : Int := if a < 0 then -a else a
noncomputable def gapX (c o : Int) : Int := bx (absI (c - o)) (absI (c - o) - 1)
noncomputable def innerW (c : Int) (os : List Int) (t : Int) : Int := os.foldl (fun t o => bx t (gapX c o)) t
noncomputable def worthI (cs : List Int) : Int := (List.range cs.length).foldl (fun t k => innerW (cs.getD k 0) (cs.take k) (bx t (cs.getD k 0))) 0
noncomputable abbrev evW (L : Addr) : Env := envOfC "_law_worth" (fnS (st 81)) L 222 (.ref 221)
noncomputable abbrev V0 (cs : List Int) (t : Int) : Env1 := put (put nil1 "coins" (.val (.list (pints cs)))) "told" (.val (.int t))
noncomputable abbrev V1 (cs : List Int) (k : Nat) (t : Int) : Env1 := put (V0 cs t) "k" (.val (.int (k : Int)))
theorem pints_get {cs : List Int} {k : Nat} (h : k < cs.length) : (pints cs)[((k : Int)).toNat]? = some (.int (cs.getD k 0)) := by
  simp [pints, h, List.getD]
noncomputable abbrev inS : Stmt := nth (forB (nth (fnB (st 81)) 1)) 1
theorem in_worth {L : Addr} {cs : List Int} {k : Nat} (hk : k < cs.length) (hl : cs.length ≤ 1000) (o t : Int) :
    ExN (CC w) n (evW L) W1 (put (V1 cs k t) "other" (.val (.int o))) (forB inS) (V1 cs k (bx t (gapX (cs.getD k 0) o))) :=
  (ex_cons (xa (p := .int (absI (cs.getD k 0 - o))) (vb "abs" (ev_bin (ev_item (vl (.list (pints cs))) (vl (.int (k : Int))) (by omega) (pints_get hk) (by omega)) (vl (.int o)) op_sub) b_abs))
    (ex_cons (xo (.int t) (ev_bin (vl (.int (absI (cs.getD k 0 - o)))) (ev_bin (vl (.int (absI (cs.getD k 0 - o)))) ev_int op_sub) op_xor) io_xor) ex_nil)).weak (le_put (by kernel_rfl) (le_put (by kernel_rfl) (le_put (by kernel_rfl) le_nil)))
theorem out_worth {L : Addr} {cs : List Int} {k : Nat} (hk : k < cs.length) (hl : cs.length ≤ 1000) (t : Int) :
    ExN (CC w) n (evW L) W1 (put (V0 cs t) "k" (.val (.int (k : Int)))) (forB (nth (fnB (st 81)) 1)) (V0 cs (innerW (cs.getD k 0) (cs.take k) (bx t (cs.getD k 0)))) := by
  have g := goes_fold (w := w) (n := n) (env := evW L) (t := forT inS) (body := forB inS) PV.int (V1 cs k) (fun t o => bx t (gapX (cs.getD k 0) o)) (fun _ => True) (fun o t _ => ⟨_, bn (by exact sl), in_worth hk hl o t⟩) (cs.take k) (fun _ _ => trivial) (bx t (cs.getD k 0))
  have hb := sz500
  refine (ex_cons ((xo (.int t) (ev_item (vl (.list (pints cs))) (vl (.int (k : Int))) (by omega) (pints_get hk) (by omega)) io_xor).weak (ρ'' := V1 cs k (bx t (cs.getD k 0))) (le_put (by kernel_rfl) (le_put (by kernel_rfl) (le_put (by kernel_rfl) le_nil))))
    (ex_cons (ex_for (it_list (ev_slice (ys := pints (cs.take k)) (vl (.list (pints cs))) evp_none (evp_some (vl (.int (k : Int)))) evp_none (by decide) (fun Z h its r => ?_) (by rw [pints_len]; omega))) g) ex_nil)).weak (le_put (by kernel_rfl) (le_put (by kernel_rfl) le_nil))
  have e : pints (cs.take k) = (pints cs).take k := by simp [pints]
  rw [e]
  exact hy_upto k Z h its r
theorem rangeP_map (k : Nat) : rangeP k = (List.range k).map fun (i : Nat) => PV.int (i : Int) := by simp [rangeP, rangeI]
theorem f_worth {cs : List Int} (hl : cs.length ≤ 1000) : Fn (CC w) (n + 1) 222 [.list (pints cs)] (.int (worthI cs)) := by
  refine fn_def1 (o := o170 w.params) (name := "_law_worth") (params := fnP (st 81)) (body := fnB (st 81)) (scope := fnS (st 81)) (cd := .ref 221) (doc := .none) (x := "coins") (by kernel_rfl) rfl (by kernel_rfl) (fun v => by kernel_rfl) (.inl (by kernel_rfl))
    (fun L => ?_) (by kernel_rfl) (by kernel_rfl) (by kernel_rfl)
  have g := goes_fold (w := w) (n := n) (env := evW L) (t := forT (nth (fnB (st 81)) 1)) (body := forB (nth (fnB (st 81)) 1)) (fun (i : Nat) => PV.int (i : Int)) (V0 cs) (fun t k => innerW (cs.getD k 0) (cs.take k) (bx t (cs.getD k 0))) (fun k => k < cs.length)
    (fun k t hk => ⟨_, bn (by exact sl), out_worth hk hl t⟩) (List.range cs.length) (fun k hk => List.mem_range.mp hk) 0
  rw [← rangeP_map] at g
  refine exr_step (xa (p := .int 0) ev_int) (exr_step (ex_for (xs := rangeP cs.length) ?_ g) (exr_ret (vl (.int (worthI cs)))))
  have := it_range (C := CC w) (n := n) (env := evW L) (ρ := V0 cs 0) (px := ⟨128, 13, 128, 18⟩) (pos := ⟨128, 13, 128, 30⟩) (k := ((pints cs).length : Int)) (by kernel_rfl) (vlen (px := ⟨128, 19, 128, 22⟩) (pos := ⟨128, 19, 128, 29⟩) (e := .Name "coins" ⟨128, 23, 128, 28⟩) (vl (.list (pints cs))) (by rw [pints_len]; omega)) (by rw [pints_len]; omega) (by omega) (by rfl) (by kernel_rfl) (by kernel_rfl) (by kernel_rfl) (by kernel_rfl)
  rw [Int.toNat_natCast, pints_len] at this
  exact this
end
end Mine
namespace Mine
open PySem PySem.Calls PyProof.Rows PySem.W
set_option maxRecDepth 100000
theorem xor_and : ∀ (n a b : Nat), a < n → a + b = (a ^^^ b) + 2 * (a &&& b)
  | 0, a, b, h => by omega
  | n + 1, a, b, h => by
    by_cases h0 : a = 0
    · subst h0; simp
    · have ih := xor_and n (a / 2) (b / 2) (by omega)
      have e1 : (a ^^^ b) / 2 = a / 2 ^^^ b / 2 := Nat.xor_div_two
      have e2 : (a &&& b) / 2 = a / 2 &&& b / 2 := Nat.and_div_two
      have e3 : (a ^^^ b) % 2 = (a + b) % 2 := by
        have h1 := Nat.xor_mod_two_eq_one (a := a) (b := b)
        generalize a ^^^ b = z at h1 ⊢
        omega
      have e4 : (a &&& b) % 2 = (a % 2) * (b % 2) := by
        rcases Nat.mod_two_eq_zero_or_one a with p | p <;> rcases Nat.mod_two_eq_zero_or_one b with q | q <;> simp [p, q, Nat.and_mod_two_eq_one]
        all_goals
          first
          | (rcases Nat.mod_two_eq_zero_or_one (a &&& b) with r | r
             · exact r
             · have := Nat.and_mod_two_eq_one.mp r; omega)
          | exact Nat.and_mod_two_eq_one.mpr ⟨p, q⟩
      rcases Nat.mod_two_eq_zero_or_one a with p | p <;> rcases Nat.mod_two_eq_zero_or_one b with q | q <;> rw [p, q] at e4 <;> omega
theorem bx_nat (a b : Nat) : bx (a : Int) (b : Int) = ((a ^^^ b : Nat) : Int) := by
  show Builtin.bitXor (a : Int) (b : Int) = _
  rw [bitXor_and]
  have e : Builtin.bitAnd (a : Int) (b : Int) = ((a &&& b : Nat) : Int) := by
    unfold Builtin.bitAnd
    simp
  rw [e]
  have := xor_and (a + 1) a b (by omega)
  omega
noncomputable abbrev up (l : List Nat) : List Int := l.map fun (k : Nat) => (k : Int)
noncomputable def absN (a b : Nat) : Nat := (a - b) + (b - a)
noncomputable def gapN (c o : Nat) : Nat := absN c o ^^^ (absN c o - 1)
theorem gap_nat {c o : Nat} (h : c ≠ o) : gapX (c : Int) (o : Int) = ((gapN c o : Nat) : Int) := by
  have e : absI ((c : Int) - (o : Int)) = ((absN c o : Nat) : Int) := by
    unfold absI absN
    split <;> omega
  have e2 : ((absN c o : Nat) : Int) - 1 = ((absN c o - 1 : Nat) : Int) := by unfold absN; omega
  unfold gapX
  rw [e, e2, bx_nat]
  rfl
noncomputable def innerN (c : Nat) (os : List Nat) (t : Nat) : Nat := os.foldl (fun t o => t ^^^ gapN c o) t
theorem inner_nat {c : Nat} : ∀ (os : List Nat) (t : Nat), c ∉ os → innerW (c : Int) (up os) (t : Int) = ((innerN c os t : Nat) : Int)
  | [], t, h => rfl
  | o :: os, t, h => by
    rw [List.mem_cons, not_or] at h
    show innerW (c : Int) (up os) (bx (t : Int) (gapX (c : Int) (o : Int))) = _
    rw [gap_nat h.1, bx_nat, inner_nat os _ h.2]
    rfl
/-- the worth, gone through from the front: behind are the coins before -/
noncomputable def worthF (behind : List Nat) (t : Nat) : List Nat → Nat
  | [] => t
  | c :: cs => worthF (behind ++ [c]) (innerN c behind (t ^^^ c)) cs
noncomputable def worthN (cs : List Nat) : Nat := worthF [] 0 cs
theorem worth_go : ∀ (cs behind : List Nat) (t : Nat), (behind ++ cs).Nodup →
    (List.range' behind.length cs.length).foldl (fun t k => innerW ((up (behind ++ cs)).getD k 0) ((up (behind ++ cs)).take k) (bx t ((up (behind ++ cs)).getD k 0))) (t : Int) = ((worthF behind t cs : Nat) : Int)
  | [], behind, t, h => rfl
  | c :: cs, behind, t, h => by
    rw [List.length_cons, List.range'_succ, List.foldl_cons]
    have e1 : (up (behind ++ c :: cs)).getD behind.length 0 = (c : Int) := by simp [up, List.getD]
    have e2 : (up (behind ++ c :: cs)).take behind.length = up behind := by simp [up]
    have hc : c ∉ behind := by
      have := (List.nodup_append.mp h).2.2
      intro hm
      exact this c hm c List.mem_cons_self rfl
    rw [e1, e2, bx_nat, inner_nat behind _ hc]
    have e3 : behind ++ c :: cs = (behind ++ [c]) ++ cs := by simp
    rw [e3] at h ⊢
    have := worth_go cs (behind ++ [c]) (innerN c behind (t ^^^ c)) h
    rw [List.length_append, List.length_singleton] at this
    exact this
theorem worth_nat {cs : List Nat} (h : cs.Nodup) : worthI (up cs) = ((worthN cs : Nat) : Int) := by
  have := worth_go cs [] 0 (by simpa using h)
  unfold worthI
  rw [List.range_eq_range']
  unfold worthN
  simpa [up] using this
noncomputable def movesN (cs : List Nat) : List (Nat × Nat) := cs.flatMap fun a => ((List.range a).filter fun b => !cs.any (· == b)).map fun b => (a, b)
noncomputable def reachN (cs : List Nat) : List Nat := (movesN cs).map fun m => worthN (cs.filter (fun c => c != m.1) ++ [m.2])
noncomputable def lensN (cs : List Nat) : Nat := (movesN cs).foldl (fun t m => t ^^^ ((m.1 - m.2) ^^^ (m.1 - m.2 - 1))) 0
noncomputable def idx (bs : List Bool) : List Nat := (List.range 9).filter fun k => bs.getD k false
noncomputable def idxT (bs : List Bool) : List Nat := (List.range 9).filter fun k => !(bs.getD (8 - k) false)
noncomputable def stripOk (bs : List Bool) : Bool :=
  let cs := idx bs
  let W := worthN cs
  let R := reachN cs
  ((List.range (W + 1)).filter fun n => !R.any (· == n)) == [W] && lensN cs == W && worthN (idxT bs) == W && decide (W < 100) && decide ((movesN cs).length ≤ 100)
noncomputable def allBits : Nat → List (List Bool)
  | 0 => [[]]
  | n + 1 => (allBits n).flatMap fun l => [false :: l, true :: l]
theorem mem_bits : ∀ bs : List Bool, bs ∈ allBits bs.length
  | [] => by simp [allBits]
  | b :: bs => by
    rw [List.length_cons, allBits, List.mem_flatMap]
    exact ⟨bs, mem_bits bs, by cases b <;> simp⟩
theorem strips_all : (allBits 9).all stripOk = true := by kernel_rfl
theorem strips_ok {bs : List Bool} (h : bs.length = 9) : stripOk bs = true := List.all_eq_true.mp strips_all bs (h ▸ mem_bits bs)
end Mine
namespace Mine
open PySem PySem.Calls PyProof.Rows PySem.W
set_option maxRecDepth 100000
theorem tabs_all (P : Params) : ((List.range 4).all fun j => (stL.getD j []).all fun c => (heldN P c == (j % 2 == 1)) && (decide (256 ≤ c) == decide (1 < j))) = true := by kernel_rfl
theorem tab_ok (P : Params) (m : Nat) : heldN P (codeOf m) = (m % 4 % 2 == 1) ∧ decide (256 ≤ codeOf m) = decide (1 < m % 4) := by
  have h1 := List.all_eq_true.mp (tabs_all P) (m % 4) (List.mem_range.mpr (Nat.mod_lt _ (by decide)))
  have h2 := List.all_eq_true.mp h1 (codeOf m) (code_mem m)
  rw [Bool.and_eq_true, beq_iff_eq, beq_iff_eq] at h2
  exact h2
theorem held_ok {P : Params} {m : Nat} (h : m < 480) : heldN P (codeOf m) = (m % 2 == 1) := by
  rw [(tab_ok P m).1, show m % 4 % 2 = m % 2 by omega]
theorem codes_cmp {m : Nat} (h : m < 480) : decide (256 ≤ codeOf m) = decide (1 < m % 4) := (tab_ok (aWorld 1).params m).2
-- splitting a text of rows
open PySem.Builtin.Str PySem.StrLaws in
theorem at_iff {l : List Nat} {i : Nat} : At (S l) (S [13, 10]) (S l).length i ↔ (l.drop i).take 2 = [13, 10] := by
  show i + (S [13, 10]).length ≤ (S l).length ∧ ((S l).cps.extract i (i + (S [13, 10]).length) == (S [13, 10]).cps) = true ↔ _
  have e : (((S l).cps.extract i (i + (S [13, 10]).length) == (S [13, 10]).cps) = true) ↔ (l.drop i).take 2 = [13, 10] := by
    rw [beq_iff_eq]
    constructor
    · intro h
      have := congrArg Array.toList h
      rw [ext_list] at this
      simpa [str_len] using this
    · intro h
      apply Array.toList_inj.mp
      rw [ext_list]
      simpa [str_len] using h
  rw [e]
  constructor
  · exact fun h => h.2
  · intro h
    refine ⟨?_, h⟩
    have h2 := congrArg List.length h
    rw [str_len l]
    rw [List.length_take, List.length_drop] at h2
    have : (S [13, 10]).length = 2 := rfl
    simp at h2
    omega
theorem take2_dots {k c a : Nat} {l r : List Nat} (h : l.drop a = List.replicate k 46 ++ r) (h1 : a ≤ c) (h2 : c < a + k) : (l.drop c).take 2 ≠ [13, 10] := by
  have e : l.drop c = (l.drop a).drop (c - a) := by rw [List.drop_drop]; congr 1; omega
  rw [e, h, List.drop_append_of_le_length (by rw [List.length_replicate]; omega), List.drop_replicate, show k - (c - a) = (k - (c - a) - 1) + 1 by omega, List.replicate_succ]
  simp
open PySem.Builtin.Str PySem.StrLaws in
theorem parts_rows {l : List Nat} : ∀ (ks : List Nat) (cuts : List Nat) (a f : Nat), l.drop a = ks.flatMap (fun k => List.replicate k 46 ++ [13, 10]) → a ≤ l.length → ChainG (S l) (S [13, 10]) (S l).length a cuts f → (∀ k, f ≤ k → ¬ At (S l) (S [13, 10]) (S l).length k) →
    partsFrom (S l) 2 a cuts = (ks.map fun k => dots k) ++ [S []]
  | [], cuts, a, f, hd, ha, hc, hn => by
    have hlen : l.length ≤ a := by simpa using hd
    cases cuts with
    | nil =>
      show [strSub (S l) a (S l).length] = [S []]
      congr 1
      show Str.mk _ = Str.mk _
      congr 1
      apply Array.toList_inj.mp
      rw [ext_list]
      simp [hlen]
    | cons c r =>
      have h2 := at_iff.mp hc.2.1
      have h3 := hc.1
      rw [List.drop_of_length_le (by omega)] at h2
      cases h2
  | k :: ks, cuts, a, f, hd, ha, hc, hn => by
    rw [List.flatMap_cons, List.append_assoc] at hd
    have hat : At (S l) (S [13, 10]) (S l).length (a + k) := at_iff.mpr (by
      have e : l.drop (a + k) = (l.drop a).drop k := by rw [List.drop_drop]
      rw [e, hd, List.drop_append_of_le_length (by rw [List.length_replicate]; omega)]
      simp)
    cases cuts with
    | nil =>
      have : f = a := hc
      exact absurd hat (hn _ (by omega))
    | cons c r =>
      obtain ⟨h1, h2, h3, h4⟩ := hc
      have hck : c = a + k := by
        rcases Nat.lt_trichotomy c (a + k) with q | q | q
        · exact absurd (at_iff.mp h2) (take2_dots hd h1 q)
        · exact q
        · exact absurd hat (h3 _ (by omega) q)
      subst hck
      have hl2 : a + k + 2 ≤ l.length := by
        have := congrArg List.length hd
        simp only [List.length_drop, List.length_append, List.length_replicate, List.length_cons, List.length_nil] at this
        omega
      have hd2 : l.drop (a + k + 2) = ks.flatMap (fun k => List.replicate k 46 ++ [13, 10]) := by
        have e : l.drop (a + k + 2) = (l.drop a).drop (k + 2) := by rw [List.drop_drop]; congr 1
        rw [e, hd, ← List.append_assoc, List.drop_append_of_le_length (by simp)]
        simp
      show strSub (S l) a (a + k) :: partsFrom (S l) 2 (a + k + 2) r = _
      rw [parts_rows ks r (a + k + 2) f hd2 hl2 h4 hn]
      rw [List.map_cons, List.cons_append]
      congr 1
      show Str.mk _ = Str.mk _
      congr 1
      apply Array.toList_inj.mp
      rw [ext_list]
      show (l.drop a).take (a + k - a) = List.replicate k 46
      rw [hd, show a + k - a = k by omega]
      simp
open PySem.Builtin.Str PySem.StrLaws in
theorem split_rows (ks : List Nat) : Txt.split (S (ks.flatMap fun k => List.replicate k 46 ++ [13, 10])) (S [13, 10]) = (ks.map fun k => dots k) ++ [S []] := by
  have key : ∀ cuts f, ChainG (S (ks.flatMap fun k => List.replicate k 46 ++ [13, 10])) (S [13, 10]) (S (ks.flatMap fun k => List.replicate k 46 ++ [13, 10])).length 0 cuts f → (∀ k, f ≤ k → ¬ At (S (ks.flatMap fun k => List.replicate k 46 ++ [13, 10])) (S [13, 10]) (S (ks.flatMap fun k => List.replicate k 46 ++ [13, 10])).length k) →
      partsFrom (S (ks.flatMap fun k => List.replicate k 46 ++ [13, 10])) 2 0 cuts = (ks.map fun k => dots k) ++ [S []] := fun cuts f h1 h2 => parts_rows ks cuts 0 f (by simp) (Nat.zero_le _) h1 h2
  obtain ⟨f, h1, h2⟩ := occ_tight (S (ks.flatMap fun k => List.replicate k 46 ++ [13, 10])) (S [13, 10]) (by decide)
  have k1 := key _ f h1 h2
  unfold Txt.split
  by_cases hs : (decide ((S (ks.flatMap fun k => List.replicate k 46 ++ [13, 10])).length < (S [13, 10]).length) || decide (strKind (S (ks.flatMap fun k => List.replicate k 46 ++ [13, 10])) < strKind (S [13, 10]))) = true
  · rw [if_pos hs]
    have h3 : ¬ strKind (S (ks.flatMap fun k => List.replicate k 46 ++ [13, 10])) < strKind (S [13, 10]) := by
      have e : strKind (S [13, 10]) = 1 := by decide +kernel
      have := PyProof.Rows.strKind_pos (S (ks.flatMap fun k => List.replicate k 46 ++ [13, 10]))
      omega
    simp only [h3, decide_false, Bool.or_false, decide_eq_true_eq, str_len] at hs
    cases ks with
    | nil => rfl
    | cons k ks =>
      simp at hs
      omega
  · rw [if_neg hs]
    split
    · rename_i he
      rw [← k1, List.isEmpty_iff.mp he]
      show [_] = [strSub _ 0 _]
      rw [sub_whole]
    · rw [partsBetween_eq]
      exact k1
theorem rt_end {h : Bool} (rows : List (Nat × Bool)) : rt h (endR rows) = (rows.map fun r => r.1).flatMap fun k => List.replicate k 46 ++ [13, 10] := by
  simp [rt, endR, eolT, List.flatMap_map]
noncomputable def mailOk (bs : List Bool) : Bool :=
  let rows := rowsEnd bs
  rows.all (fun r => decide (r.1 ≤ 12)) && decide (rows.length ≤ 9) &&
    ((rows.map fun r => r.1).reverse.foldl plStep [] == up (idx bs))
theorem mails_all : (allBits 9).all mailOk = true := by kernel_rfl
theorem mail_ok {h : Bool} {bs : List Bool} (hb : bs.length = 9) : Txt.split (S (rt h (rowsEnd bs))) (S [13, 10]) = (((rowsEnd bs).map fun r => r.1).map fun k => dots k) ++ [S []] ∧ (∀ k ∈ (rowsEnd bs).map fun r => r.1, k ≤ 12) ∧ ((rowsEnd bs).map fun r => r.1).length ≤ 1000 ∧
    ((rowsEnd bs).map fun r => r.1).reverse.foldl plStep [] = up (idx bs) := by
  have q := List.all_eq_true.mp mails_all bs (hb ▸ mem_bits bs)
  simp only [mailOk, Bool.and_eq_true, beq_iff_eq, decide_eq_true_eq, List.all_eq_true] at q
  obtain ⟨⟨q2, q3⟩, q4⟩ := q
  refine ⟨?_, fun k hk => ?_, by rw [List.length_map]; omega, q4⟩
  · rw [show rt h (rowsEnd bs) = ((rowsEnd bs).map fun r => r.1).flatMap fun k => List.replicate k 46 ++ [13, 10] by
      unfold rowsEnd
      rw [rt_end]
      simp [endR, Function.comp_def]]
    exact split_rows _
  · obtain ⟨r, hr, rfl⟩ := List.mem_map.mp hk
    exact q2 r hr
end Mine
namespace Mine
open PySem PySem.Calls PyProof.Rows PySem.W
set_option maxRecDepth 100000
section
variable {w : World} {n : Nat} {env : Env} {ρ ρ' ρ₀ : Env1}
theorem ex_comp1 {C : Cfg} {W : Str → Prop} {α : Type} {l : List α} {inj : α → PV} {bnd : α → Env1} (p : α → Bool) (F : α → PV) {elt t iter : Expr} {ifs : List Expr} {scope : Scope} {y : Str} {py pos spos : Pos}
    (hit : It C n env ρ iter (l.map inj)) (hok : compOk env scope = true) (hsz : l.length ≤ sizeLine) (hle : Le ρ₀ (captV scope ρ))
    (hbd : ∀ L, ∀ a ∈ l, Bd C (cEnv scope env L) (cW env scope) t (inj a) ρ₀ (bnd a)) (hbl : ∀ a ∈ l, Le ρ₀ (bnd a))
    (hts : ∀ L, ∀ a ∈ l, Ts C n (cEnv scope env L) (bnd a) ifs (p a)) (hel : ∀ L, ∀ a ∈ l, p a = true → Ev C n (cEnv scope env L) (bnd a) elt (F a))
    (hy : env.kindOf y = some .local) (hw : W y)
    (hsw : swapsWith (.ListComp elt [⟨t, iter, ifs, 0⟩] scope pos) (some (.Name y py)) spos.line env = pure true := by rfl)
    (hs : ∀ x, foldedSetIterable iter env x = pure x := by intro _; rfl) (hk : env.scope.kind = .function := by kernel_rfl) :
    Ex1 C n env W ρ (.Assign [.Name y py] (.ListComp elt [⟨t, iter, ifs, 0⟩] scope pos) spos) (put ρ y (.val (.list ((l.filter p).map F)))) := by
  have e : (l.filter p).map F = (l.filter p).flatMap fun a => [F a] := List.map_eq_flatMap ..
  rw [e]
  refine ex_comp (act := fun L => actElt elt (cEnv scope env L)) (p0 := iter.pos) (ρ' := fun _ => ρ₀) hit hok ?_ (fun L it acc => rfl) (fun L => goes_flat l (hbd L) hbl (hts L) fun a ha hp => em_elt (hel L a ha hp)) hle hy hw hsw hs hk
  rw [← e, List.length_map]
  exact Nat.le_trans (List.length_filter_le ..) hsz
theorem turn2b {elt t1 it1 t2 it2 : Expr} {if1 if2 : List Expr} {scope : Scope} {pos : Pos} {env : Env} (it acc : Value) :
    compTurn (.ListComp elt [⟨t1, it1, if1, 0⟩, ⟨t2, it2, if2, 0⟩] scope pos) 1 it acc env = (standAt it2.pos >>= fun _ => pyNext it >>= fun r => match r with
      | none => pure (.done .next)
      | some v => letOwnedTupleGo t2 it v >>= fun _ => assign t2 env v >>= fun _ => testsOf if2 env >>= fun ok =>
        if ok = true then actElt elt env acc >>= fun _ => again (.compLoop (.ListComp elt [⟨t1, it1, if1, 0⟩, ⟨t2, it2, if2, 0⟩] scope pos) 1 it acc env) else again (.compLoop (.ListComp elt [⟨t1, it1, if1, 0⟩, ⟨t2, it2, if2, 0⟩] scope pos) 1 it acc env)) := by
  unfold compTurn
  dsimp only
  rfl
theorem turn2a {elt t1 it1 t2 it2 : Expr} {if1 if2 : List Expr} {scope : Scope} {pos : Pos} {env : Env} (it acc : Value) :
    compTurn (.ListComp elt [⟨t1, it1, if1, 0⟩, ⟨t2, it2, if2, 0⟩] scope pos) 0 it acc env = (standAt it1.pos >>= fun _ => pyNext it >>= fun r => match r with
      | none => pure (.done .next)
      | some v => letOwnedTupleGo t1 it v >>= fun _ => assign t1 env v >>= fun _ => testsOf if1 env >>= fun ok =>
        if ok = true then actIn elt t1 it1 t2 it2 if1 if2 scope pos env acc >>= fun _ => again (.compLoop (.ListComp elt [⟨t1, it1, if1, 0⟩, ⟨t2, it2, if2, 0⟩] scope pos) 0 it acc env) else again (.compLoop (.ListComp elt [⟨t1, it1, if1, 0⟩, ⟨t2, it2, if2, 0⟩] scope pos) 0 it acc env)) := by
  show (standAt it1.pos >>= fun _ => pyNext it >>= fun r => match r with
      | none => pure (.done .next)
      | some v => letOwnedTupleGo t1 it v >>= fun _ => assign t1 env v >>= fun _ => testsOf if1 env >>= fun ok =>
        if ok = true then (eval it2 env >>= fun x => standAt it2.pos >>= fun _ => foldedSetIterable it2 env x >>= fun x => holding [x] (pyIter x) >>= fun it' => runOwn (.compStart (.ListComp elt [⟨t1, it1, if1, 0⟩, ⟨t2, it2, if2, 0⟩] scope pos) 1 it' acc env) env >>= fun _ => again (.compLoop (.ListComp elt [⟨t1, it1, if1, 0⟩, ⟨t2, it2, if2, 0⟩] scope pos) 0 it acc env)) else again (.compLoop (.ListComp elt [⟨t1, it1, if1, 0⟩, ⟨t2, it2, if2, 0⟩] scope pos) 0 it acc env)) = _
  simp only [actIn, bind_assoc, pure_bind]
theorem em_in2 {C : Cfg} {W : Str → Prop} {elt t1 it1 t2 it2 : Expr} {if1 if2 : List Expr} {scope : Scope} {pos : Pos} {xs os : List PV} (hit : It C n env ρ it2 xs)
    (g : GoesO (StepG C n env W t2 if2 (actElt elt env)) xs ρ os ρ') (hs : ∀ x, foldedSetIterable it2 env x = pure x) : Em C n env W (actIn elt t1 it1 t2 it2 if1 if2 scope pos env) ρ os ρ' := em_inner hit (fun it acc => turn2b it acc) g hs
theorem ex_comp2 {C : Cfg} {W : Str → Prop} {elt t1 it1 t2 it2 : Expr} {if1 if2 : List Expr} {scope : Scope} {y : Str} {py pos spos : Pos} {xs os : List PV} {ρ' : Addr → Env1}
    (hit : It C n env ρ it1 xs) (hok : compOk env scope = true) (hsz : os.length ≤ sizeLine)
    (g : ∀ L, GoesO (StepG C n (cEnv scope env L) (cW env scope) t1 if1 (actIn elt t1 it1 t2 it2 if1 if2 scope pos (cEnv scope env L))) xs ρ₀ os (ρ' L)) (hle : Le ρ₀ (captV scope ρ))
    (hy : env.kindOf y = some .local) (hw : W y)
    (hsw : swapsWith (.ListComp elt [⟨t1, it1, if1, 0⟩, ⟨t2, it2, if2, 0⟩] scope pos) (some (.Name y py)) spos.line env = pure true := by rfl)
    (hs : ∀ x, foldedSetIterable it1 env x = pure x := by intro _; rfl) (hk : env.scope.kind = .function := by rfl) :
    Ex1 C n env W ρ (.Assign [.Name y py] (.ListComp elt [⟨t1, it1, if1, 0⟩, ⟨t2, it2, if2, 0⟩] scope pos) spos) (put ρ y (.val (.list os))) :=
  ex_comp hit hok hsz (fun L it acc => turn2a it acc) g hle hy hw hsw hs hk
noncomputable abbrev evL (L : Addr) : Env := envOfC "law" (fnS (st 82)) L 227 (.ref 226)
noncomputable abbrev pl (l : List Nat) : PV := .list (pints (up l))
noncomputable abbrev ni (k : Nat) : PV := .int (k : Int)
theorem pl_map (l : List Nat) : pints (up l) = l.map ni := by simp [pints, up]
theorem it_up {e : Expr} {l : List Nat} (h : Ev (CC w) n env ρ e (pl l)) : It (CC w) n env ρ e (l.map ni) := by
  have := it_list (C := CC w) h
  rw [pl_map] at this
  exact this
theorem it_rng {e : Expr} {px pos : Pos} {k : Nat} (h : Ev (CC w) n env ρ e (ni k)) (hk : k < 1000000) (he : starEach [e] env = [(false, eval e env)] := by rfl)
    (hl : env.kindOf "range" = some .globalImplicit := by kernel_rfl) (hf : env.scope.kind = .function := by kernel_rfl) (hg : env.globals = mainGlobals := by kernel_rfl) (hb : env.builtins = builtinsNs := by kernel_rfl) :
    It (CC w) n env ρ (.Call (.Name "range" px) [e] [] pos) ((List.range k).map ni) := by
  have := it_range (C := CC w) (px := px) (pos := pos) (by kernel_rfl) h (by omega) (by omega) he hl hf hg hb
  rw [Int.toNat_natCast, rangeP_map] at this
  exact this
theorem fw {cs : List Nat} (hn : cs.Nodup) (hl : cs.length ≤ 1000) : Fn (CC w) (n + 1) 222 [pl cs] (ni (worthN cs)) := by
  have := f_worth (w := w) (n := n) (cs := up cs) (by simpa using hl)
  rw [worth_nat hn] at this
  exact this
theorem any_up (l : List Nat) (b : Nat) : (up l).any (· == (b : Int)) = l.any (· == b) := by
  induction l with
  | nil => rfl
  | cons a l ih =>
    simp only [up, List.map_cons, List.any_cons] at ih ⊢
    rw [ih]
    congr 1
    by_cases h : a = b
    · subst h; simp
    · have : ¬ ((a : Int) = (b : Int)) := by omega
      rw [beq_eq_false_iff_ne.mpr h, beq_eq_false_iff_ne.mpr this]
theorem tr_notin {a b : Expr} {pos : Pos} {k : Nat} {l : List Nat} (h1 : Ev (CC w) n env ρ a (ni k)) (h2 : Ev (CC w) n env ρ b (pl l)) (hm : behindInMarks .NotIn b = false := by kernel_rfl) : Tr (CC w) n env ρ (.Compare a [.NotIn] [b] pos) (!l.any (· == k)) := by
  have := tr_cmp (C := CC w) (pos := pos) h1 h2 (cp_notin (k := (k : Int)) (ns := up l)) hm
  rw [any_up] at this
  exact this
theorem nodup_idx (bs : List Bool) : (idx bs).Nodup := List.Pairwise.filter _ List.nodup_range
theorem mem_moves {cs : List Nat} {m : Nat × Nat} (h : m ∈ movesN cs) : m.1 ∈ cs ∧ m.2 < m.1 ∧ m.2 ∉ cs := by
  unfold movesN at h
  obtain ⟨a, ha, h⟩ := List.mem_flatMap.mp h
  obtain ⟨b, hb, rfl⟩ := List.mem_map.mp h
  obtain ⟨h1, h2⟩ := List.mem_filter.mp hb
  refine ⟨ha, List.mem_range.mp h1, fun hm => ?_⟩
  simp only [Bool.not_eq_true', List.any_eq_false, beq_iff_eq] at h2
  exact h2 b hm rfl
theorem moved_nodup {cs : List Nat} (hn : cs.Nodup) {m : Nat × Nat} (h : m ∈ movesN cs) : (cs.filter (fun c => c != m.1) ++ [m.2]).Nodup := by
  rw [List.nodup_append]
  refine ⟨List.Pairwise.filter _ hn, by simp, fun a ha b hb e => ?_⟩
  rw [List.mem_singleton] at hb
  subst hb e
  exact (mem_moves h).2.2 (List.mem_filter.mp ha).1
theorem two_le {a b : PV} : [a, b].length ≤ sizeLine := by show (2 : Nat) ≤ _; have := sz500; omega
theorem one_le {a : PV} : [a].length ≤ sizeLine := by show (1 : Nat) ≤ _; have := sz500; omega
noncomputable abbrev tupM (m : Nat × Nat) : PV := .tup [ni m.1, ni m.2]
noncomputable abbrev lpS : Stmt := nth (fnB (st 82)) 11
noncomputable abbrev K0 (cs : List Nat) : Env1 := put nil1 "coins" (.val (pl cs))
/-- moves = [(a, b) for a in coins for b in range(a) if b not in coins] -/
theorem x_moves {L : Addr} {cs : List Nat} (hc : ρ "coins" = some (.val (pl cs))) (hb : ∀ a ∈ cs, a < 1000) (hl : (movesN cs).length ≤ 100000) : Ex1 (CC w) n (evL L) W1 ρ (nth (forB lpS) 1) (put ρ "moves" (.val (.list ((movesN cs).map tupM)))) := by
  have hbig := sz500
  have e : (movesN cs).map tupM = (cs.filter fun _ => true).flatMap fun a => (((List.range a).filter fun b => !cs.any (· == b)).flatMap fun b => [tupM (a, b)]) := by
    unfold movesN
    rw [List.filter_eq_self.mpr (fun _ _ => rfl), List.map_flatMap]
    congr 1
    funext a
    rw [List.map_map, List.map_eq_flatMap]
    rfl
  rw [e]
  refine ex_comp2 (C := CC w) (ρ₀ := K0 cs) (ρ' := fun _ => K0 cs) (it_up (vc (pl cs) hc)) (by kernel_rfl) (by rw [← e, List.length_map]; omega) (fun L' => ?_) ?_ (by kernel_rfl) trivial (by rfl) (by intro _; rfl) (by kernel_rfl)
  · refine goes_flat (bnd := fun (a : Nat) => put (K0 cs) "a" (.val (ni a))) cs (fun a ha => bd_name sl (cw (by kernel_rfl)) (by kernel_rfl)) (fun a ha => le_to (by kernel_rfl) (Le.refl _)) (fun a ha => ts_nil) fun a ha _ => ?_
    refine em_in2 (it_rng (vl (ni a)) (by have := hb a ha; omega)) (goes_flat (bnd := fun (b : Nat) => put (put (K0 cs) "a" (.val (ni a))) "b" (.val (ni b))) (List.range a) (fun b hb => bd_name sl (cw (by kernel_rfl)) (by kernel_rfl)) (fun b hb => le_to (by kernel_rfl) (Le.refl _)) (fun b hb => ts_one (tr_notin (vl (ni b)) (vc (pl cs)))) fun b hb _ => em_elt (ev_tup (evs2 (vl (ni a)) (vl (ni b))) two_le)) (by intro _; rfl)
  · exact le_put (captV_val hc (by kernel_rfl)) le_nil
/-- reached = [_law_worth([c for c in coins if c != a] + [b]) for a, b in moves] -/
theorem x_reached {L : Addr} {cs : List Nat} (hn : cs.Nodup) (hc : ρ "coins" = some (.val (pl cs))) (hm : ρ "moves" = some (.val (.list ((movesN cs).map tupM)))) (hcl : cs.length ≤ 500) (hl : (movesN cs).length ≤ 100000) :
    Ex1 (CC w) (n + 1) (evL L) W1 ρ (nth (forB lpS) 2) (put ρ "reached" (.val (pl (reachN cs)))) := by
  have hbig := sz500
  have e : pl (reachN cs) = .list (((movesN cs).filter fun _ => true).map fun m => ni (worthN (cs.filter (fun c => c != m.1) ++ [m.2]))) := by
    rw [List.filter_eq_self.mpr (fun _ _ => rfl)]
    simp [pl, pints, up, reachN, ni, Function.comp_def]
  rw [e]
  refine xa (ev_comp1 (C := CC w) (l := movesN cs) (inj := tupM) (ρ₀ := K0 cs) (bnd := fun m => put (put (K0 cs) "a" (.val (ni m.1))) "b" (.val (ni m.2))) (fun _ => true) (fun m => ni (worthN (cs.filter (fun c => c != m.1) ++ [m.2]))) (it_list (vl (.list ((movesN cs).map tupM)) hm)) (by kernel_rfl) (by omega)
    (le_put (captV_val hc (by kernel_rfl)) le_nil) (fun L' m hm' => bd_pair (bd_name sc (cw (by kernel_rfl)) (by kernel_rfl)) (bd_name sl (cw (by kernel_rfl)) (by kernel_rfl)) (by rfl)) (fun m hm' => le_to (by kernel_rfl) (le_to (by kernel_rfl) (Le.refl _))) (fun L' m hm' => ts_nil) (fun L' m hm' _ => ?_)) (hx := sc)
  have hcmp : ∀ c : Nat, ((c : Int) != (m.1 : Int)) = (c != m.1) := fun c => by
    by_cases h : c = m.1
    · subst h; simp
    · have : ¬ ((c : Int) = (m.1 : Int)) := by omega
      rw [bne, bne, beq_eq_false_iff_ne.mpr h, beq_eq_false_iff_ne.mpr this]
  have hin : pl (cs.filter (fun c => c != m.1) ++ [m.2]) = .list (((cs.filter fun (c : Nat) => ((c : Int) != (m.1 : Int))).map ni) ++ [ni m.2]) := by
    simp only [hcmp]
    simp [pl, pints, up, ni, Function.comp_def]
  have hle : (cs.filter (fun c => c != m.1)).length ≤ 500 := Nat.le_trans (List.length_filter_le ..) hcl
  have g := fw (w := w) (n := n) (moved_nodup hn hm') (by rw [List.length_append, List.length_singleton]; omega)
  rw [hin] at g
  exact vcall1 222 (vgr 222) (ev_bin (ev_comp1 (C := CC w) (l := cs) (inj := ni) (ρ₀ := put nil1 "a" (.val (ni m.1))) (bnd := fun (c : Nat) => put (put nil1 "a" (.val (ni m.1))) "c" (.val (ni c))) (fun (c : Nat) => ((c : Int) != (m.1 : Int))) ni (it_up (vc (pl cs))) (by kernel_rfl) (by omega)
    (le_put (by kernel_rfl) le_nil) (fun L'' c hc' => bd_name sl (cw (by kernel_rfl)) (by kernel_rfl)) (fun c hc' => le_to (by kernel_rfl) (Le.refl _)) (fun L'' c hc' => ts_one (tr_cmp (vl (ni c)) (vc (ni m.1)) cp_ne (by kernel_rfl))) (fun L'' c hc' _ => vl (ni c))) (ev_list (evs1 (vl (ni m.2))) one_le) (op_cat (by simp only [hcmp, List.length_map, List.length_singleton]; omega))) g
noncomputable def xl (t : Nat) (m : Nat × Nat) : Nat := t ^^^ ((m.1 - m.2) ^^^ (m.1 - m.2 - 1))
theorem bx_move {a b : Nat} (h : b < a) : bx ((a : Int) - (b : Int)) ((a : Int) - (b : Int) - 1) = (((a - b) ^^^ (a - b - 1) : Nat) : Int) := by
  have e1 : (a : Int) - (b : Int) = ((a - b : Nat) : Int) := by omega
  have e2 : ((a - b : Nat) : Int) - 1 = ((a - b - 1 : Nat) : Int) := by omega
  rw [e1, e2, bx_nat]
noncomputable abbrev N0 (ws es : List PV) : Env1 := put (put nil1 "worths" (.own ws)) "ends" (.own es)
noncomputable abbrev N1 (ws es : List PV) (cs ts : List Nat) : Env1 := put (put (N0 ws es) "coins" (.val (pl cs))) "turned" (.val (pl ts))
noncomputable abbrev N4 (ws es : List PV) (cs ts : List Nat) : Env1 := put (put (put (N1 ws es cs ts) "worth" (.val (ni (worthN cs)))) "moves" (.val (.list ((movesN cs).map tupM)))) "reached" (.val (pl (reachN cs)))
noncomputable abbrev N5 (ws es : List PV) (cs ts : List Nat) (t : Nat) : Env1 := put (N4 ws es cs ts) "lengths" (.val (ni t))
theorem Tr.eq {C : Cfg} {e : Expr} {a b : Bool} (h : Tr C n env ρ e a) (q : a = b) : Tr C n env ρ e b := q ▸ h
theorem tr_lne {l r : Expr} {pos : Pos} (ns ms : List Nat) (h1 : Ev (CC w) n env ρ l (.list (ns.map ni))) (h2 : Ev (CC w) n env ρ r (.list (ms.map ni))) (hm : behindInMarks .NotEq r = false := by kernel_rfl) (e : ns = ms) : Tr (CC w) n env ρ (.Compare l [.NotEq] [r] pos) false := by
  rw [← pl_map] at h1 h2
  have := tr_cmp (C := CC w) (pos := pos) h1 h2 (cp_lne (ns := up ns) (ms := up ms)) hm
  rw [e] at this
  simpa using this
theorem len_step {L : Addr} {ws es : List PV} {cs ts : List Nat} (t : Nat) (m : Nat × Nat) (hm : m.2 < m.1) : ∃ ρm, Bd (CC w) (evL L) W1 (forT (nth (forB lpS) 5)) (tupM m) (N5 ws es cs ts t) ρm ∧ ExN (CC w) n (evL L) W1 ρm (forB (nth (forB lpS) 5)) (N5 ws es cs ts (xl t m)) := by
  refine ⟨_, bd_pair (bn (by exact sl)) (bn (by exact sl)) (by rfl), ?_⟩
  have o : Op2 (CC w) n (inplaceOp .BitXor) (ni t) (.int (bx ((m.1 : Int) - (m.2 : Int)) ((m.1 : Int) - (m.2 : Int) - 1))) (ni (xl t m)) := by
    have := io_xor (C := CC w) (n := n) (a := (t : Int)) (b := bx ((m.1 : Int) - (m.2 : Int)) ((m.1 : Int) - (m.2 : Int) - 1))
    have e : Builtin.bitXor (t : Int) (bx ((m.1 : Int) - (m.2 : Int)) ((m.1 : Int) - (m.2 : Int) - 1)) = ((xl t m : Nat) : Int) := by
      rw [bx_move hm]
      exact bx_nat _ _
    rw [e] at this
    exact this
  exact (ex_cons (xo (ni t) (ev_bin (ev_bin (vl (ni m.1)) (vl (ni m.2)) op_sub) (ev_bin (ev_bin (vl (ni m.1)) (vl (ni m.2)) op_sub) ev_int op_sub) op_xor) o) ex_nil).weak
    (le_put (by kernel_rfl) (le_put (by kernel_rfl) (le_put (by kernel_rfl) (le_put (by kernel_rfl) (le_put (by kernel_rfl) (le_put (by kernel_rfl) (le_put (by kernel_rfl) (le_put (by kernel_rfl) le_nil))))))))
theorem xa_app {x : Str} {px apos cpos pos : Pos} {e : Expr} (xs : List PV) {p : PV} (h : Ev (CC w) n env ρ e p) (hsz : xs.length ≤ 1000) (hv : ρ x = some (.own xs) := by kernel_rfl) (hx : Sto env x := by exact sl)
    (hbase : attributeBase (.Name x px) "append" env (eval (.Name x px) env) = eval (.Name x px) env := by rfl)
    (hfew : ((backTo cpos (starEach [e] env)).all (fun x => !x.1) && (backToKw cpos (keywordEach [] env)).all (fun x => x.1.isSome) && decide (([e] : List Expr).length + ([] : List Keyword).length + (if ([] : List Keyword).isEmpty then 0 else 1) < 30)) = true := by rfl)
    (hline : (apos.endLine == cpos.line) = true := by rfl) (htrees : backTo cpos (starEach [e] env) = [(false, eval e env)] := by rfl)
    (hi : interactive env = false := by rfl) (hs : swapsWith (.Call (.Attribute (.Name x px) "append" apos) [e] [] cpos) none pos.line env = pure false := by rfl) (hd : (x == ("__debug__" : Str)) = false := by kernel_rfl) (hk : env.scope.kind = .function := by kernel_rfl) :
    Ex1 (CC w) n env W1 ρ (.Expr (.Call (.Attribute (.Name x px) "append" apos) [e] [] cpos) pos) (put ρ x (.own (xs ++ [p]))) := ex_append hv hx h (by have := sz500; omega) hbase hfew hline htrees hi hs hd hk
theorem loop_body {L : Addr} {ws es : List PV} {cs ts : List Nat} (hn : cs.Nodup) (htn : ts.Nodup) (hcl : cs.length ≤ 500) (htl : ts.length ≤ 500) (hb : ∀ a ∈ cs, a < 1000) (hml : (movesN cs).length ≤ 100000) (hw : worthN cs < 100000)
    (h1 : ((List.range (worthN cs + 1)).filter fun k => !(reachN cs).any (· == k)) = [worthN cs]) (h2 : lensN cs = worthN cs) (h3 : worthN ts = worthN cs) (hws : ws.length ≤ 1000) (hes : es.length ≤ 1000) :
    ExN (CC w) (n + 1) (evL L) W1 (N1 ws es cs ts) (forB lpS) (N0 (ws ++ [ni (worthN cs)]) (es ++ [pl (reachN cs)])) := by
  have hbig := sz500
  have g := goes_fold (w := w) (n := n + 1) (env := evL L) (t := forT (nth (forB lpS) 5)) (body := forB (nth (forB lpS) 5)) tupM (N5 ws es cs ts) xl (fun m => m.2 < m.1) (fun m t hm => len_step t m hm) (movesN cs) (fun m hm => (mem_moves hm).2.1) 0
  have e : (movesN cs).foldl xl 0 = lensN cs := rfl
  rw [e] at g
  refine (ex_cons (xa (p := ni (worthN cs)) (vcall1 222 (vgr 222) (vc (pl cs)) (fw hn (by omega)))) (ex_cons (x_moves (by kernel_rfl) hb hml) (ex_cons (x_reached hn (by kernel_rfl) (by kernel_rfl) hcl hml)
    (ex_cons (ex_if (c := false) (tr_lne _ [worthN cs] (ev_comp1 (C := CC w) (l := List.range (worthN cs + 1)) (inj := ni) (ρ₀ := put nil1 "reached" (.val (pl (reachN cs)))) (bnd := fun (k : Nat) => put (put nil1 "reached" (.val (pl (reachN cs)))) "n" (.val (ni k))) (fun k => !(reachN cs).any (· == k)) ni
        (it_rng (ev_bin (vl (ni (worthN cs))) ev_int op_add) (by omega)) (by kernel_rfl) (by rw [List.length_range]; omega) (le_put (by kernel_rfl) le_nil) (fun L'' c hc' => bd_name sl (cw (by kernel_rfl)) (by kernel_rfl)) (fun c hc' => le_to (by kernel_rfl) (Le.refl _)) (fun L'' c hc' => ts_one (tr_notin (vl (ni c)) (vc (pl (reachN cs))))) (fun L'' c hc' _ => vl (ni c)))
        (ev_list (evs1 (vl (ni (worthN cs)))) one_le) (by kernel_rfl) h1) (fun e => nomatch e) fun _ => ex_nil)
    (ex_cons (xa (p := ni 0) ev_int) (ex_cons (ex_for (it_list (vl (.list ((movesN cs).map tupM)))) g)
    (ex_cons (ex_if (c := false) (Tr.eq (tr_or (tr_cmp (vl (ni (lensN cs))) (vl (ni (worthN cs))) cp_ne (by kernel_rfl)) (tr_or (tr_cmp (vcall1 222 (vgr 222) (vl (pl ts)) (fw htn (by omega))) (vl (ni (worthN cs))) cp_ne (by kernel_rfl)) tr_or_nil)) (by rw [h2, h3]; simp)) (fun e => nomatch e) fun _ => ex_nil)
    (ex_cons (xa_app ws (vl (ni (worthN cs))) hws (hx := sc)) (ex_cons (xa_app es (vc (pl (reachN cs))) hes) ex_nil))))))))).weak (le_put (by kernel_rfl) (le_put (by kernel_rfl) le_nil))
end
end Mine
namespace Mine
open PySem PySem.Calls PyProof.Rows PySem.W
set_option maxRecDepth 100000
section
variable {w : World} {n : Nat} {env : Env} {ρ ρ' ρ₀ : Env1}
theorem ev_compA {C : Cfg} {α : Type} {l : List α} {inj : α → PV} {bnd : α → Env1} (F : α → PV) {elt t iter : Expr} {scope : Scope} {pos : Pos}
    (hit : It C n env ρ iter (l.map inj)) (hok : compOk env scope = true) (hsz : l.length ≤ sizeLine) (hle : Le ρ₀ (captV scope ρ))
    (hbd : ∀ L, ∀ a ∈ l, Bd C (cEnv scope env L) (cW env scope) t (inj a) ρ₀ (bnd a)) (hbl : ∀ a ∈ l, Le ρ₀ (bnd a))
    (hel : ∀ L, ∀ a ∈ l, Ev C n (cEnv scope env L) (bnd a) elt (F a))
    (hs : ∀ x, foldedSetIterable iter env x = pure x := by intro _; rfl) : Ev C n env ρ (.ListComp elt [⟨t, iter, [], 0⟩] scope pos) (.list (l.map F)) := by
  have := ev_comp1 (C := C) (elt := elt) (pos := pos) (fun _ => true) F hit hok hsz hle hbd hbl (fun L a ha => ts_nil) (fun L a ha _ => hel L a ha) hs
  rw [List.filter_eq_self.mpr (fun _ _ => rfl)] at this
  exact this
theorem Ex1.to {W : Str → Prop} {ss : Stmt} (h : Ex1 (CC w) n env W ρ ss ρ') (e : ρ' = ρ₀) : Ex1 (CC w) n env W ρ ss ρ₀ := e ▸ h
-- the draws
noncomputable def consts : List Nat := [12, 22, 5, 16, 0, 35, 110, 1, 94]
noncomputable def drawsN (scr : List Int) : List Nat := (scr.take 9).map (fun x => (x.fmod 480).toNat) ++ consts.drop (scr.take 9).length
theorem draws_len (scr : List Int) : (drawsN scr).length = 9 := by
  unfold drawsN consts
  simp only [List.length_append, List.length_map, List.length_drop, List.length_take, List.length_cons, List.length_nil]
  omega
theorem draws_lt (scr : List Int) : ∀ m ∈ drawsN scr, m < 480 := fun m hm => by
  unfold drawsN at hm
  rcases List.mem_append.mp hm with h | h
  · obtain ⟨x, _, rfl⟩ := List.mem_map.mp h
    have h1 := Int.fmod_nonneg_of_pos x (b := 480) (by decide)
    have h2 := Int.fmod_lt_of_pos x (b := 480) (by decide)
    omega
  · have : ∀ m ∈ consts, m < 480 := by decide
    exact this m (List.mem_of_mem_drop h)
noncomputable abbrev sg (m : Nat) : PV := .str (ch (codeOf m))
noncomputable def hb (ms : List Nat) : List Bool := ms.map fun m => m % 2 == 1
noncomputable def gb (ms : List Nat) : List Bool := ms.map fun m => decide (1 < m % 4)
noncomputable def ab (ms : List Nat) : List Bool := ms.reverse.map fun m => !decide (1 < m % 4)
noncomputable abbrev Z0 (scr : List Int) : Env1 := put nil1 "script" (.val (.list (pints scr)))
noncomputable abbrev Z1 (scr : List Int) (ms : List Nat) : Env1 := put (Z0 scr) "draws" (.val (.list (ms.map ni)))
noncomputable abbrev Z2 (scr : List Int) (ms : List Nat) : Env1 := put (Z1 scr ms) "signs" (.val (.list (ms.map sg)))
noncomputable abbrev Z3 (scr : List Int) (ms : List Nat) : Env1 := put (Z2 scr ms) "held" (.val (.list ((hb ms).map PV.bool)))
noncomputable abbrev Z4 (scr : List Int) (ms : List Nat) : Env1 := put (Z3 scr ms) "first" (.val (pl (idx (hb ms))))
noncomputable abbrev Z5 (scr : List Int) (ms : List Nat) : Env1 := put (Z4 scr ms) "second" (.val (pl (idx (gb ms))))
noncomputable abbrev Z6 (scr : List Int) (ms : List Nat) : Env1 := put (Z5 scr ms) "about" (.val (pl (idx (ab ms))))
theorem pints_take (scr : List Int) : (pints scr).take 9 = (scr.take 9).map PV.int := by simp [pints]
theorem x_draws {L : Addr} {scr : List Int} (hl : scr.length ≤ 1000) : Ex1 (CC w) n (evL L) W1 (Z0 scr) (nth (fnB (st 82)) 0) (Z1 scr (drawsN scr)) := by
  have hbig := sz500
  have e : PV.list ((drawsN scr).map ni) = .list (((scr.take 9).map fun x => PV.int (x.fmod 480)) ++ (consts.map ni).drop (scr.take 9).length) := by
    unfold drawsN
    rw [List.map_append, List.map_map, List.map_drop]
    congr 2
    refine List.map_congr_left fun x _ => ?_
    have h1 := Int.fmod_nonneg_of_pos x (b := 480) (by decide)
    show PV.int (((x.fmod 480).toNat : Nat) : Int) = PV.int (x.fmod 480)
    rw [Int.toNat_of_nonneg h1]
  show Ex1 _ _ _ _ _ _ (put (Z0 scr) "draws" (.val (.list ((drawsN scr).map ni))))
  rw [e]
  have hlen : ((scr.take 9).map PV.int).length = (scr.take 9).length := List.length_map ..
  have hle9 : (scr.take 9).length ≤ 9 := by rw [List.length_take]; omega
  refine xa (ev_bin (ev_compA (C := CC w) (l := scr.take 9) (inj := PV.int) (ρ₀ := nil1) (bnd := fun x => put nil1 "x" (.val (.int x))) (fun x => .int (x.fmod 480))
      (it_list (ev_slice (ys := (scr.take 9).map PV.int) (vl (.list (pints scr))) evp_none (evp_some ev_int) evp_none (by decide) (fun Z h its r => ?_) ?_)) (by kernel_rfl) (by omega) le_nil
      (fun L' x hx => bd_name sl (cw (by kernel_rfl)) (by kernel_rfl)) (fun x hx => le_nil) (fun L' x hx => ev_bin (vl (.int x)) ev_int (op_mod (by decide))))
    (ev_slice (xs := consts.map ni) (ys := (consts.map ni).drop (scr.take 9).length) (ev_list (evs_cons ev_int (evs_cons ev_int (evs_cons ev_int (evs_cons ev_int (evs_cons ev_int (evs_cons ev_int (evs_cons ev_int (evs_cons ev_int (evs_cons ev_int evs_nil))))))))) (by show (9 : Nat) ≤ _; omega))
      (evp_some (vlen (xs := (scr.take 9).map PV.int) (ev_slice (ys := (scr.take 9).map PV.int) (vl (.list (pints scr))) evp_none (evp_some ev_int) evp_none (by decide) (fun Z h its r => ?_) ?_) (by rw [hlen]; omega))) evp_none evp_none (by decide) (fun Z h its r => ?_) (by show (9 : Nat) ≤ _; omega))
    (op_cat ?_)) (hx := sc)
  · rw [← pints_take]; exact hy_upto 9 Z h its r
  · rw [pints_len]; omega
  · rw [← pints_take]; exact hy_upto 9 Z h its r
  · rw [pints_len]; omega
  · rw [hlen]; exact hy_from _ Z h its r
  · rw [List.length_map, List.length_drop, List.length_map]
    show _ + ((9 : Nat) - _) ≤ _
    omega
theorem x_signs {L : Addr} {scr : List Int} {ms : List Nat} (h9 : ms.length = 9) (hm : ∀ m ∈ ms, m < 480) : Ex1 (CC w) (n + 1) (evL L) W1 (Z1 scr ms) (nth (fnB (st 82)) 1) (Z2 scr ms) :=
  xa (ev_compA (C := CC w) (l := ms) (inj := ni) (ρ₀ := nil1) (bnd := fun m => put nil1 "x" (.val (ni m))) sg (it_list (vc (.list (ms.map ni)))) (by kernel_rfl) (by have := sz500; omega) le_nil
    (fun L' x hx => bd_name sl (cw (by kernel_rfl)) (by kernel_rfl)) (fun x hx => le_nil) (fun L' m hx => vcall1 196 (vgr 196) (vl (ni m)) (f_sign (hm m hx)))) (hx := sc)
theorem x_held {L : Addr} {scr : List Int} {ms : List Nat} (h9 : ms.length = 9) (hm : ∀ m ∈ ms, m < 480) : Ex1 (CC w) (n + 2) (evL L) W1 (Z2 scr ms) (nth (fnB (st 82)) 2) (Z3 scr ms) := by
  have e : PV.list ((hb ms).map PV.bool) = .list (ms.map fun m => .bool (m % 2 == 1)) := by simp [hb, Function.comp_def]
  show Ex1 _ _ _ _ _ _ (put (Z2 scr ms) "held" (.val (.list ((hb ms).map PV.bool))))
  rw [e]
  refine xa (ev_compA (C := CC w) (l := ms) (inj := sg) (ρ₀ := nil1) (bnd := fun m => put nil1 "sign" (.val (sg m))) (fun m => .bool (m % 2 == 1)) (it_list (vc (.list (ms.map sg)))) (by kernel_rfl) (by have := sz500; omega) le_nil
    (fun L' x hx => bd_name sl (cw (by kernel_rfl)) (by kernel_rfl)) (fun x hx => le_nil) (fun L' m hx => ?_)) (hx := sc)
  have f := f_held (w := w) (n := n) (a := codeOf m)
  rw [held_ok (hm m hx)] at f
  exact vcall1 203 (vgr 203) (vl (sg m)) f
theorem f_back {h : Bool} {bs : List Bool} (hl : bs.length = 9) : Fn (CC w) (n + 1) 215 [.str (S (rt h (rowsEnd bs)))] (pl (idx bs)) := by
  obtain ⟨h1, h2, h3, h4⟩ := mail_ok (h := h) hl
  have g := foldl_good bs.reverse [] 0 ⟨Nat.le_refl _, fun r hr => nomatch hr⟩
  rw [List.length_reverse, Nat.zero_add] at g
  have g' : Good bs.length (rowsEnd bs) := ⟨by simpa [rowsEnd, endR] using g.1, fun r hr => by
    simp only [rowsEnd, endR, List.mem_map] at hr
    obtain ⟨r', h', rfl⟩ := hr
    exact g.2 r' h'⟩
  have f := f_places (w := w) (n := n) h1 h2 (Nat.le_trans (g'.len (by omega)) (by omega)) h3
  rw [h4] at f
  exact f
theorem x_first {L : Addr} {scr : List Int} {ms : List Nat} (h9 : ms.length = 9) : Ex1 (CC w) (n + 2) (evL L) W1 (Z3 scr ms) (nth (fnB (st 82)) 3) (Z4 scr ms) :=
  xa (vcall1 215 (vgr 215) (vcall2 210 (vgr 210) (vc (.list ((hb ms).map PV.bool))) ev_bool (f_mail (h := true) (by simp [hb]; omega))) (f_back (by simp [hb]; omega)))
theorem ms_get {ms : List Nat} (f : Nat → PV) {k : Nat} (h : k < ms.length) : (ms.map f)[((k : Int)).toNat]? = some (f (ms.getD k 0)) := by simp [h, List.getD]
theorem gb_get {ms : List Nat} {k : Nat} (h : k < ms.length) : (gb ms).getD k false = decide (1 < ms.getD k 0 % 4) := by simp [gb, h, List.getD]
theorem hb_get {ms : List Nat} {k : Nat} (h : k < ms.length) : (hb ms).getD k false = (ms.getD k 0 % 2 == 1) := by simp [hb, h, List.getD]
theorem ab_get {ms : List Nat} {k : Nat} (h9 : ms.length = 9) (h : k < 9) : (ab ms).getD k false = !decide (1 < ms.getD (8 - k) 0 % 4) := by
  have h1 : k < ms.reverse.length := by rw [List.length_reverse]; omega
  have h2 : ms.reverse[k]'h1 = ms[8 - k]'(by omega) := by rw [List.getElem_reverse]; congr 1; omega
  simp [ab, List.getD, h9, h, show 8 - k < 9 by omega]
theorem idx_lt {bs : List Bool} {k : Nat} (h : k ∈ idx bs) : k < 9 := List.mem_range.mp (List.mem_filter.mp h).1
theorem get_lt {ms : List Nat} (hm : ∀ m ∈ ms, m < 480) {k : Nat} (h : k < ms.length) : ms.getD k 0 < 480 := by
  have e : ms.getD k 0 = ms[k] := by simp [List.getD, h]
  rw [e]
  exact hm _ (List.getElem_mem h)
end
end Mine
namespace Mine
open PySem PySem.Calls PyProof.Rows PySem.W
set_option maxRecDepth 100000
section
variable {w : World} {n : Nat} {env : Env} {ρ ρ' ρ₀ : Env1}
theorem x_second {L : Addr} {scr : List Int} {ms : List Nat} (h9 : ms.length = 9) (hm : ∀ m ∈ ms, m < 480) : Ex1 (CC w) (n + 1) (evL L) W1 (Z4 scr ms) (nth (fnB (st 82)) 4) (Z5 scr ms) := by
  show Ex1 _ _ _ _ _ _ (put (Z4 scr ms) "second" (.val (pl (idx (gb ms)))))
  rw [show pl (idx (gb ms)) = .list ((idx (gb ms)).map ni) from congrArg PV.list (pl_map _)]
  refine ex_comp1 (C := CC w) (l := List.range 9) (inj := ni) (ρ₀ := put nil1 "signs" (.val (.list (ms.map sg)))) (bnd := fun k => put (put nil1 "signs" (.val (.list (ms.map sg)))) "k" (.val (ni k))) (fun k => (gb ms).getD k false) ni
    (it_rng (k := 9) ev_int (by decide)) (by kernel_rfl) (by decide) (le_put (by kernel_rfl) le_nil) (fun L' k hk => bd_name sl (cw (by kernel_rfl)) (by kernel_rfl)) (fun k hk => le_to (by kernel_rfl) (Le.refl _)) (fun L' k hk => ?_) (fun L' k hk _ => vl (ni k)) (by kernel_rfl) trivial
  have hk := List.mem_range.mp hk
  refine ts_one (Tr.eq (tr_plain (vcall1 182 (vgr 182) (vb "ord" (ev_item (vc (.list (ms.map sg))) (vl (ni k)) (by omega) (ms_get sg (by omega)) (by omega)) b_ord) f_nonterm)) ?_)
  rw [gb_get (by omega), ← codes_cmp (get_lt hm (by omega))]
  by_cases h : 256 ≤ codeOf (ms.getD k 0)
  · have : (256 : Int) ≤ ((codeOf (ms.getD k 0) : Nat) : Int) := by omega
    rw [decide_eq_true h, decide_eq_true this]
  · have : ¬ (256 : Int) ≤ ((codeOf (ms.getD k 0) : Nat) : Int) := by omega
    rw [decide_eq_false h, decide_eq_false this]
theorem x_about {L : Addr} {scr : List Int} {ms : List Nat} (h9 : ms.length = 9) (hm : ∀ m ∈ ms, m < 480) : Ex1 (CC w) (n + 2) (evL L) W1 (Z5 scr ms) (nth (fnB (st 82)) 5) (Z6 scr ms) := by
  have hbig := sz500
  have e : PV.list (ms.reverse.map fun m => .bool (!decide (1 < m % 4))) = .list ((ab ms).map PV.bool) := by simp [ab, Function.comp_def]
  refine xa (vcall1 215 (vgr 215) (vcall2 210 (vgr 210) (Ev.eq (ev_compA (C := CC w) (l := ms.reverse) (inj := sg) (ρ₀ := nil1) (bnd := fun m => put nil1 "sign" (.val (sg m))) (fun m => .bool (!decide (1 < m % 4)))
    (it_list (ev_slice (ys := ms.reverse.map sg) (vc (.list (ms.map sg))) evp_none evp_none (evp_some (ev_neg ev_int)) (by decide) (fun Z h its r => ?_) (by rw [List.length_map]; omega))) (by kernel_rfl) (by rw [List.length_reverse]; omega) le_nil
    (fun L' x hx => bd_name sl (cw (by kernel_rfl)) (by kernel_rfl)) (fun x hx => le_nil) (fun L' m hx => ?_)) e) ev_bool (f_mail (h := false) (by simp [ab]; omega))) (f_back (by simp [ab]; omega)))
  · rw [List.map_reverse]; exact hy_rev (C := CC w) Z h its r
  · have f := f_term (w := w) (n := n + 1) (i := ((codeOf m : Nat) : Int))
    have e2 : decide (((codeOf m : Nat) : Int) < 256) = !decide (1 < m % 4) := by
      rw [← codes_cmp (hm m (by simpa using hx))]
      by_cases h : 256 ≤ codeOf m
      · have : ¬ ((codeOf m : Nat) : Int) < 256 := by omega
        simp [h, this]
      · have : ((codeOf m : Nat) : Int) < 256 := by omega
        simp [h, this]
    rw [e2] at f
    exact vcall1 175 (vgr 175) (vb "ord" (vl (sg m)) b_ord) f
theorem pl_ev {C : Cfg} {e : Expr} {l : List Nat} (h : Ev C n env ρ e (pl l)) : Ev C n env ρ e (.list (l.map ni)) := h.eq (congrArg PV.list (pl_map l))
theorem mod2 (m : Nat) : ((m : Int)).fmod 2 = ((m % 2 : Nat) : Int) := by
  rw [Int.fmod_eq_emod_of_nonneg _ (by decide)]
  push_cast
  rfl
theorem mod4 (m : Nat) : ((m : Int)).fmod 4 = ((m % 4 : Nat) : Int) := by
  rw [Int.fmod_eq_emod_of_nonneg _ (by decide)]
  push_cast
  rfl
theorem x_if1 {L : Addr} {scr : List Int} {ms : List Nat} (h9 : ms.length = 9) : Ex1 (CC w) n (evL L) W1 (Z6 scr ms) (nth (fnB (st 82)) 6) (Z6 scr ms) := by
  refine ex_if (c := false) (tr_lne (idx (hb ms)) ((List.range 9).filter fun k => (hb ms).getD k false) (pl_ev (vl (pl (idx (hb ms))))) (ev_comp1 (C := CC w) (l := List.range 9) (inj := ni) (ρ₀ := put nil1 "draws" (.val (.list (ms.map ni)))) (bnd := fun k => put (put nil1 "draws" (.val (.list (ms.map ni)))) "k" (.val (ni k))) (fun k => (hb ms).getD k false) ni
    (it_rng (k := 9) ev_int (by decide)) (by kernel_rfl) (by decide) (le_put (by kernel_rfl) le_nil) (fun L' k hk => bd_name sl (cw (by kernel_rfl)) (by kernel_rfl)) (fun k hk => le_to (by kernel_rfl) (Le.refl _)) (fun L' k hk => ?_) (fun L' k hk _ => vl (ni k))) (by kernel_rfl) rfl) (fun e => nomatch e) fun _ => ex_nil
  have hk := List.mem_range.mp hk
  refine ts_one (Tr.eq (tr_cmp (ev_bin (ev_item (vc (.list (ms.map ni))) (vl (ni k)) (by omega) (ms_get ni (by omega)) (by omega)) ev_int (op_mod (by decide))) ev_int cp_eq (by kernel_rfl)) ?_)
  rw [hb_get (by omega), mod2]
  by_cases h : ms.getD k 0 % 2 = 1
  · rw [h]; rfl
  · have : ms.getD k 0 % 2 = 0 := by omega
    rw [this]; rfl
theorem x_if2 {L : Addr} {scr : List Int} {ms : List Nat} (h9 : ms.length = 9) : Ex1 (CC w) n (evL L) W1 (Z6 scr ms) (nth (fnB (st 82)) 7) (Z6 scr ms) := by
  refine ex_if (c := false) (tr_lne (idx (gb ms)) ((List.range 9).filter fun k => (gb ms).getD k false) (pl_ev (vl (pl (idx (gb ms))))) (ev_comp1 (C := CC w) (l := List.range 9) (inj := ni) (ρ₀ := put nil1 "draws" (.val (.list (ms.map ni)))) (bnd := fun k => put (put nil1 "draws" (.val (.list (ms.map ni)))) "k" (.val (ni k))) (fun k => (gb ms).getD k false) ni
    (it_rng (k := 9) ev_int (by decide)) (by kernel_rfl) (by decide) (le_put (by kernel_rfl) le_nil) (fun L' k hk => bd_name sl (cw (by kernel_rfl)) (by kernel_rfl)) (fun k hk => le_to (by kernel_rfl) (Le.refl _)) (fun L' k hk => ?_) (fun L' k hk _ => vl (ni k))) (by kernel_rfl) rfl) (fun e => nomatch e) fun _ => ex_nil
  have hk := List.mem_range.mp hk
  refine ts_one (Tr.eq (tr_cmp (ev_bin (ev_item (vc (.list (ms.map ni))) (vl (ni k)) (by omega) (ms_get ni (by omega)) (by omega)) ev_int (op_mod (by decide))) ev_int cp_gt (by kernel_rfl)) ?_)
  rw [gb_get (by omega), mod4]
  by_cases h : 1 < ms.getD k 0 % 4
  · have : (1 : Int) < ((ms.getD k 0 % 4 : Nat) : Int) := by omega
    rw [decide_eq_true h, decide_eq_true this]
  · have : ¬ (1 : Int) < ((ms.getD k 0 % 4 : Nat) : Int) := by omega
    rw [decide_eq_false h, decide_eq_false this]
theorem x_if3 {L : Addr} {scr : List Int} {ms : List Nat} (h9 : ms.length = 9) : Ex1 (CC w) n (evL L) W1 (Z6 scr ms) (nth (fnB (st 82)) 8) (Z6 scr ms) := by
  refine ex_if (c := false) (tr_lne (idx (ab ms)) ((List.range 9).filter fun k => (ab ms).getD k false) (pl_ev (vl (pl (idx (ab ms))))) (ev_comp1 (C := CC w) (l := List.range 9) (inj := ni) (ρ₀ := put nil1 "draws" (.val (.list (ms.map ni)))) (bnd := fun k => put (put nil1 "draws" (.val (.list (ms.map ni)))) "k" (.val (ni k))) (fun k => (ab ms).getD k false) ni
    (it_rng (k := 9) ev_int (by decide)) (by kernel_rfl) (by decide) (le_put (by kernel_rfl) le_nil) (fun L' k hk => bd_name sl (cw (by kernel_rfl)) (by kernel_rfl)) (fun k hk => le_to (by kernel_rfl) (Le.refl _)) (fun L' k hk => ?_) (fun L' k hk _ => vl (ni k))) (by kernel_rfl) rfl) (fun e => nomatch e) fun _ => ex_nil
  have hk := List.mem_range.mp hk
  have e8 : (8 : Int) - (k : Int) = ((8 - k : Nat) : Int) := by omega
  refine ts_one (Tr.eq (tr_cmp (ev_bin (ev_item (vc (.list (ms.map ni))) (Ev.eq (ev_bin ev_int (vl (ni k)) op_sub) (congrArg PV.int e8)) (by omega) (ms_get ni (by omega)) (by omega)) ev_int (op_mod (by decide))) ev_int cp_lt (by kernel_rfl)) ?_)
  rw [ab_get h9 (by omega), mod4]
  by_cases h : 1 < ms.getD (8 - k) 0 % 4
  · have : ¬ ((ms.getD (8 - k) 0 % 4 : Nat) : Int) < 2 := by omega
    rw [decide_eq_true h, decide_eq_false this]; rfl
  · have : ((ms.getD (8 - k) 0 % 4 : Nat) : Int) < 2 := by omega
    rw [decide_eq_false h, decide_eq_true this]; rfl
end
end Mine
namespace Mine
open PySem PySem.Calls PyProof.Rows PySem.W
set_option maxRecDepth 100000
structure Strip (cs ts : List Nat) : Prop where
  n1 : cs.Nodup
  n2 : ts.Nodup
  l1 : cs.length ≤ 500
  l2 : ts.length ≤ 500
  b : ∀ a ∈ cs, a < 1000
  ml : (movesN cs).length ≤ 100
  w : worthN cs < 100
  h1 : ((List.range (worthN cs + 1)).filter fun k => !(reachN cs).any (· == k)) = [worthN cs]
  h2 : lensN cs = worthN cs
  h3 : worthN ts = worthN cs
theorem strip_of {bs : List Bool} (h9 : bs.length = 9) {ts : List Nat} (ht : ts = idxT bs) : Strip (idx bs) ts := by
  have q := strips_ok h9
  simp only [stripOk, Bool.and_eq_true, beq_iff_eq, decide_eq_true_eq] at q
  obtain ⟨⟨⟨⟨q1, q2⟩, q3⟩, q4⟩, q5⟩ := q
  subst ht
  have l9 : ∀ (p : Nat → Bool), ((List.range 9).filter p).length ≤ 9 := fun p => Nat.le_trans (List.length_filter_le ..) (by simp)
  exact ⟨nodup_idx bs, List.Pairwise.filter _ List.nodup_range, Nat.le_trans (l9 _) (by decide), Nat.le_trans (l9 _) (by decide), fun a ha => Nat.lt_trans (idx_lt ha) (by decide), q5, q4, q1, q2, q3⟩
theorem Strip.not_mem {cs ts : List Nat} (s : Strip cs ts) : worthN cs ∉ reachN cs := fun hm => by
  have : worthN cs ∈ [worthN cs] := List.mem_singleton.mpr rfl
  rw [← s.h1] at this
  have h := (List.mem_filter.mp this).2
  simp only [Bool.not_eq_true', List.any_eq_false, beq_iff_eq] at h
  exact h _ hm rfl
theorem Strip.mem {cs ts : List Nat} (s : Strip cs ts) {k : Nat} (hk : k < worthN cs) : k ∈ reachN cs := by
  cases h : (reachN cs).any (· == k) with
  | true =>
    obtain ⟨x, hx, e⟩ := List.any_eq_true.mp h
    rw [beq_iff_eq] at e
    exact e ▸ hx
  | false =>
    have : k ∈ ((List.range (worthN cs + 1)).filter fun k => !(reachN cs).any (· == k)) := List.mem_filter.mpr ⟨List.mem_range.mpr (by omega), by rw [h]; rfl⟩
    rw [s.h1, List.mem_singleton] at this
    omega
theorem xor_zero (a b : Nat) : a ^^^ b = 0 ↔ a = b := by
  constructor
  · intro h
    have h1 := xor_and (a + 1) a b (by omega)
    have h2 : a &&& b ≤ a := Nat.and_le_left
    have h3 : a &&& b ≤ b := Nat.and_le_right
    omega
  · rintro rfl
    exact Nat.xor_self a
/-- who may move makes the numbers equal just where they differ -/
theorem law_end {cs ts cs' ts' : List Nat} (s : Strip cs ts) (s' : Strip cs' ts') :
    ((((worthN cs ^^^ worthN cs' : Nat) : Int) == 0) == decide (up ((reachN cs).filter (fun k => k ^^^ worthN cs' == 0) ++ (reachN cs').filter (fun k => k ^^^ worthN cs == 0)) = up [])) = true := by
  have xe : ∀ a b : Nat, a ^^^ b = 0 ↔ a = b := xor_zero
  by_cases h : worthN cs = worthN cs'
  · have e1 : ((((worthN cs ^^^ worthN cs' : Nat) : Int) == 0)) = true := by rw [(xe _ _).mpr h]; rfl
    have e2 : (reachN cs).filter (fun k => k ^^^ worthN cs' == 0) = [] := List.filter_eq_nil_iff.mpr fun k hk => by
      rw [beq_iff_eq, xe]
      rintro rfl
      exact s.not_mem (h ▸ hk)
    have e3 : (reachN cs').filter (fun k => k ^^^ worthN cs == 0) = [] := List.filter_eq_nil_iff.mpr fun k hk => by
      rw [beq_iff_eq, xe]
      rintro rfl
      exact s'.not_mem (h ▸ hk)
    rw [e1, e2, e3]
    rfl
  · have e1 : ((((worthN cs ^^^ worthN cs' : Nat) : Int) == 0)) = false := by
      have : worthN cs ^^^ worthN cs' ≠ 0 := fun q => h ((xe _ _).mp q)
      rw [beq_eq_false_iff_ne]
      omega
    have e2 : up ((reachN cs).filter (fun k => k ^^^ worthN cs' == 0) ++ (reachN cs').filter (fun k => k ^^^ worthN cs == 0)) ≠ up [] := fun q => by
      have q2 : (reachN cs).filter (fun k => k ^^^ worthN cs' == 0) ++ (reachN cs').filter (fun k => k ^^^ worthN cs == 0) = [] := List.map_eq_nil_iff.mp q
      rw [List.append_eq_nil_iff, List.filter_eq_nil_iff, List.filter_eq_nil_iff] at q2
      rcases Nat.lt_or_gt_of_ne h with hl | hl
      · exact q2.2 _ (s'.mem hl) (by rw [beq_iff_eq, xe])
      · exact q2.1 _ (s.mem hl) (by rw [beq_iff_eq, xe])
    rw [e1, decide_eq_false e2]
    rfl
section
variable {w : World} {n : Nat} {env : Env} {ρ ρ' ρ₀ : Env1}
theorem le_up {W : Str → Prop} {ss : List Stmt} (h : ExN (CC w) n env W ρ₀ ss ρ') (hl : Le ρ₀ ρ) : ExN (CC w) n env W ρ ss ρ' := .mk fun A s f R hf I => h.go A s f R hf (I.weak hl)
theorem Strip.body {cs ts : List Nat} (s : Strip cs ts) {L : Addr} {ws es : List PV} (hws : ws.length ≤ 1000) (hes : es.length ≤ 1000) :
    ExN (CC w) (n + 1) (evL L) W1 (N1 ws es cs ts) (forB lpS) (N0 (ws ++ [ni (worthN cs)]) (es ++ [pl (reachN cs)])) :=
  loop_body s.n1 s.n2 s.l1 s.l2 s.b (Nat.le_trans s.ml (by decide)) (Nat.lt_trans s.w (by decide)) s.h1 s.h2 s.h3 hws hes
noncomputable abbrev Y6 (scr : List Int) (ms : List Nat) : Env1 := put (put (Z6 scr ms) "worths" (.own [])) "ends" (.own [])
theorem turned_eq {ms : List Nat} (h9 : ms.length = 9) : idx (ab ms) = idxT (gb ms) := by
  unfold idx idxT
  refine List.filter_congr fun k hk => ?_
  have hk := List.mem_range.mp hk
  rw [ab_get h9 hk, gb_get (by omega)]
theorem x_loop {L : Addr} {scr : List Int} {ms : List Nat} (h9 : ms.length = 9) : Ex1 (CC w) (n + 1) (evL L) W1 (Y6 scr ms) (nth (fnB (st 82)) 11)
    (N0 [ni (worthN (idx (hb ms))), ni (worthN (idx (gb ms)))] [pl (reachN (idx (hb ms))), pl (reachN (idx (gb ms)))]) := by
  have s1 : Strip (idx (hb ms)) (idxT (hb ms)) := strip_of (by simp [hb, h9]) rfl
  have s2 : Strip (idx (gb ms)) (idx (ab ms)) := strip_of (by simp [gb, h9]) (turned_eq h9)
  refine ex_for (xs := [.tup [pl (idx (hb ms)), pl (idxT (hb ms))], .tup [pl (idx (gb ms)), pl (idx (ab ms))]]) (it_list (ev_list (evs2 (ev_tup (evs2 (vl (pl (idx (hb ms)))) (Ev.eq (ev_comp1 (C := CC w) (l := List.range 9) (inj := ni) (ρ₀ := put nil1 "held" (.val (.list ((hb ms).map PV.bool)))) (bnd := fun k => put (put nil1 "held" (.val (.list ((hb ms).map PV.bool)))) "k" (.val (ni k))) (fun k => !(hb ms).getD (8 - k) false) ni
    (it_rng (k := 9) ev_int (by decide)) (by kernel_rfl) (by decide) (le_put (by kernel_rfl) le_nil) (fun L' k hk => bd_name sl (cw (by kernel_rfl)) (by kernel_rfl)) (fun k hk => le_to (by kernel_rfl) (Le.refl _)) (fun L' k hk => ?_) (fun L' k hk _ => vl (ni k))) (congrArg PV.list (pl_map _).symm))) two_le) (ev_tup (evs2 (vl (pl (idx (gb ms)))) (vl (pl (idx (ab ms))))) two_le)) two_le))
    (.cons ⟨_, bd_pair (bn (by exact sc)) (bn (by exact sl)) (by rfl), le_up (s1.body (ws := []) (es := []) (by decide) (by decide)) ?_⟩ (.cons ⟨_, bd_pair (bn (by exact sc)) (bn (by exact sl)) (by rfl), s2.body (ws := [ni (worthN (idx (hb ms)))]) (es := [pl (reachN (idx (hb ms)))]) (by simp) (by simp)⟩ (.nil _)))
  · have hk := List.mem_range.mp hk
    have e8 : (8 : Int) - (k : Int) = ((8 - k : Nat) : Int) := by omega
    have hlen : (hb ms).length = 9 := by simp [hb, h9]
    refine ts_one (tr_not (tr_plain (ev_item (vc (.list ((hb ms).map PV.bool))) (Ev.eq (ev_bin ev_int (vl (ni k)) op_sub) (congrArg PV.int e8)) (by omega) ?_ (by omega))))
    rw [Int.toNat_natCast, List.getElem?_map]
    have : (hb ms)[8 - k]? = some ((hb ms).getD (8 - k) false) := by simp [List.getD, show 8 - k < (hb ms).length by omega]
    rw [this]
    rfl
  · exact le_put (by kernel_rfl) (le_put (by kernel_rfl) (le_put (by kernel_rfl) (le_put (by kernel_rfl) le_nil)))
end
end Mine
namespace Mine
open PySem PySem.Calls PyProof.Rows PySem.W
set_option maxRecDepth 100000
section
variable {w : World} {n : Nat} {env : Env} {ρ ρ' ρ₀ : Env1}
noncomputable abbrev wsL (a b : Nat) : PV := .list [ni a, ni b]
noncomputable abbrev G0 (a b : Nat) (r s : List Nat) : Env1 := put (put (N0 [ni a, ni b] [pl r, pl s]) "worths" (.val (wsL a b))) "ends" (.val (.list [pl r, pl s]))
theorem bx_eof (a b : Nat) : (Builtin.bitXor (a : Int) (b : Int) == 0) = (a ^^^ b == 0) := by
  have := bx_nat a b
  rw [show Builtin.bitXor (a : Int) (b : Int) = bx (a : Int) (b : Int) from rfl, this]
  by_cases h : a ^^^ b = 0
  · rw [h]; rfl
  · have h2 : ((a ^^^ b : Nat) : Int) ≠ 0 := by omega
    rw [beq_eq_false_iff_ne.mpr h, beq_eq_false_iff_ne.mpr h2]
theorem x_good {L : Addr} {a b : Nat} {r s : List Nat} (hr : r.length ≤ 1000) (hs : s.length ≤ 1000) : Ex1 (CC w) (n + 1) (evL L) W1 (G0 a b r s) (nth (fnB (st 82)) 12)
    (put (G0 a b r s) "good" (.val (pl (r.filter (fun k => k ^^^ b == 0) ++ s.filter (fun k => k ^^^ a == 0))))) := by
  have hbig := sz500
  have e : pl (r.filter (fun k => k ^^^ b == 0) ++ s.filter (fun k => k ^^^ a == 0)) = .list ((r.filter (fun k => k ^^^ b == 0)).map ni ++ (s.filter (fun k => k ^^^ a == 0)).map ni) := by
    rw [show pl (r.filter (fun k => k ^^^ b == 0) ++ s.filter (fun k => k ^^^ a == 0)) = _ from congrArg PV.list (pl_map _), List.map_append]
  rw [e]
  refine xa (ev_bin (ev_comp1 (C := CC w) (l := r) (inj := ni) (ρ₀ := put nil1 "worths" (.val (wsL a b))) (bnd := fun k => put (put nil1 "worths" (.val (wsL a b))) "n" (.val (ni k))) (fun k => k ^^^ b == 0) ni
      (it_up (ev_item (k := 0) (xs := [pl r, pl s]) (vl (.list [pl r, pl s])) ev_int (Int.le_refl 0) rfl (by decide))) (by kernel_rfl) (by omega) (le_put (by kernel_rfl) le_nil) (fun L' k hk => bd_name sl (cw (by kernel_rfl)) (by kernel_rfl)) (fun k hk => le_to (by kernel_rfl) (Le.refl _)) (fun L' k hk => ?_) (fun L' k hk _ => vl (ni k)))
    (ev_comp1 (C := CC w) (l := s) (inj := ni) (ρ₀ := put nil1 "worths" (.val (wsL a b))) (bnd := fun k => put (put nil1 "worths" (.val (wsL a b))) "n" (.val (ni k))) (fun k => k ^^^ a == 0) ni
      (it_up (ev_item (k := 1) (xs := [pl r, pl s]) (vl (.list [pl r, pl s])) ev_int (by decide) rfl (by decide))) (by kernel_rfl) (by omega) (le_put (by kernel_rfl) le_nil) (fun L' k hk => bd_name sl (cw (by kernel_rfl)) (by kernel_rfl)) (fun k hk => le_to (by kernel_rfl) (Le.refl _)) (fun L' k hk => ?_) (fun L' k hk _ => vl (ni k)))
    (op_cat ?_))
  · exact ts_one (Tr.eq (tr_plain (vcall1 189 (vgr 189) (ev_bin (vl (ni k)) (ev_item (k := 1) (xs := [ni a, ni b]) (vc (wsL a b)) ev_int (by decide) rfl (by decide)) op_xor) f_eof)) (bx_eof k b))
  · exact ts_one (Tr.eq (tr_plain (vcall1 189 (vgr 189) (ev_bin (vl (ni k)) (ev_item (k := 0) (xs := [ni a, ni b]) (vc (wsL a b)) ev_int (by decide) rfl (by decide)) op_xor) f_eof)) (bx_eof k a))
  · have h1 := List.length_filter_le (fun k => k ^^^ b == 0) r
    have h2 := List.length_filter_le (fun k => k ^^^ a == 0) s
    rw [List.length_map, List.length_map]
    omega
theorem reach_len (cs : List Nat) : (reachN cs).length = (movesN cs).length := List.length_map ..
theorem f_law {scr : List Int} (hl : scr.length ≤ 1000) : Fn (CC w) (n + 3) 227 [.list (pints scr)] (.bool true) := by
  have h9 := draws_len scr
  have hm := draws_lt scr
  have s1 : Strip (idx (hb (drawsN scr))) (idxT (hb (drawsN scr))) := strip_of (by simp [hb, h9]) rfl
  have s2 : Strip (idx (gb (drawsN scr))) (idx (ab (drawsN scr))) := strip_of (by simp [gb, h9]) (turned_eq h9)
  refine fn_def1 (o := o173 w.params) (name := "law") (params := fnP (st 82)) (body := fnB (st 82)) (scope := fnS (st 82)) (cd := .ref 226) (doc := .none) (x := "script") (by kernel_rfl) rfl (by kernel_rfl) (fun v => by kernel_rfl) (.inl (by kernel_rfl))
    (fun L => ?_) (by kernel_rfl) (by kernel_rfl) (by kernel_rfl)
  refine exr_step (x_draws hl) (exr_step (x_signs h9 hm) (exr_step (x_held h9 hm) (exr_step (x_first h9) (exr_step (x_second h9 hm) (exr_step (x_about h9 hm) (exr_step (x_if1 h9) (exr_step (x_if2 h9) (exr_step (x_if3 h9) ?_))))))))
  refine exr_own (by kernel_rfl) sc (exr_own (by kernel_rfl) sl ?_ (hk := by kernel_rfl)) (hk := by kernel_rfl)
  refine exr_step (x_loop h9) ?_
  refine exr_disown (x := "worths") (xs := [ni (worthN (idx (hb (drawsN scr)))), ni (worthN (idx (gb (drawsN scr))))]) (by kernel_rfl) ?_
  refine exr_disown (x := "ends") (xs := [pl (reachN (idx (hb (drawsN scr)))), pl (reachN (idx (gb (drawsN scr))))]) (by kernel_rfl) ?_
  refine exr_step (x_good (by rw [reach_len]; exact Nat.le_trans s1.ml (by decide)) (by rw [reach_len]; exact Nat.le_trans s2.ml (by decide))) ?_
  refine ExR.eq (exr_ret (ev_cmp (vcall1 189 (vgr 189) (ev_bin (ev_item (k := 0) (xs := [ni (worthN (idx (hb (drawsN scr)))), ni (worthN (idx (gb (drawsN scr))))]) (vc (wsL (worthN (idx (hb (drawsN scr)))) (worthN (idx (gb (drawsN scr)))))) ev_int (by decide) rfl (by decide))
    (ev_item (k := 1) (xs := [ni (worthN (idx (hb (drawsN scr)))), ni (worthN (idx (gb (drawsN scr))))]) (vc (wsL (worthN (idx (hb (drawsN scr)))) (worthN (idx (gb (drawsN scr)))))) ev_int (by decide) rfl (by decide)) op_xor) f_eof)
    (ev_cmp (vl (pl ((reachN (idx (hb (drawsN scr)))).filter (fun k => k ^^^ worthN (idx (gb (drawsN scr))) == 0) ++ (reachN (idx (gb (drawsN scr)))).filter (fun k => k ^^^ worthN (idx (hb (drawsN scr))) == 0)))) (ev_list evs_nil (by decide)) (cp_leq (ms := [])) (by kernel_rfl)) cp_eqb (by kernel_rfl))) ?_
  refine congrArg PV.bool ?_
  have := law_end s1 s2
  rw [show Builtin.bitXor ((worthN (idx (hb (drawsN scr))) : Nat) : Int) ((worthN (idx (gb (drawsN scr))) : Nat) : Int) = ((worthN (idx (hb (drawsN scr))) ^^^ worthN (idx (gb (drawsN scr))) : Nat) : Int) from bx_nat _ _]
  exact this
end
end Mine
namespace Mine
open PySem PySem.Calls PyProof.Rows PySem.W
set_option maxRecDepth 100000
theorem hasInt {R : WRecords} {d : WData} (h : WShape.has R d .int = true) : ∃ i, d = .int i := by
  cases d <;> first | exact ⟨_, rfl⟩ | (exfalso; revert h; simp [WShape.has, WShape.arms])
theorem hasList {R : WRecords} {d : WData} (h : WShape.has R d (.list .int) = true) : ∃ ds, d = .list ds ∧ WShape.hasItems R ds .int = true := by
  cases d <;> first | (refine ⟨_, rfl, ?_⟩; simpa [WShape.has, WShape.arms, WShape.armsAll] using h) | (exfalso; revert h; simp [WShape.has, WShape.arms])
theorem hasInts {R : WRecords} : ∀ (ds : List WData), WShape.hasItems R ds .int = true → ∃ is : List Int, ds = is.map WData.int
  | [], _ => ⟨[], rfl⟩
  | d :: ds, h => by
    have h2 : WShape.has R d .int = true ∧ WShape.hasItems R ds .int = true := by simpa [WShape.hasItems] using h
    obtain ⟨i, rfl⟩ := hasInt h2.1
    obtain ⟨is, rfl⟩ := hasInts ds h2.2
    exact ⟨i :: is, rfl⟩
theorem reps_of {R : WRecords} {cl : Str → Option Addr} {Z : Addr → Prop} {h : Heap} : ∀ (is : List Int) (vs : List Value) (as : List Addr), ReadsAllW R cl h vs (is.map WData.int) as → Reps Z h (pints is) vs
  | [], vs, as, r => by cases r; rfl
  | i :: is, vs, as, r => by
    cases r with
    | cons r1 r2 =>
      cases r1
      exact ⟨_, _, rfl, ⟨_, rfl⟩, reps_of is _ _ r2⟩
theorem walkO {d : DefRec} {kwd : List (Str × Expr)} (hn : d.name = "law") : WalkO vw looseN (fun _ _ => True) HK.says PySem.Challenge.rw_re0070_01.row.toRowW d kwd (fun f vs => PySem.call f vs) := by
  intro w s₀ s₁ mg mb G Y fa o pm cd doc dV kV ho hd hcd hD hmg hg args vals as hpre hlay hrd hwl hlo
  have K := kIn_of Y
  have T := G.T
  have hm : mg = mgOf w.params := by
    obtain ⟨o', es, ep, h1, h2, h3, h4⟩ := T.g
    have h5 : s₁.heap.get? mainGlobals = some (o138 w.params) := K _ _ (by kernel_rfl)
    rw [h5] at h1
    cases h1
    funext x
    rw [← h4 x]
    rw [o138_tab] at h2
    cases h2
    exact find_tab w.params x tabM
  have hfa : fa = 227 := by
    rw [hn, hm] at hmg
    have : mgOf w.params "law" = some (.ref 227) := by kernel_rfl
    rw [this] at hmg
    cases hmg
    rfl
  subst hfa
  have B : Base (CC w).K (CC w).mg s₁.heap := ⟨K, by show s₁.heap.Ns mainGlobals (mgOf w.params); rw [← hm]; exact T.g, ⟨mb, T.b, T.builtins⟩, T.nolimit⟩
  obtain ⟨hsh, hcond⟩ := pre_splitW hpre
  obtain ⟨d0, r, rfl, h1, h2⟩ := hasAllW_cons hsh
  obtain rfl := hasAllW_nil h2
  obtain ⟨ds, rfl, h3⟩ := hasList h1
  obtain ⟨is, rfl⟩ := hasInts ds h3
  have hlen : is.length ≤ 1000 := by
    have : (PySem.Challenge.rw_re0070_01.row.toRowW.pre.holds PySem.Challenge.rw_re0070_01.row.toRowW.records { args := [.list (is.map WData.int)] }) = true := hcond
    simp [OpenLaw.row, OpenLaw.pre, PySem.Challenge.rw_re0070_01, WTm.holds, WTm.value] at this
    by_cases h : is.length ≤ 1000
    · exact h
    · exfalso
      have e : less? (WData.int 63) (WData.int (is.length : Int)) = some true := by
        have h2 : (63 : Int) < (is.length : Int) := by omega
        first
          | (show some (decide ((63 : Int) < (is.length : Int))) = some true; rw [decide_eq_true h2])
          | simp [less?, h2]
      rw [e] at this
      simp at this
  cases hrd with
  | cons r1 r2 =>
    cases r2
    cases r1 with
    | list ha hcl hda hrs =>
      rename_i a ob vs m as'
      have R : Room 10 callerA := ⟨rfl, by decide +kernel, by decide +kernel⟩
      have F := f_law (w := w) (n := 7) (scr := is) hlen
      refine wpAny_mono (F callerA s₁ (fun _ => False) [.ref a] R B (fun b z => z.elim) ⟨.ref a, [], rfl, ⟨a, vs, rfl, id, ⟨ob, ha, hcl, m, hda⟩, reps_of is _ _ hrs⟩, rfl⟩) (fun v s' q => ?_) fun _ _ q => q.elim
      obtain ⟨rv, k⟩ := q
      obtain rfl : v = .bool true := rv
      obtain ⟨h', tk, rfl, k⟩ := k
      refine GoodW.toG ⟨.inl ⟨_, .bool true, [], rfl, fun cls => ?_, .bool true, ?_, fun _ => ⟨List.nodup_nil, fun a ha => nomatch ha⟩⟩, k, rfl, hg⟩
      · first | rfl | wrow_none_raised
      · first | rfl | wrow_post
theorem fin (left : LeftO pg vw looseN (Xt []) HK.obs HK.val 16750) : PySem.Challenge.rw_re0070_01.Holds := by
  o_law
  refine holds_open (q := vw) (loose := looseN) (Xt := Xt []) (XP := fun _ _ => True) (Yf := HK.obs) (Ya := HK.val) (YP := HK.says) (N := 16750) left (Hook.of HK) (Hook.keeps HK) (fun _ _ => trivial) (fun _ _ _ _ _ => trivial) (by rfl) (by rfl) (by rfl) (fun s e => recFacts_nil rfl) rfl (by assumption) (by decide +kernel) ⟨rfl, rfl, rfl, rfl, rfl, by decide +kernel⟩ ?hw ?hc
  case hw => w_witness2
  case hc => exact walkO rfl
end Mine
theorem PySem.Challenge.cw_re0070_01_holds : PySem.Challenge.rw_re0070_01.Holds := by
  exact Mine.fin Mine.left
