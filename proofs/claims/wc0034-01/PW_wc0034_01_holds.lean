import PyProof.Rows.All
import Wide.All
import OpenK.AllK
import Wide.FinOn
import Lean
import PySem.Challenge.RW_wc0034_01
open PySem PySem.W PyProof.Rows PySem.Calls
set_option Elab.async false
set_option maxRecDepth 100000
namespace Mine
set_option maxHeartbeats 0
noncomputable abbrev en (P : Params) (x : String) (n : Nat) (v : Value) : DictEntry := ⟨PyData.keyHash P (Str.ofString x), .str (Str.ofString x) n, v⟩
noncomputable abbrev sv (x : String) (n : Nat) : Value := .str (Str.ofString x) n
noncomputable def stm (i : Nat) : Stmt := PySem.Challenge.pw_wc0034_01.main.body.getD i (.Pass ⟨0, 0, 0, 0⟩)
noncomputable def sub (i j : Nat) : Stmt := match stm i with | .ClassDef _ _ _ b .. => b.getD j (.Pass ⟨0, 0, 0, 0⟩) | _ => .Pass ⟨0, 0, 0, 0⟩
noncomputable def fdP : Stmt → Arguments | .FunctionDef _ a .. => a | _ => ⟨[], [], none, [], [], none, []⟩
noncomputable def fdB : Stmt → List Stmt | .FunctionDef _ _ b .. => b | _ => []
noncomputable def fdS : Stmt → Scope | .FunctionDef _ _ _ _ _ _ s .. => s | _ => PySem.Challenge.pw_wc0034_01.main.scope
noncomputable def envT : Env := { scope := PySem.Challenge.pw_wc0034_01.main.scope, locals := mainNs, globals := mainNs, cells := [], code := .ref 30, frame := some 31 }
noncomputable def bodyT : List Stmt := behindTheImports PySem.Challenge.pw_wc0034_01
noncomputable def o0A (P : Params) : Obj := ⟨(.type "dict"), none, (.dict #[en P "__name__" 1 (sv "builtins" 160), en P "__doc__" 2 (.builtin "builtins.__doc__:str#opaque"), en P "__package__" 3 (.builtin "builtins.__package__:str#opaque"), en P "__loader__" 4 (.builtin "builtins.__loader__:shared#opaque"), en P "__spec__" 5 (.builtin "builtins.__spec__#opaque"), en P "__build_class__" 6 (.builtin "__build_class__"), en P "__import__" 7 (.builtin "__import__"), en P "abs" 8 (.builtin "abs"), en P "all" 9 (.builtin "all"), en P "any" 10 (.builtin "any"), en P "ascii" 11 (.builtin "ascii"), en P "bin" 12 (.builtin "bin"), en P "breakpoint" 13 (.builtin "breakpoint"), en P "callable" 14 (.builtin "callable"), en P "chr" 15 (.builtin "chr"), en P "compile" 16 (.builtin "compile"), en P "delattr" 17 (.builtin "delattr"), en P "dir" 18 (.builtin "dir"), en P "divmod" 19 (.builtin "divmod"), en P "eval" 20 (.builtin "eval"), en P "exec" 21 (.builtin "exec"), en P "format" 22 (.builtin "format"), en P "getattr" 23 (.builtin "getattr"), en P "globals" 24 (.builtin "globals"), en P "hasattr" 25 (.builtin "hasattr"), en P "hash" 26 (.builtin "hash"), en P "hex" 27 (.builtin "hex"), en P "id" 28 (.builtin "id"), en P "input" 29 (.builtin "input"), en P "isinstance" 30 (.builtin "isinstance"), en P "issubclass" 31 (.builtin "issubclass"), en P "iter" 32 (.builtin "iter"), en P "aiter" 33 (.builtin "aiter"), en P "len" 34 (.builtin "len"), en P "locals" 35 (.builtin "locals"), en P "max" 36 (.builtin "max"), en P "min" 37 (.builtin "min"), en P "next" 38 (.builtin "next"), en P "anext" 39 (.builtin "anext"), en P "oct" 40 (.builtin "oct"), en P "ord" 41 (.builtin "ord"), en P "pow" 42 (.builtin "pow"), en P "print" 43 (.builtin "print"), en P "repr" 44 (.builtin "repr"), en P "round" 45 (.builtin "round"), en P "setattr" 46 (.builtin "setattr"), en P "sorted" 47 (.builtin "sorted"), en P "sum" 48 (.builtin "sum"), en P "vars" 49 (.builtin "vars"), en P "None" 50 .none, en P "Ellipsis" 51 .ellipsis, en P "NotImplemented" 52 .notImplemented, en P "False" 53 (.bool false), en P "True" 54 (.bool true), en P "bool" 55 (.type "bool"), en P "memoryview" 56 (.type "memoryview"), en P "bytearray" 57 (.type "bytearray"), en P "bytes" 58 (.type "bytes"), en P "classmethod" 59 (.type "classmethod"), en P "complex" 60 (.type "complex"), en P "dict" 61 (.type "dict"), en P "enumerate" 62 (.type "enumerate"), en P "filter" 63 (.type "filter"), en P "float" 64 (.type "float"), en P "frozenset" 65 (.type "frozenset"), en P "property" 66 (.type "property"), en P "int" 67 (.type "int"), en P "list" 68 (.type "list"), en P "map" 69 (.type "map"), en P "object" 70 (.type "object"), en P "range" 71 (.type "range"), en P "reversed" 72 (.type "reversed"), en P "set" 73 (.type "set"), en P "slice" 74 (.type "slice"), en P "staticmethod" 75 (.type "staticmethod"), en P "str" 76 (.type "str"), en P "super" 77 (.type "super"), en P "tuple" 78 (.type "tuple"), en P "type" 79 (.type "type"), en P "zip" 80 (.type "zip"), en P "__debug__" 81 (.bool true), en P "BaseException" 82 (.type "BaseException"), en P "BaseExceptionGroup" 83 (.type "BaseExceptionGroup"), en P "Exception" 84 (.type "Exception"), en P "GeneratorExit" 85 (.type "GeneratorExit"), en P "KeyboardInterrupt" 86 (.type "KeyboardInterrupt"), en P "SystemExit" 87 (.type "SystemExit"), en P "ArithmeticError" 88 (.type "ArithmeticError"), en P "AssertionError" 89 (.type "AssertionError"), en P "AttributeError" 90 (.type "AttributeError"), en P "BufferError" 91 (.type "BufferError"), en P "EOFError" 92 (.type "EOFError"), en P "ImportError" 93 (.type "ImportError"), en P "LookupError" 94 (.type "LookupError"), en P "MemoryError" 95 (.type "MemoryError"), en P "NameError" 96 (.type "NameError"), en P "OSError" 97 (.type "OSError"), en P "ReferenceError" 98 (.type "ReferenceError"), en P "RuntimeError" 99 (.type "RuntimeError"), en P "StopAsyncIteration" 100 (.type "StopAsyncIteration"), en P "StopIteration" 101 (.type "StopIteration"), en P "SyntaxError" 102 (.type "SyntaxError"), en P "SystemError" 103 (.type "SystemError"), en P "TypeError" 104 (.type "TypeError"), en P "ValueError" 105 (.type "ValueError"), en P "Warning" 106 (.type "Warning"), en P "FloatingPointError" 107 (.type "FloatingPointError"), en P "OverflowError" 108 (.type "OverflowError"), en P "ZeroDivisionError" 109 (.type "ZeroDivisionError"), en P "BytesWarning" 110 (.type "BytesWarning"), en P "DeprecationWarning" 111 (.type "DeprecationWarning"), en P "EncodingWarning" 112 (.type "EncodingWarning"), en P "FutureWarning" 113 (.type "FutureWarning"), en P "ImportWarning" 114 (.type "ImportWarning"), en P "PendingDeprecationWarning" 115 (.type "PendingDeprecationWarning"), en P "ResourceWarning" 116 (.type "ResourceWarning"), en P "RuntimeWarning" 117 (.type "RuntimeWarning"), en P "SyntaxWarning" 118 (.type "SyntaxWarning"), en P "UnicodeWarning" 119 (.type "UnicodeWarning"), en P "UserWarning" 120 (.type "UserWarning"), en P "BlockingIOError" 121 (.type "BlockingIOError"), en P "ChildProcessError" 122 (.type "ChildProcessError"), en P "ConnectionError" 123 (.type "ConnectionError"), en P "FileExistsError" 124 (.type "FileExistsError"), en P "FileNotFoundError" 125 (.type "FileNotFoundError"), en P "InterruptedError" 126 (.type "InterruptedError"), en P "IsADirectoryError" 127 (.type "IsADirectoryError"), en P "NotADirectoryError" 128 (.type "NotADirectoryError"), en P "PermissionError" 129 (.type "PermissionError"), en P "ProcessLookupError" 130 (.type "ProcessLookupError"), en P "TimeoutError" 131 (.type "TimeoutError"), en P "IndentationError" 132 (.type "IndentationError"), en P "_IncompleteInputError" 133 (.type "_IncompleteInputError"), en P "IndexError" 134 (.type "IndexError"), en P "KeyError" 135 (.type "KeyError"), en P "ModuleNotFoundError" 136 (.type "ModuleNotFoundError"), en P "NotImplementedError" 137 (.type "NotImplementedError"), en P "PythonFinalizationError" 138 (.type "PythonFinalizationError"), en P "RecursionError" 139 (.type "RecursionError"), en P "UnboundLocalError" 140 (.type "UnboundLocalError"), en P "UnicodeError" 141 (.type "UnicodeError"), en P "BrokenPipeError" 142 (.type "BrokenPipeError"), en P "ConnectionAbortedError" 143 (.type "ConnectionAbortedError"), en P "ConnectionRefusedError" 144 (.type "ConnectionRefusedError"), en P "ConnectionResetError" 145 (.type "ConnectionResetError"), en P "TabError" 146 (.type "TabError"), en P "UnicodeDecodeError" 147 (.type "UnicodeDecodeError"), en P "UnicodeEncodeError" 148 (.type "UnicodeEncodeError"), en P "UnicodeTranslateError" 149 (.type "UnicodeTranslateError"), en P "ExceptionGroup" 150 (.type "ExceptionGroup"), en P "EnvironmentError" 151 (.type "OSError"), en P "IOError" 152 (.type "OSError"), en P "open" 153 (.builtin "open"), en P "quit" 154 (.builtin "builtins.quit#opaque"), en P "exit" 155 (.builtin "builtins.exit#opaque"), en P "copyright" 156 (.builtin "builtins.copyright#opaque"), en P "credits" 157 (.builtin "builtins.credits#opaque"), en P "license" 158 (.builtin "builtins.license#opaque"), en P "help" 159 (.builtin "builtins.help#opaque")] 159), #[]⟩
noncomputable def o1A (P : Params) : Obj := ⟨(.type "dict"), none, (.dict #[en P "builtins" 162 (.ref 4), en P "__main__" 163 (.ref 5), en P "_sre" 244 (.ref 12)] 3), #[]⟩
noncomputable def o2A (P : Params) : Obj := ⟨.none, none, (.dict #[en P "\x69mport.loaded._sre" 183 (.bool true), en P "class._frozen_importlib.BuiltinImporter" 185 (.ref 14), en P "watched.\x69mport" 206 (.ref 18), en P "class._frozen_importlib.ModuleSpec" 216 (.ref 22), en P "sys.modules.booked-epoch" 245 (.int (3) 0), en P "\x69mport.later-laid._sre" 270 (.bool true), en P "watched.library" 272 (.ref 27), en P "watched.library-objects" 0 (sv "\x0c" 0), en P "watched.library-deep._sre" 273 (sv "\x04\x00\x00\x0b\x04\x00\x00\x0b\x04\x00\x00\x03\x04\x00\x00\x0b\x08\x04dict\x02" 0)] 9), #[]⟩
noncomputable def o3A (P : Params) : Obj := ⟨(.type "dict"), none, (.dict #[en P "__name__" 165 (sv "__main__" 164), en P "__doc__" 166 .none, en P "__package__" 167 .none, en P "__loader__" 168 (.builtin "__main__.__loader__#opaque"), en P "__spec__" 169 .none, en P "__annotations__" 170 (.ref 6), en P "__builtins__" 171 (.ref 4), en P "__file__" 173 (sv "/claim/cut.py" 172), en P "__cached__" 174 .none, en P "_sre" 275 (.ref 12)] 10), #[]⟩
noncomputable def o4A (_ : Params) : Obj := ⟨(.type "module"), (some 0), .plain, #[]⟩
noncomputable def o5A (_ : Params) : Obj := ⟨(.type "module"), (some 3), .plain, #[]⟩
noncomputable def o6A (_ : Params) : Obj := ⟨(.type "dict"), none, (.dict #[] 0), #[]⟩
noncomputable def o7A (_ : Params) : Obj := ⟨(.type "tuple"), none, (.seq #[] 0), #[]⟩
noncomputable def o8A (_ : Params) : Obj := ⟨.none, none, (.fields #[]), #[]⟩
noncomputable def o9A (_ : Params) : Obj := ⟨(.type "code"), none, (.fields #[(sv "<module>" 176), (sv "<module>" 177), (sv "/claim/cut.py" 178), (.int (1) 0), (.int (0) 0), (.int (0) 0), (.int (0) 0), (.int (0) 0), (.ref 7), (.bool false), (.int (175) 0), (.ref 8), .none, .none, .none, .none, (.int (179) 0), (.int (1) 0), (sv "/claim/cut.py" 180)]), #[]⟩
noncomputable def o10A (_ : Params) : Obj := ⟨(.type "frame"), none, .plain, #[(some (.ref 9)), (some (.ref 3)), (some (.ref 3)), none, (some (sv "__main__" 164)), none, (some (.ref 0))]⟩
noncomputable def o11A (P : Params) : Obj := ⟨(.type "dict"), none, (.dict #[en P "__name__" 247 (sv "_sre" 246), en P "__doc__" 248 .none, en P "__package__" 250 (sv "" 249), en P "__loader__" 251 (.builtin "off-the-table:_sre.__loader__:shared#opaque"), en P "__spec__" 252 (.builtin "off-the-table:_sre.__spec__:shared#opaque"), en P "compile" 253 (.builtin "_sre.compile"), en P "template" 254 (.builtin "off-the-table:_sre.template:shared#opaque"), en P "getcodesize" 255 (.builtin "off-the-table:_sre.getcodesize:shared#opaque"), en P "ascii_iscased" 256 (.builtin "off-the-table:_sre.ascii_iscased:shared#opaque"), en P "unicode_iscased" 257 (.builtin "off-the-table:_sre.unicode_iscased:shared#opaque"), en P "ascii_tolower" 258 (.builtin "off-the-table:_sre.ascii_tolower:shared#opaque"), en P "unicode_tolower" 259 (.builtin "off-the-table:_sre.unicode_tolower:shared#opaque"), en P "MAGIC" 261 (.int (20230612) 260), en P "CODESIZE" 263 (.int (4) 262), en P "MAXREPEAT" 265 (.int (4294967295) 264), en P "MAXGROUPS" 267 (.int (1073741823) 266), en P "copyright" 269 (sv " SRE 2.2.2 Copyright (c) 1997-2002 by Secret Labs AB " 268)] 17), #[]⟩
noncomputable def o12A (_ : Params) : Obj := ⟨(.type "module"), (some 11), .plain, #[]⟩
noncomputable def o13A (P : Params) : Obj := ⟨(.type "dict"), none, (.dict #[en P "__module__" 189 (sv "_frozen_importlib" 186), en P "__firstlineno__" 190 (.int (971) 187), en P "__doc__" 191 (.builtin "_frozen_importlib.BuiltinImporter.__doc__:str#opaque"), en P "_ORIGIN" 192 (sv "built-in" 188), en P "find_spec" 193 (.builtin "_frozen_importlib.BuiltinImporter.find_spec#opaque"), en P "create_module" 194 (.builtin "_frozen_importlib.BuiltinImporter.create_module#opaque"), en P "exec_module" 195 (.builtin "_frozen_importlib.BuiltinImporter.exec_module#opaque"), en P "get_code" 196 (.builtin "_frozen_importlib.BuiltinImporter.get_code#opaque"), en P "get_source" 197 (.builtin "_frozen_importlib.BuiltinImporter.get_source#opaque"), en P "is_package" 198 (.builtin "_frozen_importlib.BuiltinImporter.is_package#opaque"), en P "load_module" 199 (.builtin "_frozen_importlib.BuiltinImporter.load_module#opaque"), en P "__static_attributes__" 200 (.ref 15), en P "__dict__" 202 (.ref 16), en P "__weakref__" 204 (.ref 17)] 14), #[]⟩
noncomputable def o14A (_ : Params) : Obj := ⟨(.type "type"), none, (.cls { name := (Str.ofString "BuiltinImporter"), bases := [(.type "object")], mro := [(.ref 14), (.type "object")], ns := 13, qualname := (Str.ofString "BuiltinImporter"), hasDict := true, slotNames := [], subclasses := [], abstract := false, collection := none, hasDel := false }), #[]⟩
noncomputable def o15A (_ : Params) : Obj := ⟨(.type "tuple"), none, (.seq #[] 0), #[]⟩
noncomputable def o16A (_ : Params) : Obj := ⟨(.type "getset_descriptor"), none, (.fields #[(sv "__dict__" 201), (.ref 14), (.builtin "function.__dict__"), (.builtin "function.__dict__#set")]), #[]⟩
noncomputable def o17A (_ : Params) : Obj := ⟨(.type "getset_descriptor"), none, (.fields #[(sv "__weakref__" 203), (.ref 14), (.builtin "ExceptionGroup.__weakref__"), .none]), #[]⟩
noncomputable def o18A (_ : Params) : Obj := ⟨.none, none, (.seq #[(.int (13) 0), (sv "\x06½\n__module__\x06º\x11_frozen_importlib\x06¾\x0f__firstlineno__\x04»\x00ϋ\x06¿\x07__doc__\t4_frozen_importlib.BuiltinImporter.__doc__:str#opaque\x06À\x07_ORIGIN\x06¼\x08built-in\x06Á\tfind_spec\t2_frozen_importlib.BuiltinImporter.find_spec#opaque\x06Â\rcreate_module\t6_frozen_importlib.BuiltinImporter.create_module#opaque\x06Ã\x0bexec_module\t4_frozen_importlib.BuiltinImporter.exec_module#opaque\x06Ä\x08get_code\t1_frozen_importlib.BuiltinImporter.get_code#opaque\x06Å\nget_source\t3_frozen_importlib.BuiltinImporter.get_source#opaque\x06Æ\nis_package\t3_frozen_importlib.BuiltinImporter.is_package#opaque\x06Ç\x0bload_module\t4_frozen_importlib.BuiltinImporter.load_module#opaque\x06È\x15__static_attributes__\x04\x00\x00\x0f\x06Ê\x08__dict__\x04\x00\x00\x10\x06Ì\x0b__weakref__\x04\x00\x00\x11" 0), (.bool true), (.bool true), (sv "" 205), (.int (21) 0), (sv "\x06ã\n__module__\x06Ù\x11_frozen_importlib\x06ä\x0f__firstlineno__\x04Ú\x00Ȳ\x06å\x07__doc__\t/_frozen_importlib.ModuleSpec.__doc__:str#opaque\x06æ\x08__init__\t,_frozen_importlib.ModuleSpec.__init__#opaque\x06ç\x08__repr__\t,_frozen_importlib.ModuleSpec.__repr__#opaque\x06è\x06__eq__\t*_frozen_importlib.ModuleSpec.__eq__#opaque\x06é\x06cached\t*_frozen_importlib.ModuleSpec.cached#opaque\x06ê\x06parent\t*_frozen_importlib.ModuleSpec.parent#opaque\x06ë\x0chas_location\t0_frozen_importlib.ModuleSpec.has_location#opaque\x06ì\x15__static_attributes__\x04\x00\x00\x17\x06î\x08__dict__\x04\x00\x00\x18\x06ð\x0b__weakref__\x04\x00\x00\x19\x06ñ\x08__hash__\x00" 0), (.bool true), (.bool true), (sv "" 242)] 1), #[]⟩
noncomputable def o19A (_ : Params) : Obj := ⟨(.type "list"), none, (.seq #[] 0), #[]⟩
noncomputable def o20A (P : Params) : Obj := ⟨(.type "dict"), none, (.dict #[en P "name" 208 (sv "_sre" 207), en P "loader" 209 (.ref 14), en P "origin" 210 (sv "built-in" 184), en P "loader_state" 211 .none, en P "submodule_search_locations" 212 .none, en P "_uninitialized_submodules" 213 (.ref 19), en P "_set_fileattr" 214 (.bool false), en P "_cached" 215 .none, en P "_initializing" 243 (.bool false)] 9), #[]⟩
noncomputable def o21A (P : Params) : Obj := ⟨(.type "dict"), none, (.dict #[en P "__module__" 227 (sv "_frozen_importlib" 217), en P "__firstlineno__" 228 (.int (562) 218), en P "__doc__" 229 (.builtin "_frozen_importlib.ModuleSpec.__doc__:str#opaque"), en P "__init__" 230 (.builtin "_frozen_importlib.ModuleSpec.__init__#opaque"), en P "__repr__" 231 (.builtin "_frozen_importlib.ModuleSpec.__repr__#opaque"), en P "__eq__" 232 (.builtin "_frozen_importlib.ModuleSpec.__eq__#opaque"), en P "cached" 233 (.builtin "_frozen_importlib.ModuleSpec.cached#opaque"), en P "parent" 234 (.builtin "_frozen_importlib.ModuleSpec.parent#opaque"), en P "has_location" 235 (.builtin "_frozen_importlib.ModuleSpec.has_location#opaque"), en P "__static_attributes__" 236 (.ref 23), en P "__dict__" 238 (.ref 24), en P "__weakref__" 240 (.ref 25), en P "__hash__" 241 .none] 13), #[]⟩
noncomputable def o22A (_ : Params) : Obj := ⟨(.type "type"), none, (.cls { name := (Str.ofString "ModuleSpec"), bases := [(.type "object")], mro := [(.ref 22), (.type "object")], ns := 21, qualname := (Str.ofString "ModuleSpec"), hasDict := true, slotNames := [], subclasses := [], abstract := false, collection := none, hasDel := false }), #[]⟩
noncomputable def o23A (_ : Params) : Obj := ⟨(.type "tuple"), none, (.seq #[(sv "_cached" 219), (sv "_set_fileattr" 220), (sv "_uninitialized_submodules" 221), (sv "loader" 222), (sv "loader_state" 223), (sv "name" 224), (sv "origin" 225), (sv "submodule_search_locations" 226)] 0), #[]⟩
noncomputable def o24A (_ : Params) : Obj := ⟨(.type "getset_descriptor"), none, (.fields #[(sv "__dict__" 237), (.ref 22), (.builtin "function.__dict__"), (.builtin "function.__dict__#set")]), #[]⟩
noncomputable def o25A (_ : Params) : Obj := ⟨(.type "getset_descriptor"), none, (.fields #[(sv "__weakref__" 239), (.ref 22), (.builtin "ExceptionGroup.__weakref__"), .none]), #[]⟩
noncomputable def o26A (_ : Params) : Obj := ⟨(.ref 22), (some 20), .plain, #[]⟩
noncomputable def o27A (_ : Params) : Obj := ⟨.none, none, (.seq #[(.int (11) 0), (.str (⟨#[6, 247, 8, 95, 95, 110, 97, 109, 101, 95, 95, 6, 246, 4, 95, 115, 114, 101, 6, 248, 7, 95, 95, 100, 111, 99, 95, 95, 0, 6, 250, 11, 95, 95, 112, 97, 99, 107, 97, 103, 101, 95, 95, 6, 249, 0, 6, 251, 10, 95, 95, 108, 111, 97, 100, 101, 114, 95, 95, 4, 0, 0, 14, 6, 252, 8, 95, 95, 115, 112, 101, 99, 95, 95, 4, 0, 0, 26, 6, 253, 7, 99, 111, 109, 112, 105, 108, 101, 9, 12, 95, 115, 114, 101, 46, 99, 111, 109, 112, 105, 108, 101, 6, 254, 8, 116, 101, 109, 112, 108, 97, 116, 101, 9, 13, 95, 115, 114, 101, 46, 116, 101, 109, 112, 108, 97, 116, 101, 6, 255, 11, 103, 101, 116, 99, 111, 100, 101, 115, 105, 122, 101, 9, 16, 95, 115, 114, 101, 46, 103, 101, 116, 99, 111, 100, 101, 115, 105, 122, 101, 6, 256, 13, 97, 115, 99, 105, 105, 95, 105, 115, 99, 97, 115, 101, 100, 9, 18, 95, 115, 114, 101, 46, 97, 115, 99, 105, 105, 95, 105, 115, 99, 97, 115, 101, 100, 6, 257, 15, 117, 110, 105, 99, 111, 100, 101, 95, 105, 115, 99, 97, 115, 101, 100, 9, 20, 95, 115, 114, 101, 46, 117, 110, 105, 99, 111, 100, 101, 95, 105, 115, 99, 97, 115, 101, 100, 6, 258, 13, 97, 115, 99, 105, 105, 95, 116, 111, 108, 111, 119, 101, 114, 9, 18, 95, 115, 114, 101, 46, 97, 115, 99, 105, 105, 95, 116, 111, 108, 111, 119, 101, 114, 6, 259, 15, 117, 110, 105, 99, 111, 100, 101, 95, 116, 111, 108, 111, 119, 101, 114, 9, 20, 95, 115, 114, 101, 46, 117, 110, 105, 99, 111, 100, 101, 95, 116, 111, 108, 111, 119, 101, 114, 6, 261, 5, 77, 65, 71, 73, 67, 4, 260, 0, 20230612, 6, 263, 8, 67, 79, 68, 69, 83, 73, 90, 69, 4, 262, 0, 4, 6, 265, 9, 77, 65, 88, 82, 69, 80, 69, 65, 84, 4, 264, 0, 4294967295, 6, 267, 9, 77, 65, 88, 71, 82, 79, 85, 80, 83, 4, 266, 0, 1073741823, 6, 269, 9, 99, 111, 112, 121, 114, 105, 103, 104, 116, 6, 268, 53, 32, 83, 82, 69, 32, 50, 46, 50, 46, 50, 32, 67, 111, 112, 121, 114, 105, 103, 104, 116, 32, 40, 99, 41, 32, 49, 57, 57, 55, 45, 50, 48, 48, 50, 32, 98, 121, 32, 83, 101, 99, 114, 101, 116, 32, 76, 97, 98, 115, 32, 65, 66, 32]⟩ : Str) 0), (.bool true), (.bool false), (sv "_sre" 271)] 0), #[]⟩
noncomputable def trA (P : Params) : BT := (.node (o0A P) (.node (o1A P) (.node (o3A P) (.node (o7A P) (.node (o15A P) .nil .nil) (.node (o23A P) .nil .nil)) (.node (o11A P) (.node (o19A P) .nil .nil) (.node (o27A P) .nil .nil))) (.node (o5A P) (.node (o9A P) (.node (o17A P) .nil .nil) (.node (o25A P) .nil .nil)) (.node (o13A P) (.node (o21A P) .nil .nil) .nil))) (.node (o2A P) (.node (o4A P) (.node (o8A P) (.node (o16A P) .nil .nil) (.node (o24A P) .nil .nil)) (.node (o12A P) (.node (o20A P) .nil .nil) .nil)) (.node (o6A P) (.node (o10A P) (.node (o18A P) .nil .nil) (.node (o26A P) .nil .nil)) (.node (o14A P) (.node (o22A P) .nil .nil) .nil))))
noncomputable def o28B (_ : Params) : Obj := ⟨(.type "tuple"), none, (.seq #[] 0), #[]⟩
noncomputable def o29B (_ : Params) : Obj := ⟨.none, none, (.fields #[]), #[]⟩
noncomputable def o30B (_ : Params) : Obj := ⟨(.type "code"), none, (.fields #[(sv "<module>" 277), (sv "<module>" 278), (sv "/claim/cut.py" 279), (.int (1) 0), (.int (0) 0), (.int (0) 0), (.int (0) 0), (.int (0) 0), (.ref 28), (.bool false), (.int (276) 0), (.ref 29), .none, .none, .none, .none, (.int (280) 0), (.int (1) 0), (sv "/claim/cut.py" 281)]), #[]⟩
noncomputable def o31B (_ : Params) : Obj := ⟨(.type "frame"), none, .plain, #[(some (.ref 30)), (some (.ref 3)), (some (.ref 3)), none, (some (sv "__main__" 164)), none, (some (.ref 0))]⟩
noncomputable def trB (P : Params) : BT := (.node (o0A P) (.node (o1A P) (.node (o3A P) (.node (o7A P) (.node (o15A P) (.node (o31B P) .nil .nil) .nil) (.node (o23A P) .nil .nil)) (.node (o11A P) (.node (o19A P) .nil .nil) (.node (o27A P) .nil .nil))) (.node (o5A P) (.node (o9A P) (.node (o17A P) .nil .nil) (.node (o25A P) .nil .nil)) (.node (o13A P) (.node (o21A P) .nil .nil) (.node (o29B P) .nil .nil)))) (.node (o2A P) (.node (o4A P) (.node (o8A P) (.node (o16A P) .nil .nil) (.node (o24A P) .nil .nil)) (.node (o12A P) (.node (o20A P) .nil .nil) (.node (o28B P) .nil .nil))) (.node (o6A P) (.node (o10A P) (.node (o18A P) .nil .nil) (.node (o26A P) .nil .nil)) (.node (o14A P) (.node (o22A P) .nil .nil) (.node (o30B P) .nil .nil)))))
noncomputable def o3C26 (P : Params) : Obj := ⟨(.type "dict"), none, (.dict #[en P "__name__" 165 (sv "cpy313.token" 289), en P "__doc__" 166 .none, en P "__package__" 167 .none, en P "__loader__" 168 (.builtin "__main__.__loader__#opaque"), en P "__spec__" 169 .none, en P "__annotations__" 170 (.ref 6), en P "__builtins__" 171 (.ref 4), en P "__file__" 173 (sv "/claim/cut.py" 172), en P "__cached__" 174 .none, en P "_sre" 275 (.ref 12), en P "_wall" 288 (.ref 38), en P "ENDMARKER" 292 (.int (0) 291), en P "LPAR" 294 (.int (7) 293), en P "RPAR" 296 (.int (8) 295), en P "LSQB" 298 (.int (9) 297), en P "RSQB" 300 (.int (10) 299), en P "COLON" 302 (.int (11) 301), en P "COMMA" 304 (.int (12) 303), en P "SEMI" 306 (.int (13) 305), en P "PLUS" 308 (.int (14) 307), en P "MINUS" 310 (.int (15) 309), en P "STAR" 312 (.int (16) 311), en P "SLASH" 314 (.int (17) 313), en P "VBAR" 316 (.int (18) 315), en P "AMPER" 318 (.int (19) 317), en P "LESS" 320 (.int (20) 319), en P "GREATER" 322 (.int (21) 321), en P "EQUAL" 324 (.int (22) 323), en P "DOT" 326 (.int (23) 325), en P "PERCENT" 328 (.int (24) 327), en P "LBRACE" 330 (.int (25) 329), en P "RBRACE" 332 (.int (26) 331), en P "EQEQUAL" 334 (.int (27) 333), en P "NOTEQUAL" 336 (.int (28) 335), en P "LESSEQUAL" 338 (.int (29) 337)] 35), #[]⟩
noncomputable def o29C26 (_ : Params) : Obj := ⟨.none, none, (.fields #[(.int (2) 0), (.int (0) 0), (.ref 37)]), #[]⟩
noncomputable def o32C26 (_ : Params) : Obj := ⟨(.type "tuple"), none, (.seq #[] 0), #[]⟩
noncomputable def o33C26 (_ : Params) : Obj := ⟨.none, none, (.fields #[]), #[]⟩
noncomputable def o34C26 (_ : Params) : Obj := ⟨(.type "tuple"), none, (.seq #[(sv "k" 285)] 0), #[]⟩
noncomputable def o35C26 (_ : Params) : Obj := ⟨(.type "tuple"), none, (.seq #[] 0), #[]⟩
noncomputable def o36C26 (_ : Params) : Obj := ⟨.none, none, (.func { name := (Str.ofString "_wall"), qualname := (Str.ofString "_wall"), params := fdP (stm 1), body := .stmts (fdB (stm 1)), scope := fdS (stm 1), globals := 0, closure := [], defaults := .none, kwdefaults := .none, doc := .none, pyModule := .none, annotations := none, code := .none, closureTuple := .none, builtins := 0 }), #[]⟩
noncomputable def o37C26 (_ : Params) : Obj := ⟨(.type "code"), none, (.fields #[(sv "_wall" 282), (sv "_wall" 283), (sv "/claim/cut.py" 284), (.int (2) 0), (.int (1) 0), (.int (0) 0), (.int (0) 0), (.int (3) 0), (.ref 32), (.bool true), (.int (276) 0), (.ref 33), .none, (.ref 34), (.ref 35), (.ref 36), (.int (286) 0), (.int (2) 0), (sv "/claim/cut.py" 287)]), #[]⟩
noncomputable def o38C26 (_ : Params) : Obj := ⟨(.type "function"), none, (.func { name := (Str.ofString "_wall"), qualname := (Str.ofString "_wall"), params := fdP (stm 1), body := .stmts (fdB (stm 1)), scope := fdS (stm 1), globals := 3, closure := [], defaults := .none, kwdefaults := .none, doc := .none, pyModule := (sv "__main__" 164), annotations := none, code := (.ref 37), closureTuple := .none, builtins := 0 }), #[]⟩
noncomputable def trC26 (P : Params) : BT := (.node (o0A P) (.node (o1A P) (.node (o3C26 P) (.node (o7A P) (.node (o15A P) (.node (o31B P) .nil .nil) .nil) (.node (o23A P) .nil .nil)) (.node (o11A P) (.node (o19A P) (.node (o35C26 P) .nil .nil) .nil) (.node (o27A P) .nil .nil))) (.node (o5A P) (.node (o9A P) (.node (o17A P) (.node (o33C26 P) .nil .nil) .nil) (.node (o25A P) .nil .nil)) (.node (o13A P) (.node (o21A P) (.node (o37C26 P) .nil .nil) .nil) (.node (o29C26 P) .nil .nil)))) (.node (o2A P) (.node (o4A P) (.node (o8A P) (.node (o16A P) (.node (o32C26 P) .nil .nil) .nil) (.node (o24A P) .nil .nil)) (.node (o12A P) (.node (o20A P) (.node (o36C26 P) .nil .nil) .nil) (.node (o28B P) .nil .nil))) (.node (o6A P) (.node (o10A P) (.node (o18A P) (.node (o34C26 P) .nil .nil) .nil) (.node (o26A P) .nil .nil)) (.node (o14A P) (.node (o22A P) (.node (o38C26 P) .nil .nil) .nil) (.node (o30B P) .nil .nil)))))
noncomputable def o3C51 (P : Params) : Obj := ⟨(.type "dict"), none, (.dict #[en P "__name__" 165 (sv "cpy313.token" 289), en P "__doc__" 166 .none, en P "__package__" 167 .none, en P "__loader__" 168 (.builtin "__main__.__loader__#opaque"), en P "__spec__" 169 .none, en P "__annotations__" 170 (.ref 6), en P "__builtins__" 171 (.ref 4), en P "__file__" 173 (sv "/claim/cut.py" 172), en P "__cached__" 174 .none, en P "_sre" 275 (.ref 12), en P "_wall" 288 (.ref 38), en P "ENDMARKER" 292 (.int (0) 291), en P "LPAR" 294 (.int (7) 293), en P "RPAR" 296 (.int (8) 295), en P "LSQB" 298 (.int (9) 297), en P "RSQB" 300 (.int (10) 299), en P "COLON" 302 (.int (11) 301), en P "COMMA" 304 (.int (12) 303), en P "SEMI" 306 (.int (13) 305), en P "PLUS" 308 (.int (14) 307), en P "MINUS" 310 (.int (15) 309), en P "STAR" 312 (.int (16) 311), en P "SLASH" 314 (.int (17) 313), en P "VBAR" 316 (.int (18) 315), en P "AMPER" 318 (.int (19) 317), en P "LESS" 320 (.int (20) 319), en P "GREATER" 322 (.int (21) 321), en P "EQUAL" 324 (.int (22) 323), en P "DOT" 326 (.int (23) 325), en P "PERCENT" 328 (.int (24) 327), en P "LBRACE" 330 (.int (25) 329), en P "RBRACE" 332 (.int (26) 331), en P "EQEQUAL" 334 (.int (27) 333), en P "NOTEQUAL" 336 (.int (28) 335), en P "LESSEQUAL" 338 (.int (29) 337), en P "GREATEREQUAL" 340 (.int (30) 339), en P "TILDE" 342 (.int (31) 341), en P "CIRCUMFLEX" 344 (.int (32) 343), en P "LEFTSHIFT" 346 (.int (33) 345), en P "RIGHTSHIFT" 348 (.int (34) 347), en P "DOUBLESTAR" 350 (.int (35) 349), en P "PLUSEQUAL" 352 (.int (36) 351), en P "MINEQUAL" 354 (.int (37) 353), en P "STAREQUAL" 356 (.int (38) 355), en P "SLASHEQUAL" 358 (.int (39) 357), en P "PERCENTEQUAL" 360 (.int (40) 359), en P "AMPEREQUAL" 362 (.int (41) 361), en P "VBAREQUAL" 364 (.int (42) 363), en P "CIRCUMFLEXEQUAL" 366 (.int (43) 365), en P "LEFTSHIFTEQUAL" 368 (.int (44) 367), en P "RIGHTSHIFTEQUAL" 370 (.int (45) 369), en P "DOUBLESTAREQUAL" 372 (.int (46) 371), en P "DOUBLESLASH" 374 (.int (47) 373), en P "DOUBLESLASHEQUAL" 376 (.int (48) 375), en P "AT" 378 (.int (49) 377), en P "ATEQUAL" 380 (.int (50) 379), en P "RARROW" 382 (.int (51) 381), en P "ELLIPSIS" 384 (.int (52) 383), en P "COLONEQUAL" 386 (.int (53) 385), en P "EXCLAMATION" 388 (.int (54) 387)] 60), #[]⟩
noncomputable def trC51 (P : Params) : BT := (.node (o0A P) (.node (o1A P) (.node (o3C51 P) (.node (o7A P) (.node (o15A P) (.node (o31B P) .nil .nil) .nil) (.node (o23A P) .nil .nil)) (.node (o11A P) (.node (o19A P) (.node (o35C26 P) .nil .nil) .nil) (.node (o27A P) .nil .nil))) (.node (o5A P) (.node (o9A P) (.node (o17A P) (.node (o33C26 P) .nil .nil) .nil) (.node (o25A P) .nil .nil)) (.node (o13A P) (.node (o21A P) (.node (o37C26 P) .nil .nil) .nil) (.node (o29C26 P) .nil .nil)))) (.node (o2A P) (.node (o4A P) (.node (o8A P) (.node (o16A P) (.node (o32C26 P) .nil .nil) .nil) (.node (o24A P) .nil .nil)) (.node (o12A P) (.node (o20A P) (.node (o36C26 P) .nil .nil) .nil) (.node (o28B P) .nil .nil))) (.node (o6A P) (.node (o10A P) (.node (o18A P) (.node (o34C26 P) .nil .nil) .nil) (.node (o26A P) .nil .nil)) (.node (o14A P) (.node (o22A P) (.node (o38C26 P) .nil .nil) .nil) (.node (o30B P) .nil .nil)))))
noncomputable def o3C52 (P : Params) : Obj := ⟨(.type "dict"), none, (.dict #[en P "__name__" 165 (sv "cpy313.token" 289), en P "__doc__" 166 .none, en P "__package__" 167 .none, en P "__loader__" 168 (.builtin "__main__.__loader__#opaque"), en P "__spec__" 169 .none, en P "__annotations__" 170 (.ref 6), en P "__builtins__" 171 (.ref 4), en P "__file__" 173 (sv "/claim/cut.py" 172), en P "__cached__" 174 .none, en P "_sre" 275 (.ref 12), en P "_wall" 288 (.ref 38), en P "ENDMARKER" 292 (.int (0) 291), en P "LPAR" 294 (.int (7) 293), en P "RPAR" 296 (.int (8) 295), en P "LSQB" 298 (.int (9) 297), en P "RSQB" 300 (.int (10) 299), en P "COLON" 302 (.int (11) 301), en P "COMMA" 304 (.int (12) 303), en P "SEMI" 306 (.int (13) 305), en P "PLUS" 308 (.int (14) 307), en P "MINUS" 310 (.int (15) 309), en P "STAR" 312 (.int (16) 311), en P "SLASH" 314 (.int (17) 313), en P "VBAR" 316 (.int (18) 315), en P "AMPER" 318 (.int (19) 317), en P "LESS" 320 (.int (20) 319), en P "GREATER" 322 (.int (21) 321), en P "EQUAL" 324 (.int (22) 323), en P "DOT" 326 (.int (23) 325), en P "PERCENT" 328 (.int (24) 327), en P "LBRACE" 330 (.int (25) 329), en P "RBRACE" 332 (.int (26) 331), en P "EQEQUAL" 334 (.int (27) 333), en P "NOTEQUAL" 336 (.int (28) 335), en P "LESSEQUAL" 338 (.int (29) 337), en P "GREATEREQUAL" 340 (.int (30) 339), en P "TILDE" 342 (.int (31) 341), en P "CIRCUMFLEX" 344 (.int (32) 343), en P "LEFTSHIFT" 346 (.int (33) 345), en P "RIGHTSHIFT" 348 (.int (34) 347), en P "DOUBLESTAR" 350 (.int (35) 349), en P "PLUSEQUAL" 352 (.int (36) 351), en P "MINEQUAL" 354 (.int (37) 353), en P "STAREQUAL" 356 (.int (38) 355), en P "SLASHEQUAL" 358 (.int (39) 357), en P "PERCENTEQUAL" 360 (.int (40) 359), en P "AMPEREQUAL" 362 (.int (41) 361), en P "VBAREQUAL" 364 (.int (42) 363), en P "CIRCUMFLEXEQUAL" 366 (.int (43) 365), en P "LEFTSHIFTEQUAL" 368 (.int (44) 367), en P "RIGHTSHIFTEQUAL" 370 (.int (45) 369), en P "DOUBLESTAREQUAL" 372 (.int (46) 371), en P "DOUBLESLASH" 374 (.int (47) 373), en P "DOUBLESLASHEQUAL" 376 (.int (48) 375), en P "AT" 378 (.int (49) 377), en P "ATEQUAL" 380 (.int (50) 379), en P "RARROW" 382 (.int (51) 381), en P "ELLIPSIS" 384 (.int (52) 383), en P "COLONEQUAL" 386 (.int (53) 385), en P "EXCLAMATION" 388 (.int (54) 387), en P "EXACT_TOKEN_TYPES" 485 (.ref 39)] 61), #[]⟩
noncomputable def o39C52 (P : Params) : Obj := ⟨(.type "dict"), none, (.dict #[en P "!" 389 (.int (54) 387), en P "!=" 391 (.int (28) 335), en P "%" 393 (.int (24) 327), en P "%=" 395 (.int (40) 359), en P "&" 397 (.int (19) 317), en P "&=" 399 (.int (41) 361), en P "(" 401 (.int (7) 293), en P ")" 403 (.int (8) 295), en P "*" 405 (.int (16) 311), en P "**" 407 (.int (35) 349), en P "**=" 409 (.int (46) 371), en P "*=" 411 (.int (38) 355), en P "+" 413 (.int (14) 307), en P "+=" 415 (.int (36) 351), en P "," 417 (.int (12) 303), en P "-" 419 (.int (15) 309), en P "-=" 421 (.int (37) 353), en P "->" 423 (.int (51) 381), en P "." 425 (.int (23) 325), en P "..." 427 (.int (52) 383), en P "/" 429 (.int (17) 313), en P "//" 431 (.int (47) 373), en P "//=" 433 (.int (48) 375), en P "/=" 435 (.int (39) 357), en P ":" 437 (.int (11) 301), en P ":=" 439 (.int (53) 385), en P ";" 441 (.int (13) 305), en P "<" 443 (.int (20) 319), en P "<<" 445 (.int (33) 345), en P "<<=" 447 (.int (44) 367), en P "<=" 449 (.int (29) 337), en P "=" 451 (.int (22) 323), en P "==" 453 (.int (27) 333), en P ">" 455 (.int (21) 321), en P ">=" 457 (.int (30) 339), en P ">>" 458 (.int (34) 347), en P ">>=" 459 (.int (45) 369), en P "@" 460 (.int (49) 377), en P "@=" 461 (.int (50) 379), en P "[" 462 (.int (9) 297), en P "]" 463 (.int (10) 299), en P "^" 464 (.int (32) 343), en P "^=" 465 (.int (43) 365), en P "{" 466 (.int (25) 329), en P "|" 467 (.int (18) 315), en P "|=" 468 (.int (42) 363), en P "}" 469 (.int (26) 331), en P "~" 470 (.int (31) 341)] 48), #[]⟩
noncomputable def o40C52 (P : Params) : Obj := ⟨(.type "dict"), none, (.dict #[en P "->" 423 (.int (51) 381), en P "." 425 (.int (23) 325), en P "..." 427 (.int (52) 383), en P "/" 429 (.int (17) 313), en P "//" 431 (.int (47) 373), en P "//=" 433 (.int (48) 375), en P "/=" 435 (.int (39) 357), en P ":" 437 (.int (11) 301), en P ":=" 439 (.int (53) 385), en P ";" 441 (.int (13) 305), en P "<" 443 (.int (20) 319), en P "<<" 445 (.int (33) 345), en P "<<=" 447 (.int (44) 367), en P "<=" 449 (.int (29) 337), en P "=" 451 (.int (22) 323), en P "==" 453 (.int (27) 333), en P ">" 455 (.int (21) 321)] 17), #[]⟩
noncomputable def o41C52 (P : Params) : Obj := ⟨(.type "dict"), none, (.dict #[en P ">=" 457 (.int (30) 339), en P ">>" 458 (.int (34) 347), en P ">>=" 459 (.int (45) 369), en P "@" 460 (.int (49) 377), en P "@=" 461 (.int (50) 379), en P "[" 462 (.int (9) 297), en P "]" 463 (.int (10) 299), en P "^" 464 (.int (32) 343), en P "^=" 465 (.int (43) 365), en P "{" 466 (.int (25) 329), en P "|" 467 (.int (18) 315), en P "|=" 468 (.int (42) 363), en P "}" 469 (.int (26) 331), en P "~" 470 (.int (31) 341)] 14), #[]⟩
noncomputable def trC52 (P : Params) : BT := (.node (o0A P) (.node (o1A P) (.node (o3C52 P) (.node (o7A P) (.node (o15A P) (.node (o31B P) .nil .nil) .nil) (.node (o23A P) (.node (o39C52 P) .nil .nil) .nil)) (.node (o11A P) (.node (o19A P) (.node (o35C26 P) .nil .nil) .nil) (.node (o27A P) .nil .nil))) (.node (o5A P) (.node (o9A P) (.node (o17A P) (.node (o33C26 P) .nil .nil) .nil) (.node (o25A P) (.node (o41C52 P) .nil .nil) .nil)) (.node (o13A P) (.node (o21A P) (.node (o37C26 P) .nil .nil) .nil) (.node (o29C26 P) .nil .nil)))) (.node (o2A P) (.node (o4A P) (.node (o8A P) (.node (o16A P) (.node (o32C26 P) .nil .nil) .nil) (.node (o24A P) (.node (o40C52 P) .nil .nil) .nil)) (.node (o12A P) (.node (o20A P) (.node (o36C26 P) .nil .nil) .nil) (.node (o28B P) .nil .nil))) (.node (o6A P) (.node (o10A P) (.node (o18A P) (.node (o34C26 P) .nil .nil) .nil) (.node (o26A P) .nil .nil)) (.node (o14A P) (.node (o22A P) (.node (o38C26 P) .nil .nil) .nil) (.node (o30B P) .nil .nil)))))
noncomputable def o3C56 (P : Params) : Obj := ⟨(.type "dict"), none, (.dict #[en P "__name__" 165 (sv "cpy313.email.header" 493), en P "__doc__" 166 .none, en P "__package__" 167 .none, en P "__loader__" 168 (.builtin "__main__.__loader__#opaque"), en P "__spec__" 169 .none, en P "__annotations__" 170 (.ref 6), en P "__builtins__" 171 (.ref 4), en P "__file__" 173 (sv "/claim/cut.py" 172), en P "__cached__" 174 .none, en P "_sre" 275 (.ref 12), en P "_wall" 288 (.ref 38), en P "ENDMARKER" 292 (.int (0) 291), en P "LPAR" 294 (.int (7) 293), en P "RPAR" 296 (.int (8) 295), en P "LSQB" 298 (.int (9) 297), en P "RSQB" 300 (.int (10) 299), en P "COLON" 302 (.int (11) 301), en P "COMMA" 304 (.int (12) 303), en P "SEMI" 306 (.int (13) 305), en P "PLUS" 308 (.int (14) 307), en P "MINUS" 310 (.int (15) 309), en P "STAR" 312 (.int (16) 311), en P "SLASH" 314 (.int (17) 313), en P "VBAR" 316 (.int (18) 315), en P "AMPER" 318 (.int (19) 317), en P "LESS" 320 (.int (20) 319), en P "GREATER" 322 (.int (21) 321), en P "EQUAL" 324 (.int (22) 323), en P "DOT" 326 (.int (23) 325), en P "PERCENT" 328 (.int (24) 327), en P "LBRACE" 330 (.int (25) 329), en P "RBRACE" 332 (.int (26) 331), en P "EQEQUAL" 334 (.int (27) 333), en P "NOTEQUAL" 336 (.int (28) 335), en P "LESSEQUAL" 338 (.int (29) 337), en P "GREATEREQUAL" 340 (.int (30) 339), en P "TILDE" 342 (.int (31) 341), en P "CIRCUMFLEX" 344 (.int (32) 343), en P "LEFTSHIFT" 346 (.int (33) 345), en P "RIGHTSHIFT" 348 (.int (34) 347), en P "DOUBLESTAR" 350 (.int (35) 349), en P "PLUSEQUAL" 352 (.int (36) 351), en P "MINEQUAL" 354 (.int (37) 353), en P "STAREQUAL" 356 (.int (38) 355), en P "SLASHEQUAL" 358 (.int (39) 357), en P "PERCENTEQUAL" 360 (.int (40) 359), en P "AMPEREQUAL" 362 (.int (41) 361), en P "VBAREQUAL" 364 (.int (42) 363), en P "CIRCUMFLEXEQUAL" 366 (.int (43) 365), en P "LEFTSHIFTEQUAL" 368 (.int (44) 367), en P "RIGHTSHIFTEQUAL" 370 (.int (45) 369), en P "DOUBLESTAREQUAL" 372 (.int (46) 371), en P "DOUBLESLASH" 374 (.int (47) 373), en P "DOUBLESLASHEQUAL" 376 (.int (48) 375), en P "AT" 378 (.int (49) 377), en P "ATEQUAL" 380 (.int (50) 379), en P "RARROW" 382 (.int (51) 381), en P "ELLIPSIS" 384 (.int (52) 383), en P "COLONEQUAL" 386 (.int (53) 385), en P "EXCLAMATION" 388 (.int (54) 387), en P "EXACT_TOKEN_TYPES" 485 (.ref 39), en P "ISEOF" 492 (.ref 48), en P "NL" 496 (sv "\n" 495), en P "EMPTYSTRING" 498 (sv "" 497)] 64), #[]⟩
noncomputable def o29C56 (_ : Params) : Obj := ⟨.none, none, (.fields #[(.int (2) 0), (.int (0) 0), (.ref 37), (.int (56) 0), (.int (0) 0), (.ref 47)]), #[]⟩
noncomputable def o42C56 (_ : Params) : Obj := ⟨(.type "tuple"), none, (.seq #[] 0), #[]⟩
noncomputable def o43C56 (_ : Params) : Obj := ⟨.none, none, (.fields #[]), #[]⟩
noncomputable def o44C56 (_ : Params) : Obj := ⟨(.type "tuple"), none, (.seq #[(sv "x" 489)] 0), #[]⟩
noncomputable def o45C56 (_ : Params) : Obj := ⟨(.type "tuple"), none, (.seq #[] 0), #[]⟩
noncomputable def o46C56 (_ : Params) : Obj := ⟨.none, none, (.func { name := (Str.ofString "ISEOF"), qualname := (Str.ofString "ISEOF"), params := fdP (stm 53), body := .stmts (fdB (stm 53)), scope := fdS (stm 53), globals := 0, closure := [], defaults := .none, kwdefaults := .none, doc := .none, pyModule := .none, annotations := none, code := .none, closureTuple := .none, builtins := 0 }), #[]⟩
noncomputable def o47C56 (_ : Params) : Obj := ⟨(.type "code"), none, (.fields #[(sv "ISEOF" 486), (sv "ISEOF" 487), (sv "/claim/cut.py" 488), (.int (56) 0), (.int (1) 0), (.int (0) 0), (.int (0) 0), (.int (3) 0), (.ref 42), (.bool true), (.int (276) 0), (.ref 43), .none, (.ref 44), (.ref 45), (.ref 46), (.int (490) 0), (.int (56) 0), (sv "/claim/cut.py" 491)]), #[]⟩
noncomputable def o48C56 (_ : Params) : Obj := ⟨(.type "function"), none, (.func { name := (Str.ofString "ISEOF"), qualname := (Str.ofString "ISEOF"), params := fdP (stm 53), body := .stmts (fdB (stm 53)), scope := fdS (stm 53), globals := 3, closure := [], defaults := .none, kwdefaults := .none, doc := .none, pyModule := (sv "cpy313.token" 289), annotations := none, code := (.ref 47), closureTuple := .none, builtins := 0 }), #[]⟩
noncomputable def trC56 (P : Params) : BT := (.node (o0A P) (.node (o1A P) (.node (o3C56 P) (.node (o7A P) (.node (o15A P) (.node (o31B P) .nil .nil) (.node (o47C56 P) .nil .nil)) (.node (o23A P) (.node (o39C52 P) .nil .nil) .nil)) (.node (o11A P) (.node (o19A P) (.node (o35C26 P) .nil .nil) .nil) (.node (o27A P) (.node (o43C56 P) .nil .nil) .nil))) (.node (o5A P) (.node (o9A P) (.node (o17A P) (.node (o33C26 P) .nil .nil) .nil) (.node (o25A P) (.node (o41C52 P) .nil .nil) .nil)) (.node (o13A P) (.node (o21A P) (.node (o37C26 P) .nil .nil) .nil) (.node (o29C56 P) (.node (o45C56 P) .nil .nil) .nil)))) (.node (o2A P) (.node (o4A P) (.node (o8A P) (.node (o16A P) (.node (o32C26 P) .nil .nil) (.node (o48C56 P) .nil .nil)) (.node (o24A P) (.node (o40C52 P) .nil .nil) .nil)) (.node (o12A P) (.node (o20A P) (.node (o36C26 P) .nil .nil) .nil) (.node (o28B P) (.node (o44C56 P) .nil .nil) .nil))) (.node (o6A P) (.node (o10A P) (.node (o18A P) (.node (o34C26 P) .nil .nil) .nil) (.node (o26A P) (.node (o42C56 P) .nil .nil) .nil)) (.node (o14A P) (.node (o22A P) (.node (o38C26 P) .nil .nil) .nil) (.node (o30B P) (.node (o46C56 P) .nil .nil) .nil)))))
noncomputable def o3C57 (P : Params) : Obj := ⟨(.type "dict"), none, (.dict #[en P "__name__" 165 (sv "cpy313.email.header" 493), en P "__doc__" 166 .none, en P "__package__" 167 .none, en P "__loader__" 168 (.builtin "__main__.__loader__#opaque"), en P "__spec__" 169 .none, en P "__annotations__" 170 (.ref 6), en P "__builtins__" 171 (.ref 4), en P "__file__" 173 (sv "/claim/cut.py" 172), en P "__cached__" 174 .none, en P "_sre" 275 (.ref 12), en P "_wall" 288 (.ref 38), en P "ENDMARKER" 292 (.int (0) 291), en P "LPAR" 294 (.int (7) 293), en P "RPAR" 296 (.int (8) 295), en P "LSQB" 298 (.int (9) 297), en P "RSQB" 300 (.int (10) 299), en P "COLON" 302 (.int (11) 301), en P "COMMA" 304 (.int (12) 303), en P "SEMI" 306 (.int (13) 305), en P "PLUS" 308 (.int (14) 307), en P "MINUS" 310 (.int (15) 309), en P "STAR" 312 (.int (16) 311), en P "SLASH" 314 (.int (17) 313), en P "VBAR" 316 (.int (18) 315), en P "AMPER" 318 (.int (19) 317), en P "LESS" 320 (.int (20) 319), en P "GREATER" 322 (.int (21) 321), en P "EQUAL" 324 (.int (22) 323), en P "DOT" 326 (.int (23) 325), en P "PERCENT" 328 (.int (24) 327), en P "LBRACE" 330 (.int (25) 329), en P "RBRACE" 332 (.int (26) 331), en P "EQEQUAL" 334 (.int (27) 333), en P "NOTEQUAL" 336 (.int (28) 335), en P "LESSEQUAL" 338 (.int (29) 337), en P "GREATEREQUAL" 340 (.int (30) 339), en P "TILDE" 342 (.int (31) 341), en P "CIRCUMFLEX" 344 (.int (32) 343), en P "LEFTSHIFT" 346 (.int (33) 345), en P "RIGHTSHIFT" 348 (.int (34) 347), en P "DOUBLESTAR" 350 (.int (35) 349), en P "PLUSEQUAL" 352 (.int (36) 351), en P "MINEQUAL" 354 (.int (37) 353), en P "STAREQUAL" 356 (.int (38) 355), en P "SLASHEQUAL" 358 (.int (39) 357), en P "PERCENTEQUAL" 360 (.int (40) 359), en P "AMPEREQUAL" 362 (.int (41) 361), en P "VBAREQUAL" 364 (.int (42) 363), en P "CIRCUMFLEXEQUAL" 366 (.int (43) 365), en P "LEFTSHIFTEQUAL" 368 (.int (44) 367), en P "RIGHTSHIFTEQUAL" 370 (.int (45) 369), en P "DOUBLESTAREQUAL" 372 (.int (46) 371), en P "DOUBLESLASH" 374 (.int (47) 373), en P "DOUBLESLASHEQUAL" 376 (.int (48) 375), en P "AT" 378 (.int (49) 377), en P "ATEQUAL" 380 (.int (50) 379), en P "RARROW" 382 (.int (51) 381), en P "ELLIPSIS" 384 (.int (52) 383), en P "COLONEQUAL" 386 (.int (53) 385), en P "EXCLAMATION" 388 (.int (54) 387), en P "EXACT_TOKEN_TYPES" 485 (.ref 39), en P "ISEOF" 492 (.ref 48), en P "NL" 496 (sv "\n" 495), en P "EMPTYSTRING" 498 (sv "" 497), en P "_ValueFormatter" 606 (.ref 121)] 65), #[]⟩
noncomputable def o29C57 (_ : Params) : Obj := ⟨.none, none, (.fields #[(.int (2) 0), (.int (0) 0), (.ref 37), (.int (56) 0), (.int (0) 0), (.ref 47), (.int (61) 0), (.int (0) 0), (.ref 54)]), #[]⟩
noncomputable def o49C57 (_ : Params) : Obj := ⟨(.type "tuple"), none, (.seq #[] 0), #[]⟩
noncomputable def o50C57 (_ : Params) : Obj := ⟨(.type "builtin_function_or_method"), none, (.fields #[(.builtin "type.__prepare__"), (.type "type")]), #[]⟩
noncomputable def o51C57 (P : Params) : Obj := ⟨(.type "dict"), none, (.dict #[en P "__module__" 506 (sv "cpy313.email.header" 493), en P "__qualname__" 508 (sv "_ValueFormatter" 507), en P "__firstlineno__" 510 (.int (61) 509), en P "__init__" 521 (.ref 62), en P "_str" 529 (.ref 69), en P "__str__" 536 (.ref 76), en P "newline" 544 (.ref 83), en P "add_transition" 551 (.ref 90), en P "feed" 561 (.ref 97), en P "_maxlengths" 568 (.ref 104), en P "_ascii_split" 578 (.ref 111), en P "_append_chunk" 592 (.ref 118), en P "__static_attributes__" 599 (.ref 119)] 13), #[]⟩
noncomputable def o52C57 (_ : Params) : Obj := ⟨(.type "tuple"), none, (.seq #[] 0), #[]⟩
noncomputable def o53C57 (_ : Params) : Obj := ⟨.none, none, (.fields #[(.int (63) 0), (.int (4) 0), (.ref 61), (.int (71) 0), (.int (4) 0), (.ref 68), (.int (75) 0), (.int (4) 0), (.ref 75), (.int (78) 0), (.int (4) 0), (.ref 82), (.int (89) 0), (.int (4) 0), (.ref 89), (.int (92) 0), (.int (4) 0), (.ref 96), (.int (95) 0), (.int (4) 0), (.ref 103), (.int (98) 0), (.int (4) 0), (.ref 110), (.int (101) 0), (.int (4) 0), (.ref 117)]), #[]⟩
noncomputable def o54C57 (_ : Params) : Obj := ⟨(.type "code"), none, (.fields #[(sv "_ValueFormatter" 501), (sv "_ValueFormatter" 502), (sv "/claim/cut.py" 503), (.int (61) 0), (.int (0) 0), (.int (0) 0), (.int (0) 0), (.int (0) 0), (.ref 52), (.bool false), (.int (276) 0), (.ref 53), .none, .none, .none, .none, (.int (504) 0), (.int (61) 0), (sv "/claim/cut.py" 505)]), #[]⟩
noncomputable def o55C57 (_ : Params) : Obj := ⟨(.type "frame"), none, .plain, #[(some (.ref 54)), (some (.ref 3)), (some (.ref 51)), none, (some (sv "cpy313.email.header" 493)), none, (some (.ref 0))]⟩
noncomputable def o56C57 (_ : Params) : Obj := ⟨(.type "tuple"), none, (.seq #[] 0), #[]⟩
noncomputable def o57C57 (_ : Params) : Obj := ⟨.none, none, (.fields #[]), #[]⟩
noncomputable def o58C57 (_ : Params) : Obj := ⟨(.type "tuple"), none, (.seq #[(sv "self" 514), (sv "headerlen" 515), (sv "maxlen" 516), (sv "continuation_ws" 517), (sv "splitchars" 518)] 0), #[]⟩
noncomputable def o59C57 (_ : Params) : Obj := ⟨(.type "tuple"), none, (.seq #[] 0), #[]⟩
noncomputable def o60C57 (_ : Params) : Obj := ⟨.none, none, (.func { name := (Str.ofString "__init__"), qualname := (Str.ofString "_ValueFormatter.__init__"), params := fdP (sub 57 0), body := .stmts (fdB (sub 57 0)), scope := fdS (sub 57 0), globals := 0, closure := [], defaults := .none, kwdefaults := .none, doc := .none, pyModule := .none, annotations := none, code := .none, closureTuple := .none, builtins := 0 }), #[]⟩
noncomputable def o61C57 (_ : Params) : Obj := ⟨(.type "code"), none, (.fields #[(sv "__init__" 511), (sv "_ValueFormatter.__init__" 512), (sv "/claim/cut.py" 513), (.int (63) 0), (.int (5) 0), (.int (0) 0), (.int (0) 0), (.int (3) 0), (.ref 56), (.bool true), (.int (276) 0), (.ref 57), .none, (.ref 58), (.ref 59), (.ref 60), (.int (519) 0), (.int (63) 0), (sv "/claim/cut.py" 520)]), #[]⟩
noncomputable def o62C57 (_ : Params) : Obj := ⟨(.type "function"), none, (.func { name := (Str.ofString "__init__"), qualname := (Str.ofString "_ValueFormatter.__init__"), params := fdP (sub 57 0), body := .stmts (fdB (sub 57 0)), scope := fdS (sub 57 0), globals := 3, closure := [], defaults := .none, kwdefaults := .none, doc := .none, pyModule := (sv "cpy313.email.header" 493), annotations := none, code := (.ref 61), closureTuple := .none, builtins := 0 }), #[]⟩
noncomputable def o63C57 (_ : Params) : Obj := ⟨(.type "tuple"), none, (.seq #[] 0), #[]⟩
noncomputable def o64C57 (_ : Params) : Obj := ⟨.none, none, (.fields #[]), #[]⟩
noncomputable def o65C57 (_ : Params) : Obj := ⟨(.type "tuple"), none, (.seq #[(sv "self" 525), (sv "linesep" 526)] 0), #[]⟩
noncomputable def o66C57 (_ : Params) : Obj := ⟨(.type "tuple"), none, (.seq #[] 0), #[]⟩
noncomputable def o67C57 (_ : Params) : Obj := ⟨.none, none, (.func { name := (Str.ofString "_str"), qualname := (Str.ofString "_ValueFormatter._str"), params := fdP (sub 57 1), body := .stmts (fdB (sub 57 1)), scope := fdS (sub 57 1), globals := 0, closure := [], defaults := .none, kwdefaults := .none, doc := .none, pyModule := .none, annotations := none, code := .none, closureTuple := .none, builtins := 0 }), #[]⟩
noncomputable def o68C57 (_ : Params) : Obj := ⟨(.type "code"), none, (.fields #[(sv "_str" 522), (sv "_ValueFormatter._str" 523), (sv "/claim/cut.py" 524), (.int (71) 0), (.int (2) 0), (.int (0) 0), (.int (0) 0), (.int (3) 0), (.ref 63), (.bool true), (.int (276) 0), (.ref 64), .none, (.ref 65), (.ref 66), (.ref 67), (.int (527) 0), (.int (71) 0), (sv "/claim/cut.py" 528)]), #[]⟩
noncomputable def o69C57 (_ : Params) : Obj := ⟨(.type "function"), none, (.func { name := (Str.ofString "_str"), qualname := (Str.ofString "_ValueFormatter._str"), params := fdP (sub 57 1), body := .stmts (fdB (sub 57 1)), scope := fdS (sub 57 1), globals := 3, closure := [], defaults := .none, kwdefaults := .none, doc := .none, pyModule := (sv "cpy313.email.header" 493), annotations := none, code := (.ref 68), closureTuple := .none, builtins := 0 }), #[]⟩
noncomputable def o70C57 (_ : Params) : Obj := ⟨(.type "tuple"), none, (.seq #[] 0), #[]⟩
noncomputable def o71C57 (_ : Params) : Obj := ⟨.none, none, (.fields #[]), #[]⟩
noncomputable def o72C57 (_ : Params) : Obj := ⟨(.type "tuple"), none, (.seq #[(sv "self" 533)] 0), #[]⟩
noncomputable def o73C57 (_ : Params) : Obj := ⟨(.type "tuple"), none, (.seq #[] 0), #[]⟩
noncomputable def o74C57 (_ : Params) : Obj := ⟨.none, none, (.func { name := (Str.ofString "__str__"), qualname := (Str.ofString "_ValueFormatter.__str__"), params := fdP (sub 57 2), body := .stmts (fdB (sub 57 2)), scope := fdS (sub 57 2), globals := 0, closure := [], defaults := .none, kwdefaults := .none, doc := .none, pyModule := .none, annotations := none, code := .none, closureTuple := .none, builtins := 0 }), #[]⟩
noncomputable def o75C57 (_ : Params) : Obj := ⟨(.type "code"), none, (.fields #[(sv "__str__" 530), (sv "_ValueFormatter.__str__" 531), (sv "/claim/cut.py" 532), (.int (75) 0), (.int (1) 0), (.int (0) 0), (.int (0) 0), (.int (3) 0), (.ref 70), (.bool true), (.int (276) 0), (.ref 71), .none, (.ref 72), (.ref 73), (.ref 74), (.int (534) 0), (.int (75) 0), (sv "/claim/cut.py" 535)]), #[]⟩
noncomputable def o76C57 (_ : Params) : Obj := ⟨(.type "function"), none, (.func { name := (Str.ofString "__str__"), qualname := (Str.ofString "_ValueFormatter.__str__"), params := fdP (sub 57 2), body := .stmts (fdB (sub 57 2)), scope := fdS (sub 57 2), globals := 3, closure := [], defaults := .none, kwdefaults := .none, doc := .none, pyModule := (sv "cpy313.email.header" 493), annotations := none, code := (.ref 75), closureTuple := .none, builtins := 0 }), #[]⟩
noncomputable def o77C57 (_ : Params) : Obj := ⟨(.type "tuple"), none, (.seq #[] 0), #[]⟩
noncomputable def o78C57 (_ : Params) : Obj := ⟨.none, none, (.fields #[]), #[]⟩
noncomputable def o79C57 (_ : Params) : Obj := ⟨(.type "tuple"), none, (.seq #[(sv "self" 540), (sv "end_of_line" 541)] 0), #[]⟩
noncomputable def o80C57 (_ : Params) : Obj := ⟨(.type "tuple"), none, (.seq #[] 0), #[]⟩
noncomputable def o81C57 (_ : Params) : Obj := ⟨.none, none, (.func { name := (Str.ofString "newline"), qualname := (Str.ofString "_ValueFormatter.newline"), params := fdP (sub 57 3), body := .stmts (fdB (sub 57 3)), scope := fdS (sub 57 3), globals := 0, closure := [], defaults := .none, kwdefaults := .none, doc := .none, pyModule := .none, annotations := none, code := .none, closureTuple := .none, builtins := 0 }), #[]⟩
noncomputable def o82C57 (_ : Params) : Obj := ⟨(.type "code"), none, (.fields #[(sv "newline" 537), (sv "_ValueFormatter.newline" 538), (sv "/claim/cut.py" 539), (.int (78) 0), (.int (1) 0), (.int (0) 0), (.int (0) 0), (.int (3) 0), (.ref 77), (.bool true), (.int (276) 0), (.ref 78), .none, (.ref 79), (.ref 80), (.ref 81), (.int (542) 0), (.int (78) 0), (sv "/claim/cut.py" 543)]), #[]⟩
noncomputable def o83C57 (_ : Params) : Obj := ⟨(.type "function"), none, (.func { name := (Str.ofString "newline"), qualname := (Str.ofString "_ValueFormatter.newline"), params := fdP (sub 57 3), body := .stmts (fdB (sub 57 3)), scope := fdS (sub 57 3), globals := 3, closure := [], defaults := .none, kwdefaults := .none, doc := .none, pyModule := (sv "cpy313.email.header" 493), annotations := none, code := (.ref 82), closureTuple := .none, builtins := 0 }), #[]⟩
noncomputable def o84C57 (_ : Params) : Obj := ⟨(.type "tuple"), none, (.seq #[] 0), #[]⟩
noncomputable def o85C57 (_ : Params) : Obj := ⟨.none, none, (.fields #[]), #[]⟩
noncomputable def o86C57 (_ : Params) : Obj := ⟨(.type "tuple"), none, (.seq #[(sv "self" 548)] 0), #[]⟩
noncomputable def o87C57 (_ : Params) : Obj := ⟨(.type "tuple"), none, (.seq #[] 0), #[]⟩
noncomputable def o88C57 (_ : Params) : Obj := ⟨.none, none, (.func { name := (Str.ofString "add_transition"), qualname := (Str.ofString "_ValueFormatter.add_transition"), params := fdP (sub 57 4), body := .stmts (fdB (sub 57 4)), scope := fdS (sub 57 4), globals := 0, closure := [], defaults := .none, kwdefaults := .none, doc := .none, pyModule := .none, annotations := none, code := .none, closureTuple := .none, builtins := 0 }), #[]⟩
noncomputable def o89C57 (_ : Params) : Obj := ⟨(.type "code"), none, (.fields #[(sv "add_transition" 545), (sv "_ValueFormatter.add_transition" 546), (sv "/claim/cut.py" 547), (.int (89) 0), (.int (1) 0), (.int (0) 0), (.int (0) 0), (.int (3) 0), (.ref 84), (.bool true), (.int (276) 0), (.ref 85), .none, (.ref 86), (.ref 87), (.ref 88), (.int (549) 0), (.int (89) 0), (sv "/claim/cut.py" 550)]), #[]⟩
noncomputable def o90C57 (_ : Params) : Obj := ⟨(.type "function"), none, (.func { name := (Str.ofString "add_transition"), qualname := (Str.ofString "_ValueFormatter.add_transition"), params := fdP (sub 57 4), body := .stmts (fdB (sub 57 4)), scope := fdS (sub 57 4), globals := 3, closure := [], defaults := .none, kwdefaults := .none, doc := .none, pyModule := (sv "cpy313.email.header" 493), annotations := none, code := (.ref 89), closureTuple := .none, builtins := 0 }), #[]⟩
noncomputable def o91C57 (_ : Params) : Obj := ⟨(.type "tuple"), none, (.seq #[] 0), #[]⟩
noncomputable def o92C57 (_ : Params) : Obj := ⟨.none, none, (.fields #[]), #[]⟩
noncomputable def o93C57 (_ : Params) : Obj := ⟨(.type "tuple"), none, (.seq #[(sv "self" 555), (sv "fws" 556), (sv "string" 557), (sv "charset" 558)] 0), #[]⟩
noncomputable def o94C57 (_ : Params) : Obj := ⟨(.type "tuple"), none, (.seq #[] 0), #[]⟩
noncomputable def o95C57 (_ : Params) : Obj := ⟨.none, none, (.func { name := (Str.ofString "feed"), qualname := (Str.ofString "_ValueFormatter.feed"), params := fdP (sub 57 5), body := .stmts (fdB (sub 57 5)), scope := fdS (sub 57 5), globals := 0, closure := [], defaults := .none, kwdefaults := .none, doc := .none, pyModule := .none, annotations := none, code := .none, closureTuple := .none, builtins := 0 }), #[]⟩
noncomputable def o96C57 (_ : Params) : Obj := ⟨(.type "code"), none, (.fields #[(sv "feed" 552), (sv "_ValueFormatter.feed" 553), (sv "/claim/cut.py" 554), (.int (92) 0), (.int (4) 0), (.int (0) 0), (.int (0) 0), (.int (3) 0), (.ref 91), (.bool true), (.int (276) 0), (.ref 92), .none, (.ref 93), (.ref 94), (.ref 95), (.int (559) 0), (.int (92) 0), (sv "/claim/cut.py" 560)]), #[]⟩
noncomputable def o97C57 (_ : Params) : Obj := ⟨(.type "function"), none, (.func { name := (Str.ofString "feed"), qualname := (Str.ofString "_ValueFormatter.feed"), params := fdP (sub 57 5), body := .stmts (fdB (sub 57 5)), scope := fdS (sub 57 5), globals := 3, closure := [], defaults := .none, kwdefaults := .none, doc := .none, pyModule := (sv "cpy313.email.header" 493), annotations := none, code := (.ref 96), closureTuple := .none, builtins := 0 }), #[]⟩
noncomputable def o98C57 (_ : Params) : Obj := ⟨(.type "tuple"), none, (.seq #[] 0), #[]⟩
noncomputable def o99C57 (_ : Params) : Obj := ⟨.none, none, (.fields #[]), #[]⟩
noncomputable def o100C57 (_ : Params) : Obj := ⟨(.type "tuple"), none, (.seq #[(sv "self" 565)] 0), #[]⟩
noncomputable def o101C57 (_ : Params) : Obj := ⟨(.type "tuple"), none, (.seq #[] 0), #[]⟩
noncomputable def o102C57 (_ : Params) : Obj := ⟨.none, none, (.func { name := (Str.ofString "_maxlengths"), qualname := (Str.ofString "_ValueFormatter._maxlengths"), params := fdP (sub 57 6), body := .stmts (fdB (sub 57 6)), scope := fdS (sub 57 6), globals := 0, closure := [], defaults := .none, kwdefaults := .none, doc := .none, pyModule := .none, annotations := none, code := .none, closureTuple := .none, builtins := 0 }), #[]⟩
noncomputable def o103C57 (_ : Params) : Obj := ⟨(.type "code"), none, (.fields #[(sv "_maxlengths" 562), (sv "_ValueFormatter._maxlengths" 563), (sv "/claim/cut.py" 564), (.int (95) 0), (.int (1) 0), (.int (0) 0), (.int (0) 0), (.int (3) 0), (.ref 98), (.bool true), (.int (276) 0), (.ref 99), .none, (.ref 100), (.ref 101), (.ref 102), (.int (566) 0), (.int (95) 0), (sv "/claim/cut.py" 567)]), #[]⟩
noncomputable def o104C57 (_ : Params) : Obj := ⟨(.type "function"), none, (.func { name := (Str.ofString "_maxlengths"), qualname := (Str.ofString "_ValueFormatter._maxlengths"), params := fdP (sub 57 6), body := .stmts (fdB (sub 57 6)), scope := fdS (sub 57 6), globals := 3, closure := [], defaults := .none, kwdefaults := .none, doc := .none, pyModule := (sv "cpy313.email.header" 493), annotations := none, code := (.ref 103), closureTuple := .none, builtins := 0 }), #[]⟩
noncomputable def o105C57 (_ : Params) : Obj := ⟨(.type "tuple"), none, (.seq #[] 0), #[]⟩
noncomputable def o106C57 (_ : Params) : Obj := ⟨.none, none, (.fields #[]), #[]⟩
noncomputable def o107C57 (_ : Params) : Obj := ⟨(.type "tuple"), none, (.seq #[(sv "self" 572), (sv "fws" 573), (sv "string" 574), (sv "splitchars" 575)] 0), #[]⟩
noncomputable def o108C57 (_ : Params) : Obj := ⟨(.type "tuple"), none, (.seq #[] 0), #[]⟩
noncomputable def o109C57 (_ : Params) : Obj := ⟨.none, none, (.func { name := (Str.ofString "_ascii_split"), qualname := (Str.ofString "_ValueFormatter._ascii_split"), params := fdP (sub 57 7), body := .stmts (fdB (sub 57 7)), scope := fdS (sub 57 7), globals := 0, closure := [], defaults := .none, kwdefaults := .none, doc := .none, pyModule := .none, annotations := none, code := .none, closureTuple := .none, builtins := 0 }), #[]⟩
noncomputable def o110C57 (_ : Params) : Obj := ⟨(.type "code"), none, (.fields #[(sv "_ascii_split" 569), (sv "_ValueFormatter._ascii_split" 570), (sv "/claim/cut.py" 571), (.int (98) 0), (.int (4) 0), (.int (0) 0), (.int (0) 0), (.int (3) 0), (.ref 105), (.bool true), (.int (276) 0), (.ref 106), .none, (.ref 107), (.ref 108), (.ref 109), (.int (576) 0), (.int (98) 0), (sv "/claim/cut.py" 577)]), #[]⟩
noncomputable def o111C57 (_ : Params) : Obj := ⟨(.type "function"), none, (.func { name := (Str.ofString "_ascii_split"), qualname := (Str.ofString "_ValueFormatter._ascii_split"), params := fdP (sub 57 7), body := .stmts (fdB (sub 57 7)), scope := fdS (sub 57 7), globals := 3, closure := [], defaults := .none, kwdefaults := .none, doc := .none, pyModule := (sv "cpy313.email.header" 493), annotations := none, code := (.ref 110), closureTuple := .none, builtins := 0 }), #[]⟩
noncomputable def o112C57 (_ : Params) : Obj := ⟨(.type "tuple"), none, (.seq #[] 0), #[]⟩
noncomputable def o113C57 (_ : Params) : Obj := ⟨.none, none, (.fields #[]), #[]⟩
noncomputable def o114C57 (_ : Params) : Obj := ⟨(.type "tuple"), none, (.seq #[(sv "self" 582), (sv "fws" 583), (sv "string" 584), (sv "ch" 585), (sv "i" 586), (sv "prevpart" 587), (sv "part" 588), (sv "remainder" 589)] 0), #[]⟩
noncomputable def o115C57 (_ : Params) : Obj := ⟨(.type "tuple"), none, (.seq #[] 0), #[]⟩
noncomputable def o116C57 (_ : Params) : Obj := ⟨.none, none, (.func { name := (Str.ofString "_append_chunk"), qualname := (Str.ofString "_ValueFormatter._append_chunk"), params := fdP (sub 57 8), body := .stmts (fdB (sub 57 8)), scope := fdS (sub 57 8), globals := 0, closure := [], defaults := .none, kwdefaults := .none, doc := .none, pyModule := .none, annotations := none, code := .none, closureTuple := .none, builtins := 0 }), #[]⟩
noncomputable def o117C57 (_ : Params) : Obj := ⟨(.type "code"), none, (.fields #[(sv "_append_chunk" 579), (sv "_ValueFormatter._append_chunk" 580), (sv "/claim/cut.py" 581), (.int (101) 0), (.int (3) 0), (.int (0) 0), (.int (0) 0), (.int (3) 0), (.ref 112), (.bool true), (.int (276) 0), (.ref 113), .none, (.ref 114), (.ref 115), (.ref 116), (.int (590) 0), (.int (101) 0), (sv "/claim/cut.py" 591)]), #[]⟩
noncomputable def o118C57 (_ : Params) : Obj := ⟨(.type "function"), none, (.func { name := (Str.ofString "_append_chunk"), qualname := (Str.ofString "_ValueFormatter._append_chunk"), params := fdP (sub 57 8), body := .stmts (fdB (sub 57 8)), scope := fdS (sub 57 8), globals := 3, closure := [], defaults := .none, kwdefaults := .none, doc := .none, pyModule := (sv "cpy313.email.header" 493), annotations := none, code := (.ref 117), closureTuple := .none, builtins := 0 }), #[]⟩
noncomputable def o119C57 (_ : Params) : Obj := ⟨(.type "tuple"), none, (.seq #[(sv "_continuation_ws" 593), (sv "_continuation_ws_len" 594), (sv "_current_line" 595), (sv "_lines" 596), (sv "_maxlen" 597), (sv "_splitchars" 598)] 0), #[]⟩
noncomputable def o120C57 (P : Params) : Obj := ⟨(.type "dict"), none, (.dict #[en P "__module__" 506 (sv "cpy313.email.header" 493), en P "__firstlineno__" 510 (.int (61) 509), en P "__init__" 521 (.ref 62), en P "_str" 529 (.ref 69), en P "__str__" 536 (.ref 76), en P "newline" 544 (.ref 83), en P "add_transition" 551 (.ref 90), en P "feed" 561 (.ref 97), en P "_maxlengths" 568 (.ref 104), en P "_ascii_split" 578 (.ref 111), en P "_append_chunk" 592 (.ref 118), en P "__static_attributes__" 599 (.ref 119), en P "__dict__" 601 (.ref 122), en P "__weakref__" 603 (.ref 123), en P "__doc__" 604 .none] 4), #[]⟩
noncomputable def o121C57 (_ : Params) : Obj := ⟨(.type "type"), none, (.cls { name := (Str.ofString "_ValueFormatter"), bases := [(.type "object")], mro := [(.ref 121), (.type "object")], ns := 120, qualname := (Str.ofString "_ValueFormatter"), hasDict := true, slotNames := [], subclasses := [], abstract := false, collection := none, hasDel := false }), #[none, none, (some (sv "_ValueFormatter" 499)), (some (sv "_ValueFormatter" 507)), (some (.builtin "object.__new__")), (some (.bool true))]⟩
noncomputable def o122C57 (_ : Params) : Obj := ⟨(.type "getset_descriptor"), none, (.fields #[(sv "__dict__" 600), (.ref 121), (.builtin "function.__dict__"), (.builtin "function.__dict__#set")]), #[]⟩
noncomputable def o123C57 (_ : Params) : Obj := ⟨(.type "getset_descriptor"), none, (.fields #[(sv "__weakref__" 602), (.ref 121), (.builtin "ExceptionGroup.__weakref__"), .none]), #[]⟩
noncomputable def o124C57 (_ : Params) : Obj := ⟨(.type "super"), none, (.fields #[(.ref 121), (.ref 121), (.ref 121)]), #[]⟩
noncomputable def o125C57 (_ : Params) : Obj := ⟨(.type "builtin_function_or_method"), none, (.fields #[(.builtin "object.__init_subclass__"), (.ref 121)]), #[]⟩
noncomputable def trC57 (P : Params) : BT := (.node (o0A P) (.node (o1A P) (.node (o3C57 P) (.node (o7A P) (.node (o15A P) (.node (o31B P) (.node (o63C57 P) .nil .nil) (.node (o95C57 P) .nil .nil)) (.node (o47C56 P) (.node (o79C57 P) .nil .nil) (.node (o111C57 P) .nil .nil))) (.node (o23A P) (.node (o39C52 P) (.node (o71C57 P) .nil .nil) (.node (o103C57 P) .nil .nil)) (.node (o55C57 P) (.node (o87C57 P) .nil .nil) (.node (o119C57 P) .nil .nil)))) (.node (o11A P) (.node (o19A P) (.node (o35C26 P) (.node (o67C57 P) .nil .nil) (.node (o99C57 P) .nil .nil)) (.node (o51C57 P) (.node (o83C57 P) .nil .nil) (.node (o115C57 P) .nil .nil))) (.node (o27A P) (.node (o43C56 P) (.node (o75C57 P) .nil .nil) (.node (o107C57 P) .nil .nil)) (.node (o59C57 P) (.node (o91C57 P) .nil .nil) (.node (o123C57 P) .nil .nil))))) (.node (o5A P) (.node (o9A P) (.node (o17A P) (.node (o33C26 P) (.node (o65C57 P) .nil .nil) (.node (o97C57 P) .nil .nil)) (.node (o49C57 P) (.node (o81C57 P) .nil .nil) (.node (o113C57 P) .nil .nil))) (.node (o25A P) (.node (o41C52 P) (.node (o73C57 P) .nil .nil) (.node (o105C57 P) .nil .nil)) (.node (o57C57 P) (.node (o89C57 P) .nil .nil) (.node (o121C57 P) .nil .nil)))) (.node (o13A P) (.node (o21A P) (.node (o37C26 P) (.node (o69C57 P) .nil .nil) (.node (o101C57 P) .nil .nil)) (.node (o53C57 P) (.node (o85C57 P) .nil .nil) (.node (o117C57 P) .nil .nil))) (.node (o29C57 P) (.node (o45C56 P) (.node (o77C57 P) .nil .nil) (.node (o109C57 P) .nil .nil)) (.node (o61C57 P) (.node (o93C57 P) .nil .nil) (.node (o125C57 P) .nil .nil)))))) (.node (o2A P) (.node (o4A P) (.node (o8A P) (.node (o16A P) (.node (o32C26 P) (.node (o64C57 P) .nil .nil) (.node (o96C57 P) .nil .nil)) (.node (o48C56 P) (.node (o80C57 P) .nil .nil) (.node (o112C57 P) .nil .nil))) (.node (o24A P) (.node (o40C52 P) (.node (o72C57 P) .nil .nil) (.node (o104C57 P) .nil .nil)) (.node (o56C57 P) (.node (o88C57 P) .nil .nil) (.node (o120C57 P) .nil .nil)))) (.node (o12A P) (.node (o20A P) (.node (o36C26 P) (.node (o68C57 P) .nil .nil) (.node (o100C57 P) .nil .nil)) (.node (o52C57 P) (.node (o84C57 P) .nil .nil) (.node (o116C57 P) .nil .nil))) (.node (o28B P) (.node (o44C56 P) (.node (o76C57 P) .nil .nil) (.node (o108C57 P) .nil .nil)) (.node (o60C57 P) (.node (o92C57 P) .nil .nil) (.node (o124C57 P) .nil .nil))))) (.node (o6A P) (.node (o10A P) (.node (o18A P) (.node (o34C26 P) (.node (o66C57 P) .nil .nil) (.node (o98C57 P) .nil .nil)) (.node (o50C57 P) (.node (o82C57 P) .nil .nil) (.node (o114C57 P) .nil .nil))) (.node (o26A P) (.node (o42C56 P) (.node (o74C57 P) .nil .nil) (.node (o106C57 P) .nil .nil)) (.node (o58C57 P) (.node (o90C57 P) .nil .nil) (.node (o122C57 P) .nil .nil)))) (.node (o14A P) (.node (o22A P) (.node (o38C26 P) (.node (o70C57 P) .nil .nil) (.node (o102C57 P) .nil .nil)) (.node (o54C57 P) (.node (o86C57 P) .nil .nil) (.node (o118C57 P) .nil .nil))) (.node (o30B P) (.node (o46C56 P) (.node (o78C57 P) .nil .nil) (.node (o110C57 P) .nil .nil)) (.node (o62C57 P) (.node (o94C57 P) .nil .nil) .nil))))))
noncomputable def o3C58 (P : Params) : Obj := ⟨(.type "dict"), none, (.dict #[en P "__name__" 165 (sv "cpy313.email.header" 493), en P "__doc__" 166 .none, en P "__package__" 167 .none, en P "__loader__" 168 (.builtin "__main__.__loader__#opaque"), en P "__spec__" 169 .none, en P "__annotations__" 170 (.ref 6), en P "__builtins__" 171 (.ref 4), en P "__file__" 173 (sv "/claim/cut.py" 172), en P "__cached__" 174 .none, en P "_sre" 275 (.ref 12), en P "_wall" 288 (.ref 38), en P "ENDMARKER" 292 (.int (0) 291), en P "LPAR" 294 (.int (7) 293), en P "RPAR" 296 (.int (8) 295), en P "LSQB" 298 (.int (9) 297), en P "RSQB" 300 (.int (10) 299), en P "COLON" 302 (.int (11) 301), en P "COMMA" 304 (.int (12) 303), en P "SEMI" 306 (.int (13) 305), en P "PLUS" 308 (.int (14) 307), en P "MINUS" 310 (.int (15) 309), en P "STAR" 312 (.int (16) 311), en P "SLASH" 314 (.int (17) 313), en P "VBAR" 316 (.int (18) 315), en P "AMPER" 318 (.int (19) 317), en P "LESS" 320 (.int (20) 319), en P "GREATER" 322 (.int (21) 321), en P "EQUAL" 324 (.int (22) 323), en P "DOT" 326 (.int (23) 325), en P "PERCENT" 328 (.int (24) 327), en P "LBRACE" 330 (.int (25) 329), en P "RBRACE" 332 (.int (26) 331), en P "EQEQUAL" 334 (.int (27) 333), en P "NOTEQUAL" 336 (.int (28) 335), en P "LESSEQUAL" 338 (.int (29) 337), en P "GREATEREQUAL" 340 (.int (30) 339), en P "TILDE" 342 (.int (31) 341), en P "CIRCUMFLEX" 344 (.int (32) 343), en P "LEFTSHIFT" 346 (.int (33) 345), en P "RIGHTSHIFT" 348 (.int (34) 347), en P "DOUBLESTAR" 350 (.int (35) 349), en P "PLUSEQUAL" 352 (.int (36) 351), en P "MINEQUAL" 354 (.int (37) 353), en P "STAREQUAL" 356 (.int (38) 355), en P "SLASHEQUAL" 358 (.int (39) 357), en P "PERCENTEQUAL" 360 (.int (40) 359), en P "AMPEREQUAL" 362 (.int (41) 361), en P "VBAREQUAL" 364 (.int (42) 363), en P "CIRCUMFLEXEQUAL" 366 (.int (43) 365), en P "LEFTSHIFTEQUAL" 368 (.int (44) 367), en P "RIGHTSHIFTEQUAL" 370 (.int (45) 369), en P "DOUBLESTAREQUAL" 372 (.int (46) 371), en P "DOUBLESLASH" 374 (.int (47) 373), en P "DOUBLESLASHEQUAL" 376 (.int (48) 375), en P "AT" 378 (.int (49) 377), en P "ATEQUAL" 380 (.int (50) 379), en P "RARROW" 382 (.int (51) 381), en P "ELLIPSIS" 384 (.int (52) 383), en P "COLONEQUAL" 386 (.int (53) 385), en P "EXCLAMATION" 388 (.int (54) 387), en P "EXACT_TOKEN_TYPES" 485 (.ref 39), en P "ISEOF" 492 (.ref 48), en P "NL" 496 (sv "\n" 495), en P "EMPTYSTRING" 498 (sv "" 497), en P "_ValueFormatter" 606 (.ref 121), en P "_Accumulator" 702 (.ref 205)] 66), #[]⟩
noncomputable def o29C58 (_ : Params) : Obj := ⟨.none, none, (.fields #[(.int (2) 0), (.int (0) 0), (.ref 37), (.int (56) 0), (.int (0) 0), (.ref 47), (.int (61) 0), (.int (0) 0), (.ref 54), (.int (127) 0), (.int (0) 0), (.ref 132)]), #[]⟩
noncomputable def o126C58 (_ : Params) : Obj := ⟨(.type "tuple"), none, (.seq #[(.type "list")] 0), #[]⟩
noncomputable def o127C58 (_ : Params) : Obj := ⟨(.type "builtin_function_or_method"), none, (.fields #[(.builtin "type.__prepare__"), (.type "type")]), #[]⟩
noncomputable def o128C58 (P : Params) : Obj := ⟨(.type "dict"), none, (.dict #[en P "__module__" 614 (sv "cpy313.email.header" 493), en P "__qualname__" 616 (sv "_Accumulator" 615), en P "__firstlineno__" 618 (.int (127) 617), en P "__init__" 628 (.ref 142), en P "push" 637 (.ref 149), en P "pop_from" 647 (.ref 157), en P "pop" 655 (.ref 165), en P "__len__" 662 (.ref 172), en P "__str__" 669 (.ref 179), en P "reset" 677 (.ref 187), en P "is_onlyws" 684 (.ref 194), en P "part_count" 692 (.ref 202), en P "__static_attributes__" 694 (.ref 203), en P "__classcell__" 695 (.ref 129)] 14), #[]⟩
noncomputable def o129C58 (_ : Params) : Obj := ⟨(.type "cell"), none, (.cell (some (.ref 205))), #[]⟩
noncomputable def o130C58 (_ : Params) : Obj := ⟨(.type "tuple"), none, (.seq #[] 0), #[]⟩
noncomputable def o131C58 (_ : Params) : Obj := ⟨.none, none, (.fields #[(.int (129) 0), (.int (4) 0), (.ref 141), (.int (133) 0), (.int (4) 0), (.ref 148), (.int (136) 0), (.int (4) 0), (.ref 156), (.int (141) 0), (.int (4) 0), (.ref 164), (.int (146) 0), (.int (4) 0), (.ref 171), (.int (149) 0), (.int (4) 0), (.ref 178), (.int (152) 0), (.int (4) 0), (.ref 186), (.int (158) 0), (.int (4) 0), (.ref 193), (.int (161) 0), (.int (4) 0), (.ref 201)]), #[]⟩
noncomputable def o132C58 (_ : Params) : Obj := ⟨(.type "code"), none, (.fields #[(sv "_Accumulator" 609), (sv "_Accumulator" 610), (sv "/claim/cut.py" 611), (.int (127) 0), (.int (0) 0), (.int (0) 0), (.int (0) 0), (.int (0) 0), (.ref 130), (.bool false), (.int (276) 0), (.ref 131), .none, .none, .none, .none, (.int (612) 0), (.int (127) 0), (sv "/claim/cut.py" 613)]), #[]⟩
noncomputable def o133C58 (_ : Params) : Obj := ⟨(.type "frame"), none, .plain, #[(some (.ref 132)), (some (.ref 3)), (some (.ref 128)), none, (some (sv "cpy313.email.header" 493)), none, (some (.ref 0))]⟩
noncomputable def o134C58 (_ : Params) : Obj := ⟨(.type "tuple"), none, (.seq #[(.int (0) 619)] 0), #[]⟩
noncomputable def o135C58 (_ : Params) : Obj := ⟨(.type "tuple"), none, (.seq #[(.ref 129)] 0), #[]⟩
noncomputable def o136C58 (_ : Params) : Obj := ⟨(.type "tuple"), none, (.seq #[(sv "__class__" 623)] 0), #[]⟩
noncomputable def o137C58 (_ : Params) : Obj := ⟨.none, none, (.fields #[]), #[]⟩
noncomputable def o138C58 (_ : Params) : Obj := ⟨(.type "tuple"), none, (.seq #[(sv "self" 624), (sv "initial_size" 625)] 0), #[]⟩
noncomputable def o139C58 (_ : Params) : Obj := ⟨(.type "tuple"), none, (.seq #[] 0), #[]⟩
noncomputable def o140C58 (_ : Params) : Obj := ⟨.none, none, (.func { name := (Str.ofString "__init__"), qualname := (Str.ofString "_Accumulator.__init__"), params := fdP (sub 58 0), body := .stmts (fdB (sub 58 0)), scope := fdS (sub 58 0), globals := 0, closure := [], defaults := .none, kwdefaults := .none, doc := .none, pyModule := .none, annotations := none, code := .none, closureTuple := .none, builtins := 0 }), #[]⟩
noncomputable def o141C58 (_ : Params) : Obj := ⟨(.type "code"), none, (.fields #[(sv "__init__" 620), (sv "_Accumulator.__init__" 621), (sv "/claim/cut.py" 622), (.int (129) 0), (.int (2) 0), (.int (0) 0), (.int (0) 0), (.int (3) 0), (.ref 136), (.bool true), (.int (276) 0), (.ref 137), .none, (.ref 138), (.ref 139), (.ref 140), (.int (626) 0), (.int (129) 0), (sv "/claim/cut.py" 627)]), #[]⟩
noncomputable def o142C58 (_ : Params) : Obj := ⟨(.type "function"), none, (.func { name := (Str.ofString "__init__"), qualname := (Str.ofString "_Accumulator.__init__"), params := fdP (sub 58 0), body := .stmts (fdB (sub 58 0)), scope := fdS (sub 58 0), globals := 3, closure := [((Str.ofString "__class__"), 129)], defaults := (.ref 134), kwdefaults := .none, doc := .none, pyModule := (sv "cpy313.email.header" 493), annotations := none, code := (.ref 141), closureTuple := (.ref 135), builtins := 0 }), #[]⟩
noncomputable def o143C58 (_ : Params) : Obj := ⟨(.type "tuple"), none, (.seq #[] 0), #[]⟩
noncomputable def o144C58 (_ : Params) : Obj := ⟨.none, none, (.fields #[]), #[]⟩
noncomputable def o145C58 (_ : Params) : Obj := ⟨(.type "tuple"), none, (.seq #[(sv "self" 632), (sv "fws" 633), (sv "string" 634)] 0), #[]⟩
noncomputable def o146C58 (_ : Params) : Obj := ⟨(.type "tuple"), none, (.seq #[] 0), #[]⟩
noncomputable def o147C58 (_ : Params) : Obj := ⟨.none, none, (.func { name := (Str.ofString "push"), qualname := (Str.ofString "_Accumulator.push"), params := fdP (sub 58 1), body := .stmts (fdB (sub 58 1)), scope := fdS (sub 58 1), globals := 0, closure := [], defaults := .none, kwdefaults := .none, doc := .none, pyModule := .none, annotations := none, code := .none, closureTuple := .none, builtins := 0 }), #[]⟩
noncomputable def o148C58 (_ : Params) : Obj := ⟨(.type "code"), none, (.fields #[(sv "push" 629), (sv "_Accumulator.push" 630), (sv "/claim/cut.py" 631), (.int (133) 0), (.int (3) 0), (.int (0) 0), (.int (0) 0), (.int (3) 0), (.ref 143), (.bool true), (.int (276) 0), (.ref 144), .none, (.ref 145), (.ref 146), (.ref 147), (.int (635) 0), (.int (133) 0), (sv "/claim/cut.py" 636)]), #[]⟩
noncomputable def o149C58 (_ : Params) : Obj := ⟨(.type "function"), none, (.func { name := (Str.ofString "push"), qualname := (Str.ofString "_Accumulator.push"), params := fdP (sub 58 1), body := .stmts (fdB (sub 58 1)), scope := fdS (sub 58 1), globals := 3, closure := [], defaults := .none, kwdefaults := .none, doc := .none, pyModule := (sv "cpy313.email.header" 493), annotations := none, code := (.ref 148), closureTuple := .none, builtins := 0 }), #[]⟩
noncomputable def o150C58 (_ : Params) : Obj := ⟨(.type "tuple"), none, (.seq #[(.int (0) 638)] 0), #[]⟩
noncomputable def o151C58 (_ : Params) : Obj := ⟨(.type "tuple"), none, (.seq #[] 0), #[]⟩
noncomputable def o152C58 (_ : Params) : Obj := ⟨.none, none, (.fields #[]), #[]⟩
noncomputable def o153C58 (_ : Params) : Obj := ⟨(.type "tuple"), none, (.seq #[(sv "self" 642), (sv "i" 643), (sv "popped" 644)] 0), #[]⟩
noncomputable def o154C58 (_ : Params) : Obj := ⟨(.type "tuple"), none, (.seq #[] 0), #[]⟩
noncomputable def o155C58 (_ : Params) : Obj := ⟨.none, none, (.func { name := (Str.ofString "pop_from"), qualname := (Str.ofString "_Accumulator.pop_from"), params := fdP (sub 58 2), body := .stmts (fdB (sub 58 2)), scope := fdS (sub 58 2), globals := 0, closure := [], defaults := .none, kwdefaults := .none, doc := .none, pyModule := .none, annotations := none, code := .none, closureTuple := .none, builtins := 0 }), #[]⟩
noncomputable def o156C58 (_ : Params) : Obj := ⟨(.type "code"), none, (.fields #[(sv "pop_from" 639), (sv "_Accumulator.pop_from" 640), (sv "/claim/cut.py" 641), (.int (136) 0), (.int (2) 0), (.int (0) 0), (.int (0) 0), (.int (3) 0), (.ref 151), (.bool true), (.int (276) 0), (.ref 152), .none, (.ref 153), (.ref 154), (.ref 155), (.int (645) 0), (.int (136) 0), (sv "/claim/cut.py" 646)]), #[]⟩
noncomputable def o157C58 (_ : Params) : Obj := ⟨(.type "function"), none, (.func { name := (Str.ofString "pop_from"), qualname := (Str.ofString "_Accumulator.pop_from"), params := fdP (sub 58 2), body := .stmts (fdB (sub 58 2)), scope := fdS (sub 58 2), globals := 3, closure := [], defaults := (.ref 150), kwdefaults := .none, doc := .none, pyModule := (sv "cpy313.email.header" 493), annotations := none, code := (.ref 156), closureTuple := .none, builtins := 0 }), #[]⟩
noncomputable def o158C58 (_ : Params) : Obj := ⟨(.type "tuple"), none, (.seq #[(.ref 129)] 0), #[]⟩
noncomputable def o159C58 (_ : Params) : Obj := ⟨(.type "tuple"), none, (.seq #[(sv "__class__" 651)] 0), #[]⟩
noncomputable def o160C58 (_ : Params) : Obj := ⟨.none, none, (.fields #[]), #[]⟩
noncomputable def o161C58 (_ : Params) : Obj := ⟨(.type "tuple"), none, (.seq #[(sv "self" 652)] 0), #[]⟩
noncomputable def o162C58 (_ : Params) : Obj := ⟨(.type "tuple"), none, (.seq #[] 0), #[]⟩
noncomputable def o163C58 (_ : Params) : Obj := ⟨.none, none, (.func { name := (Str.ofString "pop"), qualname := (Str.ofString "_Accumulator.pop"), params := fdP (sub 58 3), body := .stmts (fdB (sub 58 3)), scope := fdS (sub 58 3), globals := 0, closure := [], defaults := .none, kwdefaults := .none, doc := .none, pyModule := .none, annotations := none, code := .none, closureTuple := .none, builtins := 0 }), #[]⟩
noncomputable def o164C58 (_ : Params) : Obj := ⟨(.type "code"), none, (.fields #[(sv "pop" 648), (sv "_Accumulator.pop" 649), (sv "/claim/cut.py" 650), (.int (141) 0), (.int (1) 0), (.int (0) 0), (.int (0) 0), (.int (3) 0), (.ref 159), (.bool true), (.int (276) 0), (.ref 160), .none, (.ref 161), (.ref 162), (.ref 163), (.int (653) 0), (.int (141) 0), (sv "/claim/cut.py" 654)]), #[]⟩
noncomputable def o165C58 (_ : Params) : Obj := ⟨(.type "function"), none, (.func { name := (Str.ofString "pop"), qualname := (Str.ofString "_Accumulator.pop"), params := fdP (sub 58 3), body := .stmts (fdB (sub 58 3)), scope := fdS (sub 58 3), globals := 3, closure := [((Str.ofString "__class__"), 129)], defaults := .none, kwdefaults := .none, doc := .none, pyModule := (sv "cpy313.email.header" 493), annotations := none, code := (.ref 164), closureTuple := (.ref 158), builtins := 0 }), #[]⟩
noncomputable def o166C58 (_ : Params) : Obj := ⟨(.type "tuple"), none, (.seq #[] 0), #[]⟩
noncomputable def o167C58 (_ : Params) : Obj := ⟨.none, none, (.fields #[]), #[]⟩
noncomputable def o168C58 (_ : Params) : Obj := ⟨(.type "tuple"), none, (.seq #[(sv "self" 659)] 0), #[]⟩
noncomputable def o169C58 (_ : Params) : Obj := ⟨(.type "tuple"), none, (.seq #[] 0), #[]⟩
noncomputable def o170C58 (_ : Params) : Obj := ⟨.none, none, (.func { name := (Str.ofString "__len__"), qualname := (Str.ofString "_Accumulator.__len__"), params := fdP (sub 58 4), body := .stmts (fdB (sub 58 4)), scope := fdS (sub 58 4), globals := 0, closure := [], defaults := .none, kwdefaults := .none, doc := .none, pyModule := .none, annotations := none, code := .none, closureTuple := .none, builtins := 0 }), #[]⟩
noncomputable def o171C58 (_ : Params) : Obj := ⟨(.type "code"), none, (.fields #[(sv "__len__" 656), (sv "_Accumulator.__len__" 657), (sv "/claim/cut.py" 658), (.int (146) 0), (.int (1) 0), (.int (0) 0), (.int (0) 0), (.int (3) 0), (.ref 166), (.bool true), (.int (276) 0), (.ref 167), .none, (.ref 168), (.ref 169), (.ref 170), (.int (660) 0), (.int (146) 0), (sv "/claim/cut.py" 661)]), #[]⟩
noncomputable def o172C58 (_ : Params) : Obj := ⟨(.type "function"), none, (.func { name := (Str.ofString "__len__"), qualname := (Str.ofString "_Accumulator.__len__"), params := fdP (sub 58 4), body := .stmts (fdB (sub 58 4)), scope := fdS (sub 58 4), globals := 3, closure := [], defaults := .none, kwdefaults := .none, doc := .none, pyModule := (sv "cpy313.email.header" 493), annotations := none, code := (.ref 171), closureTuple := .none, builtins := 0 }), #[]⟩
noncomputable def o173C58 (_ : Params) : Obj := ⟨(.type "tuple"), none, (.seq #[] 0), #[]⟩
noncomputable def o174C58 (_ : Params) : Obj := ⟨.none, none, (.fields #[]), #[]⟩
noncomputable def o175C58 (_ : Params) : Obj := ⟨(.type "tuple"), none, (.seq #[(sv "self" 666)] 0), #[]⟩
noncomputable def o176C58 (_ : Params) : Obj := ⟨(.type "tuple"), none, (.seq #[] 0), #[]⟩
noncomputable def o177C58 (_ : Params) : Obj := ⟨.none, none, (.func { name := (Str.ofString "__str__"), qualname := (Str.ofString "_Accumulator.__str__"), params := fdP (sub 58 5), body := .stmts (fdB (sub 58 5)), scope := fdS (sub 58 5), globals := 0, closure := [], defaults := .none, kwdefaults := .none, doc := .none, pyModule := .none, annotations := none, code := .none, closureTuple := .none, builtins := 0 }), #[]⟩
noncomputable def o178C58 (_ : Params) : Obj := ⟨(.type "code"), none, (.fields #[(sv "__str__" 663), (sv "_Accumulator.__str__" 664), (sv "/claim/cut.py" 665), (.int (149) 0), (.int (1) 0), (.int (0) 0), (.int (0) 0), (.int (3) 0), (.ref 173), (.bool true), (.int (276) 0), (.ref 174), .none, (.ref 175), (.ref 176), (.ref 177), (.int (667) 0), (.int (149) 0), (sv "/claim/cut.py" 668)]), #[]⟩
noncomputable def o179C58 (_ : Params) : Obj := ⟨(.type "function"), none, (.func { name := (Str.ofString "__str__"), qualname := (Str.ofString "_Accumulator.__str__"), params := fdP (sub 58 5), body := .stmts (fdB (sub 58 5)), scope := fdS (sub 58 5), globals := 3, closure := [], defaults := .none, kwdefaults := .none, doc := .none, pyModule := (sv "cpy313.email.header" 493), annotations := none, code := (.ref 178), closureTuple := .none, builtins := 0 }), #[]⟩
noncomputable def o180C58 (_ : Params) : Obj := ⟨(.type "tuple"), none, (.seq #[.none] 0), #[]⟩
noncomputable def o181C58 (_ : Params) : Obj := ⟨(.type "tuple"), none, (.seq #[] 0), #[]⟩
noncomputable def o182C58 (_ : Params) : Obj := ⟨.none, none, (.fields #[]), #[]⟩
noncomputable def o183C58 (_ : Params) : Obj := ⟨(.type "tuple"), none, (.seq #[(sv "self" 673), (sv "startval" 674)] 0), #[]⟩
noncomputable def o184C58 (_ : Params) : Obj := ⟨(.type "tuple"), none, (.seq #[] 0), #[]⟩
noncomputable def o185C58 (_ : Params) : Obj := ⟨.none, none, (.func { name := (Str.ofString "reset"), qualname := (Str.ofString "_Accumulator.reset"), params := fdP (sub 58 6), body := .stmts (fdB (sub 58 6)), scope := fdS (sub 58 6), globals := 0, closure := [], defaults := .none, kwdefaults := .none, doc := .none, pyModule := .none, annotations := none, code := .none, closureTuple := .none, builtins := 0 }), #[]⟩
noncomputable def o186C58 (_ : Params) : Obj := ⟨(.type "code"), none, (.fields #[(sv "reset" 670), (sv "_Accumulator.reset" 671), (sv "/claim/cut.py" 672), (.int (152) 0), (.int (2) 0), (.int (0) 0), (.int (0) 0), (.int (3) 0), (.ref 181), (.bool true), (.int (276) 0), (.ref 182), .none, (.ref 183), (.ref 184), (.ref 185), (.int (675) 0), (.int (152) 0), (sv "/claim/cut.py" 676)]), #[]⟩
noncomputable def o187C58 (_ : Params) : Obj := ⟨(.type "function"), none, (.func { name := (Str.ofString "reset"), qualname := (Str.ofString "_Accumulator.reset"), params := fdP (sub 58 6), body := .stmts (fdB (sub 58 6)), scope := fdS (sub 58 6), globals := 3, closure := [], defaults := (.ref 180), kwdefaults := .none, doc := .none, pyModule := (sv "cpy313.email.header" 493), annotations := none, code := (.ref 186), closureTuple := .none, builtins := 0 }), #[]⟩
noncomputable def o188C58 (_ : Params) : Obj := ⟨(.type "tuple"), none, (.seq #[] 0), #[]⟩
noncomputable def o189C58 (_ : Params) : Obj := ⟨.none, none, (.fields #[]), #[]⟩
noncomputable def o190C58 (_ : Params) : Obj := ⟨(.type "tuple"), none, (.seq #[(sv "self" 681)] 0), #[]⟩
noncomputable def o191C58 (_ : Params) : Obj := ⟨(.type "tuple"), none, (.seq #[] 0), #[]⟩
noncomputable def o192C58 (_ : Params) : Obj := ⟨.none, none, (.func { name := (Str.ofString "is_onlyws"), qualname := (Str.ofString "_Accumulator.is_onlyws"), params := fdP (sub 58 7), body := .stmts (fdB (sub 58 7)), scope := fdS (sub 58 7), globals := 0, closure := [], defaults := .none, kwdefaults := .none, doc := .none, pyModule := .none, annotations := none, code := .none, closureTuple := .none, builtins := 0 }), #[]⟩
noncomputable def o193C58 (_ : Params) : Obj := ⟨(.type "code"), none, (.fields #[(sv "is_onlyws" 678), (sv "_Accumulator.is_onlyws" 679), (sv "/claim/cut.py" 680), (.int (158) 0), (.int (1) 0), (.int (0) 0), (.int (0) 0), (.int (3) 0), (.ref 188), (.bool true), (.int (276) 0), (.ref 189), .none, (.ref 190), (.ref 191), (.ref 192), (.int (682) 0), (.int (158) 0), (sv "/claim/cut.py" 683)]), #[]⟩
noncomputable def o194C58 (_ : Params) : Obj := ⟨(.type "function"), none, (.func { name := (Str.ofString "is_onlyws"), qualname := (Str.ofString "_Accumulator.is_onlyws"), params := fdP (sub 58 7), body := .stmts (fdB (sub 58 7)), scope := fdS (sub 58 7), globals := 3, closure := [], defaults := .none, kwdefaults := .none, doc := .none, pyModule := (sv "cpy313.email.header" 493), annotations := none, code := (.ref 193), closureTuple := .none, builtins := 0 }), #[]⟩
noncomputable def o195C58 (_ : Params) : Obj := ⟨(.type "tuple"), none, (.seq #[(.ref 129)] 0), #[]⟩
noncomputable def o196C58 (_ : Params) : Obj := ⟨(.type "tuple"), none, (.seq #[(sv "__class__" 688)] 0), #[]⟩
noncomputable def o197C58 (_ : Params) : Obj := ⟨.none, none, (.fields #[]), #[]⟩
noncomputable def o198C58 (_ : Params) : Obj := ⟨(.type "tuple"), none, (.seq #[(sv "self" 689)] 0), #[]⟩
noncomputable def o199C58 (_ : Params) : Obj := ⟨(.type "tuple"), none, (.seq #[] 0), #[]⟩
noncomputable def o200C58 (_ : Params) : Obj := ⟨.none, none, (.func { name := (Str.ofString "part_count"), qualname := (Str.ofString "_Accumulator.part_count"), params := fdP (sub 58 8), body := .stmts (fdB (sub 58 8)), scope := fdS (sub 58 8), globals := 0, closure := [], defaults := .none, kwdefaults := .none, doc := .none, pyModule := .none, annotations := none, code := .none, closureTuple := .none, builtins := 0 }), #[]⟩
noncomputable def o201C58 (_ : Params) : Obj := ⟨(.type "code"), none, (.fields #[(sv "part_count" 685), (sv "_Accumulator.part_count" 686), (sv "/claim/cut.py" 687), (.int (161) 0), (.int (1) 0), (.int (0) 0), (.int (0) 0), (.int (3) 0), (.ref 196), (.bool true), (.int (276) 0), (.ref 197), .none, (.ref 198), (.ref 199), (.ref 200), (.int (690) 0), (.int (161) 0), (sv "/claim/cut.py" 691)]), #[]⟩
noncomputable def o202C58 (_ : Params) : Obj := ⟨(.type "function"), none, (.func { name := (Str.ofString "part_count"), qualname := (Str.ofString "_Accumulator.part_count"), params := fdP (sub 58 8), body := .stmts (fdB (sub 58 8)), scope := fdS (sub 58 8), globals := 3, closure := [((Str.ofString "__class__"), 129)], defaults := .none, kwdefaults := .none, doc := .none, pyModule := (sv "cpy313.email.header" 493), annotations := none, code := (.ref 201), closureTuple := (.ref 195), builtins := 0 }), #[]⟩
noncomputable def o203C58 (_ : Params) : Obj := ⟨(.type "tuple"), none, (.seq #[(sv "_initial_size" 693)] 0), #[]⟩
noncomputable def o204C58 (P : Params) : Obj := ⟨(.type "dict"), none, (.dict #[en P "__module__" 614 (sv "cpy313.email.header" 493), en P "__firstlineno__" 618 (.int (127) 617), en P "__init__" 628 (.ref 142), en P "push" 637 (.ref 149), en P "pop_from" 647 (.ref 157), en P "pop" 655 (.ref 165), en P "__len__" 662 (.ref 172), en P "__str__" 669 (.ref 179), en P "reset" 677 (.ref 187), en P "is_onlyws" 684 (.ref 194), en P "part_count" 692 (.ref 202), en P "__static_attributes__" 694 (.ref 203), en P "__dict__" 697 (.ref 206), en P "__weakref__" 699 (.ref 207), en P "__doc__" 700 .none] 5), #[]⟩
noncomputable def o205C58 (_ : Params) : Obj := ⟨(.type "type"), none, (.cls { name := (Str.ofString "_Accumulator"), bases := [(.type "list")], mro := [(.ref 205), (.type "list"), (.type "object")], ns := 204, qualname := (Str.ofString "_Accumulator"), hasDict := true, slotNames := [], subclasses := [], abstract := false, collection := none, hasDel := false }), #[(some (.ref 126)), none, (some (sv "_Accumulator" 607)), (some (sv "_Accumulator" 615)), (some (.builtin "list.__new__")), (some (.bool true))]⟩
noncomputable def o206C58 (_ : Params) : Obj := ⟨(.type "getset_descriptor"), none, (.fields #[(sv "__dict__" 696), (.ref 205), (.builtin "function.__dict__"), (.builtin "function.__dict__#set")]), #[]⟩
noncomputable def o207C58 (_ : Params) : Obj := ⟨(.type "getset_descriptor"), none, (.fields #[(sv "__weakref__" 698), (.ref 205), (.builtin "ExceptionGroup.__weakref__"), .none]), #[]⟩
noncomputable def o208C58 (_ : Params) : Obj := ⟨(.type "super"), none, (.fields #[(.ref 205), (.ref 205), (.ref 205)]), #[]⟩
noncomputable def o209C58 (_ : Params) : Obj := ⟨(.type "builtin_function_or_method"), none, (.fields #[(.builtin "object.__init_subclass__"), (.ref 205)]), #[]⟩
noncomputable def trC58 (P : Params) : BT := (.node (o0A P) (.node (o1A P) (.node (o3C58 P) (.node (o7A P) (.node (o15A P) (.node (o31B P) (.node (o63C57 P) (.node (o127C58 P) .nil .nil) (.node (o191C58 P) .nil .nil)) (.node (o95C57 P) (.node (o159C58 P) .nil .nil) .nil)) (.node (o47C56 P) (.node (o79C57 P) (.node (o143C58 P) .nil .nil) (.node (o207C58 P) .nil .nil)) (.node (o111C57 P) (.node (o175C58 P) .nil .nil) .nil))) (.node (o23A P) (.node (o39C52 P) (.node (o71C57 P) (.node (o135C58 P) .nil .nil) (.node (o199C58 P) .nil .nil)) (.node (o103C57 P) (.node (o167C58 P) .nil .nil) .nil)) (.node (o55C57 P) (.node (o87C57 P) (.node (o151C58 P) .nil .nil) .nil) (.node (o119C57 P) (.node (o183C58 P) .nil .nil) .nil)))) (.node (o11A P) (.node (o19A P) (.node (o35C26 P) (.node (o67C57 P) (.node (o131C58 P) .nil .nil) (.node (o195C58 P) .nil .nil)) (.node (o99C57 P) (.node (o163C58 P) .nil .nil) .nil)) (.node (o51C57 P) (.node (o83C57 P) (.node (o147C58 P) .nil .nil) .nil) (.node (o115C57 P) (.node (o179C58 P) .nil .nil) .nil))) (.node (o27A P) (.node (o43C56 P) (.node (o75C57 P) (.node (o139C58 P) .nil .nil) (.node (o203C58 P) .nil .nil)) (.node (o107C57 P) (.node (o171C58 P) .nil .nil) .nil)) (.node (o59C57 P) (.node (o91C57 P) (.node (o155C58 P) .nil .nil) .nil) (.node (o123C57 P) (.node (o187C58 P) .nil .nil) .nil))))) (.node (o5A P) (.node (o9A P) (.node (o17A P) (.node (o33C26 P) (.node (o65C57 P) (.node (o129C58 P) .nil .nil) (.node (o193C58 P) .nil .nil)) (.node (o97C57 P) (.node (o161C58 P) .nil .nil) .nil)) (.node (o49C57 P) (.node (o81C57 P) (.node (o145C58 P) .nil .nil) (.node (o209C58 P) .nil .nil)) (.node (o113C57 P) (.node (o177C58 P) .nil .nil) .nil))) (.node (o25A P) (.node (o41C52 P) (.node (o73C57 P) (.node (o137C58 P) .nil .nil) (.node (o201C58 P) .nil .nil)) (.node (o105C57 P) (.node (o169C58 P) .nil .nil) .nil)) (.node (o57C57 P) (.node (o89C57 P) (.node (o153C58 P) .nil .nil) .nil) (.node (o121C57 P) (.node (o185C58 P) .nil .nil) .nil)))) (.node (o13A P) (.node (o21A P) (.node (o37C26 P) (.node (o69C57 P) (.node (o133C58 P) .nil .nil) (.node (o197C58 P) .nil .nil)) (.node (o101C57 P) (.node (o165C58 P) .nil .nil) .nil)) (.node (o53C57 P) (.node (o85C57 P) (.node (o149C58 P) .nil .nil) .nil) (.node (o117C57 P) (.node (o181C58 P) .nil .nil) .nil))) (.node (o29C58 P) (.node (o45C56 P) (.node (o77C57 P) (.node (o141C58 P) .nil .nil) (.node (o205C58 P) .nil .nil)) (.node (o109C57 P) (.node (o173C58 P) .nil .nil) .nil)) (.node (o61C57 P) (.node (o93C57 P) (.node (o157C58 P) .nil .nil) .nil) (.node (o125C57 P) (.node (o189C58 P) .nil .nil) .nil)))))) (.node (o2A P) (.node (o4A P) (.node (o8A P) (.node (o16A P) (.node (o32C26 P) (.node (o64C57 P) (.node (o128C58 P) .nil .nil) (.node (o192C58 P) .nil .nil)) (.node (o96C57 P) (.node (o160C58 P) .nil .nil) .nil)) (.node (o48C56 P) (.node (o80C57 P) (.node (o144C58 P) .nil .nil) (.node (o208C58 P) .nil .nil)) (.node (o112C57 P) (.node (o176C58 P) .nil .nil) .nil))) (.node (o24A P) (.node (o40C52 P) (.node (o72C57 P) (.node (o136C58 P) .nil .nil) (.node (o200C58 P) .nil .nil)) (.node (o104C57 P) (.node (o168C58 P) .nil .nil) .nil)) (.node (o56C57 P) (.node (o88C57 P) (.node (o152C58 P) .nil .nil) .nil) (.node (o120C57 P) (.node (o184C58 P) .nil .nil) .nil)))) (.node (o12A P) (.node (o20A P) (.node (o36C26 P) (.node (o68C57 P) (.node (o132C58 P) .nil .nil) (.node (o196C58 P) .nil .nil)) (.node (o100C57 P) (.node (o164C58 P) .nil .nil) .nil)) (.node (o52C57 P) (.node (o84C57 P) (.node (o148C58 P) .nil .nil) .nil) (.node (o116C57 P) (.node (o180C58 P) .nil .nil) .nil))) (.node (o28B P) (.node (o44C56 P) (.node (o76C57 P) (.node (o140C58 P) .nil .nil) (.node (o204C58 P) .nil .nil)) (.node (o108C57 P) (.node (o172C58 P) .nil .nil) .nil)) (.node (o60C57 P) (.node (o92C57 P) (.node (o156C58 P) .nil .nil) .nil) (.node (o124C57 P) (.node (o188C58 P) .nil .nil) .nil))))) (.node (o6A P) (.node (o10A P) (.node (o18A P) (.node (o34C26 P) (.node (o66C57 P) (.node (o130C58 P) .nil .nil) (.node (o194C58 P) .nil .nil)) (.node (o98C57 P) (.node (o162C58 P) .nil .nil) .nil)) (.node (o50C57 P) (.node (o82C57 P) (.node (o146C58 P) .nil .nil) .nil) (.node (o114C57 P) (.node (o178C58 P) .nil .nil) .nil))) (.node (o26A P) (.node (o42C56 P) (.node (o74C57 P) (.node (o138C58 P) .nil .nil) (.node (o202C58 P) .nil .nil)) (.node (o106C57 P) (.node (o170C58 P) .nil .nil) .nil)) (.node (o58C57 P) (.node (o90C57 P) (.node (o154C58 P) .nil .nil) .nil) (.node (o122C57 P) (.node (o186C58 P) .nil .nil) .nil)))) (.node (o14A P) (.node (o22A P) (.node (o38C26 P) (.node (o70C57 P) (.node (o134C58 P) .nil .nil) (.node (o198C58 P) .nil .nil)) (.node (o102C57 P) (.node (o166C58 P) .nil .nil) .nil)) (.node (o54C57 P) (.node (o86C57 P) (.node (o150C58 P) .nil .nil) .nil) (.node (o118C57 P) (.node (o182C58 P) .nil .nil) .nil))) (.node (o30B P) (.node (o46C56 P) (.node (o78C57 P) (.node (o142C58 P) .nil .nil) (.node (o206C58 P) .nil .nil)) (.node (o110C57 P) (.node (o174C58 P) .nil .nil) .nil)) (.node (o62C57 P) (.node (o94C57 P) (.node (o158C58 P) .nil .nil) .nil) (.node (o126C58 P) (.node (o190C58 P) .nil .nil) .nil)))))))
noncomputable def o3C61 (P : Params) : Obj := ⟨(.type "dict"), none, (.dict #[en P "__name__" 165 (sv "cpy313.wsgiref.headers" 703), en P "__doc__" 166 .none, en P "__package__" 167 .none, en P "__loader__" 168 (.builtin "__main__.__loader__#opaque"), en P "__spec__" 169 .none, en P "__annotations__" 170 (.ref 6), en P "__builtins__" 171 (.ref 4), en P "__file__" 173 (sv "/claim/cut.py" 172), en P "__cached__" 174 .none, en P "_sre" 275 (.ref 12), en P "_wall" 288 (.ref 38), en P "ENDMARKER" 292 (.int (0) 291), en P "LPAR" 294 (.int (7) 293), en P "RPAR" 296 (.int (8) 295), en P "LSQB" 298 (.int (9) 297), en P "RSQB" 300 (.int (10) 299), en P "COLON" 302 (.int (11) 301), en P "COMMA" 304 (.int (12) 303), en P "SEMI" 306 (.int (13) 305), en P "PLUS" 308 (.int (14) 307), en P "MINUS" 310 (.int (15) 309), en P "STAR" 312 (.int (16) 311), en P "SLASH" 314 (.int (17) 313), en P "VBAR" 316 (.int (18) 315), en P "AMPER" 318 (.int (19) 317), en P "LESS" 320 (.int (20) 319), en P "GREATER" 322 (.int (21) 321), en P "EQUAL" 324 (.int (22) 323), en P "DOT" 326 (.int (23) 325), en P "PERCENT" 328 (.int (24) 327), en P "LBRACE" 330 (.int (25) 329), en P "RBRACE" 332 (.int (26) 331), en P "EQEQUAL" 334 (.int (27) 333), en P "NOTEQUAL" 336 (.int (28) 335), en P "LESSEQUAL" 338 (.int (29) 337), en P "GREATEREQUAL" 340 (.int (30) 339), en P "TILDE" 342 (.int (31) 341), en P "CIRCUMFLEX" 344 (.int (32) 343), en P "LEFTSHIFT" 346 (.int (33) 345), en P "RIGHTSHIFT" 348 (.int (34) 347), en P "DOUBLESTAR" 350 (.int (35) 349), en P "PLUSEQUAL" 352 (.int (36) 351), en P "MINEQUAL" 354 (.int (37) 353), en P "STAREQUAL" 356 (.int (38) 355), en P "SLASHEQUAL" 358 (.int (39) 357), en P "PERCENTEQUAL" 360 (.int (40) 359), en P "AMPEREQUAL" 362 (.int (41) 361), en P "VBAREQUAL" 364 (.int (42) 363), en P "CIRCUMFLEXEQUAL" 366 (.int (43) 365), en P "LEFTSHIFTEQUAL" 368 (.int (44) 367), en P "RIGHTSHIFTEQUAL" 370 (.int (45) 369), en P "DOUBLESTAREQUAL" 372 (.int (46) 371), en P "DOUBLESLASH" 374 (.int (47) 373), en P "DOUBLESLASHEQUAL" 376 (.int (48) 375), en P "AT" 378 (.int (49) 377), en P "ATEQUAL" 380 (.int (50) 379), en P "RARROW" 382 (.int (51) 381), en P "ELLIPSIS" 384 (.int (52) 383), en P "COLONEQUAL" 386 (.int (53) 385), en P "EXCLAMATION" 388 (.int (54) 387), en P "EXACT_TOKEN_TYPES" 485 (.ref 39), en P "ISEOF" 492 (.ref 48), en P "NL" 496 (sv "\n" 495), en P "EMPTYSTRING" 498 (sv "" 497), en P "_ValueFormatter" 606 (.ref 121), en P "_Accumulator" 702 (.ref 205), en P "_name_disallowed_re" 730 (.ref 214), en P "_value_disallowed_re" 764 (.ref 219)] 68), #[]⟩
noncomputable def o210C61 (_ : Params) : Obj := ⟨(.type "list"), none, (.seq #[(.int (14) 708), (.int (10) 709), (.int (4) 710), (.int (1) 711), (.int (1) 712), (.int (22) 713), (.int (0) 714), (.int (31) 715), (.int (16) 716), (.int (127) 717), (.int (0) 718), (.int (13) 719), (.int (7) 720), (.int (22) 721), (.int (0) 722), (.int (31) 723), (.int (16) 724), (.int (127) 725), (.int (0) 726), (.int (1) 727)] 0), #[]⟩
noncomputable def o211C61 (_ : Params) : Obj := ⟨(.type "dict"), none, (.dict #[] 0), #[]⟩
noncomputable def o212C61 (_ : Params) : Obj := ⟨(.type "tuple"), none, (.seq #[.none] 0), #[]⟩
noncomputable def o213C61 (_ : Params) : Obj := ⟨(.type "tuple"), none, (.seq #[(.int (14) 0), (.int (10) 0), (.int (4) 0), (.int (1) 0), (.int (1) 0), (.int (22) 0), (.int (0) 0), (.int (31) 0), (.int (16) 0), (.int (127) 0), (.int (0) 0), (.int (13) 0), (.int (7) 0), (.int (22) 0), (.int (0) 0), (.int (31) 0), (.int (16) 0), (.int (127) 0), (.int (0) 0), (.int (1) 0)] 0), #[]⟩
noncomputable def o214C61 (_ : Params) : Obj := ⟨(.type "re.Pattern"), none, (.fields #[(sv "[\\x00-\\x1F\\x7F]" 706), (.int (32) 729), (.int (0) 0), .none, .none, (.ref 213), (.int (0) 0)]), #[]⟩
noncomputable def o215C61 (_ : Params) : Obj := ⟨(.type "list"), none, (.seq #[(.int (14) 734), (.int (14) 735), (.int (4) 736), (.int (1) 737), (.int (1) 738), (.int (9) 739), (.int (4294966783) 740), (.int (0) 741), (.int (0) 742), (.int (2147483648) 743), (.int (0) 744), (.int (0) 745), (.int (0) 746), (.int (0) 747), (.int (0) 748), (.int (13) 749), (.int (11) 750), (.int (9) 751), (.int (4294966783) 752), (.int (0) 753), (.int (0) 754), (.int (2147483648) 755), (.int (0) 756), (.int (0) 757), (.int (0) 758), (.int (0) 759), (.int (0) 760), (.int (1) 761)] 0), #[]⟩
noncomputable def o216C61 (_ : Params) : Obj := ⟨(.type "dict"), none, (.dict #[] 0), #[]⟩
noncomputable def o217C61 (_ : Params) : Obj := ⟨(.type "tuple"), none, (.seq #[.none] 0), #[]⟩
noncomputable def o218C61 (_ : Params) : Obj := ⟨(.type "tuple"), none, (.seq #[(.int (14) 0), (.int (14) 0), (.int (4) 0), (.int (1) 0), (.int (1) 0), (.int (9) 0), (.int (4294966783) 0), (.int (0) 0), (.int (0) 0), (.int (2147483648) 0), (.int (0) 0), (.int (0) 0), (.int (0) 0), (.int (0) 0), (.int (0) 0), (.int (13) 0), (.int (11) 0), (.int (9) 0), (.int (4294966783) 0), (.int (0) 0), (.int (0) 0), (.int (2147483648) 0), (.int (0) 0), (.int (0) 0), (.int (0) 0), (.int (0) 0), (.int (0) 0), (.int (1) 0)] 0), #[]⟩
noncomputable def o219C61 (_ : Params) : Obj := ⟨(.type "re.Pattern"), none, (.fields #[(sv "[\\x00-\\x08\\x0A-\\x1F\\x7F]" 732), (.int (32) 763), (.int (0) 0), .none, .none, (.ref 218), (.int (0) 0)]), #[]⟩
noncomputable def trC61 (P : Params) : BT := (.node (o0A P) (.node (o1A P) (.node (o3C61 P) (.node (o7A P) (.node (o15A P) (.node (o31B P) (.node (o63C57 P) (.node (o127C58 P) .nil .nil) (.node (o191C58 P) .nil .nil)) (.node (o95C57 P) (.node (o159C58 P) .nil .nil) .nil)) (.node (o47C56 P) (.node (o79C57 P) (.node (o143C58 P) .nil .nil) (.node (o207C58 P) .nil .nil)) (.node (o111C57 P) (.node (o175C58 P) .nil .nil) .nil))) (.node (o23A P) (.node (o39C52 P) (.node (o71C57 P) (.node (o135C58 P) .nil .nil) (.node (o199C58 P) .nil .nil)) (.node (o103C57 P) (.node (o167C58 P) .nil .nil) .nil)) (.node (o55C57 P) (.node (o87C57 P) (.node (o151C58 P) .nil .nil) (.node (o215C61 P) .nil .nil)) (.node (o119C57 P) (.node (o183C58 P) .nil .nil) .nil)))) (.node (o11A P) (.node (o19A P) (.node (o35C26 P) (.node (o67C57 P) (.node (o131C58 P) .nil .nil) (.node (o195C58 P) .nil .nil)) (.node (o99C57 P) (.node (o163C58 P) .nil .nil) .nil)) (.node (o51C57 P) (.node (o83C57 P) (.node (o147C58 P) .nil .nil) (.node (o211C61 P) .nil .nil)) (.node (o115C57 P) (.node (o179C58 P) .nil .nil) .nil))) (.node (o27A P) (.node (o43C56 P) (.node (o75C57 P) (.node (o139C58 P) .nil .nil) (.node (o203C58 P) .nil .nil)) (.node (o107C57 P) (.node (o171C58 P) .nil .nil) .nil)) (.node (o59C57 P) (.node (o91C57 P) (.node (o155C58 P) .nil .nil) (.node (o219C61 P) .nil .nil)) (.node (o123C57 P) (.node (o187C58 P) .nil .nil) .nil))))) (.node (o5A P) (.node (o9A P) (.node (o17A P) (.node (o33C26 P) (.node (o65C57 P) (.node (o129C58 P) .nil .nil) (.node (o193C58 P) .nil .nil)) (.node (o97C57 P) (.node (o161C58 P) .nil .nil) .nil)) (.node (o49C57 P) (.node (o81C57 P) (.node (o145C58 P) .nil .nil) (.node (o209C58 P) .nil .nil)) (.node (o113C57 P) (.node (o177C58 P) .nil .nil) .nil))) (.node (o25A P) (.node (o41C52 P) (.node (o73C57 P) (.node (o137C58 P) .nil .nil) (.node (o201C58 P) .nil .nil)) (.node (o105C57 P) (.node (o169C58 P) .nil .nil) .nil)) (.node (o57C57 P) (.node (o89C57 P) (.node (o153C58 P) .nil .nil) (.node (o217C61 P) .nil .nil)) (.node (o121C57 P) (.node (o185C58 P) .nil .nil) .nil)))) (.node (o13A P) (.node (o21A P) (.node (o37C26 P) (.node (o69C57 P) (.node (o133C58 P) .nil .nil) (.node (o197C58 P) .nil .nil)) (.node (o101C57 P) (.node (o165C58 P) .nil .nil) .nil)) (.node (o53C57 P) (.node (o85C57 P) (.node (o149C58 P) .nil .nil) (.node (o213C61 P) .nil .nil)) (.node (o117C57 P) (.node (o181C58 P) .nil .nil) .nil))) (.node (o29C58 P) (.node (o45C56 P) (.node (o77C57 P) (.node (o141C58 P) .nil .nil) (.node (o205C58 P) .nil .nil)) (.node (o109C57 P) (.node (o173C58 P) .nil .nil) .nil)) (.node (o61C57 P) (.node (o93C57 P) (.node (o157C58 P) .nil .nil) .nil) (.node (o125C57 P) (.node (o189C58 P) .nil .nil) .nil)))))) (.node (o2A P) (.node (o4A P) (.node (o8A P) (.node (o16A P) (.node (o32C26 P) (.node (o64C57 P) (.node (o128C58 P) .nil .nil) (.node (o192C58 P) .nil .nil)) (.node (o96C57 P) (.node (o160C58 P) .nil .nil) .nil)) (.node (o48C56 P) (.node (o80C57 P) (.node (o144C58 P) .nil .nil) (.node (o208C58 P) .nil .nil)) (.node (o112C57 P) (.node (o176C58 P) .nil .nil) .nil))) (.node (o24A P) (.node (o40C52 P) (.node (o72C57 P) (.node (o136C58 P) .nil .nil) (.node (o200C58 P) .nil .nil)) (.node (o104C57 P) (.node (o168C58 P) .nil .nil) .nil)) (.node (o56C57 P) (.node (o88C57 P) (.node (o152C58 P) .nil .nil) (.node (o216C61 P) .nil .nil)) (.node (o120C57 P) (.node (o184C58 P) .nil .nil) .nil)))) (.node (o12A P) (.node (o20A P) (.node (o36C26 P) (.node (o68C57 P) (.node (o132C58 P) .nil .nil) (.node (o196C58 P) .nil .nil)) (.node (o100C57 P) (.node (o164C58 P) .nil .nil) .nil)) (.node (o52C57 P) (.node (o84C57 P) (.node (o148C58 P) .nil .nil) (.node (o212C61 P) .nil .nil)) (.node (o116C57 P) (.node (o180C58 P) .nil .nil) .nil))) (.node (o28B P) (.node (o44C56 P) (.node (o76C57 P) (.node (o140C58 P) .nil .nil) (.node (o204C58 P) .nil .nil)) (.node (o108C57 P) (.node (o172C58 P) .nil .nil) .nil)) (.node (o60C57 P) (.node (o92C57 P) (.node (o156C58 P) .nil .nil) .nil) (.node (o124C57 P) (.node (o188C58 P) .nil .nil) .nil))))) (.node (o6A P) (.node (o10A P) (.node (o18A P) (.node (o34C26 P) (.node (o66C57 P) (.node (o130C58 P) .nil .nil) (.node (o194C58 P) .nil .nil)) (.node (o98C57 P) (.node (o162C58 P) .nil .nil) .nil)) (.node (o50C57 P) (.node (o82C57 P) (.node (o146C58 P) .nil .nil) (.node (o210C61 P) .nil .nil)) (.node (o114C57 P) (.node (o178C58 P) .nil .nil) .nil))) (.node (o26A P) (.node (o42C56 P) (.node (o74C57 P) (.node (o138C58 P) .nil .nil) (.node (o202C58 P) .nil .nil)) (.node (o106C57 P) (.node (o170C58 P) .nil .nil) .nil)) (.node (o58C57 P) (.node (o90C57 P) (.node (o154C58 P) .nil .nil) (.node (o218C61 P) .nil .nil)) (.node (o122C57 P) (.node (o186C58 P) .nil .nil) .nil)))) (.node (o14A P) (.node (o22A P) (.node (o38C26 P) (.node (o70C57 P) (.node (o134C58 P) .nil .nil) (.node (o198C58 P) .nil .nil)) (.node (o102C57 P) (.node (o166C58 P) .nil .nil) .nil)) (.node (o54C57 P) (.node (o86C57 P) (.node (o150C58 P) .nil .nil) (.node (o214C61 P) .nil .nil)) (.node (o118C57 P) (.node (o182C58 P) .nil .nil) .nil))) (.node (o30B P) (.node (o46C56 P) (.node (o78C57 P) (.node (o142C58 P) .nil .nil) (.node (o206C58 P) .nil .nil)) (.node (o110C57 P) (.node (o174C58 P) .nil .nil) .nil)) (.node (o62C57 P) (.node (o94C57 P) (.node (o158C58 P) .nil .nil) .nil) (.node (o126C58 P) (.node (o190C58 P) .nil .nil) .nil)))))))
noncomputable def o3C62 (P : Params) : Obj := ⟨(.type "dict"), none, (.dict #[en P "__name__" 165 (sv "cpy313.wsgiref.headers" 703), en P "__doc__" 166 .none, en P "__package__" 167 .none, en P "__loader__" 168 (.builtin "__main__.__loader__#opaque"), en P "__spec__" 169 .none, en P "__annotations__" 170 (.ref 6), en P "__builtins__" 171 (.ref 4), en P "__file__" 173 (sv "/claim/cut.py" 172), en P "__cached__" 174 .none, en P "_sre" 275 (.ref 12), en P "_wall" 288 (.ref 38), en P "ENDMARKER" 292 (.int (0) 291), en P "LPAR" 294 (.int (7) 293), en P "RPAR" 296 (.int (8) 295), en P "LSQB" 298 (.int (9) 297), en P "RSQB" 300 (.int (10) 299), en P "COLON" 302 (.int (11) 301), en P "COMMA" 304 (.int (12) 303), en P "SEMI" 306 (.int (13) 305), en P "PLUS" 308 (.int (14) 307), en P "MINUS" 310 (.int (15) 309), en P "STAR" 312 (.int (16) 311), en P "SLASH" 314 (.int (17) 313), en P "VBAR" 316 (.int (18) 315), en P "AMPER" 318 (.int (19) 317), en P "LESS" 320 (.int (20) 319), en P "GREATER" 322 (.int (21) 321), en P "EQUAL" 324 (.int (22) 323), en P "DOT" 326 (.int (23) 325), en P "PERCENT" 328 (.int (24) 327), en P "LBRACE" 330 (.int (25) 329), en P "RBRACE" 332 (.int (26) 331), en P "EQEQUAL" 334 (.int (27) 333), en P "NOTEQUAL" 336 (.int (28) 335), en P "LESSEQUAL" 338 (.int (29) 337), en P "GREATEREQUAL" 340 (.int (30) 339), en P "TILDE" 342 (.int (31) 341), en P "CIRCUMFLEX" 344 (.int (32) 343), en P "LEFTSHIFT" 346 (.int (33) 345), en P "RIGHTSHIFT" 348 (.int (34) 347), en P "DOUBLESTAR" 350 (.int (35) 349), en P "PLUSEQUAL" 352 (.int (36) 351), en P "MINEQUAL" 354 (.int (37) 353), en P "STAREQUAL" 356 (.int (38) 355), en P "SLASHEQUAL" 358 (.int (39) 357), en P "PERCENTEQUAL" 360 (.int (40) 359), en P "AMPEREQUAL" 362 (.int (41) 361), en P "VBAREQUAL" 364 (.int (42) 363), en P "CIRCUMFLEXEQUAL" 366 (.int (43) 365), en P "LEFTSHIFTEQUAL" 368 (.int (44) 367), en P "RIGHTSHIFTEQUAL" 370 (.int (45) 369), en P "DOUBLESTAREQUAL" 372 (.int (46) 371), en P "DOUBLESLASH" 374 (.int (47) 373), en P "DOUBLESLASHEQUAL" 376 (.int (48) 375), en P "AT" 378 (.int (49) 377), en P "ATEQUAL" 380 (.int (50) 379), en P "RARROW" 382 (.int (51) 381), en P "ELLIPSIS" 384 (.int (52) 383), en P "COLONEQUAL" 386 (.int (53) 385), en P "EXCLAMATION" 388 (.int (54) 387), en P "EXACT_TOKEN_TYPES" 485 (.ref 39), en P "ISEOF" 492 (.ref 48), en P "NL" 496 (sv "\n" 495), en P "EMPTYSTRING" 498 (sv "" 497), en P "_ValueFormatter" 606 (.ref 121), en P "_Accumulator" 702 (.ref 205), en P "_name_disallowed_re" 730 (.ref 214), en P "_value_disallowed_re" 764 (.ref 219), en P "Headers" 921 (.ref 342)] 69), #[]⟩
noncomputable def o29C62 (_ : Params) : Obj := ⟨.none, none, (.fields #[(.int (2) 0), (.int (0) 0), (.ref 37), (.int (56) 0), (.int (0) 0), (.ref 47), (.int (61) 0), (.int (0) 0), (.ref 54), (.int (127) 0), (.int (0) 0), (.ref 132), (.int (166) 0), (.int (0) 0), (.ref 225)]), #[]⟩
noncomputable def o220C62 (_ : Params) : Obj := ⟨(.type "tuple"), none, (.seq #[] 0), #[]⟩
noncomputable def o221C62 (_ : Params) : Obj := ⟨(.type "builtin_function_or_method"), none, (.fields #[(.builtin "type.__prepare__"), (.type "type")]), #[]⟩
noncomputable def o222C62 (P : Params) : Obj := ⟨(.type "dict"), none, (.dict #[en P "__module__" 772 (sv "cpy313.wsgiref.headers" 703), en P "__qualname__" 774 (sv "Headers" 773), en P "__firstlineno__" 776 (.int (166) 775), en P "__init__" 786 (.ref 234), en P "_convert_string_type" 796 (.ref 241), en P "__len__" 803 (.ref 248), en P "__setitem__" 812 (.ref 255), en P "__delitem__" 818 (.ref 260), en P "__getitem__" 826 (.ref 267), en P "__contains__" 834 (.ref 274), en P "get_all" 842 (.ref 281), en P "get" 853 (.ref 289), en P "keys" 859 (.ref 294), en P "values" 865 (.ref 299), en P "items" 872 (.ref 306), en P "__repr__" 879 (.ref 313), en P "__str__" 885 (.ref 318), en P "__bytes__" 892 (.ref 325), en P "setdefault" 902 (.ref 332), en P "add_header" 912 (.ref 339), en P "__static_attributes__" 914 (.ref 340)] 21), #[]⟩
noncomputable def o223C62 (_ : Params) : Obj := ⟨(.type "tuple"), none, (.seq #[] 0), #[]⟩
noncomputable def o224C62 (_ : Params) : Obj := ⟨.none, none, (.fields #[(.int (168) 0), (.int (4) 0), (.ref 233), (.int (178) 0), (.int (4) 0), (.ref 240), (.int (186) 0), (.int (4) 0), (.ref 247), (.int (189) 0), (.int (4) 0), (.ref 254), (.int (193) 0), (.int (4) 0), (.ref 259), (.int (197) 0), (.int (4) 0), (.ref 266), (.int (200) 0), (.int (4) 0), (.ref 273), (.int (203) 0), (.int (4) 0), (.ref 280), (.int (206) 0), (.int (4) 0), (.ref 288), (.int (213) 0), (.int (4) 0), (.ref 293), (.int (216) 0), (.int (4) 0), (.ref 298), (.int (219) 0), (.int (4) 0), (.ref 305), (.int (222) 0), (.int (4) 0), (.ref 312), (.int (225) 0), (.int (4) 0), (.ref 317), (.int (228) 0), (.int (4) 0), (.ref 324), (.int (231) 0), (.int (4) 0), (.ref 331), (.int (239) 0), (.int (4) 0), (.ref 338)]), #[]⟩
noncomputable def o225C62 (_ : Params) : Obj := ⟨(.type "code"), none, (.fields #[(sv "Headers" 767), (sv "Headers" 768), (sv "/claim/cut.py" 769), (.int (166) 0), (.int (0) 0), (.int (0) 0), (.int (0) 0), (.int (0) 0), (.ref 223), (.bool false), (.int (276) 0), (.ref 224), .none, .none, .none, .none, (.int (770) 0), (.int (166) 0), (sv "/claim/cut.py" 771)]), #[]⟩
noncomputable def o226C62 (_ : Params) : Obj := ⟨(.type "frame"), none, .plain, #[(some (.ref 225)), (some (.ref 3)), (some (.ref 222)), none, (some (sv "cpy313.wsgiref.headers" 703)), none, (some (.ref 0))]⟩
noncomputable def o227C62 (_ : Params) : Obj := ⟨(.type "tuple"), none, (.seq #[.none] 0), #[]⟩
noncomputable def o228C62 (_ : Params) : Obj := ⟨(.type "tuple"), none, (.seq #[] 0), #[]⟩
noncomputable def o229C62 (_ : Params) : Obj := ⟨.none, none, (.fields #[]), #[]⟩
noncomputable def o230C62 (_ : Params) : Obj := ⟨(.type "tuple"), none, (.seq #[(sv "self" 780), (sv "headers" 781), (sv "k" 782), (sv "v" 783)] 0), #[]⟩
noncomputable def o231C62 (_ : Params) : Obj := ⟨(.type "tuple"), none, (.seq #[] 0), #[]⟩
noncomputable def o232C62 (_ : Params) : Obj := ⟨.none, none, (.func { name := (Str.ofString "__init__"), qualname := (Str.ofString "Headers.__init__"), params := fdP (sub 62 0), body := .stmts (fdB (sub 62 0)), scope := fdS (sub 62 0), globals := 0, closure := [], defaults := .none, kwdefaults := .none, doc := .none, pyModule := .none, annotations := none, code := .none, closureTuple := .none, builtins := 0 }), #[]⟩
noncomputable def o233C62 (_ : Params) : Obj := ⟨(.type "code"), none, (.fields #[(sv "__init__" 777), (sv "Headers.__init__" 778), (sv "/claim/cut.py" 779), (.int (168) 0), (.int (2) 0), (.int (0) 0), (.int (0) 0), (.int (3) 0), (.ref 228), (.bool true), (.int (276) 0), (.ref 229), .none, (.ref 230), (.ref 231), (.ref 232), (.int (784) 0), (.int (168) 0), (sv "/claim/cut.py" 785)]), #[]⟩
noncomputable def o234C62 (_ : Params) : Obj := ⟨(.type "function"), none, (.func { name := (Str.ofString "__init__"), qualname := (Str.ofString "Headers.__init__"), params := fdP (sub 62 0), body := .stmts (fdB (sub 62 0)), scope := fdS (sub 62 0), globals := 3, closure := [], defaults := (.ref 227), kwdefaults := .none, doc := .none, pyModule := (sv "cpy313.wsgiref.headers" 703), annotations := none, code := (.ref 233), closureTuple := .none, builtins := 0 }), #[]⟩
noncomputable def o235C62 (_ : Params) : Obj := ⟨(.type "tuple"), none, (.seq #[] 0), #[]⟩
noncomputable def o236C62 (_ : Params) : Obj := ⟨.none, none, (.fields #[]), #[]⟩
noncomputable def o237C62 (_ : Params) : Obj := ⟨(.type "tuple"), none, (.seq #[(sv "self" 790), (sv "value" 791), (sv "name" 792), (sv "regex" 793)] 0), #[]⟩
noncomputable def o238C62 (_ : Params) : Obj := ⟨(.type "tuple"), none, (.seq #[] 0), #[]⟩
noncomputable def o239C62 (_ : Params) : Obj := ⟨.none, none, (.func { name := (Str.ofString "_convert_string_type"), qualname := (Str.ofString "Headers._convert_string_type"), params := fdP (sub 62 1), body := .stmts (fdB (sub 62 1)), scope := fdS (sub 62 1), globals := 0, closure := [], defaults := .none, kwdefaults := .none, doc := .none, pyModule := .none, annotations := none, code := .none, closureTuple := .none, builtins := 0 }), #[]⟩
noncomputable def o240C62 (_ : Params) : Obj := ⟨(.type "code"), none, (.fields #[(sv "_convert_string_type" 787), (sv "Headers._convert_string_type" 788), (sv "/claim/cut.py" 789), (.int (178) 0), (.int (2) 0), (.int (0) 0), (.int (1) 0), (.int (3) 0), (.ref 235), (.bool true), (.int (276) 0), (.ref 236), .none, (.ref 237), (.ref 238), (.ref 239), (.int (794) 0), (.int (178) 0), (sv "/claim/cut.py" 795)]), #[]⟩
noncomputable def o241C62 (_ : Params) : Obj := ⟨(.type "function"), none, (.func { name := (Str.ofString "_convert_string_type"), qualname := (Str.ofString "Headers._convert_string_type"), params := fdP (sub 62 1), body := .stmts (fdB (sub 62 1)), scope := fdS (sub 62 1), globals := 3, closure := [], defaults := .none, kwdefaults := .none, doc := .none, pyModule := (sv "cpy313.wsgiref.headers" 703), annotations := none, code := (.ref 240), closureTuple := .none, builtins := 0 }), #[]⟩
noncomputable def o242C62 (_ : Params) : Obj := ⟨(.type "tuple"), none, (.seq #[] 0), #[]⟩
noncomputable def o243C62 (_ : Params) : Obj := ⟨.none, none, (.fields #[]), #[]⟩
noncomputable def o244C62 (_ : Params) : Obj := ⟨(.type "tuple"), none, (.seq #[(sv "self" 800)] 0), #[]⟩
noncomputable def o245C62 (_ : Params) : Obj := ⟨(.type "tuple"), none, (.seq #[] 0), #[]⟩
noncomputable def o246C62 (_ : Params) : Obj := ⟨.none, none, (.func { name := (Str.ofString "__len__"), qualname := (Str.ofString "Headers.__len__"), params := fdP (sub 62 2), body := .stmts (fdB (sub 62 2)), scope := fdS (sub 62 2), globals := 0, closure := [], defaults := .none, kwdefaults := .none, doc := .none, pyModule := .none, annotations := none, code := .none, closureTuple := .none, builtins := 0 }), #[]⟩
noncomputable def o247C62 (_ : Params) : Obj := ⟨(.type "code"), none, (.fields #[(sv "__len__" 797), (sv "Headers.__len__" 798), (sv "/claim/cut.py" 799), (.int (186) 0), (.int (1) 0), (.int (0) 0), (.int (0) 0), (.int (3) 0), (.ref 242), (.bool true), (.int (276) 0), (.ref 243), .none, (.ref 244), (.ref 245), (.ref 246), (.int (801) 0), (.int (186) 0), (sv "/claim/cut.py" 802)]), #[]⟩
noncomputable def o248C62 (_ : Params) : Obj := ⟨(.type "function"), none, (.func { name := (Str.ofString "__len__"), qualname := (Str.ofString "Headers.__len__"), params := fdP (sub 62 2), body := .stmts (fdB (sub 62 2)), scope := fdS (sub 62 2), globals := 3, closure := [], defaults := .none, kwdefaults := .none, doc := .none, pyModule := (sv "cpy313.wsgiref.headers" 703), annotations := none, code := (.ref 247), closureTuple := .none, builtins := 0 }), #[]⟩
noncomputable def o249C62 (_ : Params) : Obj := ⟨(.type "tuple"), none, (.seq #[] 0), #[]⟩
noncomputable def o250C62 (_ : Params) : Obj := ⟨.none, none, (.fields #[]), #[]⟩
noncomputable def o251C62 (_ : Params) : Obj := ⟨(.type "tuple"), none, (.seq #[(sv "self" 807), (sv "name" 808), (sv "val" 809)] 0), #[]⟩
noncomputable def o252C62 (_ : Params) : Obj := ⟨(.type "tuple"), none, (.seq #[] 0), #[]⟩
noncomputable def o253C62 (_ : Params) : Obj := ⟨.none, none, (.func { name := (Str.ofString "__setitem__"), qualname := (Str.ofString "Headers.__setitem__"), params := fdP (sub 62 3), body := .stmts (fdB (sub 62 3)), scope := fdS (sub 62 3), globals := 0, closure := [], defaults := .none, kwdefaults := .none, doc := .none, pyModule := .none, annotations := none, code := .none, closureTuple := .none, builtins := 0 }), #[]⟩
noncomputable def o254C62 (_ : Params) : Obj := ⟨(.type "code"), none, (.fields #[(sv "__setitem__" 804), (sv "Headers.__setitem__" 805), (sv "/claim/cut.py" 806), (.int (189) 0), (.int (3) 0), (.int (0) 0), (.int (0) 0), (.int (3) 0), (.ref 249), (.bool true), (.int (276) 0), (.ref 250), .none, (.ref 251), (.ref 252), (.ref 253), (.int (810) 0), (.int (189) 0), (sv "/claim/cut.py" 811)]), #[]⟩
noncomputable def o255C62 (_ : Params) : Obj := ⟨(.type "function"), none, (.func { name := (Str.ofString "__setitem__"), qualname := (Str.ofString "Headers.__setitem__"), params := fdP (sub 62 3), body := .stmts (fdB (sub 62 3)), scope := fdS (sub 62 3), globals := 3, closure := [], defaults := .none, kwdefaults := .none, doc := .none, pyModule := (sv "cpy313.wsgiref.headers" 703), annotations := none, code := (.ref 254), closureTuple := .none, builtins := 0 }), #[]⟩
noncomputable def o256C62 (_ : Params) : Obj := ⟨(.type "tuple"), none, (.seq #[] 0), #[]⟩
noncomputable def o257C62 (_ : Params) : Obj := ⟨.none, none, (.fields #[]), #[]⟩
noncomputable def o258C62 (_ : Params) : Obj := ⟨.none, none, (.func { name := (Str.ofString "__delitem__"), qualname := (Str.ofString "Headers.__delitem__"), params := fdP (sub 62 4), body := .stmts (fdB (sub 62 4)), scope := fdS (sub 62 4), globals := 0, closure := [], defaults := .none, kwdefaults := .none, doc := .none, pyModule := .none, annotations := none, code := .none, closureTuple := .none, builtins := 0 }), #[]⟩
noncomputable def o259C62 (_ : Params) : Obj := ⟨(.type "code"), none, (.fields #[(sv "__delitem__" 813), (sv "Headers.__delitem__" 814), (sv "/claim/cut.py" 815), (.int (193) 0), (.int (2) 0), (.int (0) 0), (.int (0) 0), (.int (3) 0), (.ref 256), (.bool true), (.int (276) 0), (.ref 257), .none, .none, .none, (.ref 258), (.int (816) 0), (.int (193) 0), (sv "/claim/cut.py" 817)]), #[]⟩
noncomputable def o260C62 (_ : Params) : Obj := ⟨(.type "function"), none, (.func { name := (Str.ofString "__delitem__"), qualname := (Str.ofString "Headers.__delitem__"), params := fdP (sub 62 4), body := .stmts (fdB (sub 62 4)), scope := fdS (sub 62 4), globals := 3, closure := [], defaults := .none, kwdefaults := .none, doc := .none, pyModule := (sv "cpy313.wsgiref.headers" 703), annotations := none, code := (.ref 259), closureTuple := .none, builtins := 0 }), #[]⟩
noncomputable def o261C62 (_ : Params) : Obj := ⟨(.type "tuple"), none, (.seq #[] 0), #[]⟩
noncomputable def o262C62 (_ : Params) : Obj := ⟨.none, none, (.fields #[]), #[]⟩
noncomputable def o263C62 (_ : Params) : Obj := ⟨(.type "tuple"), none, (.seq #[(sv "self" 822), (sv "name" 823)] 0), #[]⟩
noncomputable def o264C62 (_ : Params) : Obj := ⟨(.type "tuple"), none, (.seq #[] 0), #[]⟩
noncomputable def o265C62 (_ : Params) : Obj := ⟨.none, none, (.func { name := (Str.ofString "__getitem__"), qualname := (Str.ofString "Headers.__getitem__"), params := fdP (sub 62 5), body := .stmts (fdB (sub 62 5)), scope := fdS (sub 62 5), globals := 0, closure := [], defaults := .none, kwdefaults := .none, doc := .none, pyModule := .none, annotations := none, code := .none, closureTuple := .none, builtins := 0 }), #[]⟩
noncomputable def o266C62 (_ : Params) : Obj := ⟨(.type "code"), none, (.fields #[(sv "__getitem__" 819), (sv "Headers.__getitem__" 820), (sv "/claim/cut.py" 821), (.int (197) 0), (.int (2) 0), (.int (0) 0), (.int (0) 0), (.int (3) 0), (.ref 261), (.bool true), (.int (276) 0), (.ref 262), .none, (.ref 263), (.ref 264), (.ref 265), (.int (824) 0), (.int (197) 0), (sv "/claim/cut.py" 825)]), #[]⟩
noncomputable def o267C62 (_ : Params) : Obj := ⟨(.type "function"), none, (.func { name := (Str.ofString "__getitem__"), qualname := (Str.ofString "Headers.__getitem__"), params := fdP (sub 62 5), body := .stmts (fdB (sub 62 5)), scope := fdS (sub 62 5), globals := 3, closure := [], defaults := .none, kwdefaults := .none, doc := .none, pyModule := (sv "cpy313.wsgiref.headers" 703), annotations := none, code := (.ref 266), closureTuple := .none, builtins := 0 }), #[]⟩
noncomputable def o268C62 (_ : Params) : Obj := ⟨(.type "tuple"), none, (.seq #[] 0), #[]⟩
noncomputable def o269C62 (_ : Params) : Obj := ⟨.none, none, (.fields #[]), #[]⟩
noncomputable def o270C62 (_ : Params) : Obj := ⟨(.type "tuple"), none, (.seq #[(sv "self" 830), (sv "name" 831)] 0), #[]⟩
noncomputable def o271C62 (_ : Params) : Obj := ⟨(.type "tuple"), none, (.seq #[] 0), #[]⟩
noncomputable def o272C62 (_ : Params) : Obj := ⟨.none, none, (.func { name := (Str.ofString "__contains__"), qualname := (Str.ofString "Headers.__contains__"), params := fdP (sub 62 6), body := .stmts (fdB (sub 62 6)), scope := fdS (sub 62 6), globals := 0, closure := [], defaults := .none, kwdefaults := .none, doc := .none, pyModule := .none, annotations := none, code := .none, closureTuple := .none, builtins := 0 }), #[]⟩
noncomputable def o273C62 (_ : Params) : Obj := ⟨(.type "code"), none, (.fields #[(sv "__contains__" 827), (sv "Headers.__contains__" 828), (sv "/claim/cut.py" 829), (.int (200) 0), (.int (2) 0), (.int (0) 0), (.int (0) 0), (.int (3) 0), (.ref 268), (.bool true), (.int (276) 0), (.ref 269), .none, (.ref 270), (.ref 271), (.ref 272), (.int (832) 0), (.int (200) 0), (sv "/claim/cut.py" 833)]), #[]⟩
noncomputable def o274C62 (_ : Params) : Obj := ⟨(.type "function"), none, (.func { name := (Str.ofString "__contains__"), qualname := (Str.ofString "Headers.__contains__"), params := fdP (sub 62 6), body := .stmts (fdB (sub 62 6)), scope := fdS (sub 62 6), globals := 3, closure := [], defaults := .none, kwdefaults := .none, doc := .none, pyModule := (sv "cpy313.wsgiref.headers" 703), annotations := none, code := (.ref 273), closureTuple := .none, builtins := 0 }), #[]⟩
noncomputable def o275C62 (_ : Params) : Obj := ⟨(.type "tuple"), none, (.seq #[] 0), #[]⟩
noncomputable def o276C62 (_ : Params) : Obj := ⟨.none, none, (.fields #[]), #[]⟩
noncomputable def o277C62 (_ : Params) : Obj := ⟨(.type "tuple"), none, (.seq #[(sv "self" 838), (sv "name" 839)] 0), #[]⟩
noncomputable def o278C62 (_ : Params) : Obj := ⟨(.type "tuple"), none, (.seq #[] 0), #[]⟩
noncomputable def o279C62 (_ : Params) : Obj := ⟨.none, none, (.func { name := (Str.ofString "get_all"), qualname := (Str.ofString "Headers.get_all"), params := fdP (sub 62 7), body := .stmts (fdB (sub 62 7)), scope := fdS (sub 62 7), globals := 0, closure := [], defaults := .none, kwdefaults := .none, doc := .none, pyModule := .none, annotations := none, code := .none, closureTuple := .none, builtins := 0 }), #[]⟩
noncomputable def o280C62 (_ : Params) : Obj := ⟨(.type "code"), none, (.fields #[(sv "get_all" 835), (sv "Headers.get_all" 836), (sv "/claim/cut.py" 837), (.int (203) 0), (.int (2) 0), (.int (0) 0), (.int (0) 0), (.int (3) 0), (.ref 275), (.bool true), (.int (276) 0), (.ref 276), .none, (.ref 277), (.ref 278), (.ref 279), (.int (840) 0), (.int (203) 0), (sv "/claim/cut.py" 841)]), #[]⟩
noncomputable def o281C62 (_ : Params) : Obj := ⟨(.type "function"), none, (.func { name := (Str.ofString "get_all"), qualname := (Str.ofString "Headers.get_all"), params := fdP (sub 62 7), body := .stmts (fdB (sub 62 7)), scope := fdS (sub 62 7), globals := 3, closure := [], defaults := .none, kwdefaults := .none, doc := .none, pyModule := (sv "cpy313.wsgiref.headers" 703), annotations := none, code := (.ref 280), closureTuple := .none, builtins := 0 }), #[]⟩
noncomputable def o282C62 (_ : Params) : Obj := ⟨(.type "tuple"), none, (.seq #[.none] 0), #[]⟩
noncomputable def o283C62 (_ : Params) : Obj := ⟨(.type "tuple"), none, (.seq #[] 0), #[]⟩
noncomputable def o284C62 (_ : Params) : Obj := ⟨.none, none, (.fields #[]), #[]⟩
noncomputable def o285C62 (_ : Params) : Obj := ⟨(.type "tuple"), none, (.seq #[(sv "self" 846), (sv "name" 847), (sv "default" 848), (sv "k" 849), (sv "v" 850)] 0), #[]⟩
noncomputable def o286C62 (_ : Params) : Obj := ⟨(.type "tuple"), none, (.seq #[] 0), #[]⟩
noncomputable def o287C62 (_ : Params) : Obj := ⟨.none, none, (.func { name := (Str.ofString "get"), qualname := (Str.ofString "Headers.get"), params := fdP (sub 62 8), body := .stmts (fdB (sub 62 8)), scope := fdS (sub 62 8), globals := 0, closure := [], defaults := .none, kwdefaults := .none, doc := .none, pyModule := .none, annotations := none, code := .none, closureTuple := .none, builtins := 0 }), #[]⟩
noncomputable def o288C62 (_ : Params) : Obj := ⟨(.type "code"), none, (.fields #[(sv "get" 843), (sv "Headers.get" 844), (sv "/claim/cut.py" 845), (.int (206) 0), (.int (3) 0), (.int (0) 0), (.int (0) 0), (.int (3) 0), (.ref 283), (.bool true), (.int (276) 0), (.ref 284), .none, (.ref 285), (.ref 286), (.ref 287), (.int (851) 0), (.int (206) 0), (sv "/claim/cut.py" 852)]), #[]⟩
noncomputable def o289C62 (_ : Params) : Obj := ⟨(.type "function"), none, (.func { name := (Str.ofString "get"), qualname := (Str.ofString "Headers.get"), params := fdP (sub 62 8), body := .stmts (fdB (sub 62 8)), scope := fdS (sub 62 8), globals := 3, closure := [], defaults := (.ref 282), kwdefaults := .none, doc := .none, pyModule := (sv "cpy313.wsgiref.headers" 703), annotations := none, code := (.ref 288), closureTuple := .none, builtins := 0 }), #[]⟩
noncomputable def o290C62 (_ : Params) : Obj := ⟨(.type "tuple"), none, (.seq #[] 0), #[]⟩
noncomputable def o291C62 (_ : Params) : Obj := ⟨.none, none, (.fields #[]), #[]⟩
noncomputable def o292C62 (_ : Params) : Obj := ⟨.none, none, (.func { name := (Str.ofString "keys"), qualname := (Str.ofString "Headers.keys"), params := fdP (sub 62 9), body := .stmts (fdB (sub 62 9)), scope := fdS (sub 62 9), globals := 0, closure := [], defaults := .none, kwdefaults := .none, doc := .none, pyModule := .none, annotations := none, code := .none, closureTuple := .none, builtins := 0 }), #[]⟩
noncomputable def o293C62 (_ : Params) : Obj := ⟨(.type "code"), none, (.fields #[(sv "keys" 854), (sv "Headers.keys" 855), (sv "/claim/cut.py" 856), (.int (213) 0), (.int (1) 0), (.int (0) 0), (.int (0) 0), (.int (3) 0), (.ref 290), (.bool true), (.int (276) 0), (.ref 291), .none, .none, .none, (.ref 292), (.int (857) 0), (.int (213) 0), (sv "/claim/cut.py" 858)]), #[]⟩
noncomputable def o294C62 (_ : Params) : Obj := ⟨(.type "function"), none, (.func { name := (Str.ofString "keys"), qualname := (Str.ofString "Headers.keys"), params := fdP (sub 62 9), body := .stmts (fdB (sub 62 9)), scope := fdS (sub 62 9), globals := 3, closure := [], defaults := .none, kwdefaults := .none, doc := .none, pyModule := (sv "cpy313.wsgiref.headers" 703), annotations := none, code := (.ref 293), closureTuple := .none, builtins := 0 }), #[]⟩
noncomputable def o295C62 (_ : Params) : Obj := ⟨(.type "tuple"), none, (.seq #[] 0), #[]⟩
noncomputable def o296C62 (_ : Params) : Obj := ⟨.none, none, (.fields #[]), #[]⟩
noncomputable def o297C62 (_ : Params) : Obj := ⟨.none, none, (.func { name := (Str.ofString "values"), qualname := (Str.ofString "Headers.values"), params := fdP (sub 62 10), body := .stmts (fdB (sub 62 10)), scope := fdS (sub 62 10), globals := 0, closure := [], defaults := .none, kwdefaults := .none, doc := .none, pyModule := .none, annotations := none, code := .none, closureTuple := .none, builtins := 0 }), #[]⟩
noncomputable def o298C62 (_ : Params) : Obj := ⟨(.type "code"), none, (.fields #[(sv "values" 860), (sv "Headers.values" 861), (sv "/claim/cut.py" 862), (.int (216) 0), (.int (1) 0), (.int (0) 0), (.int (0) 0), (.int (3) 0), (.ref 295), (.bool true), (.int (276) 0), (.ref 296), .none, .none, .none, (.ref 297), (.int (863) 0), (.int (216) 0), (sv "/claim/cut.py" 864)]), #[]⟩
noncomputable def o299C62 (_ : Params) : Obj := ⟨(.type "function"), none, (.func { name := (Str.ofString "values"), qualname := (Str.ofString "Headers.values"), params := fdP (sub 62 10), body := .stmts (fdB (sub 62 10)), scope := fdS (sub 62 10), globals := 3, closure := [], defaults := .none, kwdefaults := .none, doc := .none, pyModule := (sv "cpy313.wsgiref.headers" 703), annotations := none, code := (.ref 298), closureTuple := .none, builtins := 0 }), #[]⟩
noncomputable def o300C62 (_ : Params) : Obj := ⟨(.type "tuple"), none, (.seq #[] 0), #[]⟩
noncomputable def o301C62 (_ : Params) : Obj := ⟨.none, none, (.fields #[]), #[]⟩
noncomputable def o302C62 (_ : Params) : Obj := ⟨(.type "tuple"), none, (.seq #[(sv "self" 869)] 0), #[]⟩
noncomputable def o303C62 (_ : Params) : Obj := ⟨(.type "tuple"), none, (.seq #[] 0), #[]⟩
noncomputable def o304C62 (_ : Params) : Obj := ⟨.none, none, (.func { name := (Str.ofString "items"), qualname := (Str.ofString "Headers.items"), params := fdP (sub 62 11), body := .stmts (fdB (sub 62 11)), scope := fdS (sub 62 11), globals := 0, closure := [], defaults := .none, kwdefaults := .none, doc := .none, pyModule := .none, annotations := none, code := .none, closureTuple := .none, builtins := 0 }), #[]⟩
noncomputable def o305C62 (_ : Params) : Obj := ⟨(.type "code"), none, (.fields #[(sv "items" 866), (sv "Headers.items" 867), (sv "/claim/cut.py" 868), (.int (219) 0), (.int (1) 0), (.int (0) 0), (.int (0) 0), (.int (3) 0), (.ref 300), (.bool true), (.int (276) 0), (.ref 301), .none, (.ref 302), (.ref 303), (.ref 304), (.int (870) 0), (.int (219) 0), (sv "/claim/cut.py" 871)]), #[]⟩
noncomputable def o306C62 (_ : Params) : Obj := ⟨(.type "function"), none, (.func { name := (Str.ofString "items"), qualname := (Str.ofString "Headers.items"), params := fdP (sub 62 11), body := .stmts (fdB (sub 62 11)), scope := fdS (sub 62 11), globals := 3, closure := [], defaults := .none, kwdefaults := .none, doc := .none, pyModule := (sv "cpy313.wsgiref.headers" 703), annotations := none, code := (.ref 305), closureTuple := .none, builtins := 0 }), #[]⟩
noncomputable def o307C62 (_ : Params) : Obj := ⟨(.type "tuple"), none, (.seq #[] 0), #[]⟩
noncomputable def o308C62 (_ : Params) : Obj := ⟨.none, none, (.fields #[]), #[]⟩
noncomputable def o309C62 (_ : Params) : Obj := ⟨(.type "tuple"), none, (.seq #[(sv "self" 876)] 0), #[]⟩
noncomputable def o310C62 (_ : Params) : Obj := ⟨(.type "tuple"), none, (.seq #[] 0), #[]⟩
noncomputable def o311C62 (_ : Params) : Obj := ⟨.none, none, (.func { name := (Str.ofString "__repr__"), qualname := (Str.ofString "Headers.__repr__"), params := fdP (sub 62 12), body := .stmts (fdB (sub 62 12)), scope := fdS (sub 62 12), globals := 0, closure := [], defaults := .none, kwdefaults := .none, doc := .none, pyModule := .none, annotations := none, code := .none, closureTuple := .none, builtins := 0 }), #[]⟩
noncomputable def o312C62 (_ : Params) : Obj := ⟨(.type "code"), none, (.fields #[(sv "__repr__" 873), (sv "Headers.__repr__" 874), (sv "/claim/cut.py" 875), (.int (222) 0), (.int (1) 0), (.int (0) 0), (.int (0) 0), (.int (3) 0), (.ref 307), (.bool true), (.int (276) 0), (.ref 308), .none, (.ref 309), (.ref 310), (.ref 311), (.int (877) 0), (.int (222) 0), (sv "/claim/cut.py" 878)]), #[]⟩
noncomputable def o313C62 (_ : Params) : Obj := ⟨(.type "function"), none, (.func { name := (Str.ofString "__repr__"), qualname := (Str.ofString "Headers.__repr__"), params := fdP (sub 62 12), body := .stmts (fdB (sub 62 12)), scope := fdS (sub 62 12), globals := 3, closure := [], defaults := .none, kwdefaults := .none, doc := .none, pyModule := (sv "cpy313.wsgiref.headers" 703), annotations := none, code := (.ref 312), closureTuple := .none, builtins := 0 }), #[]⟩
noncomputable def o314C62 (_ : Params) : Obj := ⟨(.type "tuple"), none, (.seq #[] 0), #[]⟩
noncomputable def o315C62 (_ : Params) : Obj := ⟨.none, none, (.fields #[]), #[]⟩
noncomputable def o316C62 (_ : Params) : Obj := ⟨.none, none, (.func { name := (Str.ofString "__str__"), qualname := (Str.ofString "Headers.__str__"), params := fdP (sub 62 13), body := .stmts (fdB (sub 62 13)), scope := fdS (sub 62 13), globals := 0, closure := [], defaults := .none, kwdefaults := .none, doc := .none, pyModule := .none, annotations := none, code := .none, closureTuple := .none, builtins := 0 }), #[]⟩
noncomputable def o317C62 (_ : Params) : Obj := ⟨(.type "code"), none, (.fields #[(sv "__str__" 880), (sv "Headers.__str__" 881), (sv "/claim/cut.py" 882), (.int (225) 0), (.int (1) 0), (.int (0) 0), (.int (0) 0), (.int (3) 0), (.ref 314), (.bool true), (.int (276) 0), (.ref 315), .none, .none, .none, (.ref 316), (.int (883) 0), (.int (225) 0), (sv "/claim/cut.py" 884)]), #[]⟩
noncomputable def o318C62 (_ : Params) : Obj := ⟨(.type "function"), none, (.func { name := (Str.ofString "__str__"), qualname := (Str.ofString "Headers.__str__"), params := fdP (sub 62 13), body := .stmts (fdB (sub 62 13)), scope := fdS (sub 62 13), globals := 3, closure := [], defaults := .none, kwdefaults := .none, doc := .none, pyModule := (sv "cpy313.wsgiref.headers" 703), annotations := none, code := (.ref 317), closureTuple := .none, builtins := 0 }), #[]⟩
noncomputable def o319C62 (_ : Params) : Obj := ⟨(.type "tuple"), none, (.seq #[] 0), #[]⟩
noncomputable def o320C62 (_ : Params) : Obj := ⟨.none, none, (.fields #[]), #[]⟩
noncomputable def o321C62 (_ : Params) : Obj := ⟨(.type "tuple"), none, (.seq #[(sv "self" 889)] 0), #[]⟩
noncomputable def o322C62 (_ : Params) : Obj := ⟨(.type "tuple"), none, (.seq #[] 0), #[]⟩
noncomputable def o323C62 (_ : Params) : Obj := ⟨.none, none, (.func { name := (Str.ofString "__bytes__"), qualname := (Str.ofString "Headers.__bytes__"), params := fdP (sub 62 14), body := .stmts (fdB (sub 62 14)), scope := fdS (sub 62 14), globals := 0, closure := [], defaults := .none, kwdefaults := .none, doc := .none, pyModule := .none, annotations := none, code := .none, closureTuple := .none, builtins := 0 }), #[]⟩
noncomputable def o324C62 (_ : Params) : Obj := ⟨(.type "code"), none, (.fields #[(sv "__bytes__" 886), (sv "Headers.__bytes__" 887), (sv "/claim/cut.py" 888), (.int (228) 0), (.int (1) 0), (.int (0) 0), (.int (0) 0), (.int (3) 0), (.ref 319), (.bool true), (.int (276) 0), (.ref 320), .none, (.ref 321), (.ref 322), (.ref 323), (.int (890) 0), (.int (228) 0), (sv "/claim/cut.py" 891)]), #[]⟩
noncomputable def o325C62 (_ : Params) : Obj := ⟨(.type "function"), none, (.func { name := (Str.ofString "__bytes__"), qualname := (Str.ofString "Headers.__bytes__"), params := fdP (sub 62 14), body := .stmts (fdB (sub 62 14)), scope := fdS (sub 62 14), globals := 3, closure := [], defaults := .none, kwdefaults := .none, doc := .none, pyModule := (sv "cpy313.wsgiref.headers" 703), annotations := none, code := (.ref 324), closureTuple := .none, builtins := 0 }), #[]⟩
noncomputable def o326C62 (_ : Params) : Obj := ⟨(.type "tuple"), none, (.seq #[] 0), #[]⟩
noncomputable def o327C62 (_ : Params) : Obj := ⟨.none, none, (.fields #[]), #[]⟩
noncomputable def o328C62 (_ : Params) : Obj := ⟨(.type "tuple"), none, (.seq #[(sv "self" 896), (sv "name" 897), (sv "value" 898), (sv "result" 899)] 0), #[]⟩
noncomputable def o329C62 (_ : Params) : Obj := ⟨(.type "tuple"), none, (.seq #[] 0), #[]⟩
noncomputable def o330C62 (_ : Params) : Obj := ⟨.none, none, (.func { name := (Str.ofString "setdefault"), qualname := (Str.ofString "Headers.setdefault"), params := fdP (sub 62 15), body := .stmts (fdB (sub 62 15)), scope := fdS (sub 62 15), globals := 0, closure := [], defaults := .none, kwdefaults := .none, doc := .none, pyModule := .none, annotations := none, code := .none, closureTuple := .none, builtins := 0 }), #[]⟩
noncomputable def o331C62 (_ : Params) : Obj := ⟨(.type "code"), none, (.fields #[(sv "setdefault" 893), (sv "Headers.setdefault" 894), (sv "/claim/cut.py" 895), (.int (231) 0), (.int (3) 0), (.int (0) 0), (.int (0) 0), (.int (3) 0), (.ref 326), (.bool true), (.int (276) 0), (.ref 327), .none, (.ref 328), (.ref 329), (.ref 330), (.int (900) 0), (.int (231) 0), (sv "/claim/cut.py" 901)]), #[]⟩
noncomputable def o332C62 (_ : Params) : Obj := ⟨(.type "function"), none, (.func { name := (Str.ofString "setdefault"), qualname := (Str.ofString "Headers.setdefault"), params := fdP (sub 62 15), body := .stmts (fdB (sub 62 15)), scope := fdS (sub 62 15), globals := 3, closure := [], defaults := .none, kwdefaults := .none, doc := .none, pyModule := (sv "cpy313.wsgiref.headers" 703), annotations := none, code := (.ref 331), closureTuple := .none, builtins := 0 }), #[]⟩
noncomputable def o333C62 (_ : Params) : Obj := ⟨(.type "tuple"), none, (.seq #[] 0), #[]⟩
noncomputable def o334C62 (_ : Params) : Obj := ⟨.none, none, (.fields #[]), #[]⟩
noncomputable def o335C62 (_ : Params) : Obj := ⟨(.type "tuple"), none, (.seq #[(sv "self" 906), (sv "_name" 907), (sv "_value" 908), (sv "_params" 909)] 0), #[]⟩
noncomputable def o336C62 (_ : Params) : Obj := ⟨(.type "tuple"), none, (.seq #[] 0), #[]⟩
noncomputable def o337C62 (_ : Params) : Obj := ⟨.none, none, (.func { name := (Str.ofString "add_header"), qualname := (Str.ofString "Headers.add_header"), params := fdP (sub 62 16), body := .stmts (fdB (sub 62 16)), scope := fdS (sub 62 16), globals := 0, closure := [], defaults := .none, kwdefaults := .none, doc := .none, pyModule := .none, annotations := none, code := .none, closureTuple := .none, builtins := 0 }), #[]⟩
noncomputable def o338C62 (_ : Params) : Obj := ⟨(.type "code"), none, (.fields #[(sv "add_header" 903), (sv "Headers.add_header" 904), (sv "/claim/cut.py" 905), (.int (239) 0), (.int (3) 0), (.int (0) 0), (.int (0) 0), (.int (11) 0), (.ref 333), (.bool true), (.int (276) 0), (.ref 334), .none, (.ref 335), (.ref 336), (.ref 337), (.int (910) 0), (.int (239) 0), (sv "/claim/cut.py" 911)]), #[]⟩
noncomputable def o339C62 (_ : Params) : Obj := ⟨(.type "function"), none, (.func { name := (Str.ofString "add_header"), qualname := (Str.ofString "Headers.add_header"), params := fdP (sub 62 16), body := .stmts (fdB (sub 62 16)), scope := fdS (sub 62 16), globals := 3, closure := [], defaults := .none, kwdefaults := .none, doc := .none, pyModule := (sv "cpy313.wsgiref.headers" 703), annotations := none, code := (.ref 338), closureTuple := .none, builtins := 0 }), #[]⟩
noncomputable def o340C62 (_ : Params) : Obj := ⟨(.type "tuple"), none, (.seq #[(sv "_headers" 913)] 0), #[]⟩
noncomputable def o341C62 (P : Params) : Obj := ⟨(.type "dict"), none, (.dict #[en P "__module__" 772 (sv "cpy313.wsgiref.headers" 703), en P "__firstlineno__" 776 (.int (166) 775), en P "__init__" 786 (.ref 234), en P "_convert_string_type" 796 (.ref 241), en P "__len__" 803 (.ref 248), en P "__setitem__" 812 (.ref 255), en P "__delitem__" 818 (.ref 260), en P "__getitem__" 826 (.ref 267), en P "__contains__" 834 (.ref 274), en P "get_all" 842 (.ref 281), en P "get" 853 (.ref 289), en P "keys" 859 (.ref 294), en P "values" 865 (.ref 299), en P "items" 872 (.ref 306), en P "__repr__" 879 (.ref 313), en P "__str__" 885 (.ref 318), en P "__bytes__" 892 (.ref 325), en P "setdefault" 902 (.ref 332), en P "add_header" 912 (.ref 339), en P "__static_attributes__" 914 (.ref 340), en P "__dict__" 916 (.ref 343), en P "__weakref__" 918 (.ref 344), en P "__doc__" 919 .none] 4), #[]⟩
noncomputable def o342C62 (_ : Params) : Obj := ⟨(.type "type"), none, (.cls { name := (Str.ofString "Headers"), bases := [(.type "object")], mro := [(.ref 342), (.type "object")], ns := 341, qualname := (Str.ofString "Headers"), hasDict := true, slotNames := [], subclasses := [], abstract := false, collection := none, hasDel := false }), #[none, none, (some (sv "Headers" 765)), (some (sv "Headers" 773)), (some (.builtin "object.__new__")), (some (.bool true))]⟩
noncomputable def o343C62 (_ : Params) : Obj := ⟨(.type "getset_descriptor"), none, (.fields #[(sv "__dict__" 915), (.ref 342), (.builtin "function.__dict__"), (.builtin "function.__dict__#set")]), #[]⟩
noncomputable def o344C62 (_ : Params) : Obj := ⟨(.type "getset_descriptor"), none, (.fields #[(sv "__weakref__" 917), (.ref 342), (.builtin "ExceptionGroup.__weakref__"), .none]), #[]⟩
noncomputable def o345C62 (_ : Params) : Obj := ⟨(.type "super"), none, (.fields #[(.ref 342), (.ref 342), (.ref 342)]), #[]⟩
noncomputable def o346C62 (_ : Params) : Obj := ⟨(.type "builtin_function_or_method"), none, (.fields #[(.builtin "object.__init_subclass__"), (.ref 342)]), #[]⟩
noncomputable def trC62 (P : Params) : BT := (.node (o0A P) (.node (o1A P) (.node (o3C62 P) (.node (o7A P) (.node (o15A P) (.node (o31B P) (.node (o63C57 P) (.node (o127C58 P) (.node (o255C62 P) .nil .nil) .nil) (.node (o191C58 P) (.node (o319C62 P) .nil .nil) .nil)) (.node (o95C57 P) (.node (o159C58 P) (.node (o287C62 P) .nil .nil) .nil) (.node (o223C62 P) .nil .nil))) (.node (o47C56 P) (.node (o79C57 P) (.node (o143C58 P) (.node (o271C62 P) .nil .nil) .nil) (.node (o207C58 P) (.node (o335C62 P) .nil .nil) .nil)) (.node (o111C57 P) (.node (o175C58 P) (.node (o303C62 P) .nil .nil) .nil) (.node (o239C62 P) .nil .nil)))) (.node (o23A P) (.node (o39C52 P) (.node (o71C57 P) (.node (o135C58 P) (.node (o263C62 P) .nil .nil) .nil) (.node (o199C58 P) (.node (o327C62 P) .nil .nil) .nil)) (.node (o103C57 P) (.node (o167C58 P) (.node (o295C62 P) .nil .nil) .nil) (.node (o231C62 P) .nil .nil))) (.node (o55C57 P) (.node (o87C57 P) (.node (o151C58 P) (.node (o279C62 P) .nil .nil) .nil) (.node (o215C61 P) (.node (o343C62 P) .nil .nil) .nil)) (.node (o119C57 P) (.node (o183C58 P) (.node (o311C62 P) .nil .nil) .nil) (.node (o247C62 P) .nil .nil))))) (.node (o11A P) (.node (o19A P) (.node (o35C26 P) (.node (o67C57 P) (.node (o131C58 P) (.node (o259C62 P) .nil .nil) .nil) (.node (o195C58 P) (.node (o323C62 P) .nil .nil) .nil)) (.node (o99C57 P) (.node (o163C58 P) (.node (o291C62 P) .nil .nil) .nil) (.node (o227C62 P) .nil .nil))) (.node (o51C57 P) (.node (o83C57 P) (.node (o147C58 P) (.node (o275C62 P) .nil .nil) .nil) (.node (o211C61 P) (.node (o339C62 P) .nil .nil) .nil)) (.node (o115C57 P) (.node (o179C58 P) (.node (o307C62 P) .nil .nil) .nil) (.node (o243C62 P) .nil .nil)))) (.node (o27A P) (.node (o43C56 P) (.node (o75C57 P) (.node (o139C58 P) (.node (o267C62 P) .nil .nil) .nil) (.node (o203C58 P) (.node (o331C62 P) .nil .nil) .nil)) (.node (o107C57 P) (.node (o171C58 P) (.node (o299C62 P) .nil .nil) .nil) (.node (o235C62 P) .nil .nil))) (.node (o59C57 P) (.node (o91C57 P) (.node (o155C58 P) (.node (o283C62 P) .nil .nil) .nil) (.node (o219C61 P) .nil .nil)) (.node (o123C57 P) (.node (o187C58 P) (.node (o315C62 P) .nil .nil) .nil) (.node (o251C62 P) .nil .nil)))))) (.node (o5A P) (.node (o9A P) (.node (o17A P) (.node (o33C26 P) (.node (o65C57 P) (.node (o129C58 P) (.node (o257C62 P) .nil .nil) .nil) (.node (o193C58 P) (.node (o321C62 P) .nil .nil) .nil)) (.node (o97C57 P) (.node (o161C58 P) (.node (o289C62 P) .nil .nil) .nil) (.node (o225C62 P) .nil .nil))) (.node (o49C57 P) (.node (o81C57 P) (.node (o145C58 P) (.node (o273C62 P) .nil .nil) .nil) (.node (o209C58 P) (.node (o337C62 P) .nil .nil) .nil)) (.node (o113C57 P) (.node (o177C58 P) (.node (o305C62 P) .nil .nil) .nil) (.node (o241C62 P) .nil .nil)))) (.node (o25A P) (.node (o41C52 P) (.node (o73C57 P) (.node (o137C58 P) (.node (o265C62 P) .nil .nil) .nil) (.node (o201C58 P) (.node (o329C62 P) .nil .nil) .nil)) (.node (o105C57 P) (.node (o169C58 P) (.node (o297C62 P) .nil .nil) .nil) (.node (o233C62 P) .nil .nil))) (.node (o57C57 P) (.node (o89C57 P) (.node (o153C58 P) (.node (o281C62 P) .nil .nil) .nil) (.node (o217C61 P) (.node (o345C62 P) .nil .nil) .nil)) (.node (o121C57 P) (.node (o185C58 P) (.node (o313C62 P) .nil .nil) .nil) (.node (o249C62 P) .nil .nil))))) (.node (o13A P) (.node (o21A P) (.node (o37C26 P) (.node (o69C57 P) (.node (o133C58 P) (.node (o261C62 P) .nil .nil) .nil) (.node (o197C58 P) (.node (o325C62 P) .nil .nil) .nil)) (.node (o101C57 P) (.node (o165C58 P) (.node (o293C62 P) .nil .nil) .nil) (.node (o229C62 P) .nil .nil))) (.node (o53C57 P) (.node (o85C57 P) (.node (o149C58 P) (.node (o277C62 P) .nil .nil) .nil) (.node (o213C61 P) (.node (o341C62 P) .nil .nil) .nil)) (.node (o117C57 P) (.node (o181C58 P) (.node (o309C62 P) .nil .nil) .nil) (.node (o245C62 P) .nil .nil)))) (.node (o29C62 P) (.node (o45C56 P) (.node (o77C57 P) (.node (o141C58 P) (.node (o269C62 P) .nil .nil) .nil) (.node (o205C58 P) (.node (o333C62 P) .nil .nil) .nil)) (.node (o109C57 P) (.node (o173C58 P) (.node (o301C62 P) .nil .nil) .nil) (.node (o237C62 P) .nil .nil))) (.node (o61C57 P) (.node (o93C57 P) (.node (o157C58 P) (.node (o285C62 P) .nil .nil) .nil) (.node (o221C62 P) .nil .nil)) (.node (o125C57 P) (.node (o189C58 P) (.node (o317C62 P) .nil .nil) .nil) (.node (o253C62 P) .nil .nil))))))) (.node (o2A P) (.node (o4A P) (.node (o8A P) (.node (o16A P) (.node (o32C26 P) (.node (o64C57 P) (.node (o128C58 P) (.node (o256C62 P) .nil .nil) .nil) (.node (o192C58 P) (.node (o320C62 P) .nil .nil) .nil)) (.node (o96C57 P) (.node (o160C58 P) (.node (o288C62 P) .nil .nil) .nil) (.node (o224C62 P) .nil .nil))) (.node (o48C56 P) (.node (o80C57 P) (.node (o144C58 P) (.node (o272C62 P) .nil .nil) .nil) (.node (o208C58 P) (.node (o336C62 P) .nil .nil) .nil)) (.node (o112C57 P) (.node (o176C58 P) (.node (o304C62 P) .nil .nil) .nil) (.node (o240C62 P) .nil .nil)))) (.node (o24A P) (.node (o40C52 P) (.node (o72C57 P) (.node (o136C58 P) (.node (o264C62 P) .nil .nil) .nil) (.node (o200C58 P) (.node (o328C62 P) .nil .nil) .nil)) (.node (o104C57 P) (.node (o168C58 P) (.node (o296C62 P) .nil .nil) .nil) (.node (o232C62 P) .nil .nil))) (.node (o56C57 P) (.node (o88C57 P) (.node (o152C58 P) (.node (o280C62 P) .nil .nil) .nil) (.node (o216C61 P) (.node (o344C62 P) .nil .nil) .nil)) (.node (o120C57 P) (.node (o184C58 P) (.node (o312C62 P) .nil .nil) .nil) (.node (o248C62 P) .nil .nil))))) (.node (o12A P) (.node (o20A P) (.node (o36C26 P) (.node (o68C57 P) (.node (o132C58 P) (.node (o260C62 P) .nil .nil) .nil) (.node (o196C58 P) (.node (o324C62 P) .nil .nil) .nil)) (.node (o100C57 P) (.node (o164C58 P) (.node (o292C62 P) .nil .nil) .nil) (.node (o228C62 P) .nil .nil))) (.node (o52C57 P) (.node (o84C57 P) (.node (o148C58 P) (.node (o276C62 P) .nil .nil) .nil) (.node (o212C61 P) (.node (o340C62 P) .nil .nil) .nil)) (.node (o116C57 P) (.node (o180C58 P) (.node (o308C62 P) .nil .nil) .nil) (.node (o244C62 P) .nil .nil)))) (.node (o28B P) (.node (o44C56 P) (.node (o76C57 P) (.node (o140C58 P) (.node (o268C62 P) .nil .nil) .nil) (.node (o204C58 P) (.node (o332C62 P) .nil .nil) .nil)) (.node (o108C57 P) (.node (o172C58 P) (.node (o300C62 P) .nil .nil) .nil) (.node (o236C62 P) .nil .nil))) (.node (o60C57 P) (.node (o92C57 P) (.node (o156C58 P) (.node (o284C62 P) .nil .nil) .nil) (.node (o220C62 P) .nil .nil)) (.node (o124C57 P) (.node (o188C58 P) (.node (o316C62 P) .nil .nil) .nil) (.node (o252C62 P) .nil .nil)))))) (.node (o6A P) (.node (o10A P) (.node (o18A P) (.node (o34C26 P) (.node (o66C57 P) (.node (o130C58 P) (.node (o258C62 P) .nil .nil) .nil) (.node (o194C58 P) (.node (o322C62 P) .nil .nil) .nil)) (.node (o98C57 P) (.node (o162C58 P) (.node (o290C62 P) .nil .nil) .nil) (.node (o226C62 P) .nil .nil))) (.node (o50C57 P) (.node (o82C57 P) (.node (o146C58 P) (.node (o274C62 P) .nil .nil) .nil) (.node (o210C61 P) (.node (o338C62 P) .nil .nil) .nil)) (.node (o114C57 P) (.node (o178C58 P) (.node (o306C62 P) .nil .nil) .nil) (.node (o242C62 P) .nil .nil)))) (.node (o26A P) (.node (o42C56 P) (.node (o74C57 P) (.node (o138C58 P) (.node (o266C62 P) .nil .nil) .nil) (.node (o202C58 P) (.node (o330C62 P) .nil .nil) .nil)) (.node (o106C57 P) (.node (o170C58 P) (.node (o298C62 P) .nil .nil) .nil) (.node (o234C62 P) .nil .nil))) (.node (o58C57 P) (.node (o90C57 P) (.node (o154C58 P) (.node (o282C62 P) .nil .nil) .nil) (.node (o218C61 P) (.node (o346C62 P) .nil .nil) .nil)) (.node (o122C57 P) (.node (o186C58 P) (.node (o314C62 P) .nil .nil) .nil) (.node (o250C62 P) .nil .nil))))) (.node (o14A P) (.node (o22A P) (.node (o38C26 P) (.node (o70C57 P) (.node (o134C58 P) (.node (o262C62 P) .nil .nil) .nil) (.node (o198C58 P) (.node (o326C62 P) .nil .nil) .nil)) (.node (o102C57 P) (.node (o166C58 P) (.node (o294C62 P) .nil .nil) .nil) (.node (o230C62 P) .nil .nil))) (.node (o54C57 P) (.node (o86C57 P) (.node (o150C58 P) (.node (o278C62 P) .nil .nil) .nil) (.node (o214C61 P) (.node (o342C62 P) .nil .nil) .nil)) (.node (o118C57 P) (.node (o182C58 P) (.node (o310C62 P) .nil .nil) .nil) (.node (o246C62 P) .nil .nil)))) (.node (o30B P) (.node (o46C56 P) (.node (o78C57 P) (.node (o142C58 P) (.node (o270C62 P) .nil .nil) .nil) (.node (o206C58 P) (.node (o334C62 P) .nil .nil) .nil)) (.node (o110C57 P) (.node (o174C58 P) (.node (o302C62 P) .nil .nil) .nil) (.node (o238C62 P) .nil .nil))) (.node (o62C57 P) (.node (o94C57 P) (.node (o158C58 P) (.node (o286C62 P) .nil .nil) .nil) (.node (o222C62 P) .nil .nil)) (.node (o126C58 P) (.node (o190C58 P) (.node (o318C62 P) .nil .nil) .nil) (.node (o254C62 P) .nil .nil))))))))
noncomputable def o3L (P : Params) : Obj := ⟨(.type "dict"), none, (.dict #[en P "__name__" 165 (sv "law_wc0034_01" 922), en P "__doc__" 166 .none, en P "__package__" 167 .none, en P "__loader__" 168 (.builtin "__main__.__loader__#opaque"), en P "__spec__" 169 .none, en P "__annotations__" 170 (.ref 6), en P "__builtins__" 171 (.ref 4), en P "__file__" 173 (sv "/claim/cut.py" 172), en P "__cached__" 174 .none, en P "_sre" 275 (.ref 12), en P "_wall" 288 (.ref 38), en P "ENDMARKER" 292 (.int (0) 291), en P "LPAR" 294 (.int (7) 293), en P "RPAR" 296 (.int (8) 295), en P "LSQB" 298 (.int (9) 297), en P "RSQB" 300 (.int (10) 299), en P "COLON" 302 (.int (11) 301), en P "COMMA" 304 (.int (12) 303), en P "SEMI" 306 (.int (13) 305), en P "PLUS" 308 (.int (14) 307), en P "MINUS" 310 (.int (15) 309), en P "STAR" 312 (.int (16) 311), en P "SLASH" 314 (.int (17) 313), en P "VBAR" 316 (.int (18) 315), en P "AMPER" 318 (.int (19) 317), en P "LESS" 320 (.int (20) 319), en P "GREATER" 322 (.int (21) 321), en P "EQUAL" 324 (.int (22) 323), en P "DOT" 326 (.int (23) 325), en P "PERCENT" 328 (.int (24) 327), en P "LBRACE" 330 (.int (25) 329), en P "RBRACE" 332 (.int (26) 331), en P "EQEQUAL" 334 (.int (27) 333), en P "NOTEQUAL" 336 (.int (28) 335), en P "LESSEQUAL" 338 (.int (29) 337), en P "GREATEREQUAL" 340 (.int (30) 339), en P "TILDE" 342 (.int (31) 341), en P "CIRCUMFLEX" 344 (.int (32) 343), en P "LEFTSHIFT" 346 (.int (33) 345), en P "RIGHTSHIFT" 348 (.int (34) 347), en P "DOUBLESTAR" 350 (.int (35) 349), en P "PLUSEQUAL" 352 (.int (36) 351), en P "MINEQUAL" 354 (.int (37) 353), en P "STAREQUAL" 356 (.int (38) 355), en P "SLASHEQUAL" 358 (.int (39) 357), en P "PERCENTEQUAL" 360 (.int (40) 359), en P "AMPEREQUAL" 362 (.int (41) 361), en P "VBAREQUAL" 364 (.int (42) 363), en P "CIRCUMFLEXEQUAL" 366 (.int (43) 365), en P "LEFTSHIFTEQUAL" 368 (.int (44) 367), en P "RIGHTSHIFTEQUAL" 370 (.int (45) 369), en P "DOUBLESTAREQUAL" 372 (.int (46) 371), en P "DOUBLESLASH" 374 (.int (47) 373), en P "DOUBLESLASHEQUAL" 376 (.int (48) 375), en P "AT" 378 (.int (49) 377), en P "ATEQUAL" 380 (.int (50) 379), en P "RARROW" 382 (.int (51) 381), en P "ELLIPSIS" 384 (.int (52) 383), en P "COLONEQUAL" 386 (.int (53) 385), en P "EXCLAMATION" 388 (.int (54) 387), en P "EXACT_TOKEN_TYPES" 485 (.ref 39), en P "ISEOF" 492 (.ref 48), en P "NL" 496 (sv "\n" 495), en P "EMPTYSTRING" 498 (sv "" 497), en P "_ValueFormatter" 606 (.ref 121), en P "_Accumulator" 702 (.ref 205), en P "_name_disallowed_re" 730 (.ref 214), en P "_value_disallowed_re" 764 (.ref 219), en P "Headers" 921 (.ref 342), en P "_law_pairs" 935 (.ref 353), en P "_law_page" 941 (.ref 358), en P "_law_column" 947 (.ref 363), en P "law" 953 (.ref 368)] 73), #[]⟩
noncomputable def o29L (_ : Params) : Obj := ⟨.none, none, (.fields #[(.int (2) 0), (.int (0) 0), (.ref 37), (.int (56) 0), (.int (0) 0), (.ref 47), (.int (61) 0), (.int (0) 0), (.ref 54), (.int (127) 0), (.int (0) 0), (.ref 132), (.int (166) 0), (.int (0) 0), (.ref 225), (.int (242) 0), (.int (0) 0), (.ref 352), (.int (250) 0), (.int (0) 0), (.ref 357), (.int (264) 0), (.int (0) 0), (.ref 362), (.int (269) 0), (.int (0) 0), (.ref 367)]), #[]⟩
noncomputable def o347L (_ : Params) : Obj := ⟨(.type "tuple"), none, (.seq #[] 0), #[]⟩
noncomputable def o348L (_ : Params) : Obj := ⟨.none, none, (.fields #[]), #[]⟩
noncomputable def o349L (_ : Params) : Obj := ⟨(.type "tuple"), none, (.seq #[(sv "size" 927), (sv "number" 928), (sv "places" 929), (sv "pairs" 930), (sv "one" 931), (sv "place" 932)] 0), #[]⟩
noncomputable def o350L (_ : Params) : Obj := ⟨(.type "tuple"), none, (.seq #[] 0), #[]⟩
noncomputable def o351L (_ : Params) : Obj := ⟨.none, none, (.func { name := (Str.ofString "_law_pairs"), qualname := (Str.ofString "_law_pairs"), params := fdP (stm 64), body := .stmts (fdB (stm 64)), scope := fdS (stm 64), globals := 0, closure := [], defaults := .none, kwdefaults := .none, doc := .none, pyModule := .none, annotations := none, code := .none, closureTuple := .none, builtins := 0 }), #[]⟩
noncomputable def o352L (_ : Params) : Obj := ⟨(.type "code"), none, (.fields #[(sv "_law_pairs" 924), (sv "_law_pairs" 925), (sv "/claim/cut.py" 926), (.int (242) 0), (.int (2) 0), (.int (0) 0), (.int (0) 0), (.int (3) 0), (.ref 347), (.bool true), (.int (276) 0), (.ref 348), .none, (.ref 349), (.ref 350), (.ref 351), (.int (933) 0), (.int (242) 0), (sv "/claim/cut.py" 934)]), #[]⟩
noncomputable def o353L (_ : Params) : Obj := ⟨(.type "function"), none, (.func { name := (Str.ofString "_law_pairs"), qualname := (Str.ofString "_law_pairs"), params := fdP (stm 64), body := .stmts (fdB (stm 64)), scope := fdS (stm 64), globals := 3, closure := [], defaults := .none, kwdefaults := .none, doc := .none, pyModule := (sv "law_wc0034_01" 922), annotations := none, code := (.ref 352), closureTuple := .none, builtins := 0 }), #[]⟩
noncomputable def o354L (_ : Params) : Obj := ⟨(.type "tuple"), none, (.seq #[] 0), #[]⟩
noncomputable def o355L (_ : Params) : Obj := ⟨.none, none, (.fields #[]), #[]⟩
noncomputable def o356L (_ : Params) : Obj := ⟨.none, none, (.func { name := (Str.ofString "_law_page"), qualname := (Str.ofString "_law_page"), params := fdP (stm 65), body := .stmts (fdB (stm 65)), scope := fdS (stm 65), globals := 0, closure := [], defaults := .none, kwdefaults := .none, doc := .none, pyModule := .none, annotations := none, code := .none, closureTuple := .none, builtins := 0 }), #[]⟩
noncomputable def o357L (_ : Params) : Obj := ⟨(.type "code"), none, (.fields #[(sv "_law_page" 936), (sv "_law_page" 937), (sv "/claim/cut.py" 938), (.int (250) 0), (.int (2) 0), (.int (0) 0), (.int (0) 0), (.int (3) 0), (.ref 354), (.bool true), (.int (276) 0), (.ref 355), .none, .none, .none, (.ref 356), (.int (939) 0), (.int (250) 0), (sv "/claim/cut.py" 940)]), #[]⟩
noncomputable def o358L (_ : Params) : Obj := ⟨(.type "function"), none, (.func { name := (Str.ofString "_law_page"), qualname := (Str.ofString "_law_page"), params := fdP (stm 65), body := .stmts (fdB (stm 65)), scope := fdS (stm 65), globals := 3, closure := [], defaults := .none, kwdefaults := .none, doc := .none, pyModule := (sv "law_wc0034_01" 922), annotations := none, code := (.ref 357), closureTuple := .none, builtins := 0 }), #[]⟩
noncomputable def o359L (_ : Params) : Obj := ⟨(.type "tuple"), none, (.seq #[] 0), #[]⟩
noncomputable def o360L (_ : Params) : Obj := ⟨.none, none, (.fields #[]), #[]⟩
noncomputable def o361L (_ : Params) : Obj := ⟨.none, none, (.func { name := (Str.ofString "_law_column"), qualname := (Str.ofString "_law_column"), params := fdP (stm 66), body := .stmts (fdB (stm 66)), scope := fdS (stm 66), globals := 0, closure := [], defaults := .none, kwdefaults := .none, doc := .none, pyModule := .none, annotations := none, code := .none, closureTuple := .none, builtins := 0 }), #[]⟩
noncomputable def o362L (_ : Params) : Obj := ⟨(.type "code"), none, (.fields #[(sv "_law_column" 942), (sv "_law_column" 943), (sv "/claim/cut.py" 944), (.int (264) 0), (.int (3) 0), (.int (0) 0), (.int (0) 0), (.int (3) 0), (.ref 359), (.bool true), (.int (276) 0), (.ref 360), .none, .none, .none, (.ref 361), (.int (945) 0), (.int (264) 0), (sv "/claim/cut.py" 946)]), #[]⟩
noncomputable def o363L (_ : Params) : Obj := ⟨(.type "function"), none, (.func { name := (Str.ofString "_law_column"), qualname := (Str.ofString "_law_column"), params := fdP (stm 66), body := .stmts (fdB (stm 66)), scope := fdS (stm 66), globals := 3, closure := [], defaults := .none, kwdefaults := .none, doc := .none, pyModule := (sv "law_wc0034_01" 922), annotations := none, code := (.ref 362), closureTuple := .none, builtins := 0 }), #[]⟩
noncomputable def o364L (_ : Params) : Obj := ⟨(.type "tuple"), none, (.seq #[] 0), #[]⟩
noncomputable def o365L (_ : Params) : Obj := ⟨.none, none, (.fields #[]), #[]⟩
noncomputable def o366L (_ : Params) : Obj := ⟨.none, none, (.func { name := (Str.ofString "law"), qualname := (Str.ofString "law"), params := fdP (stm 67), body := .stmts (fdB (stm 67)), scope := fdS (stm 67), globals := 0, closure := [], defaults := .none, kwdefaults := .none, doc := .none, pyModule := .none, annotations := none, code := .none, closureTuple := .none, builtins := 0 }), #[]⟩
noncomputable def o367L (_ : Params) : Obj := ⟨(.type "code"), none, (.fields #[(sv "law" 948), (sv "law" 949), (sv "/claim/cut.py" 950), (.int (269) 0), (.int (1) 0), (.int (0) 0), (.int (0) 0), (.int (3) 0), (.ref 364), (.bool true), (.int (276) 0), (.ref 365), .none, .none, .none, (.ref 366), (.int (951) 0), (.int (269) 0), (sv "/claim/cut.py" 952)]), #[]⟩
noncomputable def o368L (_ : Params) : Obj := ⟨(.type "function"), none, (.func { name := (Str.ofString "law"), qualname := (Str.ofString "law"), params := fdP (stm 67), body := .stmts (fdB (stm 67)), scope := fdS (stm 67), globals := 3, closure := [], defaults := .none, kwdefaults := .none, doc := .none, pyModule := (sv "law_wc0034_01" 922), annotations := none, code := (.ref 367), closureTuple := .none, builtins := 0 }), #[]⟩
noncomputable def trL (P : Params) : BT := (.node (o0A P) (.node (o1A P) (.node (o3L P) (.node (o7A P) (.node (o15A P) (.node (o31B P) (.node (o63C57 P) (.node (o127C58 P) (.node (o255C62 P) .nil .nil) .nil) (.node (o191C58 P) (.node (o319C62 P) .nil .nil) .nil)) (.node (o95C57 P) (.node (o159C58 P) (.node (o287C62 P) .nil .nil) .nil) (.node (o223C62 P) (.node (o351L P) .nil .nil) .nil))) (.node (o47C56 P) (.node (o79C57 P) (.node (o143C58 P) (.node (o271C62 P) .nil .nil) .nil) (.node (o207C58 P) (.node (o335C62 P) .nil .nil) .nil)) (.node (o111C57 P) (.node (o175C58 P) (.node (o303C62 P) .nil .nil) .nil) (.node (o239C62 P) (.node (o367L P) .nil .nil) .nil)))) (.node (o23A P) (.node (o39C52 P) (.node (o71C57 P) (.node (o135C58 P) (.node (o263C62 P) .nil .nil) .nil) (.node (o199C58 P) (.node (o327C62 P) .nil .nil) .nil)) (.node (o103C57 P) (.node (o167C58 P) (.node (o295C62 P) .nil .nil) .nil) (.node (o231C62 P) (.node (o359L P) .nil .nil) .nil))) (.node (o55C57 P) (.node (o87C57 P) (.node (o151C58 P) (.node (o279C62 P) .nil .nil) .nil) (.node (o215C61 P) (.node (o343C62 P) .nil .nil) .nil)) (.node (o119C57 P) (.node (o183C58 P) (.node (o311C62 P) .nil .nil) .nil) (.node (o247C62 P) .nil .nil))))) (.node (o11A P) (.node (o19A P) (.node (o35C26 P) (.node (o67C57 P) (.node (o131C58 P) (.node (o259C62 P) .nil .nil) .nil) (.node (o195C58 P) (.node (o323C62 P) .nil .nil) .nil)) (.node (o99C57 P) (.node (o163C58 P) (.node (o291C62 P) .nil .nil) .nil) (.node (o227C62 P) (.node (o355L P) .nil .nil) .nil))) (.node (o51C57 P) (.node (o83C57 P) (.node (o147C58 P) (.node (o275C62 P) .nil .nil) .nil) (.node (o211C61 P) (.node (o339C62 P) .nil .nil) .nil)) (.node (o115C57 P) (.node (o179C58 P) (.node (o307C62 P) .nil .nil) .nil) (.node (o243C62 P) .nil .nil)))) (.node (o27A P) (.node (o43C56 P) (.node (o75C57 P) (.node (o139C58 P) (.node (o267C62 P) .nil .nil) .nil) (.node (o203C58 P) (.node (o331C62 P) .nil .nil) .nil)) (.node (o107C57 P) (.node (o171C58 P) (.node (o299C62 P) .nil .nil) .nil) (.node (o235C62 P) (.node (o363L P) .nil .nil) .nil))) (.node (o59C57 P) (.node (o91C57 P) (.node (o155C58 P) (.node (o283C62 P) .nil .nil) .nil) (.node (o219C61 P) (.node (o347L P) .nil .nil) .nil)) (.node (o123C57 P) (.node (o187C58 P) (.node (o315C62 P) .nil .nil) .nil) (.node (o251C62 P) .nil .nil)))))) (.node (o5A P) (.node (o9A P) (.node (o17A P) (.node (o33C26 P) (.node (o65C57 P) (.node (o129C58 P) (.node (o257C62 P) .nil .nil) .nil) (.node (o193C58 P) (.node (o321C62 P) .nil .nil) .nil)) (.node (o97C57 P) (.node (o161C58 P) (.node (o289C62 P) .nil .nil) .nil) (.node (o225C62 P) (.node (o353L P) .nil .nil) .nil))) (.node (o49C57 P) (.node (o81C57 P) (.node (o145C58 P) (.node (o273C62 P) .nil .nil) .nil) (.node (o209C58 P) (.node (o337C62 P) .nil .nil) .nil)) (.node (o113C57 P) (.node (o177C58 P) (.node (o305C62 P) .nil .nil) .nil) (.node (o241C62 P) .nil .nil)))) (.node (o25A P) (.node (o41C52 P) (.node (o73C57 P) (.node (o137C58 P) (.node (o265C62 P) .nil .nil) .nil) (.node (o201C58 P) (.node (o329C62 P) .nil .nil) .nil)) (.node (o105C57 P) (.node (o169C58 P) (.node (o297C62 P) .nil .nil) .nil) (.node (o233C62 P) (.node (o361L P) .nil .nil) .nil))) (.node (o57C57 P) (.node (o89C57 P) (.node (o153C58 P) (.node (o281C62 P) .nil .nil) .nil) (.node (o217C61 P) (.node (o345C62 P) .nil .nil) .nil)) (.node (o121C57 P) (.node (o185C58 P) (.node (o313C62 P) .nil .nil) .nil) (.node (o249C62 P) .nil .nil))))) (.node (o13A P) (.node (o21A P) (.node (o37C26 P) (.node (o69C57 P) (.node (o133C58 P) (.node (o261C62 P) .nil .nil) .nil) (.node (o197C58 P) (.node (o325C62 P) .nil .nil) .nil)) (.node (o101C57 P) (.node (o165C58 P) (.node (o293C62 P) .nil .nil) .nil) (.node (o229C62 P) (.node (o357L P) .nil .nil) .nil))) (.node (o53C57 P) (.node (o85C57 P) (.node (o149C58 P) (.node (o277C62 P) .nil .nil) .nil) (.node (o213C61 P) (.node (o341C62 P) .nil .nil) .nil)) (.node (o117C57 P) (.node (o181C58 P) (.node (o309C62 P) .nil .nil) .nil) (.node (o245C62 P) .nil .nil)))) (.node (o29L P) (.node (o45C56 P) (.node (o77C57 P) (.node (o141C58 P) (.node (o269C62 P) .nil .nil) .nil) (.node (o205C58 P) (.node (o333C62 P) .nil .nil) .nil)) (.node (o109C57 P) (.node (o173C58 P) (.node (o301C62 P) .nil .nil) .nil) (.node (o237C62 P) (.node (o365L P) .nil .nil) .nil))) (.node (o61C57 P) (.node (o93C57 P) (.node (o157C58 P) (.node (o285C62 P) .nil .nil) .nil) (.node (o221C62 P) (.node (o349L P) .nil .nil) .nil)) (.node (o125C57 P) (.node (o189C58 P) (.node (o317C62 P) .nil .nil) .nil) (.node (o253C62 P) .nil .nil))))))) (.node (o2A P) (.node (o4A P) (.node (o8A P) (.node (o16A P) (.node (o32C26 P) (.node (o64C57 P) (.node (o128C58 P) (.node (o256C62 P) .nil .nil) .nil) (.node (o192C58 P) (.node (o320C62 P) .nil .nil) .nil)) (.node (o96C57 P) (.node (o160C58 P) (.node (o288C62 P) .nil .nil) .nil) (.node (o224C62 P) (.node (o352L P) .nil .nil) .nil))) (.node (o48C56 P) (.node (o80C57 P) (.node (o144C58 P) (.node (o272C62 P) .nil .nil) .nil) (.node (o208C58 P) (.node (o336C62 P) .nil .nil) .nil)) (.node (o112C57 P) (.node (o176C58 P) (.node (o304C62 P) .nil .nil) .nil) (.node (o240C62 P) (.node (o368L P) .nil .nil) .nil)))) (.node (o24A P) (.node (o40C52 P) (.node (o72C57 P) (.node (o136C58 P) (.node (o264C62 P) .nil .nil) .nil) (.node (o200C58 P) (.node (o328C62 P) .nil .nil) .nil)) (.node (o104C57 P) (.node (o168C58 P) (.node (o296C62 P) .nil .nil) .nil) (.node (o232C62 P) (.node (o360L P) .nil .nil) .nil))) (.node (o56C57 P) (.node (o88C57 P) (.node (o152C58 P) (.node (o280C62 P) .nil .nil) .nil) (.node (o216C61 P) (.node (o344C62 P) .nil .nil) .nil)) (.node (o120C57 P) (.node (o184C58 P) (.node (o312C62 P) .nil .nil) .nil) (.node (o248C62 P) .nil .nil))))) (.node (o12A P) (.node (o20A P) (.node (o36C26 P) (.node (o68C57 P) (.node (o132C58 P) (.node (o260C62 P) .nil .nil) .nil) (.node (o196C58 P) (.node (o324C62 P) .nil .nil) .nil)) (.node (o100C57 P) (.node (o164C58 P) (.node (o292C62 P) .nil .nil) .nil) (.node (o228C62 P) (.node (o356L P) .nil .nil) .nil))) (.node (o52C57 P) (.node (o84C57 P) (.node (o148C58 P) (.node (o276C62 P) .nil .nil) .nil) (.node (o212C61 P) (.node (o340C62 P) .nil .nil) .nil)) (.node (o116C57 P) (.node (o180C58 P) (.node (o308C62 P) .nil .nil) .nil) (.node (o244C62 P) .nil .nil)))) (.node (o28B P) (.node (o44C56 P) (.node (o76C57 P) (.node (o140C58 P) (.node (o268C62 P) .nil .nil) .nil) (.node (o204C58 P) (.node (o332C62 P) .nil .nil) .nil)) (.node (o108C57 P) (.node (o172C58 P) (.node (o300C62 P) .nil .nil) .nil) (.node (o236C62 P) (.node (o364L P) .nil .nil) .nil))) (.node (o60C57 P) (.node (o92C57 P) (.node (o156C58 P) (.node (o284C62 P) .nil .nil) .nil) (.node (o220C62 P) (.node (o348L P) .nil .nil) .nil)) (.node (o124C57 P) (.node (o188C58 P) (.node (o316C62 P) .nil .nil) .nil) (.node (o252C62 P) .nil .nil)))))) (.node (o6A P) (.node (o10A P) (.node (o18A P) (.node (o34C26 P) (.node (o66C57 P) (.node (o130C58 P) (.node (o258C62 P) .nil .nil) .nil) (.node (o194C58 P) (.node (o322C62 P) .nil .nil) .nil)) (.node (o98C57 P) (.node (o162C58 P) (.node (o290C62 P) .nil .nil) .nil) (.node (o226C62 P) (.node (o354L P) .nil .nil) .nil))) (.node (o50C57 P) (.node (o82C57 P) (.node (o146C58 P) (.node (o274C62 P) .nil .nil) .nil) (.node (o210C61 P) (.node (o338C62 P) .nil .nil) .nil)) (.node (o114C57 P) (.node (o178C58 P) (.node (o306C62 P) .nil .nil) .nil) (.node (o242C62 P) .nil .nil)))) (.node (o26A P) (.node (o42C56 P) (.node (o74C57 P) (.node (o138C58 P) (.node (o266C62 P) .nil .nil) .nil) (.node (o202C58 P) (.node (o330C62 P) .nil .nil) .nil)) (.node (o106C57 P) (.node (o170C58 P) (.node (o298C62 P) .nil .nil) .nil) (.node (o234C62 P) (.node (o362L P) .nil .nil) .nil))) (.node (o58C57 P) (.node (o90C57 P) (.node (o154C58 P) (.node (o282C62 P) .nil .nil) .nil) (.node (o218C61 P) (.node (o346C62 P) .nil .nil) .nil)) (.node (o122C57 P) (.node (o186C58 P) (.node (o314C62 P) .nil .nil) .nil) (.node (o250C62 P) .nil .nil))))) (.node (o14A P) (.node (o22A P) (.node (o38C26 P) (.node (o70C57 P) (.node (o134C58 P) (.node (o262C62 P) .nil .nil) .nil) (.node (o198C58 P) (.node (o326C62 P) .nil .nil) .nil)) (.node (o102C57 P) (.node (o166C58 P) (.node (o294C62 P) .nil .nil) .nil) (.node (o230C62 P) (.node (o358L P) .nil .nil) .nil))) (.node (o54C57 P) (.node (o86C57 P) (.node (o150C58 P) (.node (o278C62 P) .nil .nil) .nil) (.node (o214C61 P) (.node (o342C62 P) .nil .nil) .nil)) (.node (o118C57 P) (.node (o182C58 P) (.node (o310C62 P) .nil .nil) .nil) (.node (o246C62 P) .nil .nil)))) (.node (o30B P) (.node (o46C56 P) (.node (o78C57 P) (.node (o142C58 P) (.node (o270C62 P) .nil .nil) .nil) (.node (o206C58 P) (.node (o334C62 P) .nil .nil) .nil)) (.node (o110C57 P) (.node (o174C58 P) (.node (o302C62 P) .nil .nil) .nil) (.node (o238C62 P) (.node (o366L P) .nil .nil) .nil))) (.node (o62C57 P) (.node (o94C57 P) (.node (o158C58 P) (.node (o286C62 P) .nil .nil) .nil) (.node (o222C62 P) (.node (o350L P) .nil .nil) .nil)) (.node (o126C58 P) (.node (o190C58 P) (.node (o318C62 P) .nil .nil) .nil) (.node (o254C62 P) .nil .nil))))))))
noncomputable def trF (P : Params) : BT := (.node (o0A P) (.node (o1A P) (.node (o3L P) (.node (o7A P) (.node (o15A P) (.node (o31B P) (.node (o63C57 P) (.node (o127C58 P) (.node (o255C62 P) .nil .nil) .nil) (.node (o191C58 P) (.node (o319C62 P) .nil .nil) .nil)) (.node (o95C57 P) (.node (o159C58 P) (.node (o287C62 P) .nil .nil) .nil) (.node (o223C62 P) (.node (o351L P) .nil .nil) .nil))) (.node (o47C56 P) (.node (o79C57 P) (.node (o143C58 P) (.node (o271C62 P) .nil .nil) .nil) (.node (o207C58 P) (.node (o335C62 P) .nil .nil) .nil)) (.node (o111C57 P) (.node (o175C58 P) (.node (o303C62 P) .nil .nil) .nil) (.node (o239C62 P) (.node (o367L P) .nil .nil) .nil)))) (.node (o23A P) (.node (o39C52 P) (.node (o71C57 P) (.node (o135C58 P) (.node (o263C62 P) .nil .nil) .nil) (.node (o199C58 P) (.node (o327C62 P) .nil .nil) .nil)) (.node (o103C57 P) (.node (o167C58 P) (.node (o295C62 P) .nil .nil) .nil) (.node (o231C62 P) (.node (o359L P) .nil .nil) .nil))) (.node (o55C57 P) (.node (o87C57 P) (.node (o151C58 P) (.node (o279C62 P) .nil .nil) .nil) (.node (o215C61 P) (.node (o343C62 P) .nil .nil) .nil)) (.node (o119C57 P) (.node (o183C58 P) (.node (o311C62 P) .nil .nil) .nil) (.node (o247C62 P) .nil .nil))))) (.node (o11A P) (.node (o19A P) (.node (o35C26 P) (.node (o67C57 P) (.node (o131C58 P) (.node (o259C62 P) .nil .nil) .nil) (.node (o195C58 P) (.node (o323C62 P) .nil .nil) .nil)) (.node (o99C57 P) (.node (o163C58 P) (.node (o291C62 P) .nil .nil) .nil) (.node (o227C62 P) (.node (o355L P) .nil .nil) .nil))) (.node (o51C57 P) (.node (o83C57 P) (.node (o147C58 P) (.node (o275C62 P) .nil .nil) .nil) (.node (o211C61 P) (.node (o339C62 P) .nil .nil) .nil)) (.node (o115C57 P) (.node (o179C58 P) (.node (o307C62 P) .nil .nil) .nil) (.node (o243C62 P) .nil .nil)))) (.node (o27A P) (.node (o43C56 P) (.node (o75C57 P) (.node (o139C58 P) (.node (o267C62 P) .nil .nil) .nil) (.node (o203C58 P) (.node (o331C62 P) .nil .nil) .nil)) (.node (o107C57 P) (.node (o171C58 P) (.node (o299C62 P) .nil .nil) .nil) (.node (o235C62 P) (.node (o363L P) .nil .nil) .nil))) (.node (o59C57 P) (.node (o91C57 P) (.node (o155C58 P) (.node (o283C62 P) .nil .nil) .nil) (.node (o219C61 P) (.node (o347L P) .nil .nil) .nil)) (.node (o123C57 P) (.node (o187C58 P) (.node (o315C62 P) .nil .nil) .nil) (.node (o251C62 P) .nil .nil)))))) (.node (o5A P) (.node (o9A P) (.node (o17A P) (.node (o33C26 P) (.node (o65C57 P) (.node (o129C58 P) (.node (o257C62 P) .nil .nil) .nil) (.node (o193C58 P) (.node (o321C62 P) .nil .nil) .nil)) (.node (o97C57 P) (.node (o161C58 P) (.node (o289C62 P) .nil .nil) .nil) (.node (o225C62 P) (.node (o353L P) .nil .nil) .nil))) (.node (o49C57 P) (.node (o81C57 P) (.node (o145C58 P) (.node (o273C62 P) .nil .nil) .nil) (.node (o209C58 P) (.node (o337C62 P) .nil .nil) .nil)) (.node (o113C57 P) (.node (o177C58 P) (.node (o305C62 P) .nil .nil) .nil) (.node (o241C62 P) .nil .nil)))) (.node (o25A P) (.node (o41C52 P) (.node (o73C57 P) (.node (o137C58 P) (.node (o265C62 P) .nil .nil) .nil) (.node (o201C58 P) (.node (o329C62 P) .nil .nil) .nil)) (.node (o105C57 P) (.node (o169C58 P) (.node (o297C62 P) .nil .nil) .nil) (.node (o233C62 P) (.node (o361L P) .nil .nil) .nil))) (.node (o57C57 P) (.node (o89C57 P) (.node (o153C58 P) (.node (o281C62 P) .nil .nil) .nil) (.node (o217C61 P) (.node (o345C62 P) .nil .nil) .nil)) (.node (o121C57 P) (.node (o185C58 P) (.node (o313C62 P) .nil .nil) .nil) (.node (o249C62 P) .nil .nil))))) (.node (o13A P) (.node (o21A P) (.node (o37C26 P) (.node (o69C57 P) (.node (o133C58 P) (.node (o261C62 P) .nil .nil) .nil) (.node (o197C58 P) (.node (o325C62 P) .nil .nil) .nil)) (.node (o101C57 P) (.node (o165C58 P) (.node (o293C62 P) .nil .nil) .nil) (.node (o229C62 P) (.node (o357L P) .nil .nil) .nil))) (.node (o53C57 P) (.node (o85C57 P) (.node (o149C58 P) (.node (o277C62 P) .nil .nil) .nil) (.node (o213C61 P) (.node (o341C62 P) .nil .nil) .nil)) (.node (o117C57 P) (.node (o181C58 P) (.node (o309C62 P) .nil .nil) .nil) (.node (o245C62 P) .nil .nil)))) (.node (o29L P) (.node (o45C56 P) (.node (o77C57 P) (.node (o141C58 P) (.node (o269C62 P) .nil .nil) .nil) (.node (o205C58 P) (.node (o333C62 P) .nil .nil) .nil)) (.node (o109C57 P) (.node (o173C58 P) (.node (o301C62 P) .nil .nil) .nil) (.node (o237C62 P) (.node (o365L P) .nil .nil) .nil))) (.node (o61C57 P) (.node (o93C57 P) (.node (o157C58 P) (.node (o285C62 P) .nil .nil) .nil) (.node (o221C62 P) (.node (o349L P) .nil .nil) .nil)) (.node (o125C57 P) (.node (o189C58 P) (.node (o317C62 P) .nil .nil) .nil) (.node (o253C62 P) .nil .nil))))))) (.node (o2A P) (.node (o4A P) (.node (o8A P) (.node (o16A P) (.node (o32C26 P) (.node (o64C57 P) (.node (o128C58 P) (.node (o256C62 P) .nil .nil) .nil) (.node (o192C58 P) (.node (o320C62 P) .nil .nil) .nil)) (.node (o96C57 P) (.node (o160C58 P) (.node (o288C62 P) .nil .nil) .nil) (.node (o224C62 P) (.node (o352L P) .nil .nil) .nil))) (.node (o48C56 P) (.node (o80C57 P) (.node (o144C58 P) (.node (o272C62 P) .nil .nil) .nil) (.node (o208C58 P) (.node (o336C62 P) .nil .nil) .nil)) (.node (o112C57 P) (.node (o176C58 P) (.node (o304C62 P) .nil .nil) .nil) (.node (o240C62 P) (.node (o368L P) .nil .nil) .nil)))) (.node (o24A P) (.node (o40C52 P) (.node (o72C57 P) (.node (o136C58 P) (.node (o264C62 P) .nil .nil) .nil) (.node (o200C58 P) (.node (o328C62 P) .nil .nil) .nil)) (.node (o104C57 P) (.node (o168C58 P) (.node (o296C62 P) .nil .nil) .nil) (.node (o232C62 P) (.node (o360L P) .nil .nil) .nil))) (.node (o56C57 P) (.node (o88C57 P) (.node (o152C58 P) (.node (o280C62 P) .nil .nil) .nil) (.node (o216C61 P) (.node (o344C62 P) .nil .nil) .nil)) (.node (o120C57 P) (.node (o184C58 P) (.node (o312C62 P) .nil .nil) .nil) (.node (o248C62 P) .nil .nil))))) (.node (o12A P) (.node (o20A P) (.node (o36C26 P) (.node (o68C57 P) (.node (o132C58 P) (.node (o260C62 P) .nil .nil) .nil) (.node (o196C58 P) (.node (o324C62 P) .nil .nil) .nil)) (.node (o100C57 P) (.node (o164C58 P) (.node (o292C62 P) .nil .nil) .nil) (.node (o228C62 P) (.node (o356L P) .nil .nil) .nil))) (.node (o52C57 P) (.node (o84C57 P) (.node (o148C58 P) (.node (o276C62 P) .nil .nil) .nil) (.node (o212C61 P) (.node (o340C62 P) .nil .nil) .nil)) (.node (o116C57 P) (.node (o180C58 P) (.node (o308C62 P) .nil .nil) .nil) (.node (o244C62 P) .nil .nil)))) (.node (o28B P) (.node (o44C56 P) (.node (o76C57 P) (.node (o140C58 P) (.node (o268C62 P) .nil .nil) .nil) (.node (o204C58 P) (.node (o332C62 P) .nil .nil) .nil)) (.node (o108C57 P) (.node (o172C58 P) (.node (o300C62 P) .nil .nil) .nil) (.node (o236C62 P) (.node (o364L P) .nil .nil) .nil))) (.node (o60C57 P) (.node (o92C57 P) (.node (o156C58 P) (.node (o284C62 P) .nil .nil) .nil) (.node (o220C62 P) (.node (o348L P) .nil .nil) .nil)) (.node (o124C57 P) (.node (o188C58 P) (.node (o316C62 P) .nil .nil) .nil) (.node (o252C62 P) .nil .nil)))))) (.node (o6A P) (.node (o10A P) (.node (o18A P) (.node (o34C26 P) (.node (o66C57 P) (.node (o130C58 P) (.node (o258C62 P) .nil .nil) .nil) (.node (o194C58 P) (.node (o322C62 P) .nil .nil) .nil)) (.node (o98C57 P) (.node (o162C58 P) (.node (o290C62 P) .nil .nil) .nil) (.node (o226C62 P) (.node (o354L P) .nil .nil) .nil))) (.node (o50C57 P) (.node (o82C57 P) (.node (o146C58 P) (.node (o274C62 P) .nil .nil) .nil) (.node (o210C61 P) (.node (o338C62 P) .nil .nil) .nil)) (.node (o114C57 P) (.node (o178C58 P) (.node (o306C62 P) .nil .nil) .nil) (.node (o242C62 P) .nil .nil)))) (.node (o26A P) (.node (o42C56 P) (.node (o74C57 P) (.node (o138C58 P) (.node (o266C62 P) .nil .nil) .nil) (.node (o202C58 P) (.node (o330C62 P) .nil .nil) .nil)) (.node (o106C57 P) (.node (o170C58 P) (.node (o298C62 P) .nil .nil) .nil) (.node (o234C62 P) (.node (o362L P) .nil .nil) .nil))) (.node (o58C57 P) (.node (o90C57 P) (.node (o154C58 P) (.node (o282C62 P) .nil .nil) .nil) (.node (o218C61 P) (.node (o346C62 P) .nil .nil) .nil)) (.node (o122C57 P) (.node (o186C58 P) (.node (o314C62 P) .nil .nil) .nil) (.node (o250C62 P) .nil .nil))))) (.node (o14A P) (.node (o22A P) (.node (o38C26 P) (.node (o70C57 P) (.node (o134C58 P) (.node (o262C62 P) .nil .nil) .nil) (.node (o198C58 P) (.node (o326C62 P) .nil .nil) .nil)) (.node (o102C57 P) (.node (o166C58 P) (.node (o294C62 P) .nil .nil) .nil) (.node (o230C62 P) (.node (o358L P) .nil .nil) .nil))) (.node (o54C57 P) (.node (o86C57 P) (.node (o150C58 P) (.node (o278C62 P) .nil .nil) .nil) (.node (o214C61 P) (.node (o342C62 P) .nil .nil) .nil)) (.node (o118C57 P) (.node (o182C58 P) (.node (o310C62 P) .nil .nil) .nil) (.node (o246C62 P) .nil .nil)))) (.node (o30B P) (.node (o46C56 P) (.node (o78C57 P) (.node (o142C58 P) (.node (o270C62 P) .nil .nil) .nil) (.node (o206C58 P) (.node (o334C62 P) .nil .nil) .nil)) (.node (o110C57 P) (.node (o174C58 P) (.node (o302C62 P) .nil .nil) .nil) (.node (o238C62 P) (.node (o366L P) .nil .nil) .nil))) (.node (o62C57 P) (.node (o94C57 P) (.node (o158C58 P) (.node (o286C62 P) .nil .nil) .nil) (.node (o222C62 P) (.node (o350L P) .nil .nil) .nil)) (.node (o126C58 P) (.node (o190C58 P) (.node (o318C62 P) .nil .nil) .nil) (.node (o254C62 P) .nil .nil))))))))
noncomputable def KF (P : Params) : Frag := (nat_lit 0, o0A P) :: (nat_lit 1, o1A P) :: (nat_lit 2, o2A P) :: (nat_lit 3, o3L P) :: (nat_lit 4, o4A P) :: (nat_lit 5, o5A P) :: (nat_lit 6, o6A P) :: (nat_lit 7, o7A P) :: (nat_lit 8, o8A P) :: (nat_lit 9, o9A P) :: (nat_lit 10, o10A P) :: (nat_lit 11, o11A P) :: (nat_lit 12, o12A P) :: (nat_lit 13, o13A P) :: (nat_lit 14, o14A P) :: (nat_lit 15, o15A P) :: (nat_lit 16, o16A P) :: (nat_lit 17, o17A P) :: (nat_lit 18, o18A P) :: (nat_lit 19, o19A P) :: (nat_lit 20, o20A P) :: (nat_lit 21, o21A P) :: (nat_lit 22, o22A P) :: (nat_lit 23, o23A P) :: (nat_lit 24, o24A P) :: (nat_lit 25, o25A P) :: (nat_lit 26, o26A P) :: (nat_lit 27, o27A P) :: (nat_lit 28, o28B P) :: (nat_lit 29, o29L P) :: (nat_lit 30, o30B P) :: (nat_lit 31, o31B P) :: (nat_lit 32, o32C26 P) :: (nat_lit 33, o33C26 P) :: (nat_lit 34, o34C26 P) :: (nat_lit 35, o35C26 P) :: (nat_lit 36, o36C26 P) :: (nat_lit 37, o37C26 P) :: (nat_lit 38, o38C26 P) :: (nat_lit 39, o39C52 P) :: (nat_lit 40, o40C52 P) :: (nat_lit 41, o41C52 P) :: (nat_lit 42, o42C56 P) :: (nat_lit 43, o43C56 P) :: (nat_lit 44, o44C56 P) :: (nat_lit 45, o45C56 P) :: (nat_lit 46, o46C56 P) :: (nat_lit 47, o47C56 P) :: (nat_lit 48, o48C56 P) :: (nat_lit 49, o49C57 P) :: (nat_lit 50, o50C57 P) :: (nat_lit 51, o51C57 P) :: (nat_lit 52, o52C57 P) :: (nat_lit 53, o53C57 P) :: (nat_lit 54, o54C57 P) :: (nat_lit 55, o55C57 P) :: (nat_lit 56, o56C57 P) :: (nat_lit 57, o57C57 P) :: (nat_lit 58, o58C57 P) :: (nat_lit 59, o59C57 P) :: (nat_lit 60, o60C57 P) :: (nat_lit 61, o61C57 P) :: (nat_lit 62, o62C57 P) :: (nat_lit 63, o63C57 P) :: (nat_lit 64, o64C57 P) :: (nat_lit 65, o65C57 P) :: (nat_lit 66, o66C57 P) :: (nat_lit 67, o67C57 P) :: (nat_lit 68, o68C57 P) :: (nat_lit 69, o69C57 P) :: (nat_lit 70, o70C57 P) :: (nat_lit 71, o71C57 P) :: (nat_lit 72, o72C57 P) :: (nat_lit 73, o73C57 P) :: (nat_lit 74, o74C57 P) :: (nat_lit 75, o75C57 P) :: (nat_lit 76, o76C57 P) :: (nat_lit 77, o77C57 P) :: (nat_lit 78, o78C57 P) :: (nat_lit 79, o79C57 P) :: (nat_lit 80, o80C57 P) :: (nat_lit 81, o81C57 P) :: (nat_lit 82, o82C57 P) :: (nat_lit 83, o83C57 P) :: (nat_lit 84, o84C57 P) :: (nat_lit 85, o85C57 P) :: (nat_lit 86, o86C57 P) :: (nat_lit 87, o87C57 P) :: (nat_lit 88, o88C57 P) :: (nat_lit 89, o89C57 P) :: (nat_lit 90, o90C57 P) :: (nat_lit 91, o91C57 P) :: (nat_lit 92, o92C57 P) :: (nat_lit 93, o93C57 P) :: (nat_lit 94, o94C57 P) :: (nat_lit 95, o95C57 P) :: (nat_lit 96, o96C57 P) :: (nat_lit 97, o97C57 P) :: (nat_lit 98, o98C57 P) :: (nat_lit 99, o99C57 P) :: (nat_lit 100, o100C57 P) :: (nat_lit 101, o101C57 P) :: (nat_lit 102, o102C57 P) :: (nat_lit 103, o103C57 P) :: (nat_lit 104, o104C57 P) :: (nat_lit 105, o105C57 P) :: (nat_lit 106, o106C57 P) :: (nat_lit 107, o107C57 P) :: (nat_lit 108, o108C57 P) :: (nat_lit 109, o109C57 P) :: (nat_lit 110, o110C57 P) :: (nat_lit 111, o111C57 P) :: (nat_lit 112, o112C57 P) :: (nat_lit 113, o113C57 P) :: (nat_lit 114, o114C57 P) :: (nat_lit 115, o115C57 P) :: (nat_lit 116, o116C57 P) :: (nat_lit 117, o117C57 P) :: (nat_lit 118, o118C57 P) :: (nat_lit 119, o119C57 P) :: (nat_lit 120, o120C57 P) :: (nat_lit 121, o121C57 P) :: (nat_lit 122, o122C57 P) :: (nat_lit 123, o123C57 P) :: (nat_lit 124, o124C57 P) :: (nat_lit 125, o125C57 P) :: (nat_lit 126, o126C58 P) :: (nat_lit 127, o127C58 P) :: (nat_lit 128, o128C58 P) :: (nat_lit 129, o129C58 P) :: (nat_lit 130, o130C58 P) :: (nat_lit 131, o131C58 P) :: (nat_lit 132, o132C58 P) :: (nat_lit 133, o133C58 P) :: (nat_lit 134, o134C58 P) :: (nat_lit 135, o135C58 P) :: (nat_lit 136, o136C58 P) :: (nat_lit 137, o137C58 P) :: (nat_lit 138, o138C58 P) :: (nat_lit 139, o139C58 P) :: (nat_lit 140, o140C58 P) :: (nat_lit 141, o141C58 P) :: (nat_lit 142, o142C58 P) :: (nat_lit 143, o143C58 P) :: (nat_lit 144, o144C58 P) :: (nat_lit 145, o145C58 P) :: (nat_lit 146, o146C58 P) :: (nat_lit 147, o147C58 P) :: (nat_lit 148, o148C58 P) :: (nat_lit 149, o149C58 P) :: (nat_lit 150, o150C58 P) :: (nat_lit 151, o151C58 P) :: (nat_lit 152, o152C58 P) :: (nat_lit 153, o153C58 P) :: (nat_lit 154, o154C58 P) :: (nat_lit 155, o155C58 P) :: (nat_lit 156, o156C58 P) :: (nat_lit 157, o157C58 P) :: (nat_lit 158, o158C58 P) :: (nat_lit 159, o159C58 P) :: (nat_lit 160, o160C58 P) :: (nat_lit 161, o161C58 P) :: (nat_lit 162, o162C58 P) :: (nat_lit 163, o163C58 P) :: (nat_lit 164, o164C58 P) :: (nat_lit 165, o165C58 P) :: (nat_lit 166, o166C58 P) :: (nat_lit 168, o168C58 P) :: (nat_lit 169, o169C58 P) :: (nat_lit 170, o170C58 P) :: (nat_lit 171, o171C58 P) :: (nat_lit 172, o172C58 P) :: (nat_lit 173, o173C58 P) :: (nat_lit 175, o175C58 P) :: (nat_lit 176, o176C58 P) :: (nat_lit 177, o177C58 P) :: (nat_lit 178, o178C58 P) :: (nat_lit 179, o179C58 P) :: (nat_lit 180, o180C58 P) :: (nat_lit 181, o181C58 P) :: (nat_lit 182, o182C58 P) :: (nat_lit 183, o183C58 P) :: (nat_lit 184, o184C58 P) :: (nat_lit 185, o185C58 P) :: (nat_lit 186, o186C58 P) :: (nat_lit 187, o187C58 P) :: (nat_lit 188, o188C58 P) :: (nat_lit 189, o189C58 P) :: (nat_lit 190, o190C58 P) :: (nat_lit 191, o191C58 P) :: (nat_lit 192, o192C58 P) :: (nat_lit 193, o193C58 P) :: (nat_lit 194, o194C58 P) :: (nat_lit 195, o195C58 P) :: (nat_lit 196, o196C58 P) :: (nat_lit 197, o197C58 P) :: (nat_lit 198, o198C58 P) :: (nat_lit 199, o199C58 P) :: (nat_lit 200, o200C58 P) :: (nat_lit 201, o201C58 P) :: (nat_lit 202, o202C58 P) :: (nat_lit 203, o203C58 P) :: (nat_lit 204, o204C58 P) :: (nat_lit 205, o205C58 P) :: (nat_lit 206, o206C58 P) :: (nat_lit 207, o207C58 P) :: (nat_lit 208, o208C58 P) :: (nat_lit 209, o209C58 P) :: (nat_lit 210, o210C61 P) :: (nat_lit 211, o211C61 P) :: (nat_lit 212, o212C61 P) :: (nat_lit 213, o213C61 P) :: (nat_lit 214, o214C61 P) :: (nat_lit 215, o215C61 P) :: (nat_lit 216, o216C61 P) :: (nat_lit 217, o217C61 P) :: (nat_lit 218, o218C61 P) :: (nat_lit 219, o219C61 P) :: (nat_lit 220, o220C62 P) :: (nat_lit 221, o221C62 P) :: (nat_lit 222, o222C62 P) :: (nat_lit 223, o223C62 P) :: (nat_lit 224, o224C62 P) :: (nat_lit 225, o225C62 P) :: (nat_lit 226, o226C62 P) :: (nat_lit 227, o227C62 P) :: (nat_lit 228, o228C62 P) :: (nat_lit 229, o229C62 P) :: (nat_lit 230, o230C62 P) :: (nat_lit 231, o231C62 P) :: (nat_lit 232, o232C62 P) :: (nat_lit 233, o233C62 P) :: (nat_lit 234, o234C62 P) :: (nat_lit 235, o235C62 P) :: (nat_lit 236, o236C62 P) :: (nat_lit 237, o237C62 P) :: (nat_lit 238, o238C62 P) :: (nat_lit 239, o239C62 P) :: (nat_lit 240, o240C62 P) :: (nat_lit 241, o241C62 P) :: (nat_lit 242, o242C62 P) :: (nat_lit 243, o243C62 P) :: (nat_lit 244, o244C62 P) :: (nat_lit 245, o245C62 P) :: (nat_lit 246, o246C62 P) :: (nat_lit 247, o247C62 P) :: (nat_lit 248, o248C62 P) :: (nat_lit 249, o249C62 P) :: (nat_lit 250, o250C62 P) :: (nat_lit 251, o251C62 P) :: (nat_lit 252, o252C62 P) :: (nat_lit 253, o253C62 P) :: (nat_lit 254, o254C62 P) :: (nat_lit 255, o255C62 P) :: (nat_lit 256, o256C62 P) :: (nat_lit 257, o257C62 P) :: (nat_lit 258, o258C62 P) :: (nat_lit 259, o259C62 P) :: (nat_lit 260, o260C62 P) :: (nat_lit 261, o261C62 P) :: (nat_lit 262, o262C62 P) :: (nat_lit 263, o263C62 P) :: (nat_lit 264, o264C62 P) :: (nat_lit 265, o265C62 P) :: (nat_lit 266, o266C62 P) :: (nat_lit 267, o267C62 P) :: (nat_lit 268, o268C62 P) :: (nat_lit 269, o269C62 P) :: (nat_lit 270, o270C62 P) :: (nat_lit 271, o271C62 P) :: (nat_lit 272, o272C62 P) :: (nat_lit 273, o273C62 P) :: (nat_lit 274, o274C62 P) :: (nat_lit 275, o275C62 P) :: (nat_lit 276, o276C62 P) :: (nat_lit 277, o277C62 P) :: (nat_lit 278, o278C62 P) :: (nat_lit 279, o279C62 P) :: (nat_lit 280, o280C62 P) :: (nat_lit 281, o281C62 P) :: (nat_lit 282, o282C62 P) :: (nat_lit 283, o283C62 P) :: (nat_lit 284, o284C62 P) :: (nat_lit 285, o285C62 P) :: (nat_lit 286, o286C62 P) :: (nat_lit 287, o287C62 P) :: (nat_lit 288, o288C62 P) :: (nat_lit 289, o289C62 P) :: (nat_lit 290, o290C62 P) :: (nat_lit 291, o291C62 P) :: (nat_lit 292, o292C62 P) :: (nat_lit 293, o293C62 P) :: (nat_lit 294, o294C62 P) :: (nat_lit 295, o295C62 P) :: (nat_lit 296, o296C62 P) :: (nat_lit 297, o297C62 P) :: (nat_lit 298, o298C62 P) :: (nat_lit 299, o299C62 P) :: (nat_lit 300, o300C62 P) :: (nat_lit 301, o301C62 P) :: (nat_lit 302, o302C62 P) :: (nat_lit 303, o303C62 P) :: (nat_lit 304, o304C62 P) :: (nat_lit 305, o305C62 P) :: (nat_lit 306, o306C62 P) :: (nat_lit 307, o307C62 P) :: (nat_lit 308, o308C62 P) :: (nat_lit 309, o309C62 P) :: (nat_lit 310, o310C62 P) :: (nat_lit 311, o311C62 P) :: (nat_lit 312, o312C62 P) :: (nat_lit 313, o313C62 P) :: (nat_lit 314, o314C62 P) :: (nat_lit 315, o315C62 P) :: (nat_lit 316, o316C62 P) :: (nat_lit 317, o317C62 P) :: (nat_lit 318, o318C62 P) :: (nat_lit 319, o319C62 P) :: (nat_lit 320, o320C62 P) :: (nat_lit 321, o321C62 P) :: (nat_lit 322, o322C62 P) :: (nat_lit 323, o323C62 P) :: (nat_lit 324, o324C62 P) :: (nat_lit 325, o325C62 P) :: (nat_lit 326, o326C62 P) :: (nat_lit 327, o327C62 P) :: (nat_lit 328, o328C62 P) :: (nat_lit 329, o329C62 P) :: (nat_lit 330, o330C62 P) :: (nat_lit 331, o331C62 P) :: (nat_lit 332, o332C62 P) :: (nat_lit 333, o333C62 P) :: (nat_lit 334, o334C62 P) :: (nat_lit 335, o335C62 P) :: (nat_lit 336, o336C62 P) :: (nat_lit 337, o337C62 P) :: (nat_lit 338, o338C62 P) :: (nat_lit 339, o339C62 P) :: (nat_lit 340, o340C62 P) :: (nat_lit 341, o341C62 P) :: (nat_lit 342, o342C62 P) :: (nat_lit 343, o343C62 P) :: (nat_lit 344, o344C62 P) :: (nat_lit 345, o345C62 P) :: (nat_lit 346, o346C62 P) :: (nat_lit 347, o347L P) :: (nat_lit 348, o348L P) :: (nat_lit 349, o349L P) :: (nat_lit 350, o350L P) :: (nat_lit 351, o351L P) :: (nat_lit 352, o352L P) :: (nat_lit 353, o353L P) :: (nat_lit 354, o354L P) :: (nat_lit 355, o355L P) :: (nat_lit 356, o356L P) :: (nat_lit 357, o357L P) :: (nat_lit 358, o358L P) :: (nat_lit 359, o359L P) :: (nat_lit 360, o360L P) :: (nat_lit 361, o361L P) :: (nat_lit 362, o362L P) :: (nat_lit 363, o363L P) :: (nat_lit 364, o364L P) :: (nat_lit 365, o365L P) :: (nat_lit 366, o366L P) :: (nat_lit 367, o367L P) :: (nat_lit 368, o368L P) :: []
end Mine
namespace Mine
set_option hygiene false
local macro_rules | `(tactic| walk_at "mine c4") => `(tactic| ((case a => walk_at "mine ne"); (case b => first | apply_assumption (exfalso := false) | walk_at "mine upd")))
local macro_rules | `(tactic| walk_at "mine c3") => `(tactic| ((case k13 => walk_at "mine mem"); (case k14 | k15 => assumption)))
local macro_rules | `(tactic| walk_at "mine c2") => `(tactic| ((case kB => exact locs rfl); (case c1 => decide); (case c2 | c3 | c4 => exact rfl)))
local macro_rules | `(tactic| walk_at "mine c1") => `(tactic| ((case kA | kF => exact rfl); (case kK => assumption); (case k1 | k2 | k3 | k4 | k5 => k_asm); (case k6 | k7 => k_is); (case k8 => ktr_room)))
local macro_rules | `(tactic| walk_at "mine c0") => `(tactic| ((case k1 | k2 | k3 | k4 | k5 => k_asm); (case k6 => first | exact rfl | assumption); (case k7 | k8 => exact Nat.le_of_ble_eq_true rfl)))
theorem rs_L0 : True := by
  have h : (1 : Nat) = 1 := by walk1
  w_top off; exact trivial
section
theorem sub_ix2 {α : Type} {l l' : List α} (is : List Nat) (n : Nat) (h1 : (l.take n).map some = is.map fun i => l'[i]?) (h2 : ∀ p ∈ l.drop n, p ∈ l') : ∀ p ∈ l, p ∈ l' := fun p hp => by
  rw [← List.take_append_drop n l] at hp
  rcases List.mem_append.mp hp with h | h
  · have : some p ∈ is.map fun i => l'[i]? := by rw [← h1]; exact List.mem_map_of_mem h
    obtain ⟨i, _, e⟩ := List.mem_map.mp this
    exact List.mem_of_getElem? e
  · exact h2 p h
theorem sub_ix {α : Type} {l l' : List α} (is : List Nat) (n k : Nat) (h1 : (l.take n).map some = is.map fun i => l'[i]?) (h2 : l.drop n = l'.drop k) : ∀ p ∈ l, p ∈ l' :=
  sub_ix2 is n h1 fun p hp => by rw [h2] at hp; exact List.mem_of_mem_drop hp
noncomputable abbrev PR := PySem.Challenge.rw_wc0034_01.row.prog
noncomputable abbrev accO (C dx : Addr) (its : List Value) (n : Nat) : Obj := { cls := .ref C, dict := some dx, data := .seq its.toArray n }
noncomputable abbrev tupO (vs : List Value) : Obj := { cls := .type "tuple", data := .seq vs.toArray }
section
variable {prog : Program} {w : World} {A A₀ : Around} {E : Value → Shared → Prop} {s : Shared} {K : Frag} {x C dx : Addr} {ox : Obj} {od : Option Obj} {name : Str} {base h₀ : Heap} {L : Addr} {m mg mb : Str → Option Value} {news : List (Addr × Obj)}
theorem inst_acc {h : Heap} {its : List Value} {n : Nat} {o : Obj} (N : News h₀ L h news) (h1 : (x, accO C dx its n) ∈ news) (h2 : (dx, o) ∈ news) : InstAt h x (accO C dx its n) C (some o) := ⟨(N _ h1).1, rfl, rfl, (N _ h2).1⟩
theorem method_acc {pl : Sem Bool} {Q : Value × List Value → Shared → Prop} {f : Value} {ga : String} (X : K.In s.heap) (I : InstAt s.heap x ox C od) (hga : findIn K (.ref C) "__getattribute__" = some (some (.builtin ga))) (hcan : (Manifest.canonical ga != "object.__getattribute__") = false) (hk : findIn K (.ref C) "__getattr__" = some none)
    (hf : findIn K (.ref C) name = some (some f)) (ht : (typeIn K f) = some (.type "method_descriptor") ∨ typeIn K f = some (.type "function")) (hs : shadowIn od name = some false) (h : Q (f, [.ref x]) s) :
    wpAny (model prog w) A (getMethod (.ref x) name pl) Q E s := by
  unfold getMethod specialOf
  refine wpAny_bind (wpAny_bind (I.type.here ((looks_findIn X hga).here ?_)))
  dsimp only
  rw [hcan, if_neg (by decide)]
  refine wpAny_bind (wpAny_bind (I.type.here ((looks_findIn X hk).here ?_)))
  refine wpAny_bind (wpAny_bind (I.type.here ((looks_findIn X hf).here ?_)))
  obtain ⟨tt, htt, hne⟩ : ∃ tt, typeIn K f = some tt ∧ (tt != .type "function" && tt != .type "method_descriptor" && tt != .type "wrapper_descriptor") = false := by
    rcases ht with h | h <;> exact ⟨_, h, by decide +kernel⟩
  refine wpAny_bind ((looks_typeIn X htt).here ?_)
  rw [if_neg (by rw [hne]; decide)]
  refine wpAny_bind (wpAny_loadPart I.at_ ?_)
  have hd := I.dict
  cases e : ox.dict with
  | none => exact wpAny_bind (wpAny_rule (wpAny_pure h))
  | some dx =>
    cases od with
    | none => rw [e] at hd; exact hd.elim
    | some o =>
      rw [e] at hd
      obtain ⟨r, a, b⟩ := Option.map_eq_some_iff.mp hs
      refine wpAny_bind (wpAny_bind (wpAny_loadPart hd ?_))
      rw [nsLook_of a]
      refine wpAny_pure ?_
      rw [b]
      exact wpAny_bind (wpAny_rule (wpAny_pure h))
theorem check_any {M : Model} {i owner n : String} {self : Value} {rest : List Value} {kw : List (Str × Value)} {Q : Unit → Shared → Prop}
    (hk : builtinKind i = some .slot ∨ builtinKind i = some .method) (hs : splitId i = some (owner, n)) (hi : Looks M s.heap (isInstance self (.type owner)) true) (ha : argsOk i ⟨self :: rest, kw⟩) (q : Q () s) :
    wpAny M A (checkBuiltinCall i ⟨self :: rest, kw⟩) Q E s := by
  rcases hk with hk | hk <;>
  · simp only [checkBuiltinCall, hk, hs]
    refine wpAny_bind (hi.here ?_)
    simp only [Bool.not_true, Bool.false_eq_true, if_false]
    cases hsig : Manifest.signature? i with
    | none => exact wpAny_pure q
    | some sig =>
      simp only [argsOk, hsig] at ha
      have h2 : Bind.checkArgs i sig ⟨self :: rest, kw⟩ = pure () := ha
      show wpAny M A (Bind.checkArgs i sig ⟨self :: rest, kw⟩) Q E s
      rw [h2]; exact wpAny_pure q
theorem sub_entry {id n : String} {b : Builtin} {rest : List Value} {Q : Value → Shared → Prop} (hp : plainId id = true) (hb : entryFor table id = some b) (hk : builtinKind id = some .slot ∨ builtinKind id = some .method) (hs : splitId id = some ("list", n))
    (X : K.In s.heap) (I : InstAt s.heap x ox C od) (hm : mroIn K C (.type "list") = some true) (ha : argsOk id ⟨.ref x :: rest, []⟩)
    (hc : wpAny (model prog w) A.in1 (b ⟨.ref x :: rest, []⟩) (fun fin s' => ∃ v, fin = .done (.ret v) ∧ Q v s') E s) : wpAny (model prog w) A (call (.builtin id) (.ref x :: rest)) Q E s := by
  refine wpAny_call (codeAny_call_builtin hp hb (check_any hk hs (I.type.andThen (looks_mroIn X hm)) ha (wpAny_mono hc (fun fin s' h' => ?_) fun _ _ h' => h')))
  obtain ⟨v, rfl, hv⟩ := h'
  exact hv
theorem mapSeq_acc (f : Array Value → Array Value) (its : List Value) (n : Nat) :
    ∃ n', Obj.mapSeq f (accO C dx its n) = accO C dx (f its.toArray).toList n' := by
  by_cases h : (f its.toArray).size = its.length
  · exact ⟨n, by simp [Obj.mapSeq, h]⟩
  · exact ⟨n + 1, by simp [Obj.mapSeq, h]⟩
theorem updateSeq_acc {M : Model} {f : Array Value → Array Value} {its : List Value} {n : Nat} {news' : Nat → List (Addr × Obj)} {Q : Unit → Shared → Prop} (F : Fr h₀ L s.heap m) (N : News h₀ L s.heap news)
    (U : ∀ n', Upd x (accO C dx its n) (accO C dx (f its.toArray).toList n') news (news' n'))
    (hz : its.length ≤ sizeLine) (hz' : (f its.toArray).size ≤ sizeLine + 1)
    (h : ∀ h' n', Fr h₀ L h' m → News h₀ L h' (news' n') → Q () { s with heap := h' }) : wpAny M A (updateSeq x f) Q E s := by
  obtain ⟨n', e⟩ := mapSeq_acc (C := C) (dx := dx) f its n
  obtain ⟨pre, post, rfl, e2, a, b⟩ := (U n').split
  have z := N (x, accO C dx its n) (List.mem_append.mpr (.inr (.head _)))
  refine wpAny_updateSeq z.1 rfl ?_ hz hz'
  have hs : Heap.SameBut x s.heap (s.heap.update x (Obj.mapSeq f)) := Heap.SameBut.update ..
  have ho' : (s.heap.update x (Obj.mapSeq f)).get? x = some (accO C dx (f its.toArray).toList n') := by
    rw [Heap.get?_update_self _ z.1 (by rw [e]; rfl), e]
  exact h _ n' (F.change hs z.2.1 z.2.2) (e2 ▸ news_set N a b hs ho')
theorem append_acc {its : List Value} {n : Nat} {v : Value} {news' : Nat → List (Addr × Obj)} {Q : Value → Shared → Prop} (F : Fr h₀ L s.heap m) (X : K.In h₀) (N : News h₀ L s.heap news) (I : InstAt s.heap x (accO C dx its n) C od) (hm : mroIn K C (.type "list") = some true)
    (U : ∀ n', Upd x (accO C dx its n) (accO C dx (its ++ [v]) n') news (news' n')) (hz : its.length ≤ sizeLine)
    (h : ∀ h' n', Fr h₀ L h' m → News h₀ L h' (news' n') → Q .none { s with heap := h' }) : wpAny (model prog w) A (call (.builtin "list.append") [.ref x, v]) Q E s := by
  refine sub_entry slot_list_append.plain entry_list_append (by decide +kernel) (n := "append") (by decide +kernel) (X.keeps F.keep) I hm (args_list_append _ _) ?_
  show wpAny _ _ (updateSeq x (·.push v) >>= fun _ => ret .none) _ _ s
  refine wpAny_bind (updateSeq_acc (f := (·.push v)) (its := its) (n := n) F N (by simpa using U) hz (by simp; omega) fun h' n' F' N' => ?_)
  exact wpAny_pure ⟨.none, rfl, h h' n' F' N'⟩
end
local macro_rules | `(tactic| walk_at "mine enter") => `(tactic| (refine wpAny_call ?_; k_dflt (first | ktr_enter | (refine' ks_code_super ?k1 ?k2 ?k3 ?k4 ?k5 ?kA ?kF ?kK ?k6 ?k7 ?k8 ?k9 ?kB ?_ ?c1 ?c2 ?c3 ?c4; (walk_at "mine c1"); (case k9 => exact BindsTo.of_eq rfl); (walk_at "mine c2"); k_whole; intro g' L' h' FG' F' N' B' X' T' lt'; (try dsimp only); (try k_fold)))))
local macro_rules | `(tactic| walk_at "mine step") => `(tactic| first | (k_unfold; (try dsimp only)) | (k_end; wrow_close) | walk1 | (dsimp only; walk1) | (leave1; try dsimp only))
theorem canon_list_ga : (Manifest.canonical "list.__getattribute__" != "object.__getattribute__") = false := by decide +kernel
theorem ne_lt {news : List (Addr × Obj)} {t x : Addr} {o : Obj} (h : ∀ p ∈ news, p.1 < t) (hm : (x, o) ∈ news) : t ≠ x := Nat.ne_of_gt (h _ hm)
local macro_rules | `(tactic| walk_at "mine ne") => `(tactic| first | exact ne_lt (by assumption) (by assumption) | k_ne)
local macro_rules | `(tactic| walk_at "mine upd") => `(tactic| first | k_upd | (refine' Upd.tail ?a ?b; (walk_at "mine c4")))
local macro_rules | `(tactic| walk_at "mine mem") => `(tactic| first | (focus ((repeat (first | exact List.mem_cons_self | refine List.mem_cons_of_mem _ ?_)); first | done | assumption)) | assumption)
local macro_rules | `(tactic| walk_at "mine inst") => `(tactic| exact inst_acc (by k_asm) (by walk_at "mine mem") (by walk_at "mine mem"))
local macro_rules | `(tactic| walk_at "getMethod ref") => `(tactic| (k_here; k_dflt (refine' method_acc ?k1 ?k3 ?k4 canon_list_ga ?k5 ?k6 ?k7 ?k8 ?_; (case k1 => k_in); (case k3 => walk_at "mine inst"); (case k4 | k5 | k6 => k_is); (case k7 => first | (exact .inl (by k_is)) | (exact .inr (by k_is))); (case k8 => assumption); k_whole)))
local macro_rules | `(tactic| walk_at "call builtin:list.append") => `(tactic| (k_here; k_dflt (refine' append_acc ?k1 ?k2 ?k3 ?k4 ?k5 ?k6 ?z ?_; (case k1 | k2 | k3 => k_asm); (case k4 => walk_at "mine inst"); (case k5 => k_is); (case k6 => intro n'; walk_at "mine upd"); (case z => (rw [sizeLine_eq]; omega)); k_whole); intro h' n' F' N'; (try k_sweep)))
section
variable {w : World} {p : Program} {loose : List Str} {mean : ExcName → Option Value} {mg mb : Str → Option Value} {dp un : Nat} {gd : Option (List Code)} {cn : Str} {cs : Scope} {a : Addr} {ccd : Value} {cl : List (Str × Addr)} {outer : List Env} {A₀ : Around} {base h₀ : Heap} {L : Addr} {m : Str → Option Value} {news : List (Addr × Obj)} {s : Shared} {Q E : Value → Shared → Prop}
set_option maxHeartbeats 2000000
theorem push_ct {x dx : Addr} {its : List Value} {n n' : Nat} {es : List DictEntry} {v1 v2 : Value} {news' : Addr → Nat → List (Addr × Obj)}
  (B : Below A₀ base outer h₀) (F : Fr h₀ L s.heap m) (X : (KF w.params).In h₀) (N : News h₀ L s.heap news) (T : Top p loose mean mg mb h₀) (hk : cs.kind = .function)
  (hdp : dp + 1 < recursionLimit) (hun : un + 8 < cLine) (hx : (x, accO 205 dx its n) ∈ news) (hd : (dx, dictOf es n') ∈ news) (hes : shadowIn (some (dictOf es n')) (Str.ofString "append") = some false) (hz : its.length ≤ 1000)
  (U : ∀ t n', Upd x (accO 205 dx its n) (accO 205 dx (its ++ [.ref t]) n') news (news' t n'))
  (hret : ∀ h' tk t n', Fr h₀ L h' m → News h₀ L h' ((t, tupO [v1, v2]) :: news' t n') → (∀ p ∈ news, p.1 < t) → Q .none { s with heap := h', toks := tk }) :
  wpAny (model PySem.Challenge.rw_wc0034_01.row.prog w) (ktrTop dp un gd cn cs L a ccd cl outer) (call (.ref 149) [.ref x, v1, v2]) Q E s := by
  revert X; k_fill; intro X
  walk_at "mine enter"
  k_steps
  exact hret _ _ _ _ (by k_asm) (by k_asm) (by assumption)
end
end
local macro_rules | `(tactic| walk_at "call builtin:list.append") => `(tactic| (k_here; k_dflt (refine' append_acc ?k1 ?k2 ?k3 ?k4 ?k5 ?k6 ?z ?_; (case k1 | k2 | k3 => k_asm); (case k4 => walk_at "mine inst"); (case k5 => k_is); (case k6 => intro n'; walk_at "mine upd"); (case z => (rw [sizeLine_eq]; omega)); k_whole); intro h' n' F' N'; (try k_sweep)))
local macro_rules | `(tactic| walk_at "getMethod ref") => `(tactic| (k_here; k_dflt (refine' method_acc ?k1 ?k3 ?k4 canon_list_ga ?k5 ?k6 ?k7 ?k8 ?_; (case k1 => k_in); (case k3 => walk_at "mine inst"); (case k4 | k5 | k6 => k_is); (case k7 => first | (exact .inl (by k_is)) | (exact .inr (by k_is))); (case k8 => assumption); k_whole)))
local macro_rules | `(tactic| walk_at "mine step") => `(tactic| first | (k_unfold; (try dsimp only)) | (k_end; wrow_close) | walk1 | (dsimp only; walk1) | (leave1; try dsimp only))
local macro_rules | `(tactic| walk_at "mine mem") => `(tactic| first | (focus ((repeat (first | exact List.mem_cons_self | refine List.mem_cons_of_mem _ ?_)); first | done | assumption)) | assumption)
local macro_rules | `(tactic| walk_at "mine inst") => `(tactic| exact inst_acc (by k_asm) (by walk_at "mine mem") (by walk_at "mine mem"))
theorem rs_L2 : True := by
  have h : (1 : Nat) = 1 := by walk1
  w_top off; exact trivial
section
local macro_rules | `(tactic| walk_at "mine enter") => `(tactic| (refine wpAny_call ?_; k_dflt (first | ktr_enter | (refine' ks_code_super ?k1 ?k2 ?k3 ?k4 ?k5 ?kA ?kF ?kK ?k6 ?k7 ?k8 ?k9 ?kB ?_ ?c1 ?c2 ?c3 ?c4; (walk_at "mine c1"); (case k9 => exact BindsTo.of_eq rfl); (walk_at "mine c2"); k_whole; intro g' L' h' FG' F' N' B' X' T' lt'; (try dsimp only); (try k_fold)))))
local macro_rules | `(tactic| walk_at "mine ne") => `(tactic| first | exact ne_lt (by assumption) (by assumption) | k_ne)
local macro_rules | `(tactic| walk_at "mine upd") => `(tactic| first | k_upd | (refine' Upd.tail ?a ?b; (case a => walk_at "mine ne"); (case b => first | apply_assumption | walk_at "mine upd")))
section
variable {prog : Program} {w : World} {M : Model} {A : Around} {E : Value → Shared → Prop} {h : Heap} {g : Array GenState} {d : Drawn} {t : Nat} {os : OsState}
theorem slot_wd_get : Slot "wrapper_descriptor" "__get__" "wrapper_descriptor.__get__" := .of (owner := "wrapper_descriptor") (n := "__get__") (by rw [typeLookup_type, builtinLookup_eq_fast]; kernel_rfl) (by decide +kernel) (by decide +kernel) (by decide +kernel) (.inl (by decide +kernel)) (by rw [isSubtype_type]; kernel_rfl)
theorem slot_md_get : Slot "method_descriptor" "__get__" "method_descriptor.__get__" := .of (owner := "method_descriptor") (n := "__get__") (by rw [typeLookup_type, builtinLookup_eq_fast]; kernel_rfl) (by decide +kernel) (by decide +kernel) (by decide +kernel) (.inl (by decide +kernel)) (by rw [isSubtype_type]; kernel_rfl)
theorem entry_wd_get : entryFor table "wrapper_descriptor.__get__" = some Builtin.«wrapper_descriptor.__get__» := entryFor_of_tree (by kernel_rfl)
theorem entry_md_get : entryFor table "method_descriptor.__get__" = some Builtin.«method_descriptor.__get__» := entryFor_of_tree (by kernel_rfl)
theorem args_wd_get (a b c : Value) : argsOk "wrapper_descriptor.__get__" ⟨[a, b, c], []⟩ := by unfold argsOk; kernel_rfl
theorem args_md_get (a b c : Value) : argsOk "method_descriptor.__get__" ⟨[a, b, c], []⟩ := by unfold argsOk; kernel_rfl
theorem bi_list_len : ".".intercalate (("list.__len__".cutAt '.').dropLast) = "list" := by decide +kernel
theorem bi_list_init : ".".intercalate (("list.__init__".cutAt '.').dropLast) = "list" := by decide +kernel
theorem bi_list_pop : ".".intercalate (("list.pop".cutAt '.').dropLast) = "list" := by decide +kernel
theorem told_pop : Manifest.toldItsClass.contains "list.pop" = false := by decide +kernel
theorem wd_get {x C : Addr} {ox : Obj} {id : String} {Q : Fin → Shared → Prop} (hx : h.get? x = some ox) (hc : ox.cls = .ref C) (hs : Looks M h (isSubtype (.ref C) (.type "list")) true) (hid : id = "list.__len__" ∨ id = "list.__init__")
    (hq : Q (.done (.ret (.ref h.objs.size))) ⟨h.push { cls := .type "method-wrapper", data := .fields #[.builtin id, .ref x] }, g, d, t, os⟩) :
    wpAny M A (Builtin.«wrapper_descriptor.__get__» ⟨[.builtin id, .ref x, .ref C], []⟩) Q E ⟨h, g, d, t, os⟩ := by
  unfold Builtin.«wrapper_descriptor.__get__»
  rcases hid with rfl | rfl
  · repeat (first | rw [bi_list_len] | rw [hc] | exact hq | lk)
  · repeat (first | rw [bi_list_init] | rw [hc] | exact hq | lk)
theorem md_get {x C : Addr} {ox : Obj} {Q : Fin → Shared → Prop} (hx : h.get? x = some ox) (hc : ox.cls = .ref C) (hs : Looks M h (isSubtype (.ref C) (.type "list")) true)
    (hq : Q (.done (.ret (.ref h.objs.size))) ⟨h.push { cls := .type "builtin_function_or_method", data := .fields #[.builtin "list.pop", .ref x] }, g, d, t, os⟩) :
    wpAny M A (Builtin.«method_descriptor.__get__» ⟨[.builtin "list.pop", .ref x, .ref C], []⟩) Q E ⟨h, g, d, t, os⟩ := by
  unfold Builtin.«method_descriptor.__get__»
  repeat (first | rw [bi_list_pop] | rw [hc] | exact hq | (rw [told_pop]; refine wpAny_bind ?_) | lk)
theorem ls_super_ga {prog : Program} {so D x C : Addr} {id gid T : String} {l₀ l : List Value} {K : Frag} {name : Str} {tk : Tok} {Q : Fin → Shared → Prop}
    (hso : h.get? so = some { cls := .type "super", dict := none, data := .fields #[.ref D, .ref x, .ref C], slots := #[] }) (hno : Looks (model prog w) h (opaqueClassAbove (.ref C)) none)
    (hC : Looks (model prog w) h (mroOf (.ref C)) l₀) (hl : (l₀.dropWhile (· != .ref D)).drop 1 = l) (X : K.In h)
    (hf : alongIn K name l = some (some (.builtin id))) (ht : Looks (model prog w) h (typeOf (.builtin id)) (.type T)) (hg : typeLookup (.type T) "__get__" = pure (some (.builtin gid))) (hxC : x ≠ C) (hn : (name == ("__class__" : Str)) = false)
    (hq : wpAny (model prog w) A (call (.builtin gid) [.builtin id, .ref x, .ref C]) (fun v s' => Q (.done (.ret v)) s') E ⟨h, g, d, t, os⟩) :
    wpAny (model prog w) A (Builtin.«super.__getattribute__» ⟨[.ref so, .str name tk], []⟩) Q E ⟨h, g, d, t, os⟩ := by
  have hne : (Value.ref x == Value.ref C) = false := by simp [hxC]
  have hdt : ({ cls := .type "super", dict := none, data := .fields #[.ref D, .ref x, .ref C], slots := #[] } : Obj).data = .fields #[.ref D, .ref x, .ref C] := rfl
  have f0 : (#[.ref D, .ref x, .ref C] : Array Value)[0]? = some (.ref D) := rfl
  have f1 : (#[.ref D, .ref x, .ref C] : Array Value)[1]? = some (.ref x) := rfl
  have f2 : (#[.ref D, .ref x, .ref C] : Array Value)[2]? = some (.ref C) := rfl
  unfold Builtin.«super.__getattribute__»
  repeat (first
    | (with_reducible refine wpAny_field hso hdt f0 ?_) | (with_reducible refine wpAny_field hso hdt f1 ?_) | (with_reducible refine wpAny_field hso hdt f2 ?_)
    | (with_reducible refine ks_wpAny_notOpaque hno ?_)
    | (with_reducible refine Looks.at hC ?_; rw [hl])
    | (refine ks_forIn_along X (fun _ _ => rfl) rfl ?_ hf)
    | (with_reducible refine Looks.at ht ?_)
    | (with_reducible refine wpAny_of_eq hg ?_)
    | (refine wpAny_mono hq (fun v s' hv => ?_) fun _ _ z => z)
    | (simp only [hn, hne, Bool.or_false, Bool.false_eq_true, if_false])
    | wp_step
    | dsimp only)
  all_goals exact hv
theorem ls_getMethod_super {prog : Program} {so D x C : Addr} {id gid T W : String} {B : Builtin} {l₀ l : List Value} {K : Frag} {name : Str} {pl : Sem Bool} {Q : Value × List Value → Shared → Prop}
    (hso : h.get? so = some { cls := .type "super", dict := none, data := .fields #[.ref D, .ref x, .ref C], slots := #[] }) (hno : Looks (model prog w) h (opaqueClassAbove (.ref C)) none)
    (hC : Looks (model prog w) h (mroOf (.ref C)) l₀) (hl : (l₀.dropWhile (· != .ref D)).drop 1 = l) (X : K.In h)
    (hf : alongIn K name l = some (some (.builtin id))) (ht : typeOf (.builtin id) = pure (.type T)) (hg : Slot T "__get__" gid) (hge : entryFor table gid = some B) (hga : argsOk gid ⟨[.builtin id, .ref x, .ref C], []⟩) (hxC : x ≠ C) (hn : (name == ("__class__" : Str)) = false)
    (hrun : ∀ (A : Around) (E : Value → Shared → Prop) (Q : Fin → Shared → Prop) (t : Nat), Q (.done (.ret (.ref h.objs.size))) ⟨h.push { cls := .type W, data := .fields #[.builtin id, .ref x] }, g, d, t, os⟩ → wpAny (model prog w) A (B ⟨[.builtin id, .ref x, .ref C], []⟩) Q E ⟨h, g, d, t, os⟩)
    (hq : Q (.ref h.objs.size, []) ⟨h.push { cls := .type W, data := .fields #[.builtin id, .ref x] }, g, d, t + 1, os⟩) :
    wpAny (model prog w) A (getMethod (.ref so) name pl) Q E ⟨h, g, d, t, os⟩ := by
  have hlk := F.ks_slot_super_ga.lookup
  have hcan := F.ks_canon_super_ga
  have hT : ∀ t', (⟨h, g, d, t', os⟩ : Shared).TypeIs (.ref so) "super" := fun _ => ⟨_, hso, rfl⟩
  have hTi : ∀ t', (⟨h, g, d, t', os⟩ : Shared).TypeIs (.builtin id) T := fun _ => ht
  unfold getMethod
  refine wpAny_bind (wpAny_specialOf (hT _) hlk ?_)
  show wpAny _ _ (if (Manifest.canonical "super.__getattribute__" != "object.__getattribute__") = true then _ else _) _ _ _
  rw [if_pos hcan]
  unfold getAttr getAttrBy
  refine wpAny_bind (wpAny_bind (wpAny_mkText (wpAny_holding (wpAny_bind (wpAny_typeOf (hT _) (wpAny_bind (wpAny_of_eq hlk ?_)))))))
  show wpAny _ _ (getAttrByItsOwn (.ref so) (.str name t) (.type "super") (.builtin "super.__getattribute__") true false) _ _ _
  unfold getAttrByItsOwn hookBefore callGetattribute boundAndCalled
  refine wpAny_bind (wpAny_of_eq (show (if onTheHeap (.type "super") then typeLookup (.type "super") "__getattr__" else pure none) = pure none from rfl) ?_)
  refine wpAny_bind (wpAny_attempt (wpAny_holding ?_))
  show wpAny _ _ (bindSpecial (.builtin "super.__getattribute__") (.ref so) >>= _) _ _ _
  refine wpAny_bind (wpAny_of_eq (F.ks_slot_super_ga.bind _) ?_)
  refine wpAny_mono (Q := fun v s' => v = .ref h.objs.size ∧ s' = ⟨h.push { cls := .type W, data := .fields #[.builtin id, .ref x] }, g, d, t + 1, os⟩) (E := fun _ _ => False)
    (wpAny_call_entry F.ks_slot_super_ga (hT _) F.ks_entry_super_ga (ls_super_ga (T := T) hso hno hC hl X hf (Looks.of_pure ht) hg.lookup hxC hn
      (wpAny_call_entry hg (hTi _) hge (hrun _ _ _ _ ⟨_, rfl, _, rfl, rfl, rfl⟩) hga)) (F.ks_gaArgs_super _ _)) (fun v s' hv => ?_) fun _ _ z => z.elim
  obtain ⟨rfl, rfl⟩ := hv
  exact wpAny_pure (wpAny_pure hq)
end
section
variable {prog : Program} {w : World} {A : Around} {E : Value → Shared → Prop} {s : Shared} {h₀ : Heap} {L : Addr} {m mg mb : Str → Option Value} {news : List (Addr × Obj)} {K : Frag} {x C D so dx : Addr} {od : Obj}
theorem ls_method {name : Str} {pl : Sem Bool} {Q : Value × List Value → Shared → Prop} {id gid T W : String} {its : List Value} {n : Nat} (F : Fr h₀ L s.heap m) (X₀ : K.In h₀) (N : News h₀ L s.heap news) (hso : (so, ks_superObj D x C) ∈ news)
    (I : InstAt s.heap x (accO C dx its n) C (some od)) (ho : nsIn K cStatics "thirdparty.any" = some none) (hm : ks_superIn K C D name = some (some (.builtin id))) (hsub : mroIn K C (.type "list") = some true)
    (hn : (name == ("__class__" : Str)) = false)
    (hk : (T = "wrapper_descriptor" ∧ W = "method-wrapper" ∧ gid = "wrapper_descriptor.__get__" ∧ (id = "list.__len__" ∨ id = "list.__init__")) ∨ (T = "method_descriptor" ∧ W = "builtin_function_or_method" ∧ gid = "method_descriptor.__get__" ∧ id = "list.pop"))
    (h : ∀ b h', Fr h₀ L h' m → News h₀ L h' ((b, { cls := .type W, data := .fields #[.builtin id, .ref x] }) :: news) → (∀ p ∈ news, p.1 < b) → Q (.ref b, []) { s with heap := h', toks := s.toks + 1 }) :
    wpAny (model prog w) A (getMethod (.ref so) name pl) Q E s := by
  obtain ⟨hh, g, d, t, os⟩ := s
  have X := X₀.keeps F.keep
  cases hc : clsIn K C with
  | none => rw [ks_superIn, hc] at hm; cases hm
  | some cd =>
    unfold ks_superIn at hm
    rw [hc] at hm
    have hmro : Looks (model prog w) hh (mroOf (.ref C)) cd.mro := fun A Q E s k q => wpAny_bind ((looks_clsIn X hc) A _ E s k (wpAny_pure q))
    have fin : ∀ (o : Obj), o = { cls := .type W, data := .fields #[.builtin id, .ref x] } → Q (.ref hh.objs.size, []) ⟨hh.push o, g, d, t + 1, os⟩ := by
      rintro o rfl
      obtain ⟨F', N', l'⟩ := ks_newsPush (s := ⟨hh, g, d, t, os⟩) (o := { cls := .type W, data := .fields #[.builtin id, .ref x] }) F N rfl (Heap.get?_push_at rfl rfl) (fun b o e => Heap.get?_push_of_some _ e)
      exact h _ _ F' N' l'
    have sub := looks_mroIn (M := model prog w) X hsub
    rcases hk with ⟨rfl, rfl, rfl, hid⟩ | ⟨rfl, rfl, rfl, rfl⟩
    · refine ls_getMethod_super (N _ hso).1 (looks_opaque X ho) (l₀ := cd.mro) hmro rfl X hm ?_ slot_wd_get entry_wd_get (args_wd_get _ _ _) (ks_ne X I hc) hn (fun A E Q t q => wd_get I.at_ rfl sub hid q) (fin _ rfl)
      rcases hid with rfl | rfl <;> kernel_rfl
    · refine ls_getMethod_super (N _ hso).1 (looks_opaque X ho) (l₀ := cd.mro) hmro rfl X hm ?_ slot_md_get entry_md_get (args_md_get _ _ _) (ks_ne X I hc) hn (fun A E Q t q => md_get I.at_ rfl sub q) (fin _ rfl)
      kernel_rfl
theorem callWith_bound {pos : Pos} {b : Addr} {W id : String} {Q : Value → Shared → Prop} {env : Env} (N : News h₀ L s.heap news) (hb : (b, ({ cls := .type W, data := .fields #[.builtin id, .ref x] } : Obj)) ∈ news)
    (hW : W = "method-wrapper" ∨ W = "builtin_function_or_method") (h : wpAny (model prog w) A (call (.ref b) []) Q E s) : wpAny (model prog w) A (callWith pos (.ref b) [] (backTo pos (starEach [] env)) []) Q E s := by
  refine callWith_of (P := fun h => h.get? b = some { cls := .type W, data := .fields #[.builtin id, .ref x] }) rfl (fun h hh => ⟨.machine, .inr (.inl rfl), (Looks.ld (part := none) hh).andThen ?_⟩) (evalArgs_nil3 (Q := fun a s₁ => s₁.heap.get? b = some { cls := .type W, data := .fields #[.builtin id, .ref x] } ∧ wpAny (model prog w) A (call (.ref b) ([] ++ a.pos) a.kw) Q E s₁) ⟨(N _ hb).1, h⟩)
  rcases hW with rfl | rfl <;> exact .now
theorem call_bound {b : Addr} {W id : String} {B : Builtin} {Q : Value → Shared → Prop} (hb : s.heap.get? b = some ({ cls := .type W, data := .fields #[.builtin id, .ref x] } : Obj))
    (hW : W = "method-wrapper" ∨ W = "builtin_function_or_method") (hp : plainId id = true) (he : entryFor table id = some B) (hc : Looks (model prog w) s.heap (checkBoundCall id ⟨[.ref x], []⟩) ())
    (h : wpAny (model prog w) A.in1 (B ⟨[.ref x], []⟩) (fun fin s' => ∃ v, fin = .done (.ret v) ∧ Q v s') E s) : wpAny (model prog w) A (call (.ref b) []) Q E s := by
  refine wpAny_call (codeAny_of_tree ?_)
  show wpAny _ A.in1 (callAny (.ref b) ⟨[], []⟩) _ _ _
  unfold callAny
  refine wpAny_bind (wpAny_load hb ?_)
  have hrun : codeAny (model prog w) A (.builtin id ⟨[.ref x], []⟩) (fun r s' => match r with | .ok (.ret v) => Q v s' | .ok _ => False | .error e => E e s') s := by
    refine codeAny_builtin he ?_
    rw [Around.under_plainId hp]
    refine wpAny_mono h (fun fin s' hf => ?_) fun _ _ y => y
    obtain ⟨v, rfl, hq⟩ := hf
    exact hq
  rcases hW with rfl | rfl
  · show wpAny _ _ (checkBoundCall id ⟨[.ref x], []⟩ >>= fun _ => again (.builtin id ⟨[.ref x], []⟩)) _ _ _
    exact wpAny_bind (hc.here (wpAny_pure ⟨plainId_quiet hp _, hrun⟩))
  · show wpAny _ _ (checkBoundCall id ⟨[.ref x], []⟩ >>= fun _ => again (.builtin id ⟨[.ref x], []⟩)) _ _ _
    exact wpAny_bind (hc.here (wpAny_pure ⟨plainId_quiet hp _, hrun⟩))
theorem bound_len : checkBoundCall "list.__len__" ⟨[.ref x], []⟩ = pure () := by kernel_rfl
theorem bound_init : checkBoundCall "list.__init__" ⟨[.ref x], []⟩ = pure () := by kernel_rfl
end
end
theorem rs_L3 : True := by
  have h : (1 : Nat) = 1 := by walk1
  w_top off; exact trivial
section
local macro_rules | `(tactic| walk_at "mine enter") => `(tactic| (refine wpAny_call ?_; k_dflt (first | ktr_enter | (refine' ks_code_super ?k1 ?k2 ?k3 ?k4 ?k5 ?kA ?kF ?kK ?k6 ?k7 ?k8 ?k9 ?kB ?_ ?c1 ?c2 ?c3 ?c4; (walk_at "mine c1"); (case k9 => exact BindsTo.of_eq rfl); (walk_at "mine c2"); k_whole; intro g' L' h' FG' F' N' B' X' T' lt'; (try dsimp only); (try k_fold)))))
local macro_rules | `(tactic| walk_at "mine ne") => `(tactic| first | exact ne_lt (by assumption) (by assumption) | k_ne)
local macro_rules | `(tactic| walk_at "mine upd") => `(tactic| first | k_upd | (refine' Upd.tail ?a ?b; (case a => walk_at "mine ne"); (case b => first | apply_assumption | walk_at "mine upd")))
section
variable {prog : Program} {w : World} {A : Around} {E : Value → Shared → Prop} {s : Shared} {h₀ : Heap} {L : Addr} {m mg mb : Str → Option Value} {news : List (Addr × Obj)} {K : Frag} {x C D so dx : Addr} {od : Obj}
theorem bound_pop {M : Model} {h : Heap} {its : List Value} {n : Nat} {cd : ClassData} {od' : Option Addr} {sl : Array (Option Value)} (hx : h.get? x = some (accO C dx its n)) (hC : h.get? C = some ⟨.type "type", od', .cls cd, sl⟩) (hqn : cd.qualname = Str.ofString "_Accumulator") (hm : Looks M h (isSubtype (.ref C) (.type "module")) false) : Looks M h (checkBoundCall "list.pop" ⟨[.ref x], []⟩) () := by
  intro A Q E s k q
  obtain ⟨hh, g, d, t, os⟩ := s
  have hm' := hm.keeps k
  have hx' := k _ _ hx
  have hC' := k _ _ hC
  have hne : ((toString (Str.ofString "_Accumulator").toString ++ toString "." ++ toString (Bind.lastOf "list.pop")) != "*") = true := by decide +kernel
  unfold checkBoundCall
  repeat (first | with_reducible exact q | lk | (dsimp only; rw [hqn, if_pos hne]))
  trace_state
end
end
section
variable {prog : Program} {w : World} {A : Around} {E : Value → Shared → Prop} {s : Shared} {h₀ : Heap} {L : Addr} {m mg mb : Str → Option Value} {news : List (Addr × Obj)} {K : Frag} {x C D so dx : Addr} {od : Obj}
theorem pop_acc {init : List Value} {v : Value} {n : Nat} {news' : Nat → List (Addr × Obj)} {Q : Value → Shared → Prop} (F : Fr h₀ L s.heap m) (N : News h₀ L s.heap news)
    (hx : (x, accO C dx (init ++ [v]) n) ∈ news) (U : ∀ n', Upd x (accO C dx (init ++ [v]) n) (accO C dx init n') news (news' n')) (hz : init.length ≤ 1000)
    (h : ∀ h' n', Fr h₀ L h' m → News h₀ L h' (news' n') → Q v { s with heap := h' }) :
    wpAny (model prog w) A (Builtin.«list.pop» ⟨[.ref x], []⟩) (fun fin s' => ∃ v', fin = .done (.ret v') ∧ Q v' s') E s := by
  have hl := (N _ hx).1
  have hsz : (init ++ [v]).toArray.size = init.length + 1 := by simp
  have hne : ¬ (init ++ [v]).toArray.isEmpty = true := by simp
  have hk : seqIndex? (-1) (init ++ [v]).toArray.size = some init.length := by
    rw [hsz, seqIndex_neg (by omega) (by omega)]; congr 1; omega
  have hy : (init ++ [v]).toArray[init.length]? = some v := by simp
  have he : ((init ++ [v]).toArray.eraseIdxIfInBounds init.length).toList = init := by
    rw [Array.toList_eraseIdxIfInBounds]
    simp [List.eraseIdx_append_of_length_le]
  obtain ⟨hp, g, d, tk, os⟩ := s
  wp_walk using wpAny_loadPart' hl
  simp only [hk, hy, Option.bind_some, Option.map_some]
  refine wpAny_bind ?_
  show wpAny _ _ (updateSeq x fun xs => xs.eraseIdxIfInBounds init.length) _ _ _
  refine updateSeq_acc (f := fun xs => xs.eraseIdxIfInBounds init.length) (its := init ++ [v]) (n := n) F N (by rw [he]; exact U) (by rw [sizeLine_eq]; simp; omega) (by rw [← Array.length_toList, he, sizeLine_eq]; omega) fun h' n' F' N' => ?_
  exact wpAny_pure ⟨v, rfl, h h' n' F' N'⟩
theorem items_acc {M : Model} {its : List Value} {n : Nat} {Q : Array Value → Shared → Prop} (hx : s.heap.get? x = some (accO C dx its n)) (h : Q its.toArray s) : wpAny M A (Builtin.List.listItems (.ref x)) Q E s := by
  unfold Builtin.List.listItems
  exact wpAny_bind (wpAny_seqItems hx rfl (wpAny_pure h))
theorem subscript_slice {M : Model} {sl : Addr} {vs : Array Value} {Q : Option Int → Shared → Prop} (hs : s.heap.get? sl = some { cls := .type "slice", data := .fields vs }) (h : Q none s) : wpAny M A (Builtin.List.listSubscript? (.ref sl)) Q E s := by
  have hTs : s.TypeIs (.ref sl) "slice" := ⟨_, hs, rfl⟩
  unfold Builtin.List.listSubscript?
  refine wpAny_bind (wpAny_specialOf hTs slice_no_index ?_)
  simp only [Option.isNone_none, if_true]
  exact wpAny_pure h
theorem parts_from {M : Model} {sl : Addr} {lo : Value} {k : Option Int} {Q : Value × Value × Value → Shared → Prop} (hs : s.heap.get? sl = some { cls := .type "slice", data := .fields #[lo, .none, .none] }) (pl : IsPart lo k) (h : Q (rawPart k, .none, .none) s) : wpAny M A (Builtin.List.listSliceParts (.ref sl)) Q E s := by
  rw [listSliceParts_eq]
  refine wpAny_bind (wpAny_field hs rfl (x := .none) rfl (wpAny_bind (wpAny_listPart .none ?_)))
  rw [if_neg (show ¬ ((rawPart none == rawInt 0) = true) from Bool.false_ne_true)]
  refine wpAny_bind (wpAny_field hs rfl (x := lo) rfl (wpAny_bind (wpAny_listPart pl ?_)))
  exact wpAny_bind (wpAny_field hs rfl (x := .none) rfl (wpAny_bind (wpAny_listPart .none (wpAny_pure h))))
theorem pick_from (its : List Value) (i : Nat) : (slicePick its.toArray (some (i : Int)) none none) = (its.drop i).toArray := by
  have e : sliceBounds (some (i : Int)) none none its.toArray.size = (((min i its.length : Nat) : Int), ((its.length : Nat) : Int), 1) := by
    have h0 : ¬ ((i : Int) < 0) := by omega
    simp only [sliceBounds, Option.getD_none, show (1 : Int) > 0 by decide, if_true, if_neg h0, List.size_toArray]
    congr 1
    omega
  unfold slicePick
  rw [e, sliceRange_one, pick_run]
  congr 1
  simp only []
  by_cases h : i ≤ its.length
  · rw [Nat.min_eq_left h, List.take_of_length_le (by simp)]
  · rw [Nat.min_eq_right (by omega), List.drop_of_length_le (by omega : its.length ≤ i), List.drop_of_length_le (Nat.le_refl _)]; simp
theorem getslice_acc {its : List Value} {n i sl : Nat} {u : Tok} {Q : Value → Shared → Prop} (hx : s.heap.get? x = some (accO C dx its n)) (hs : s.heap.get? sl = some { cls := .type "slice", data := .fields #[.int i u, .none, .none] }) (hz : its.length ≤ 1000)
   (h : Q (.ref s.heap.objs.size) { s with heap := s.heap.push (listOf (its.drop i).toArray 0) }) :
    wpAny (model prog w) A (Builtin.«list.__getitem__» ⟨[.ref x, .ref sl], []⟩) (fun fin s' => ∃ v', fin = .done (.ret v') ∧ Q v' s') E s := by
  have hTs : s.TypeIs (.ref sl) "slice" := ⟨_, hs, rfl⟩
  show wpAny _ _ (Builtin.List.listSubscript? (.ref sl) >>= _) _ _ s
  refine wpAny_bind (subscript_slice hs ?_)
  show wpAny _ _ (typeOf (.ref sl) >>= _) _ _ s
  refine wpAny_bind (wpAny_typeOf hTs ?_)
  rw [if_neg (by decide)]
  refine wpAny_bind (parts_from hs (.int _ _) ?_)
  refine wpAny_bind (items_acc hx ?_)
  refine wpAny_bind (wpAny_of_eq (sliceIndices_raw (some (i : Int)) none none its.toArray.size (by simp)) ?_)
  refine wpAny_bind (wpAny_newObj_type (wpAny_pure ⟨_, rfl, ?_⟩) (Nat.le_trans (slicePick_size_le its.toArray (some (i : Int)) none none) (by rw [List.size_toArray, sizeLine_eq]; omega)))
  have h' : Q (.ref s.heap.objs.size) { s with heap := s.heap.push { cls := .type "list", data := .seq (slicePick its.toArray (some (i : Int)) none none) } } := by rw [pick_from]; exact h
  exact h'
theorem getint_acc {its : List Value} {v : Value} {n : Nat} {k : Int} {u : Tok} {Q : Value → Shared → Prop} (hx : s.heap.get? x = some (accO C dx its n)) (h0 : 0 ≤ k) (hfit : k < 2 ^ 63) (hk : its[k.toNat]? = some v) (h : Q v s) :
    wpAny (model prog w) A (Builtin.«list.__getitem__» ⟨[.ref x, .int k u], []⟩) (fun fin s' => ∃ v', fin = .done (.ret v') ∧ Q v' s') E s := by
  show wpAny _ _ (Builtin.List.listSubscript? (.int k u) >>= _) _ _ s
  refine wpAny_bind (wpAny_listSubscript_int (fitsIndex_of h0 hfit) ?_)
  clear hfit
  obtain ⟨j, rfl⟩ := Int.eq_ofNat_of_zero_le h0
  have hx' : its.toArray[j]? = some v := by simpa using hk
  show wpAny _ _ ((seqItemAt x j >>= fun r => pure (r.map (j, ·))) >>= _) _ _ s
  refine wpAny_bind (wpAny_bind (wpAny_seqItemAt hx rfl (wpAny_pure ?_)))
  rw [hx']
  exact wpAny_pure ⟨v, rfl, h⟩
theorem setslice_acc {its vs : List Value} {n n1 i sl l : Nat} {lo : Value} {news' : Nat → List (Addr × Obj)} {Q : Value → Shared → Prop} (F : Fr h₀ L s.heap m) (N : News h₀ L s.heap news) (hx : (x, accO C dx its n) ∈ news) (hs : s.heap.get? sl = some { cls := .type "slice", data := .fields #[lo, .none, .none] })
    (hlo : IsPart lo (some (i : Int)) ∨ (lo = .none ∧ i = 0)) (hl : s.heap.get? l = some (listOf vs.toArray n1)) (hxl : x ≠ l) (hi : i ≤ its.length) (hz : its.length ≤ 1000) (hz2 : vs.length ≤ 1000)
    (U : ∀ n', Upd x (accO C dx its n) (accO C dx (its.take i ++ vs) n') news (news' n'))
    (h : ∀ h' n', Fr h₀ L h' m → News h₀ L h' (news' n') → Q .none { s with heap := h' }) :
    wpAny (model prog w) A (Builtin.«list.__setitem__» ⟨[.ref x, .ref sl, .ref l], []⟩) (fun fin s' => ∃ v', fin = .done (.ret v') ∧ Q v' s') E s := by
  have hTs : s.TypeIs (.ref sl) "slice" := ⟨_, hs, rfl⟩
  have hTl : s.TypeIs (.ref l) "list" := ⟨_, hl, rfl⟩
  have hxx := (N _ hx).1
  have hsame : ¬ (Builtin.List.listSameRef (.ref x) (.ref l) = true) := by simp [Builtin.List.listSameRef, hxl]
  show wpAny _ _ (Builtin.List.listSubscript? (.ref sl) >>= _) _ _ s
  refine wpAny_bind (subscript_slice hs ?_)
  show wpAny _ _ (typeOf (.ref sl) >>= _) _ _ s
  refine wpAny_bind (wpAny_typeOf hTs ?_)
  rw [if_neg (by decide)]
  obtain ⟨lo', pl, hlo'⟩ : ∃ lo', IsPart lo lo' ∧ sliceBounds lo' none none its.toArray.size = (((i : Nat) : Int), ((its.length : Nat) : Int), 1) := by
    rcases hlo with hp | ⟨rfl, rfl⟩
    · refine ⟨_, hp, ?_⟩
      have h0 : ¬ ((i : Int) < 0) := by omega
      simp only [sliceBounds, Option.getD_none, show (1 : Int) > 0 by decide, if_true, if_neg h0, List.size_toArray]
      congr 1
      omega
    · refine ⟨none, .none, ?_⟩
      simp only [sliceBounds, Option.getD_none, show (1 : Int) > 0 by decide, if_true, List.size_toArray]
      rfl
  refine wpAny_bind (parts_from hs pl ?_)
  dsimp only
  rw [if_neg hsame]
  refine wpAny_bind (m := Builtin.List.listAllItems (.ref l) _) ?_
  unfold Builtin.List.listAllItems
  refine wpAny_bind (wpAny_typeOf hTl ?_)
  rw [if_pos (by decide)]
  unfold Builtin.List.listItems
  refine wpAny_bind (wpAny_seqItems hl rfl (wpAny_pure ?_))
  refine wpAny_bind (items_acc hxx ?_)
  rw [show lo' = lo' from rfl]
  refine wpAny_bind (wpAny_of_eq (sliceIndices_raw lo' none none its.toArray.size (by simp)) ?_)
  rw [hlo']
  dsimp only
  rw [if_pos (by decide)]
  refine wpAny_bind (wpAny_rule ?_)
  have hlong : ¬ (Builtin.List.listTooLong (its.toArray.size + vs.toArray.size) = true) := by
    unfold Builtin.List.listTooLong
    rw [sizeLine_eq, List.size_toArray, List.size_toArray, decide_eq_true_eq]
    omega
  rw [if_neg hlong]
  have he : ((fun xs : Array Value => xs.extract 0 ((i : Nat) : Int).toNat ++ vs.toArray ++ xs.extract (max ((i : Nat) : Int) ((its.length : Nat) : Int)).toNat) its.toArray).toList = its.take i ++ vs := by
    have e1 : (((i : Nat) : Int)).toNat = i := by omega
    have e2 : (max ((i : Nat) : Int) ((its.length : Nat) : Int)).toNat = its.length := by omega
    simp only [e1, e2, Array.toList_append, Array.toList_extract, List.extract_eq_drop_take]
    simp
  refine wpAny_bind ?_
  show wpAny _ _ (updateSeq x fun xs => xs.extract 0 ((i : Nat) : Int).toNat ++ vs.toArray ++ xs.extract (max ((i : Nat) : Int) ((its.length : Nat) : Int)).toNat) _ _ _
  refine updateSeq_acc (f := fun xs => xs.extract 0 ((i : Nat) : Int).toNat ++ vs.toArray ++ xs.extract (max ((i : Nat) : Int) ((its.length : Nat) : Int)).toNat) (its := its) (n := n) F N (by rw [he]; exact U) (by rw [sizeLine_eq]; omega) (by rw [← Array.length_toList, he, sizeLine_eq, List.length_append, List.length_take]; omega) fun h' n' F' N' => ?_
  refine wpAny_bind (wpAny_letGo ?_)
  exact wpAny_pure ⟨.none, rfl, h h' n' F' N'⟩
end
local macro_rules | `(tactic| walk_at "getMethod ref") => `(tactic| (k_here; ks_any; k_dflt (refine' ls_method ?k1 ?k2 ?k3 ?k4 ?k5 ?k6 ?k7 ?k8 ?k9 ?k10 ?_; (case k1 | k2 | k3 => k_asm); (case k4 => walk_at "mine mem"); (case k5 => walk_at "mine inst"); (case k6 => k_is); (case k7 => ks_is); (case k8 => k_is); (case k9 => decide); (case k10 => walk_at "mine bound"); k_whole); intro b' h' F' N' l1'))
local macro_rules | `(tactic| k_inst) => `(tactic| walk_at "mine inst")
local macro_rules | `(tactic| k_mem) => `(tactic| walk_at "mine mem")
local macro_rules | `(tactic| walk_at "mine bound") => `(tactic| first | exact .inl ⟨rfl, rfl, rfl, .inl rfl⟩ | exact .inl ⟨rfl, rfl, rfl, .inr rfl⟩ | exact .inr ⟨rfl, rfl, rfl, rfl⟩)
local macro_rules | `(tactic| walk_at "callWith ref") => `(tactic| (k_here; k_dflt (refine' callWith_bound ?k1 ?k2 ?k3 ?_; (case k1 => k_asm); (case k2 => walk_at "mine mem"); (case k3 => first | exact .inl rfl | exact .inr rfl); k_whole)))
local macro_rules | `(tactic| walk_at "mine zz") => `(tactic| skip)
theorem rs_L5 : True := by
  have h : (1 : Nat) = 1 := by walk1
  w_top off; exact trivial
section
local macro_rules | `(tactic| walk_at "mine enter") => `(tactic| (refine wpAny_call ?_; k_dflt (first | ktr_enter | (refine' ks_code_super ?k1 ?k2 ?k3 ?k4 ?k5 ?kA ?kF ?kK ?k6 ?k7 ?k8 ?k9 ?kB ?_ ?c1 ?c2 ?c3 ?c4; (walk_at "mine c1"); (case k9 => exact BindsTo.of_eq rfl); (walk_at "mine c2"); k_whole; intro g' L' h' FG' F' N' B' X' T' lt'; (try dsimp only); (try k_fold)))))
local macro_rules | `(tactic| walk_at "mine ne") => `(tactic| first | exact ne_lt (by assumption) (by walk_at "mine mem") | k_ne)
local macro_rules | `(tactic| walk_at "mine upd") => `(tactic| first | k_upd | (refine' Upd.tail ?a ?b; (walk_at "mine c4")))
theorem up {α : Type} {M : Model} {dp un dp' un' : Nat} {gd : Option (List Code)} {cn : Str} {cs : Scope} {L a : Addr} {ccd : Value} {cl : List (Str × Addr)} {outer : List Env} {t : Sem α} {Q : α → Shared → Prop} {E : Value → Shared → Prop} {s : Shared}
    (h1 : dp ≤ dp') (h2 : un ≤ un') (h : wpAny M (ktrTop dp' un' gd cn cs L a ccd cl outer) t Q E s) : wpAny M (ktrTop dp un gd cn cs L a ccd cl outer) t Q E s := fun Γ p hΓ =>
  h Γ p ⟨hΓ.1, Nat.le_trans hΓ.2.1 h1, hΓ.2.2.1, hΓ.2.2.2.1, Nat.le_trans hΓ.2.2.2.2 h2⟩
section
variable {w : World} {p : Program} {loose : List Str} {mean : ExcName → Option Value} {mg mb : Str → Option Value} {dp un : Nat} {gd : Option (List Code)} {cn : Str} {cs : Scope} {a : Addr} {ccd : Value} {cl : List (Str × Addr)} {outer : List Env} {A₀ : Around} {base h₀ : Heap} {L : Addr} {m : Str → Option Value} {news : List (Addr × Obj)} {s : Shared} {Q E : Value → Shared → Prop}
set_option maxHeartbeats 2000000
theorem len_body {prog : Program} {A : Around} {C x dx : Addr} {its : List Value} {n : Nat} {Q : Value → Shared → Prop} (hx : s.heap.get? x = some (accO C dx its n)) (hz : its.length ≤ 1000) (h : Q (.int its.length s.toks) { s with toks := s.toks + 1 }) :
    wpAny (model prog w) A (Builtin.«list.__len__» ⟨[.ref x], []⟩) (fun fin s' => ∃ v', fin = .done (.ret v') ∧ Q v' s') E s := by
  obtain ⟨hp, g, d, tk, os⟩ := s
  wp_walk using wpAny_loadPart' hx
  exact ⟨_, rfl, by simpa using h⟩
theorem call_len_acc {prog : Program} {A : Around} {C x dx b : Addr} {its : List Value} {n : Nat} {Q : Value → Shared → Prop} (N : News h₀ L s.heap news) (hb : (b, ({ cls := .type "method-wrapper", data := .fields #[.builtin "list.__len__", .ref x] } : Obj)) ∈ news) (hx : (x, accO C dx its n) ∈ news) (hz : its.length ≤ 1000)
    (h : Q (.int its.length s.toks) { s with toks := s.toks + 1 }) : wpAny (model prog w) A (call (.ref b) []) Q E s := by
  obtain ⟨hp, g, d, tk, os⟩ := s
  exact
  call_bound (N _ hb).1 (.inl rfl) (by decide +kernel) (entryFor_of_tree (by kernel_rfl)) (Looks.of_pure bound_len) (len_body (N _ hx).1 (by assumption) h)
theorem call_pop_acc {prog : Program} {A : Around} {K : Frag} {C x dx b : Addr} {init : List Value} {v : Value} {n : Nat} {cd : ClassData} {od' : Option Addr} {sl : Array (Option Value)} {news' : Nat → List (Addr × Obj)} {Q : Value → Shared → Prop} (F : Fr h₀ L s.heap m) (X : K.In h₀) (N : News h₀ L s.heap news) (hb : (b, ({ cls := .type "builtin_function_or_method", data := .fields #[.builtin "list.pop", .ref x] } : Obj)) ∈ news) (hx : (x, accO C dx (init ++ [v]) n) ∈ news)
    (hC : K.lookup C = some ⟨.type "type", od', .cls cd, sl⟩) (hqn : cd.qualname = Str.ofString "_Accumulator") (hm : mroIn K C (.type "module") = some false)
    (U : ∀ n', Upd x (accO C dx (init ++ [v]) n) (accO C dx init n') news (news' n')) (hz : init.length ≤ 1000)
    (h : ∀ h' n', Fr h₀ L h' m → News h₀ L h' (news' n') → Q v { s with heap := h' }) : wpAny (model prog w) A (call (.ref b) []) Q E s :=
  call_bound (N _ hb).1 (.inr rfl) (by decide +kernel) (entryFor_of_tree (by kernel_rfl)) (bound_pop (N _ hx).1 ((X.keeps F.keep) _ _ hC) hqn (looks_mroIn (X.keeps F.keep) hm)) (pop_acc F N hx U hz h)
local macro_rules | `(tactic| walk_at "call ref") => `(tactic| (k_here; k_dflt (refine' call_len_acc ?k1 ?k2 ?k3 ?k4 ?_; (case k1 => k_asm); (case k2 | k3 => walk_at "mine mem"); (case k4 => assumption); k_whole)))
local macro_rules | `(tactic| walk_at "call ref") => `(tactic| (k_here; k_dflt (refine' call_pop_acc ?k0 ?k1 ?k2 ?k3 ?k4 ?k5 ?k6 ?k7 ?k8 ?k9 ?_; (case k0 | k1 | k2 => k_asm); (case k3 | k4 => walk_at "mine mem"); (case k5 => k_is); (case k6 => rfl); (case k7 => k_is); (case k8 => intro n'; walk_at "mine upd"); (case k9 => first | assumption | omega); k_whole); intro h' n' F' N'; (try k_sweep)))
theorem part_count_ct {x dx : Addr} {its : List Value} {n n' : Nat} {es : List DictEntry}
  (B : Below A₀ base outer h₀) (F : Fr h₀ L s.heap m) (X : (KF w.params).In h₀) (N : News h₀ L s.heap news) (T : Top p loose mean mg mb h₀) (hk : cs.kind = .function)
  (hdp : dp ≤ 900) (hun : un ≤ 5000) (hx : (x, accO 205 dx its n) ∈ news) (hd : (dx, dictOf es n') ∈ news) (hz : its.length ≤ 1000)
  (hret : ∀ h' tk t, Fr h₀ L h' m → News h₀ L h' news → Q (.int its.length t) { s with heap := h', toks := tk }) :
  wpAny (model PySem.Challenge.rw_wc0034_01.row.prog w) (ktrTop dp un gd cn cs L a ccd cl outer) (call (.ref 202) [.ref x]) Q E s := by
  refine up hdp hun ?_
  revert X; k_fill; intro X
  walk_at "mine enter"
  k_steps
  exact hret _ _ _ (by k_asm) (fun p hp => (by k_asm : News _ _ _ _) p (.tail _ (.tail _ hp)))
theorem news_sub {h : Heap} {l l' : List (Addr × Obj)} (N : News h₀ L h l) (hs : ∀ p ∈ l', p ∈ l) : News h₀ L h l' := fun p hp => N p (hs p hp)
local macro_rules | `(tactic| walk_at "call ref") => `(tactic| (k_here; k_dflt (refine' part_count_ct ?k1 ?k2 ?k3 ?k4 ?k5 ?k6 ?k7 ?k8 ?k9 ?k10 ?k11 ?_; (case k1 | k2 | k3 | k4 | k5 => k_asm); (case k6 => first | exact rfl | assumption); (case k9 | k10 => walk_at "mine mem"); (case k11 => first | assumption | (simp only [List.length_append, List.length_cons, List.length_nil]; omega)); (case k7 | k8 => exact Nat.le_of_ble_eq_true rfl); k_whole); intro h' tk t F' N'; (try k_sweep)))
theorem pop_ct {x dx : Addr} {init : List Value} {v : Value} {n n' : Nat} {es : List DictEntry} {news' : Nat → List (Addr × Obj)}
  (B : Below A₀ base outer h₀) (F : Fr h₀ L s.heap m) (X : (KF w.params).In h₀) (N : News h₀ L s.heap news) (T : Top p loose mean mg mb h₀) (hk : cs.kind = .function)
  (hdp : dp ≤ 890) (hun : un ≤ 4900) (hx : (x, accO 205 dx (init ++ [v]) n) ∈ news) (hd : (dx, dictOf es n') ∈ news) (hz : init.length ≤ 999) (hes : shadowIn (some (dictOf es n')) (Str.ofString "part_count") = some false)
  (U : ∀ n', Upd x (accO 205 dx (init ++ [v]) n) (accO 205 dx init n') news (news' n'))
  (hret : ∀ h' tk n', Fr h₀ L h' m → News h₀ L h' (news' n') → Q v { s with heap := h', toks := tk }) :
  wpAny (model PySem.Challenge.rw_wc0034_01.row.prog w) (ktrTop dp un gd cn cs L a ccd cl outer) (call (.ref 165) [.ref x]) Q E s := by
  refine up hdp hun ?_
  revert X; k_fill; intro X
  walk_at "mine enter"
  iterate 13 (walk_at "mine step")
  · rename_i hc
    exact absurd hc (by simp only [List.length_append, List.length_cons, List.length_nil]; omega)
  · iterate 2 (walk_at "mine step")
    refine wpAny_execs_nil ?_
    refine ks_wpAt_execs_cons (ks_wpAt_Return_some ?_)
    refine ks_wpAt_MethodCall ?_
    k_steps
    exact hret _ _ _ (by k_asm) (fun p hp => (by k_asm : News _ _ _ _) p (.tail _ (.tail _ hp)))
end
end
section
open Builtin Builtin.ObjectAttr
section
variable {prog : Program} {w : World} {A : Around} {E : Value → Shared → Prop} {s : Shared} {h₀ : Heap} {L : Addr} {m mg mb : Str → Option Value} {news news' : List (Addr × Obj)} {K : Frag} {x C D so dx : Addr} {ox : Obj} {od : Option Obj} {name : Str}
theorem slot_list_ga : Slot "list" "__getattribute__" "list.__getattribute__" := .of (owner := "list") (n := "__getattribute__") (by rw [typeLookup_type, builtinLookup_eq_fast]; kernel_rfl) (by decide +kernel) (by decide +kernel) (by decide +kernel) (.inl (by decide +kernel)) (by rw [isSubtype_type]; kernel_rfl)
theorem args_list_ga (a b : Value) : argsOk "list.__getattribute__" ⟨[a, b], []⟩ := by unfold argsOk; kernel_rfl
theorem get_acc {v : Value} {Q : Value → Shared → Prop} {expr : Bool} (X : K.In s.heap) (I : InstAt s.heap x ox C od) (hga : findIn K (.ref C) "__getattribute__" = some (some (.builtin "list.__getattribute__"))) (hgt : findIn K (.ref C) "__getattr__" = some none)
    (hsub : mroIn K C (.type "list") = some true) (hf : findObj K C od name = some (.value v)) (hh : handedIn v = true) (h : Q v { s with toks := s.toks + 1 }) : wpAny (model prog w) A (getAttr (.ref x) name expr) Q E s := by
  obtain ⟨hp, g, d, t, os⟩ := s
  have L0 := I.type (M := model prog w)
  have L1 := looks_findIn (M := model prog w) X hga
  have L2 := looks_find (M := model prog w) X I hf
  have L3 : Looks (model prog w) hp (hookBefore (.ref C)) none := looks_hook (M := model prog w) X (mc := .ref C) (by rw [show onTheHeap (.ref C) = true from rfl, if_pos rfl]; exact hgt)
  unfold getAttr getAttrBy
  refine wpAny_bind (wpAny_mkText (wpAny_holding (wpAny_bind (L0.at (wpAny_bind (L1.at ?_))))))
  show wpAny _ _ (getAttrByItsOwn (.ref x) (.str name t) (.ref C) (.builtin "list.__getattribute__") true expr) _ _ _
  unfold getAttrByItsOwn
  refine wpAny_bind (L3.at ?_)
  refine wpAny_bind (wpAny_attempt (wpAny_holding ?_))
  have e0 : callGetattribute (.ref x) (.str name t) (.builtin "list.__getattribute__") expr = boundAndCalled (.builtin "list.__getattribute__") (.ref x) (.str name t) := by
    unfold callGetattribute
    rw [show (expr && onTheHeap (.builtin "list.__getattribute__")) = false from by cases expr <;> rfl]
    rfl
  rw [e0]
  unfold boundAndCalled
  refine wpAny_bind (wpAny_of_eq (slot_list_ga.bind _) ?_)
  refine wpAny_mono (Q := fun v' s' => v' = v ∧ s' = ⟨hp, g, d, t + 1, os⟩) (E := fun _ _ => False)
    (sub_entry slot_list_ga.plain PySem.am_entry_list_getattribute (.inl (by decide +kernel)) (n := "__getattribute__") (by decide +kernel) X I hsub (args_list_ga _ _) ?_) (fun v' s' hv => ?_) fun _ _ z => z.elim
  · refine wpAny_bind (wpAny_pure (wpAny_bind (wpAny_pure (wpAny_bind (L0.at (wpAny_bind (L2.at ?_)))))))
    exact wpAny_pure ⟨v, rfl, rfl, rfl⟩
  · obtain ⟨rfl, rfl⟩ := hv
    show wpAny _ _ (handedOut v') _ _ _
    rw [handedOut_of hh]; exact wpAny_pure h
theorem refuse_list (self : Value) (C : Addr) : refuseLoop self "__setattr__" [.ref C, .type "list", .type "object"] = pure () := by
  rw [refuseLoop_ref]
  kernel_rfl
theorem set_acc {es es' : List DictEntry} {its : List Value} {n n' k : Nat} {v : Value} {cd : ClassData} {Q : Unit → Shared → Prop} (F : Fr h₀ L s.heap m) (X₀ : K.In h₀) (N : News h₀ L s.heap news) (hx : (x, accO C dx its k) ∈ news) (hdm : (dx, dictOf es n) ∈ news)
    (hs : findIn K (.ref C) "__setattr__" = some (some (.builtin "object.__setattr__"))) (hc : clsIn K C = some cd) (hmro : cd.mro = [.ref C, .type "list", .type "object"]) (hdict : cd.hasDict = true) (ht : takerIn K C name = some none) (hrk : aRefKeyMayBeTheName name es.toArray = false)
    (hsub : mroIn K C (.type "object") = some true)
    (e : (putL name (PyData.keyHash w.params name) (.str name (s.toks + 1)) v es, putN name es n) = (es', n')) (U : Upd dx (dictOf es n) (dictOf es' n') news news') (hz : es'.length ≤ 1000)
    (h : ∀ h', Fr h₀ L h' m → News h₀ L h' news' → Q () { s with heap := h', toks := s.toks + 2 }) :
    wpAny (model prog w) A (setAttr (.ref x) name v) Q E s := by
  have SF := PySem.F.store_object
  have X := X₀.keeps F.keep
  have I := inst_acc N hx hdm
  refine set_plain X I hs ?_
  obtain ⟨hp, g, d, t, os⟩ := s
  have hm : Looks (model prog w) hp (mroOf (.ref C)) cd.mro := (looks_clsIn X hc).andThen .now
  have hcd := looks_clsIn (M := model prog w) X hc
  have L0 := I.type (M := model prog w)
  refine codeAny_call_builtin SF.slot.plain SF.entry (@check_slot (model prog w) _ _ _ "object.__setattr__" "object" "__setattr__" (.ref x) [.str name t, v] [] _ SF.kind SF.split (I.type.andThen (looks_mroIn X hsub)) (SF.args (.ref x) (.str name t) v) ?_)
  rw [osa_eq, refuse_eq]
  refine wpAny_bind (wpAny_bind (L0.at (wpAny_bind (hm.at ?_))))
  rw [hmro, refuse_list]
  refine wpAny_pure (wpAny_bind (L0.at ?_))
  obtain ⟨attr, ha, hr⟩ := Option.bind_eq_some_iff.mp ht
  refine wpAny_bind ((looks_findIn X ha).at ?_)
  have L3 : Looks (model prog w) hp (storeTaker? attr) none := by
    cases attr with
    | none => exact .now
    | some a =>
      obtain ⟨b, hb, hbe⟩ := Option.map_eq_some_iff.mp hr
      refine (looks_takesIn X hb).andThen ?_
      cases b <;> first | exact .now | cases hbe
  refine wpAny_bind (L3.at ?_)
  dsimp only
  have hxx : hp.get? x = some (accO C dx its k) := (N _ hx).1
  have hdd : hp.get? dx = some (dictOf es n) := (N _ hdm).1
  have hdict' := hdict
  unfold storeInOwnDict
  repeat (first | rw [hdict] | lk)
  rw [hrk, if_neg Bool.false_ne_true]
  obtain ⟨pre, post, rfl, rfl, a, b⟩ := U.split
  obtain ⟨e1, e2⟩ := Prod.mk.inj e
  have hput : Obj.putName name (PyData.keyHash w.params name) (.str name (t + 1)) v (dictOf es n) = dictOf es' n' := by rw [putName_dict, e1, e2]
  obtain ⟨U1, U2⟩ := news_upd (f := Obj.putName name (PyData.keyHash w.params name) (.str name (t + 1)) v) F N a b hput rfl
  have D' := (U2 (dx, dictOf es' n') (by simp)).1
  refine wpAny_updatePart hdd ?_
  refine wpAny_bind (wpAny_lookBehind D' (pastItsLine_dict (by rw [List.size_toArray, sizeLine_eq]; omega)) ?_)
  exact wpAny_pure (h _ U1 U2)
end
end
theorem rs_L7 : True := by
  have h : (1 : Nat) = 1 := by walk1
  w_top off; exact trivial
section
open Builtin Builtin.ObjectAttr
section
variable {prog : Program} {w : World} {A : Around} {E : Value → Shared → Prop} {s : Shared} {h₀ : Heap} {L : Addr} {m mg mb : Str → Option Value} {news news' : List (Addr × Obj)} {K : Frag} {x C D so dx : Addr} {ox : Obj} {od : Option Obj} {name : Str}
theorem getItem_acc {i : Value} {Q : Value → Shared → Prop} (X : K.In s.heap) (I : InstAt s.heap x ox C od) (hq : noSeq K C = true) (hs : findIn K (.ref C) "__getitem__" = some (some (.builtin "list.__getitem__")))
    (hm : mroIn K C (.type "list") = some true) (h : wpAny (model prog w) A.in1 (Builtin.«list.__getitem__» ⟨[.ref x, i], []⟩) (fun fin s' => ∃ v', fin = .done (.ret v') ∧ Q v' s') E s) : wpAny (model prog w) A (getItem (.ref x) i) Q E s := by
  unfold getItem sequenceKey
  refine wpAny_holding (wpAny_bind (wpAny_bind (I.type.here ?_)))
  refine wpAny_bind ((anyM_none X hq).here ?_)
  rw [if_pos (show (!false) = true from rfl)]
  refine wpAny_pure (wpAny_bind (kfo_special X I hs slot_list_getitem.bind ?_))
  refine wpAny_mono (sub_entry slot_list_getitem.plain entry_list_getitem (.inr (by decide +kernel)) (n := "__getitem__") (by decide +kernel) X I hm (args_list_getitem _ _) h) (fun v s' hv => wpAny_pure hv) fun _ _ z => z
theorem setItem_acc {i v : Value} {Q : Unit → Shared → Prop} (X : K.In s.heap) (I : InstAt s.heap x ox C od) (hq : noSeq K C = true) (hs : findIn K (.ref C) "__setitem__" = some (some (.builtin "list.__setitem__")))
    (hm : mroIn K C (.type "list") = some true) (h : wpAny (model prog w) A.in1 (Builtin.«list.__setitem__» ⟨[.ref x, i, v], []⟩) (fun fin s' => ∃ v', fin = .done (.ret v') ∧ Q () s') E s) : wpAny (model prog w) A (setItem (.ref x) i v) Q E s := by
  unfold setItem sequenceKey
  refine wpAny_holding (wpAny_bind (wpAny_bind (I.type.here ?_)))
  refine wpAny_bind ((anyM_none X hq).here ?_)
  rw [if_pos (show (!false) = true from rfl)]
  refine wpAny_pure (wpAny_bind (kfo_special X I hs slot_list_setitem.bind ?_))
  refine wpAny_mono (sub_entry (Q := fun _ s' => Q () s') slot_list_setitem.plain entry_list_setitem (.inl (by decide +kernel)) (n := "__setitem__") (by decide +kernel) X I hm (args_list_setitem _ _ _) h) (fun v s' hv => wpAny_pure hv) fun _ _ z => z
theorem tail_acc {value slice : Expr} {i : Value} {l : List Value} {Q : Value → Shared → Prop} (X : K.In s.heap) (I : InstAt s.heap x ox C od) (hq : noSeq K C = true) (hs : findIn K (.ref C) "__getitem__" = some (some (.builtin "list.__getitem__")))
    (hm : mroIn K C (.type "list") = some true) (h : wpAny (model prog w) A.in1 (Builtin.«list.__getitem__» ⟨[.ref x, i], []⟩) (fun fin s' => ∃ v', fin = .done (.ret v') ∧ wpAny (model prog w) A (letTemporaryGo value (.ref x) v') (fun _ s'' => Q v' s'') E s') E s)
    (hsl : subscripted slice false (.ref x) i = operate l (getItem (.ref x) i)) :
    wpAny (model prog w) A (subscriptTail value slice (.ref x) i) Q E s := by
  unfold subscriptTail getitemInPython
  refine wpAny_bind (wpAny_bind (wpAny_bind (I.type.here ((looks_findIn X hs).here ?_))))
  refine wpAny_pure ?_
  rw [hsl]
  refine wpAny_bind (wpAny_operating (getItem_acc X I hq hs hm ?_))
  refine wpAny_mono h (fun fin s' hf => ?_) fun _ _ z => z
  obtain ⟨v', rfl, hv⟩ := hf
  exact ⟨v', rfl, wpAny_bind (wpAny_mono hv (fun _ _ q => wpAny_pure q) fun _ _ z => z)⟩
/-- `self[i:]` -/
theorem tail_slice {value : Expr} {lower : Option Expr} {pp : Pos} {its : List Value} {n i sl : Nat} {u : Tok} {o : Obj} {Q : Value → Shared → Prop} (F : Fr h₀ L s.heap m) (X₀ : K.In h₀) (N : News h₀ L s.heap news) (hx : (x, accO C dx its n) ∈ news) (hd : (dx, o) ∈ news)
    (hsl : (sl, ({ cls := .type "slice", data := .fields #[.int i u, .none, .none] } : Obj)) ∈ news) (hz : its.length ≤ 1000) (hq : noSeq K C = true) (hs : findIn K (.ref C) "__getitem__" = some (some (.builtin "list.__getitem__"))) (hm : mroIn K C (.type "list") = some true)
    (h : ∀ l h', Fr h₀ L h' m → News h₀ L h' ((l, listOf (its.drop i).toArray 0) :: news) → (∀ p ∈ news, p.1 < l) → ∀ tk, Q (.ref l) { s with heap := h', toks := tk }) :
    wpAny (model prog w) A (subscriptTail value (.Slice lower none none pp) (.ref x) (.ref sl)) Q E s := by
  have X := X₀.keeps F.keep
  refine tail_acc (l := [.ref sl, .ref x]) X (inst_acc N hx hd) hq hs hm ?_ rfl
  refine getslice_acc (N _ hx).1 (N _ hsl).1 hz ?_
  obtain ⟨F', N', l'⟩ := ks_newsPush (s := s) (o := listOf (its.drop i).toArray 0) F N rfl (Heap.get?_push_size _ rfl) (fun b o e => Heap.get?_push_of_some _ e)
  exact wpAny_letTemporaryGo (h _ _ F' N' l' _)
theorem tail_made {value : Expr} {lower : Option Expr} {pp : Pos} {its : List Value} {n i : Nat} {u : Tok} {o : Obj} {Q : Value → Shared → Prop} (F : Fr h₀ L s.heap m) (X₀ : K.In h₀) (N : News h₀ L s.heap news) (hx : (x, accO C dx its n) ∈ news) (hd : (dx, o) ∈ news)
    (hz : its.length ≤ 1000) (hq : noSeq K C = true) (hs : findIn K (.ref C) "__getitem__" = some (some (.builtin "list.__getitem__"))) (hm : mroIn K C (.type "list") = some true)
    (h : ∀ l h' tk, Fr h₀ L h' m → News h₀ L h' ((l, listOf (its.drop i).toArray 0) :: news) → (∀ p ∈ news, p.1 < l) → Q (.ref l) { s with heap := h', toks := tk }) :
    wpAny (model prog w) A (subscriptTail value (.Slice lower none none pp) (.ref x) (.ref s.heap.objs.size)) Q E { s with heap := s.heap.push { cls := .type "slice", data := .fields #[.int i u, .none, .none] } } := by
  obtain ⟨F', N', l'⟩ := ks_newsPush (s := s) (o := { cls := .type "slice", data := .fields #[.int i u, .none, .none] }) F N rfl (Heap.get?_push_size _ rfl) (fun b o e => Heap.get?_push_of_some _ e)
  refine tail_slice (s := { s with heap := s.heap.push { cls := .type "slice", data := .fields #[.int i u, .none, .none] } }) F' X₀ N' (.tail _ hx) (.tail _ hd) (.head _) hz hq hs hm fun l h' F'' N'' l'' tk => h l h' tk F'' (fun p hp => N'' p ?_) fun p hp => l'' p (.tail _ hp)
  rcases List.mem_cons.mp hp with rfl | hp
  · exact .head _
  · exact .tail _ (.tail _ hp)
theorem setItem_made {its vs zs : List Value} {n n1 i l : Nat} {lo : Value} {o : Obj} {news' : Nat → List (Addr × Obj)} {Q : Unit → Shared → Prop} (F : Fr h₀ L s.heap m) (X₀ : K.In h₀) (N : News h₀ L s.heap news) (hx : (x, accO C dx its n) ∈ news) (hd : (dx, o) ∈ news) (hl : (l, listOf vs.toArray n1) ∈ news)
    (hlo : IsPart lo (some (i : Int)) ∨ (lo = .none ∧ i = 0)) (hi : i ≤ its.length) (hz : its.length ≤ 1000) (hz2 : vs.length ≤ 1000) (hq : noSeq K C = true) (hs : findIn K (.ref C) "__setitem__" = some (some (.builtin "list.__setitem__"))) (hm : mroIn K C (.type "list") = some true)
    (U : ∀ n', Upd x (accO C dx its n) (accO C dx zs n') news (news' n')) (he : its.take i ++ vs = zs)
    (h : ∀ h' n' tk, Fr h₀ L h' m → News h₀ L h' (news' n') → Q () { s with heap := h', toks := tk }) :
    wpAny (model prog w) A (setItem (.ref x) (.ref s.heap.objs.size) (.ref l)) Q E { s with heap := s.heap.push { cls := .type "slice", data := .fields #[lo, .none, .none] } } := by
  subst he
  obtain ⟨F', N', l'⟩ := ks_newsPush (s := s) (o := { cls := .type "slice", data := .fields #[lo, .none, .none] }) F N rfl (Heap.get?_push_size _ rfl) (fun b o e => Heap.get?_push_of_some _ e)
  have X := X₀.keeps F'.keep
  have hxl : x ≠ l := by
    rintro rfl
    have h1 := (N _ hx).1
    rw [(N _ hl).1] at h1
    cases h1
  have hn : s.heap.objs.size ≠ x := Nat.ne_of_gt (l' _ hx)
  refine setItem_acc (s := { s with heap := s.heap.push { cls := .type "slice", data := .fields #[lo, .none, .none] } }) X (inst_acc N' (.tail _ hx) (.tail _ hd)) hq hs hm ?_
  refine wpAny_mono (setslice_acc (Q := fun _ s' => Q () s') (news' := fun n' => (s.heap.objs.size, { cls := .type "slice", data := .fields #[lo, .none, .none] }) :: news' n') F' N' (.tail _ hx) (N' _ (.head _)).1 hlo (N' _ (.tail _ hl)).1 hxl hi hz hz2 (fun n' => .tail hn (U n')) (fun h' n' F'' N'' => h h' n' _ F'' fun p hp => N'' p (.tail _ hp))) (fun _ _ z => z) fun _ _ z => z
end
theorem ne_allLt {t x : Addr} {o : Obj} : ∀ {l : List (Addr × Obj)}, AllLt t l → (x, o) ∈ l → t ≠ x
  | _ :: _, h, .head _ => Nat.ne_of_gt h.1
  | _ :: _, h, .tail _ hm => ne_allLt h.2 hm
theorem ne_allLt2 {t x : Addr} {o : Obj} {q : Prop} {l : List (Addr × Obj)} (h : q ∧ AllLt t l) (hm : (x, o) ∈ l) : t ≠ x := ne_allLt h.2 hm
theorem ne_allLt3 {t x : Addr} {o : Obj} {q q' : Prop} {l : List (Addr × Obj)} (h : q ∧ q' ∧ AllLt t l) (hm : (x, o) ∈ l) : t ≠ x := ne_allLt h.2.2 hm
local macro_rules | `(tactic| walk_at "mine enter") => `(tactic| (refine wpAny_call ?_; k_dflt (first | ktr_enter | (refine' code_def ?k1 ?k2 ?k3 ?k4 ?k5 ?kA ?kF ?kK ?k6 ?k7 ?k8 ?k9 ?kB ?_ ?c2 ?c3 ?c4 ?c5; (walk_at "mine c1"); (case k9 => exact binds_K (by k_in) rfl (by k_is) rfl rfl rfl); (case c5 => decide); (case kB => exact locs rfl); (case c2 | c3 | c4 => exact rfl); k_whole; intro g' L' h' FG' F' N' B' X' T'; (try dsimp only); (try k_fold)) | (refine' ks_code_super ?k1 ?k2 ?k3 ?k4 ?k5 ?kA ?kF ?kK ?k6 ?k7 ?k8 ?k9 ?kB ?_ ?c1 ?c2 ?c3 ?c4; (walk_at "mine c1"); (case k9 => exact BindsTo.of_eq rfl); (walk_at "mine c2"); k_whole; intro g' L' h' FG' F' N' B' X' T' lt'; (try dsimp only); (try k_fold)))))
local macro_rules | `(tactic| walk_at "mine ne") => `(tactic| first | exact ne_lt (by assumption) (by walk_at "mine mem") | exact ne_allLt (by assumption) (by walk_at "mine mem") | exact ne_allLt2 (by assumption) (by walk_at "mine mem") | exact ne_allLt3 (by assumption) (by walk_at "mine mem") | k_ne)
local macro_rules | `(tactic| walk_at "mine upd") => `(tactic| first | k_upd | (refine' Upd.tail ?a ?b; (walk_at "mine c4")))
local macro_rules | `(tactic| walk_at "getMethod ref") => `(tactic| (k_here; k_dflt (refine' method_acc ?k1 ?k3 ?k4 canon_list_ga ?k5 ?k6 ?k7 ?k8 ?_; (case k1 => k_in); (case k3 => walk_at "mine inst"); (case k4 | k5 | k6 => k_is); (case k7 => first | (exact .inl (by k_is)) | (exact .inr (by k_is))); (case k8 => assumption); k_whole)))
local macro_rules | `(tactic| walk_at "getMethod ref") => `(tactic| (k_here; ks_any; k_dflt (refine' ls_method ?k1 ?k2 ?k3 ?k4 ?k5 ?k6 ?k7 ?k8 ?k9 ?k10 ?_; (case k1 | k2 | k3 => k_asm); (case k4 => walk_at "mine mem"); (case k5 => walk_at "mine inst"); (case k6 => k_is); (case k7 => ks_is); (case k8 => k_is); (case k9 => decide); (case k10 => walk_at "mine bound"); k_whole); intro b' h' F' N' l1'))
local macro_rules | `(tactic| walk_at "call ref") => `(tactic| (k_here; k_dflt (refine' call_len_acc ?k1 ?k2 ?k3 ?k4 ?_; (case k1 => k_asm); (case k2 | k3 => walk_at "mine mem"); (case k4 => assumption); k_whole)))
local macro_rules | `(tactic| walk_at "call ref") => `(tactic| (k_here; k_dflt (refine' call_pop_acc ?k0 ?k1 ?k2 ?k3 ?k4 ?k5 ?k6 ?k7 ?k8 ?k9 ?_; (case k0 | k1 | k2 => k_asm); (case k3 | k4 => walk_at "mine mem"); (case k5 => k_is); (case k6 => rfl); (case k7 => k_is); (case k8 => intro n'; walk_at "mine upd"); (case k9 => first | assumption | omega); k_whole); intro h' n' F' N'; (try k_sweep)))
local macro_rules | `(tactic| walk_at "call ref") => `(tactic| (k_here; k_dflt (refine' part_count_ct ?k1 ?k2 ?k3 ?k4 ?k5 ?k6 ?k7 ?k8 ?k9 ?k10 ?k11 ?_; (case k1 | k2 | k3 | k4 | k5 => k_asm); (case k6 => first | exact rfl | assumption); (case k9 | k10 => walk_at "mine mem"); (case k11 => first | assumption | (simp only [List.length_append, List.length_cons, List.length_nil]; omega)); (case k7 | k8 => exact Nat.le_of_ble_eq_true rfl); k_whole); intro h' tk t F' N'; (try k_sweep)))
section
variable {w : World} {p : Program} {loose : List Str} {mean : ExcName → Option Value} {mg mb : Str → Option Value} {dp un : Nat} {gd : Option (List Code)} {cn : Str} {cs : Scope} {a : Addr} {ccd : Value} {cl : List (Str × Addr)} {outer : List Env} {A₀ : Around} {base h₀ : Heap} {L : Addr} {m : Str → Option Value} {news : List (Addr × Obj)} {s : Shared} {Q E : Value → Shared → Prop}
set_option maxHeartbeats 2000000
local macro_rules | `(tactic| walk_at "subscriptTail") => `(tactic| (k_here; k_dflt (refine' tail_made ?k1 ?k2 ?k3 ?k4 ?k5 ?k6 ?k7 ?k8 ?k9 ?_; (case k1 | k2 | k3 => k_asm); (case k4 | k5 => walk_at "mine mem"); (case k6 => first | assumption | omega); (case k7 | k8 | k9 => k_is); k_whole); intro l' h' tk F' N' l1'; (try k_sweep)))
local macro_rules | `(tactic| walk_at "setItem ref ref") => `(tactic| (k_here; k_dflt (refine' setItem_made ?k1 ?k2 ?k3 ?k4 ?k5 ?k6 ?k7 ?k8 ?k9 ?k10 ?k11 ?k12 ?k13 ?k14 ?k15 ?_; (case k1 | k2 | k3 => k_asm); (case k4 | k5 | k6 => walk_at "mine mem"); (case k7 => first | exact .inl (.int _ _) | exact .inr ⟨rfl, rfl⟩); (case k8 | k9 => first | assumption | omega); (case k10 => first | assumption | (simp only [List.length_nil]; omega)); (case k11 | k12 | k13 => k_is); (case k14 => intro n'; walk_at "mine upd"); (case k15 => first | exact List.append_nil _ | rfl | simp); k_whole); intro h' n' tk F' N'; (try k_sweep)))
set_option hygiene true
theorem pop_from_ct {x dx : Addr} {its : List Value} {n n' i : Nat} {ti : Tok} {es : List DictEntry} {news' : Nat → List (Addr × Obj)}
  (B : Below A₀ base outer h₀) (F : Fr h₀ L s.heap m) (X : (KF w.params).In h₀) (N : News h₀ L s.heap news) (T : Top p loose mean mg mb h₀) (hk : cs.kind = .function)
  (hdp : dp ≤ 890) (hun : un ≤ 4900) (hx : (x, accO 205 dx its n) ∈ news) (hd : (dx, dictOf es n') ∈ news) (hz : its.length ≤ 1000) (hi : i ≤ its.length)
  (U : ∀ n', Upd x (accO 205 dx its n) (accO 205 dx (its.take i) n') news (news' n'))
  (hret : ∀ h' tk n' l c, Fr h₀ L h' m → News h₀ L h' ((l, listOf (its.drop i).toArray c) :: news' n') → (∀ p ∈ news, p.1 < l) → Q (.ref l) { s with heap := h', toks := tk }) :
  wpAny (model PySem.Challenge.rw_wc0034_01.row.prog w) (ktrTop dp un gd cn cs L a ccd cl outer) (call (.ref 157) [.ref x, .int i ti]) Q E s := by
  refine up hdp hun ?_
  revert X; k_fill; intro X
  walk_at "mine enter"
  k_steps
  refine hret _ _ _ _ _ (by k_asm) (fun p hp => (by k_asm : News _ _ _ _) p (.tail _ hp)) (by assumption)
end
end
theorem rs_L8 : True := by
  have h : (1 : Nat) = 1 := by walk1
  w_top off; exact trivial
section
noncomputable abbrev isz (P : Params) (tk : Tok) (k : Int) (t : Tok) : List DictEntry := [⟨PyData.keyHash P (Str.ofString "_initial_size"), .str (Str.ofString "_initial_size") tk, .int k t⟩]
theorem put_isz {P : Params} {hh : Int} {key v : Value} {tk0 t0 : Tok} {k0 : Int} {n : Nat} : (putL (Str.ofString "_initial_size") hh key v (isz P tk0 k0 t0), putN (Str.ofString "_initial_size") (isz P tk0 k0 t0) n) = ([⟨PyData.keyHash P (Str.ofString "_initial_size"), .str (Str.ofString "_initial_size") tk0, v⟩], n) := rfl
local macro_rules | `(tactic| walk_at "mine enter") => `(tactic| (refine wpAny_call ?_; k_dflt (first | ktr_enter | (refine' code_def ?k1 ?k2 ?k3 ?k4 ?k5 ?kA ?kF ?kK ?k6 ?k7 ?k8 ?k9 ?kB ?_ ?c2 ?c3 ?c4 ?c5; (walk_at "mine c1"); (case k9 => exact binds_K (by k_in) rfl (by k_is) rfl rfl rfl); (case c5 => decide); (case kB => exact locs rfl); (case c2 | c3 | c4 => exact rfl); k_whole; intro g' L' h' FG' F' N' B' X' T'; (try dsimp only); (try k_fold)) | (refine' ks_code_super ?k1 ?k2 ?k3 ?k4 ?k5 ?kA ?kF ?kK ?k6 ?k7 ?k8 ?k9 ?kB ?_ ?c1 ?c2 ?c3 ?c4; (walk_at "mine c1"); (case k9 => exact BindsTo.of_eq rfl); (walk_at "mine c2"); k_whole; intro g' L' h' FG' F' N' B' X' T' lt'; (try dsimp only); (try k_fold)))))
local macro_rules | `(tactic| walk_at "mine mem") => `(tactic| first | (focus ((repeat (first | exact List.mem_cons_self | refine List.mem_cons_of_mem _ ?_)); first | done | assumption | (apply_assumption (exfalso := false); done))) | assumption | (apply_assumption (exfalso := false); done))
local macro_rules | `(tactic| walk_at "mine ne") => `(tactic| first | exact ne_lt (by assumption) (by walk_at "mine mem") | exact ne_allLt (by assumption) (by walk_at "mine mem") | exact ne_allLt2 (by assumption) (by walk_at "mine mem") | exact ne_allLt3 (by assumption) (by walk_at "mine mem") | k_ne)
local macro_rules | `(tactic| walk_at "mine upd") => `(tactic| first | (apply_assumption (exfalso := false); done) | k_upd | (refine' Upd.tail ?a ?b; (walk_at "mine c4")))
local macro_rules | `(tactic| walk_at "getMethod ref") => `(tactic| (k_here; k_dflt (refine' method_acc ?k1 ?k3 ?k4 canon_list_ga ?k5 ?k6 ?k7 ?k8 ?_; (case k1 => k_in); (case k3 => walk_at "mine inst"); (case k4 | k5 | k6 => k_is); (case k7 => first | (exact .inl (by k_is)) | (exact .inr (by k_is))); (case k8 => assumption); k_whole)))
local macro_rules | `(tactic| walk_at "getMethod ref") => `(tactic| (k_here; ks_any; k_dflt (refine' ls_method ?k1 ?k2 ?k3 ?k4 ?k5 ?k6 ?k7 ?k8 ?k9 ?k10 ?_; (case k1 | k2 | k3 => k_asm); (case k4 => walk_at "mine mem"); (case k5 => walk_at "mine inst"); (case k6 => k_is); (case k7 => ks_is); (case k8 => k_is); (case k9 => decide); (case k10 => walk_at "mine bound"); k_whole); intro b' h' F' N' l1'))
local macro_rules | `(tactic| walk_at "call ref") => `(tactic| (k_here; k_dflt (refine' call_len_acc ?k1 ?k2 ?k3 ?k4 ?_; (case k1 => k_asm); (case k2 | k3 => walk_at "mine mem"); (case k4 => assumption); k_whole)))
local macro_rules | `(tactic| walk_at "call ref") => `(tactic| (k_here; k_dflt (refine' call_pop_acc ?k0 ?k1 ?k2 ?k3 ?k4 ?k5 ?k6 ?k7 ?k8 ?k9 ?_; (case k0 | k1 | k2 => k_asm); (case k3 | k4 => walk_at "mine mem"); (case k5 => k_is); (case k6 => rfl); (case k7 => k_is); (case k8 => intro n'; walk_at "mine upd"); (case k9 => first | assumption | omega); k_whole); intro h' n' F' N'; (try k_sweep)))
local macro_rules | `(tactic| walk_at "call ref") => `(tactic| (k_here; k_dflt (refine' part_count_ct ?k1 ?k2 ?k3 ?k4 ?k5 ?k6 ?k7 ?k8 ?k9 ?k10 ?k11 ?_; (case k1 | k2 | k3 | k4 | k5 => k_asm); (case k6 => first | exact rfl | assumption); (case k9 | k10 => walk_at "mine mem"); (case k11 => first | assumption | (simp only [List.length_append, List.length_cons, List.length_nil]; omega)); (case k7 | k8 => exact Nat.le_of_ble_eq_true rfl); k_whole); intro h' tk t F' N'; (try k_sweep)))
local macro_rules | `(tactic| walk_at "subscriptTail") => `(tactic| (k_here; k_dflt (refine' tail_made ?k1 ?k2 ?k3 ?k4 ?k5 ?k6 ?k7 ?k8 ?k9 ?_; (case k1 | k2 | k3 => k_asm); (case k4 | k5 => walk_at "mine mem"); (case k6 => first | assumption | omega); (case k7 | k8 | k9 => k_is); k_whole); intro l' h' tk F' N' l1'; (try k_sweep)))
local macro_rules | `(tactic| walk_at "setItem ref ref") => `(tactic| (k_here; k_dflt (refine' setItem_made ?k1 ?k2 ?k3 ?k4 ?k5 ?k6 ?k7 ?k8 ?k9 ?k10 ?k11 ?k12 ?k13 ?k14 ?k15 ?_; (case k1 | k2 | k3 => k_asm); (case k4 | k5 | k6 => walk_at "mine mem"); (case k7 => first | exact .inl (.int _ _) | exact .inr ⟨rfl, rfl⟩); (case k8 | k9 => first | assumption | omega); (case k10 => first | assumption | (simp only [List.length_nil]; omega)); (case k11 | k12 | k13 => k_is); (case k14 => intro n'; walk_at "mine upd"); (case k15 => first | exact List.append_nil _ | rfl | simp); k_whole); intro h' n' tk F' N'; (try k_sweep)))
local macro_rules | `(tactic| walk_at "setAttr ref") => `(tactic| (k_here; k_dflt (refine' set_acc ?k1 ?k2 ?k3 ?k4 ?k5 ?k6 ?k7 ?k8 ?k9 ?k10 ?k11 ?k12 ?k13 ?k14 ?k15 ?_; (case k1 | k2 | k3 => k_asm); (case k4 | k5 => walk_at "mine mem"); (case k6 | k7 => k_is); (case k8 | k9 => rfl); (case k10 | k12 => k_is); (case k11 => rfl); (case k13 => first | exact put_isz | k_put); (case k14 => walk_at "mine upd"); (case k15 => exact Nat.le_of_ble_eq_true rfl); k_whole); intro h' F' N'; (try k_sweep)))
local macro_rules | `(tactic| walk_at "getAttr ref") => `(tactic| (k_here; k_dflt (refine' get_acc ?k1 ?k2 ?k3 ?k4 ?k5 (findObj_own ?k6 ?k7 ?k8 ?k9) ?k10 ?_; (case k1 => k_in); (case k2 => walk_at "mine inst"); (case k3 | k4 | k5 | k6 | k7 | k8 => k_is); (case k9 => k_get); (case k10 => k_handed); k_whole)))
section
variable {w : World} {p : Program} {loose : List Str} {mean : ExcName → Option Value} {mg mb : Str → Option Value} {dp un : Nat} {gd : Option (List Code)} {cn : Str} {cs : Scope} {a : Addr} {ccd : Value} {cl : List (Str × Addr)} {outer : List Env} {A₀ : Around} {base h₀ : Heap} {L : Addr} {m : Str → Option Value} {news : List (Addr × Obj)} {s : Shared} {Q E : Value → Shared → Prop}
set_option maxHeartbeats 2000000
theorem reset_ct {x dx l : Addr} {its vs : List Value} {n n' n1 : Nat} {tk0 t0 : Tok} {k0 : Int} {news1 : Nat → List (Addr × Obj)} {news2 : Nat → Tok → List (Addr × Obj)}
  (B : Below A₀ base outer h₀) (F : Fr h₀ L s.heap m) (X : (KF w.params).In h₀) (N : News h₀ L s.heap news) (T : Top p loose mean mg mb h₀) (hk : cs.kind = .function)
  (hdp : dp ≤ 890) (hun : un ≤ 4900) (hx : (x, accO 205 dx its n) ∈ news) (hd : (dx, dictOf (isz w.params tk0 k0 t0) n') ∈ news) (hl : (l, listOf vs.toArray n1) ∈ news) (hz : its.length ≤ 1000) (hz2 : vs.length ≤ 1000)
  (U : ∀ n', Upd x (accO 205 dx its n) (accO 205 dx vs n') news (news1 n'))
  (hd1 : ∀ m', (dx, dictOf (isz w.params tk0 k0 t0) n') ∈ news1 m') (hx1 : ∀ m', (x, accO 205 dx vs m') ∈ news1 m')
  (V : ∀ m' t, Upd dx (dictOf (isz w.params tk0 k0 t0) n') (dictOf (isz w.params tk0 0 t) n') (news1 m') (news2 m' t))
  (hret : ∀ h' tk n' t, Fr h₀ L h' m → News h₀ L h' (news2 n' t) → Q .none { s with heap := h', toks := tk }) :
  wpAny (model PySem.Challenge.rw_wc0034_01.row.prog w) (ktrTop dp un gd cn cs L a ccd cl outer) (call (.ref 187) [.ref x, .ref l]) Q E s := by
  refine up hdp hun ?_
  revert X; k_fill; intro X
  walk_at "mine enter"
  k_steps
  exact hret _ _ _ _ (by k_asm) (by k_asm)
end
end
section
variable {prog : Program} {w : World} {A : Around} {E : Value → Shared → Prop} {s : Shared} {C dx x it : Addr} {its : List Value} {n i : Nat}
theorem iternext_acc {v : Value} {Q : Option Value → Shared → Prop} (hit : s.heap.IsListIter it x i) (hx : s.heap.get? x = some (accO C dx its n)) (hv : its[i]? = some v)
    (hQ : ∀ h', h'.IsListIter it x (i + 1) → Heap.SameBut it s.heap h' → Q (some v) { s with heap := h' }) : wpAny (model prog w) A (pyNext (.ref it)) Q E s := by
  obtain ⟨o, ho, hc, hd⟩ := id hit
  have hv' : its.toArray[i]? = some v := by simpa using hv
  unfold pyNext
  refine wpAny_bind (wpAny_attempt (wpAny_callSpecial?_slot (name := Str.ofString "__next__") hit.typeIs slot_listiter_next
    (wpAny_call_entry slot_listiter_next hit.typeIs entry_listiter_next ?_ (args_listiter_next _))))
  show wpAny _ _ (field (.ref it) 0 >>= _) _ _ s
  refine wpAny_bind (wpAny_field ho hd (x := .ref x) rfl ?_)
  refine wpAny_bind (wpAny_field ho hd (x := .int i 0) rfl ?_)
  refine wpAny_bind (wpAny_seqItems hx rfl ?_)
  simp only [Int.toNat_natCast, hv']
  refine wpAny_bind (wpAny_setField ho hd (by simp) (wpAny_pure ⟨v, rfl, wpAny_pure (hQ _ ⟨_, Heap.get?_update_self _ ho (Obj.isFreed_of_fields (Obj.data_mapFields hd _)), (Obj.cls_mapFields ..).trans hc, ?_⟩ (Heap.SameBut.update ..))⟩))
  rw [Obj.data_mapFields hd]
  simp [rawInt]
theorem iterend_acc {Q : Option Value → Shared → Prop} (hh : A.handled = none) (hit : s.heap.IsListIter it x i) (hx : s.heap.get? x = some (accO C dx its n)) (hv : its[i]? = none)
    (hQ : ∀ h', Heap.ExtBut it s.heap h' → Q none { s with heap := h' }) : wpAny (model prog w) A (pyNext (.ref it)) Q E s := by
  obtain ⟨o, ho, hc, hd⟩ := id hit
  have hv' : its.toArray[i]? = none := by simpa using hv
  unfold pyNext
  refine wpAny_bind (wpAny_attempt (wpAny_callSpecial?_slot (name := Str.ofString "__next__") hit.typeIs slot_listiter_next
    (wpAny_call_entry slot_listiter_next hit.typeIs entry_listiter_next ?_ (args_listiter_next _))))
  show wpAny _ _ (field (.ref it) 0 >>= _) _ _ s
  refine wpAny_bind (wpAny_field ho hd (x := .ref x) rfl ?_)
  refine wpAny_bind (wpAny_field ho hd (x := .int i 0) rfl ?_)
  refine wpAny_bind (wpAny_seqItems hx rfl ?_)
  simp only [Int.toNat_natCast, hv']
  refine wpAny_bind (wpAny_rule (wpAny_bind (wpAny_setField ho hd (by simp) ?_)))
  show wpAny _ _ (newExc (.type "StopIteration") [] >>= _) _ _ _
  refine wpAny_bind ?_
  simp only [newExc, newTuple]
  refine wpAny_bind (wpAny_newObj_type ?_ (by size_fits))
  refine wpAny_bind (m := firstArgMember _ _) (wpAny_of_eq (a := Value.none) (by first | rfl | (simp only [firstArgMember]; rfl)) ?_)
  refine wpAny_newObj_type ?_ (by size_fits)
  simp only [raiseNew]
  refine wpAny_bind (wpAny_handled ?_)
  rw [show A.in1.handled = none from hh]
  refine wpAny_bind (wpAny_pure (wpAny_throw ?_))
  refine wpAny_bind (wpAny_isInstance (T := "StopIteration") (b := true) ⟨_, Heap.get?_push_size _ rfl, rfl⟩ isSubtype_stop ?_)
  exact wpAny_pure (hQ _ (((Heap.SameBut.update ..).extBut.push _).push _))
/-- the walk over an accumulator's pairs -/
theorem walksU_acc (hh : A.handled = none) (I : Addr) (hne : x ≠ I) (Ts : Nat → Addr) (vals : Nat → Array Value) (hit : ∀ j, j < its.length → its[j]? = some (.ref (Ts j))) (hTI : ∀ j, j < its.length → Ts j ≠ I) :
    WalksU prog w A I (I :: x :: (List.range its.length).map Ts) [I] its.length (fun j v => v = vals j)
      (fun j h => h.IsListIter I x j ∧ h.get? x = some (accO C dx its n) ∧ ∀ k, k < its.length → h.IsTuple (Ts k) (vals k))
      (fun j T h => (j < its.length ∧ T = Ts j) ∧ h.IsListIter I x (j + 1) ∧ h.get? x = some (accO C dx its n) ∧ ∀ k, k < its.length → h.IsTuple (Ts k) (vals k)) where
  sub := fun b hb => by simp at hb; simp [hb]
  frame := fun _ _ _ st hk => ⟨st.1.at fun o e => hk I (by simp) o e, hk x (by simp) _ st.2.1,
    fun k hk' => (st.2.2 k hk').at fun o e => hk (Ts k) (List.mem_cons_of_mem _ (List.mem_cons_of_mem _ (List.mem_map.mpr ⟨k, List.mem_range.mpr hk', rfl⟩))) o e⟩
  item := fun i s Q E hi st hQ => by
    refine iternext_acc st.1 st.2.1 (hit i hi) fun h' hit' hs' => ?_
    have tup : ∀ k, k < its.length → h'.IsTuple (Ts k) (vals k) := fun k hk' => (st.2.2 k hk').extBut hs'.extBut (hTI k hk')
    exact hQ (Ts i) (vals i) h' s.toks rfl (tup i hi) ⟨⟨hi, rfl⟩, hit', hs'.extBut _ _ hne st.2.1, tup⟩ fun b o hb e => hs'.extBut b o (fun h => hb (by simp [h])) e
  go := fun _ _ _ _ _ s Q _ hm hQ => wpAny_letOwnedTupleGo_listiter hm.2.1 (hQ s.heap hm.2 fun _ _ _ e => e)
  apart := fun j T _ hm hmem => by
    rcases List.mem_cons.mp hmem with e | e
    · exact hTI j hm.1.1 (hm.1.2 ▸ e)
    · cases e
  done := fun s Q E st hQ => iterend_acc hh st.1 st.2.1 (by simp) fun h' he' => hQ h' s.toks fun b o hb e => he' b o (fun h => hb (by simp [h])) e
  self := fun _ _ _ _ st hQ => wpAny_pyIter_listiter st.1 hQ
theorem walksS_shift {I : Addr} {fp wr : List Addr} {G : Array GenState → Array GenState → Prop} {n : Nat} {P : Nat → Value → Prop} {St : Nat → Shared → Prop} (W : WalksS prog w A I fp wr G n P St) :
    WalksS prog w A I fp wr G (n + 1) (fun j v => ∃ i, j = i + 1 ∧ P i v) (fun j s => ∃ i, j = i + 1 ∧ St i s) where
  sub := W.sub
  grefl := W.grefl
  gtrans := W.gtrans
  frame := fun j s h' tk st ht hk => let ⟨i, e, hst⟩ := st; ⟨i, e, W.frame i s h' tk hst ht hk⟩
  item := fun j s Q E hj st hQ => by
    obtain ⟨i, rfl, hst⟩ := st
    exact W.item i s Q E (by omega) hst fun v s' hP hst' hm => hQ v s' ⟨i, rfl, hP⟩ ⟨i + 1, rfl, hst'⟩ hm
  done := fun s Q E st hQ => by
    obtain ⟨i, e, hst⟩ := st
    obtain rfl : n = i := by omega
    exact W.done s Q E hst hQ
  self := fun j s Q E st hQ => by
    obtain ⟨i, rfl, hst⟩ := st
    exact W.self i s Q E hst hQ
noncomputable def shiftV (k : Int) (val : Nat → Int) : Nat → Int
  | 0 => k
  | i + 1 => val i
theorem call_sum2 {y : Value} {k : Int} {tk : Tok} {Q : Value → Shared → Prop}
    (h : wpAny (model prog w) A.in1 (pyIter y) (fun it s₂ => ∃ I fp wr G n P St val, it = .ref I ∧ WalksS prog w A.in1 I fp wr G n P St ∧ St 0 s₂ ∧ (∀ b ∈ fp, b < s₂.heap.objs.size) ∧
      (∀ i v, P i v → NumOf (val i) v) ∧ ∀ s' t', Moved wr G s₂ s' → Q (.int (preSum (shiftV k val) (n + 1)) t') s') E s) :
    wpAny (model prog w) A (call (.builtin "sum") [y, .int k tk]) Q E s := by
  refine call_function_tree F.kind_sum F.plain_sum F.entry_sum (by unfold argsOk; kernel_rfl) ?_
  unfold Builtin.«sum»
  simp only [List.length_cons, List.length_nil]
  rw [if_neg (by decide)]
  refine wpAny_bind (wpAny_of_eq (show Builtin.Builtins.bindParams "sum" ["start"] 0 { pos := [.int k tk] } = pure [some (.int k tk)] from rfl) ?_)
  refine wpAny_bind (wpAny_mono h (fun it s₂ h₂ => ?_) fun _ _ e => e)
  obtain ⟨I, fp, wr, G, n, P, St, val, rfl, W, hst, hfp, hval, hQ⟩ := h₂
  have hSf : s₂.heap.objs.size ∉ fp := fun hm => Nat.lt_irrefl _ (hfp _ hm)
  have e0 : preSum (shiftV k val) 1 = k := by simp [preSum, shiftV]
  dsimp only
  split
  · refine wpAny_bind (wpAny_rule (wpAny_bind (wpAny_mkInt ?_)))
    refine wpAny_bind (wpAny_pure ?_)
    simp only [List.forIn_cons, List.forIn_nil]
    refine wpAny_bind (wpAny_bind (wpAny_bind (wpAny_isInstance (T := "int") (b := false) (typeIs_int _ _ _) PySem.sub_int_str ?_)))
    simp only [Bool.false_eq_true, if_false]
    refine wpAny_pure (wpAny_bind (wpAny_bind (wpAny_isInstance (T := "int") (b := false) (typeIs_int _ _ _) PySem.sub_int_bytes ?_)))
    simp only [Bool.false_eq_true, if_false]
    refine wpAny_pure (wpAny_bind (wpAny_bind (wpAny_isInstance (T := "int") (b := false) (typeIs_int _ _ _) PySem.sub_int_bytearray ?_)))
    simp only [Bool.false_eq_true, if_false]
    refine wpAny_pure (wpAny_pure ?_)
    refine wpAny_bind (wpAny_newObj_type ?_)
    refine wpAny_pure ⟨plainId_quiet F.plain_sum_loop _, codeAny_sum_loopAnyB (walksS_shift W) (shiftV k val) (fun i v hv => by obtain ⟨j, rfl, hp⟩ := hv; exact hval j v hp) s₂.heap.objs.size hSf n 1 _ s₂.toks 0 0 (.inl rfl) (by omega) (by omega)
      ⟨0, rfl, W.frame 0 s₂ _ _ hst (by first | exact Nat.le_refl _ | exact Nat.le_succ _) fun b _ o e => Heap.get?_push_of_some _ e⟩ (by rw [e0]; exact Heap.get?_push_size _ rfl) fun s' t' hm => ?_⟩
    exact hQ s' t' (hm.drop_new (by first | exact Nat.le_refl _ | exact Nat.le_succ _))
  · refine wpAny_bind (wpAny_pure ?_)
    simp only [List.forIn_cons, List.forIn_nil]
    refine wpAny_bind (wpAny_bind (wpAny_bind (wpAny_isInstance (T := "int") (b := false) (typeIs_int _ _ _) PySem.sub_int_str ?_)))
    simp only [Bool.false_eq_true, if_false]
    refine wpAny_pure (wpAny_bind (wpAny_bind (wpAny_isInstance (T := "int") (b := false) (typeIs_int _ _ _) PySem.sub_int_bytes ?_)))
    simp only [Bool.false_eq_true, if_false]
    refine wpAny_pure (wpAny_bind (wpAny_bind (wpAny_isInstance (T := "int") (b := false) (typeIs_int _ _ _) PySem.sub_int_bytearray ?_)))
    simp only [Bool.false_eq_true, if_false]
    refine wpAny_pure (wpAny_pure ?_)
    refine wpAny_bind (wpAny_newObj_type ?_)
    refine wpAny_pure ⟨plainId_quiet F.plain_sum_loop _, codeAny_sum_loopAnyB (walksS_shift W) (shiftV k val) (fun i v hv => by obtain ⟨j, rfl, hp⟩ := hv; exact hval j v hp) s₂.heap.objs.size hSf n 1 _ tk 0 2 (.inr rfl) (by omega) (by omega)
      ⟨0, rfl, W.frame 0 s₂ _ _ hst (by first | exact Nat.le_refl _ | exact Nat.le_succ _) fun b _ o e => Heap.get?_push_of_some _ e⟩ (by rw [e0]; exact Heap.get?_push_size _ rfl) fun s' t' hm => ?_⟩
    exact hQ s' t' (hm.drop_new (by first | exact Nat.le_refl _ | exact Nat.le_succ _))
end
section
variable {prog : Program} {w : World} {A : Around} {E : Value → Shared → Prop} {s : Shared} {h₀ : Heap} {L : Addr} {m mg mb : Str → Option Value} {news news' : List (Addr × Obj)} {K : Frag} {x C D so dx : Addr} {ox : Obj} {od : Option Obj} {name : Str} {its : List Value} {n : Nat}
theorem pyIter_acc {Q : Value → Shared → Prop} (X : K.In s.heap) (I : InstAt s.heap x ox C od) (hs : findIn K (.ref C) "__iter__" = some (some (.builtin "list.__iter__"))) (hm : mroIn K C (.type "list") = some true)
    (h : Q (.ref s.heap.objs.size) { s with heap := s.heap.push { cls := .type "list_iterator", data := .fields #[.ref x, .int 0 0] } }) : wpAny (model prog w) A (pyIter (.ref x)) Q E s := by
  obtain ⟨hp, g, d, t, os⟩ := s
  have L0 := I.type (M := model prog w)
  have L1 := looks_findIn (M := model prog w) X hs
  have call_it : ∀ {Q' : Value → Shared → Prop} {E' : Value → Shared → Prop} {A' : Around}, Q' (.ref hp.objs.size) ⟨hp.push { cls := .type "list_iterator", data := .fields #[.ref x, .int 0 0] }, g, d, t, os⟩ → wpAny (model prog w) A' (call (.builtin "list.__iter__") [.ref x]) Q' E' ⟨hp, g, d, t, os⟩ := fun hq => by
    refine sub_entry slot_list_iter.plain entry_list_iter (.inl (by decide +kernel)) (n := "__iter__") (by decide +kernel) X I hm (args_list_iter _) ?_
    show wpAny _ _ (do ret (← newFields "list_iterator" [.ref x, rawInt 0])) _ _ _
    exact wpAny_bind (wpAny_newObj_type (wpAny_pure ⟨_, rfl, hq⟩))
  unfold pyIter specialOf
  refine wpAny_bind (wpAny_bind (L0.at (L1.at ?_)))
  dsimp only
  unfold callSpecialIfBoundUnlessNone?
  have hb := slot_list_iter.bind (.ref x)
  have hT : (⟨hp.push { cls := .type "list_iterator", data := .fields #[.ref x, .int 0 0] }, g, d, t, os⟩ : Shared).TypeIs (.ref hp.objs.size) "list_iterator" := ⟨_, Heap.get?_push_size _ rfl, rfl⟩
  have tail : ∀ {E' : Value → Shared → Prop} {A' : Around}, wpAny (model prog w) A' (call (.builtin "list.__iter__") [.ref x]) (fun v s' => v = .ref hp.objs.size ∧ s' = ⟨hp.push { cls := .type "list_iterator", data := .fields #[.ref x, .int 0 0] }, g, d, t, os⟩) E' ⟨hp, g, d, t, os⟩ := call_it ⟨rfl, rfl⟩
  refine wpAny_bind (wpAny_holding ?_)
  unfold bindSpecialIfBound? specialOf
  refine wpAny_bind (wpAny_bind (wpAny_bind (L0.at (L1.at ?_))))
  dsimp only
  refine wpAny_bind (wpAny_askSetting (wpAny_ite ?_))
  have hT' : (⟨hp.push { cls := .type "list_iterator", data := .fields #[.ref x, .int 0 0] }, g, d, t, os⟩ : Shared).TypeIs (.ref hp.objs.size) "list_iterator" := hT
  split
  · refine wpAny_bind ?_
    rw [hb]
    refine wpAny_pure (wpAny_pure ?_)
    dsimp only
    rw [if_neg (by decide)]
    refine wpAny_bind (wpAny_mono tail (fun v s' hv => ?_) fun _ _ z => z)
    obtain ⟨rfl, rfl⟩ := hv
    refine wpAny_pure ?_
    dsimp only
    refine wpAny_bind (wpAny_bind (wpAny_typeOf hT' (wpAny_of_eq slot_listiter_next.lookup ?_)))
    exact wpAny_pure h
  · refine wpAny_tryCatch ?_
    refine wpAny_bind ?_
    rw [hb]
    refine wpAny_pure (wpAny_pure ?_)
    dsimp only
    rw [if_neg (by decide)]
    refine wpAny_bind (wpAny_mono tail (fun v s' hv => ?_) fun _ _ z => z)
    obtain ⟨rfl, rfl⟩ := hv
    refine wpAny_pure ?_
    dsimp only
    refine wpAny_bind (wpAny_bind (wpAny_typeOf hT' (wpAny_of_eq slot_listiter_next.lookup ?_)))
    exact wpAny_pure h
theorem code_grow {M : Model} {env : Env} {c P : Addr} {ps : Array Value} {pos : Pos} {qualname : Str} {scope : Scope} {Q : Value → Shared → Prop} (hc : env.code = .ref c) (hok : s.heap.IsCode c P ps) (htab : s.heap.TableAt c P ps)
    (hQ : ∀ code h' tk more, Heap.ExtBut P s.heap h' → h'.IsCode c P (ps ++ more) → h'.TableAt c P (ps ++ more) → Q code { s with heap := h', toks := tk }) : wpAny M A (genexprCode env pos qualname scope) Q E s := by
  cases hf : codeAmong pos ps.toList with
  | some cv =>
    refine wpAny_genexprCode_hit hc hok hf ?_
    have := hQ cv s.heap s.toks #[] (Heap.ExtBut.refl _ _) (by simpa using hok) (by simpa using htab)
    exact this
  | none => exact wpAny_genexprCodeX hc hok htab hf fun c' h' tk h1 _ _ h2 _ h3 _ => hQ _ h' tk _ h1 h2 h3
end
section
variable {prog : Program} {w : World} {A : Around} {E : Value → Shared → Prop} {s : Shared} {h₀ : Heap} {L : Addr} {m mg mb : Str → Option Value} {mean : ExcName → Option Value} {p : Program} {loose : List Str} {news : List (Addr × Obj)} {K : Frag} {x C dx : Addr} {n : Nat}
theorem walksS_mono {I : Addr} {fp wr : List Addr} {G : Array GenState → Array GenState → Prop} {n n' : Nat} {P P' : Nat → Value → Prop} {St : Nat → Shared → Prop} (W : WalksS prog w A I fp wr G n P St) (hn : n = n') (h : ∀ i v, P i v → P' i v) :
    WalksS prog w A I fp wr G n' P' St where
  sub := W.sub
  grefl := W.grefl
  gtrans := W.gtrans
  frame := W.frame
  item := fun j s Q E hj st hQ => W.item j s Q E (hn ▸ hj) st fun v s' hP => hQ v s' (h _ _ hP)
  done := fun s Q E st hQ => W.done s Q E (hn ▸ st) hQ
  self := W.self
theorem passing_all (n : Nat) : passing (fun _ => true) n 0 = List.range n := by simp [passing]
theorem gen_acc {qual : Str} {scope0 : Scope} {f c P : Addr} {elt : Expr} {xa xb slf : Str} {pa pb pt psf : Pos} {kt : Nat} {scope : Scope} {pos : Pos} {tvs : List (Addr × Value × Value)} {ps : Array Value} {Fv : Nat → Value → Prop} {o : Obj} {bm : Addr} {ob : Obj} {Q : Value → Shared → Prop}
    (hh : A.handled = none) (hroom : A.depth < recursionLimit) (F : Fr h₀ L s.heap m) (X₀ : K.In h₀) (N : News h₀ L s.heap news) (hg : h₀.Ns mainGlobals mg) (hbn : h₀.Ns builtinsNs mb) (hlim : h₀.NoLimit)
    (hbm : mg "__builtins__" = some (.ref bm)) (hbm1 : bm ≠ builtinsNs) (hbm2 : h₀.get? bm = some ob) (hbm3 : ob.cls = .type "module") (hbm4 : ob.dict = some builtinsNs) (hbm5 : ob.data = .plain)
    (hx : (x, accO C dx (tvs.map fun t => Value.ref t.1) n) ∈ news) (hd : (dx, o) ∈ news) (ht : ∀ t ∈ tvs, (t.1, tupO [t.2.1, t.2.2]) ∈ news)
    (hs : findIn K (.ref C) "__iter__" = some (some (.builtin "list.__iter__"))) (hm : mroIn K C (.type "list") = some true)
    (hms : m slf = some (.ref x)) (hk0 : scope0.kind = .function) (hsl : (envOf qual scope0 L f (.ref c)).kindOf slf = some .local) (hsd : (slf == ("__debug__" : Str)) = false)
    (hP : (P, X.tableObj ps) ∈ news) (hok : s.heap.IsCode c P ps) (htb : s.heap.TableAt c P ps)
    (hco : scope.isCoroutine = false) (hclos : closureFor scope (envOf qual scope0 L f (.ref c)) = pure []) (hcell : ∀ y ∈ scope.names, y.2 ≠ .cell) (h0 : scope.names.lookup (".0" : Str) = some NameKind.local) (hxa : scope.names.lookup xa = some .local) (hxb : scope.names.lookup xb = some .local) (hab : xa ≠ xb) (hkind : scope.kind = .function)
    (hfold : ∀ x, genFold (.Name slf psf) (envOf qual scope0 L f (.ref c)) x = pure x)
    (helt : ∀ (A' : Around) E' i (t : Addr × Value × Value) (s₂ : Shared) m₂ C' code, A'.handled = none → tvs[i]? = some t → s₂.heap.Ns C' m₂ → m₂ xa = some t.2.1 → m₂ xb = some t.2.2 → s₂.heap.Ns mainGlobals mg → s₂.heap.Ns builtinsNs mb → (∀ b o, b ≠ P → s.heap.get? b = some o → s₂.heap.get? b = some o) →
      wpAny (model prog w) A' (eval elt (genEnv scope [] C' code builtinsNs (envOf qual scope0 L f (.ref c)))) (fun y s₃ => Fv i y ∧ Keeps s₂ s₃) E' s₂)
    (hQ : ∀ a s₅ more fp' wr' G' St gs, (∀ b o, b ≠ P → s.heap.get? b = some o → s₅.heap.get? b = some o) → s₅.heap.get? P = some (X.tableObj (ps ++ more)) → s₅.heap.TableAt c P (ps ++ more) → TriplesOk (ps ++ more).toList →
      s₅.gens = s.gens.push gs → gs.bare = true → G' = GenOnlyQ s.gens.size → s₅.os = s.os → s₅.drawn = s.drawn →
      WalksS prog w A.in4 a fp' wr' G' tvs.length Fv St → (∀ i s₆, St i s₆ → s₆.TypeIs (.ref a) "generator") → a ∈ fp' → St 0 s₅ → (∀ b ∈ fp', b < s₅.heap.objs.size) → (∀ b ∈ wr', s.heap.get? b = none ∧ b ≠ P) → Q (.ref a) s₅) :
    wpAny (model prog w) A (eval (.GeneratorExp elt [⟨.Tuple [.Name xa pa, .Name xb pb] kt pt, .Name slf psf, [], 0⟩] scope pos) (envOf qual scope0 L f (.ref c))) Q E s := by
  obtain ⟨hp, g, d, tk, os⟩ := s
  have X := X₀.keeps F.keep
  have hxx := (N _ hx).1
  have hPP := (N _ hP).1
  have I := inst_acc N hx hd
  have hxP : x ≠ P := by
    rintro rfl
    rw [hPP] at hxx; cases hxx
  refine wpAny_GeneratorExp_walksQT hh hco hclos hcell h0 hxa hxb hab hkind hroom ?_ hfold
  refine wpAny_Name (wpAny_loadName_local hk0 hsl F.ns hms ?_) hsd
  refine pyIter_acc X I hs hm ⟨(hlim.keeps F.keep).push _, ?_⟩
  have k1 : ∀ b o, hp.get? b = some o → (hp.push ({ cls := .type "list_iterator", data := .fields #[.ref x, .int 0 0] } : Obj)).get? b = some o := fun b o e => Heap.get?_push_of_some _ e
  refine code_grow rfl (hok.push _) (htb.push _) fun code h' tk' more he hok' htb' => ?_
  have hPI : P ≠ hp.objs.size := Nat.ne_of_lt (Heap.lt_size hPP)
  have k2 : ∀ b o, b ≠ P → hp.get? b = some o → h'.get? b = some o := fun b o hb e => he b o hb (k1 b o e)
  have hgm : ∀ a, a ≠ P → ∀ mm, hp.Ns a mm → h'.Ns a mm := fun a ha mm hn => hn.at' fun o e => k2 a o ha e
  have hP0 : h₀.get? P = none := (N _ hP).2.2
  have hglP : mainGlobals ≠ P := fun e => by
    obtain ⟨_, _, _, e1, _⟩ := hg
    rw [e, hP0] at e1; cases e1
  have hbnP : builtinsNs ≠ P := fun e => by
    obtain ⟨_, _, _, e1, _⟩ := hbn
    rw [e, hP0] at e1; cases e1
  have hbmP : bm ≠ P := fun e => by rw [e, hP0] at hbm2; cases hbm2
  refine wpAny_builtinsFor (m := mg) (hgm _ hglP _ (hg.keeps F.keep)) hbm hbm1 (k2 _ _ hbmP (F.keep _ _ hbm2)) hbm3 hbm4 hbm5 ?_
  let Ts : Nat → Addr := fun j => (tvs[j]?.map fun t => t.1).getD 0
  let vals : Nat → Array Value := fun j => (tvs[j]?.map fun t => (#[t.2.1, t.2.2] : Array Value)).getD #[.none, .none]
  have hlen : (tvs.map fun t => Value.ref t.1).length = tvs.length := by simp
  have at' : ∀ j, j < tvs.length → ∃ t, tvs[j]? = some t ∧ t ∈ tvs := fun j hj => ⟨tvs[j], by simp [hj], List.getElem_mem hj⟩
  have hTs : ∀ j, j < tvs.length → hp.get? (Ts j) = some (tupO [(vals j).toList[0]?.getD .none, (vals j).toList[1]?.getD .none]) ∧ hp.IsTuple (Ts j) (vals j) := fun j hj => by
    obtain ⟨t, e, hmm⟩ := at' j hj
    have q := (N _ (ht t hmm)).1
    simp only [Ts, vals, e, Option.map_some, Option.getD_some]
    exact ⟨q, ⟨_, q, rfl, _, rfl⟩⟩
  have hTlt : ∀ j, j < tvs.length → Ts j < hp.objs.size := fun j hj => Heap.lt_size (hTs j hj).1
  have hTP : ∀ j, j < tvs.length → Ts j ≠ P := fun j hj e => by
    have q := (hTs j hj).1
    rw [e, hPP] at q; cases q
  have hit : ∀ j, j < (tvs.map fun t => Value.ref t.1).length → (tvs.map fun t => Value.ref t.1)[j]? = some (.ref (Ts j)) := fun j hj => by
    obtain ⟨t, e, _⟩ := at' j (hlen ▸ hj)
    simp [Ts, e]
  have hxI : x ≠ hp.objs.size := Nat.ne_of_lt (Heap.lt_size hxx)
  have W := fun (A' : Around) (hA : A'.handled = none) => (walksU_acc (prog := prog) (w := w) (C := C) (dx := dx) (n := n) hA hp.objs.size hxI Ts vals hit (fun j hj => Nat.ne_of_lt (hTlt j (hlen ▸ hj)))).bound
  have hI' : h'.get? hp.objs.size = some { cls := .type "list_iterator", data := .fields #[.ref x, .int 0 0] } := he _ _ (Ne.symm hPI) (Heap.get?_push_size _ rfl)
  have hsz' : hp.objs.size < h'.objs.size := Heap.lt_size hI'
  refine ⟨hp.objs.size, _, _, _, _, _, _, fun _ => true, Fv, rfl, W, ?_, ?_, ?_, ?_, ?_, ?_, ?_⟩
  · rintro i v ⟨hi, rfl⟩
    obtain ⟨t, et, _⟩ := at' i (hlen ▸ hi)
    exact ⟨t.2.1, t.2.2, by simp [vals, et]⟩
  · exact ⟨⟨_, hI', rfl, rfl⟩, k2 _ _ hxP hxx, fun k hk => (hTs k (hlen ▸ hk)).2.at fun o e => k2 _ _ (hTP k (hlen ▸ hk)) e⟩
  · intro b hb
    show b < h'.objs.size
    rcases List.mem_cons.mp hb with rfl | hb
    · exact hsz'
    · rcases List.mem_cons.mp hb with rfl | hb
      · exact Heap.lt_size (k2 _ _ hxP hxx)
      · obtain ⟨k, hk, rfl⟩ := List.mem_map.mp hb
        exact Heap.lt_size (k2 _ _ (hTP k (hlen ▸ List.mem_range.mp hk)) (hTs k (hlen ▸ List.mem_range.mp hk)).1)
  · exact hlim.keeps fun b o e => k2 b o (by rintro rfl; rw [hP0] at e; cases e) (F.keep b o e)
  · intro hb
    obtain ⟨_, hn, _⟩ := hlim.keeps F.keep
    exact absurd (List.mem_singleton.mp hb ▸ hn.lt) (Nat.lt_irrefl _)
  · intro href hhref
    have up : ∀ (s₂ : Shared), (∀ b ∈ List.range h'.objs.size, b ∉ [hp.objs.size] → ∀ o, href.get? b = some o → s₂.heap.get? b = some o) → ∀ b o, b ≠ P → hp.get? b = some o → s₂.heap.get? b = some o := fun s₂ hk b o hb e =>
      hk b (List.mem_range.mpr (Heap.lt_size (k2 b o hb e))) (fun hm => Nat.lt_irrefl _ (List.mem_singleton.mp hm ▸ Heap.lt_size e)) o (hhref b o (k2 b o hb e))
    refine ⟨fun A' E' i va vb s₂ m₂ hA hPt hn hma hmb hk => ?_, fun A' E' i va vb s₂ m₂ hA hPt hpz hn hma hmb hk => ?_⟩
    · exact wpAny_pure ⟨rfl, _, _, rfl, fun _ _ e => e⟩
    · obtain ⟨hi, e⟩ := hPt
      obtain ⟨t, et, _⟩ := at' i (hlen ▸ hi)
      simp only [vals, et, Option.map_some, Option.getD_some] at e
      obtain ⟨rfl, rfl⟩ : va = t.2.1 ∧ vb = t.2.2 := by simpa using congrArg Array.toList e
      exact helt A' E' i t s₂ m₂ _ code hA et hn hma hmb ((hg.keeps F.keep).at' fun o e => up s₂ hk _ o hglP e) ((hbn.keeps F.keep).at' fun o e => up s₂ hk _ o hbnP e) (up s₂ hk)
  · intro a h₅ tk₅ gs hbare ha hsz5 hk5 W5 st5
    refine hQ a _ more _ _ _ _ gs (fun b o hb e => hk5 b o (k2 b o hb e)) (hk5 _ _ htb'.2) (htb'.keeps hk5) ?_ rfl hbare rfl rfl rfl (walksS_mono W5 (by rw [passing_all]; simp) fun i v hv => ?_) (fun i s₆ st => ?_) (List.mem_cons_self ..) st5 ?_ ?_
    · obtain ⟨_, _, _, _, _, _, _, _, _, _, _, _, _, _, _, _, _, e1, e2, htr, _⟩ := hok'
      rw [htb'.2] at e1
      cases e1
      cases e2
      exact htr
    · obtain ⟨j, hj, hF⟩ := hv
      rw [passing_all] at hj
      have : j = i := by
        rw [List.getElem?_range] at hj
        · cases hj; rfl
        · exact (List.getElem?_eq_some_iff.mp hj).1 |> fun q => by simpa using q
      exact this ▸ hF
    · obtain ⟨⟨o6, _, _, e6, c6, _⟩, _⟩ := st
      exact ⟨_, e6, c6⟩
    · intro b hb
      show b < h₅.objs.size
      rw [hsz5]
      rcases List.mem_cons.mp hb with rfl | hb
      · exact Nat.lt_succ_self _
      · rcases List.mem_cons.mp hb with rfl | hb
        · exact Nat.lt_succ_of_lt ha
        · exact Nat.lt_succ_of_lt (Nat.lt_trans (List.mem_range.mp hb) ha)
    · intro b hb
      have big : hp.objs.size ≤ b := by
        rcases List.mem_cons.mp hb with rfl | hb
        · exact Nat.le_of_lt hsz'
        · rw [List.mem_singleton.mp hb]; exact Nat.le_refl _
      refine ⟨?_, fun e => ?_⟩
      · show hp.get? b = none
        cases q : hp.get? b with
        | none => rfl
        | some o => exact absurd (Heap.lt_size q) (Nat.not_lt_of_le big)
      · exact absurd (Heap.lt_size hPP) (Nat.not_lt_of_le (e ▸ big))
end
local macro_rules | `(tactic| walk_at "mine ne") => `(tactic| first | exact ne_lt (by assumption) (by walk_at "mine mem") | exact ne_allLt (by assumption) (by walk_at "mine mem") | exact ne_allLt2 (by assumption) (by walk_at "mine mem") | exact ne_allLt3 (by assumption) (by walk_at "mine mem") | k_ne)
local macro_rules | `(tactic| walk_at "call ref") => `(tactic| (k_here; k_dflt (refine' call_len_acc ?k1 ?k2 ?k3 ?k4 ?_; (case k1 => k_asm); (case k2 | k3 => walk_at "mine mem"); (case k4 => assumption); k_whole)))
local macro_rules | `(tactic| walk_at "call ref") => `(tactic| (k_here; k_dflt (refine' call_pop_acc ?k0 ?k1 ?k2 ?k3 ?k4 ?k5 ?k6 ?k7 ?k8 ?k9 ?_; (case k0 | k1 | k2 => k_asm); (case k3 | k4 => walk_at "mine mem"); (case k5 => k_is); (case k6 => rfl); (case k7 => k_is); (case k8 => intro n'; walk_at "mine upd"); (case k9 => first | assumption | omega); k_whole); intro h' n' F' N'; (try k_sweep)))
local macro_rules | `(tactic| walk_at "call ref") => `(tactic| (k_here; k_dflt (refine' part_count_ct ?k1 ?k2 ?k3 ?k4 ?k5 ?k6 ?k7 ?k8 ?k9 ?k10 ?k11 ?_; (case k1 | k2 | k3 | k4 | k5 => k_asm); (case k6 => first | exact rfl | assumption); (case k9 | k10 => walk_at "mine mem"); (case k11 => first | assumption | (simp only [List.length_append, List.length_cons, List.length_nil]; omega)); (case k7 | k8 => exact Nat.le_of_ble_eq_true rfl); k_whole); intro h' tk t F' N'; (try k_sweep)))
local macro_rules | `(tactic| walk_at "subscriptTail") => `(tactic| (k_here; k_dflt (refine' tail_made ?k1 ?k2 ?k3 ?k4 ?k5 ?k6 ?k7 ?k8 ?k9 ?_; (case k1 | k2 | k3 => k_asm); (case k4 | k5 => walk_at "mine mem"); (case k6 => first | assumption | omega); (case k7 | k8 | k9 => k_is); k_whole); intro l' h' tk F' N' l1'; (try k_sweep)))
local macro_rules | `(tactic| walk_at "setItem ref ref") => `(tactic| (k_here; k_dflt (refine' setItem_made ?k1 ?k2 ?k3 ?k4 ?k5 ?k6 ?k7 ?k8 ?k9 ?k10 ?k11 ?k12 ?k13 ?k14 ?k15 ?_; (case k1 | k2 | k3 => k_asm); (case k4 | k5 | k6 => walk_at "mine mem"); (case k7 => first | exact .inl (.int _ _) | exact .inr ⟨rfl, rfl⟩); (case k8 | k9 => first | assumption | omega); (case k10 => first | assumption | (simp only [List.length_nil]; omega)); (case k11 | k12 | k13 => k_is); (case k14 => intro n'; walk_at "mine upd"); (case k15 => first | exact List.append_nil _ | rfl | simp); k_whole); intro h' n' tk F' N'; (try k_sweep)))
local macro_rules | `(tactic| walk_at "setAttr ref") => `(tactic| (k_here; k_dflt (refine' set_acc ?k1 ?k2 ?k3 ?k4 ?k5 ?k6 ?k7 ?k8 ?k9 ?k10 ?k11 ?k12 ?k13 ?k14 ?k15 ?_; (case k1 | k2 | k3 => k_asm); (case k4 | k5 => walk_at "mine mem"); (case k6 | k7 => k_is); (case k8 | k9 => rfl); (case k10 | k12 => k_is); (case k11 => rfl); (case k13 => first | exact put_isz | k_put); (case k14 => walk_at "mine upd"); (case k15 => exact Nat.le_of_ble_eq_true rfl); k_whole); intro h' F' N'; (try k_sweep)))
theorem rs_L13 : True := by
  have h : (1 : Nat) = 1 := by walk1
  w_top off; exact trivial
section
local macro_rules | `(tactic| walk_at "mine enter") => `(tactic| (refine wpAny_call ?_; k_dflt (first | ktr_enter | (refine' code_def ?k1 ?k2 ?k3 ?k4 ?k5 ?kA ?kF ?kK ?k6 ?k7 ?k8 ?k9 ?kB ?_ ?c2 ?c3 ?c4 ?c5; (walk_at "mine c1"); (case k9 => exact binds_K (by k_in) rfl (by k_is) rfl rfl rfl); (case c5 => decide); (case kB => exact locs rfl); (case c2 | c3 | c4 => exact rfl); k_whole; intro g' L' h' FG' F' N' B' X' T'; (try dsimp only); (try k_fold)) | (refine' ks_code_super ?k1 ?k2 ?k3 ?k4 ?k5 ?kA ?kF ?kK ?k6 ?k7 ?k8 ?k9 ?kB ?_ ?c1 ?c2 ?c3 ?c4; (walk_at "mine c1"); (case k9 => exact BindsTo.of_eq rfl); (walk_at "mine c2"); k_whole; intro g' L' h' FG' F' N' B' X' T' lt'; (try dsimp only); (try k_fold)))))
local macro_rules | `(tactic| walk_at "mine upd") => `(tactic| first | (apply_assumption (exfalso := false); done) | k_upd | (refine' Upd.tail ?a ?b; (walk_at "mine c4")))
local macro_rules | `(tactic| walk_at "getAttr ref") => `(tactic| (k_here; k_dflt (refine' get_acc ?k1 ?k2 ?k3 ?k4 ?k5 (findObj_own ?k6 ?k7 ?k8 ?k9) ?k10 ?_; (case k1 => k_in); (case k2 => walk_at "mine inst"); (case k3 | k4 | k5 | k6 | k7 | k8 => k_is); (case k9 => k_get); (case k10 => k_handed); k_whole)))
section
variable {w : World} {p : Program} {loose : List Str} {mean : ExcName → Option Value} {mg mb : Str → Option Value} {dp un : Nat} {gd : Option (List Code)} {cn : Str} {cs : Scope} {a : Addr} {ccd : Value} {cl : List (Str × Addr)} {outer : List Env} {A₀ : Around} {base h₀ : Heap} {L : Addr} {m : Str → Option Value} {news : List (Addr × Obj)} {s : Shared} {Q E : Value → Shared → Prop}
set_option maxHeartbeats 2000000
theorem len_of {prog : Program} {A : Around} {cenv : Env} {v : Str} {t : Tok} {nm : Str} {p1 p2 p3 : Pos} {m₂ mg mb : Str → Option Value} {Q : Value → Shared → Prop} (hk : cenv.scope.kind = .function) (hl : cenv.kindOf (Str.ofString "len") = some .globalImplicit) (hn : cenv.kindOf nm = some .local) (hnd : (nm == ("__debug__" : Str)) = false)
    (hN : s.heap.Ns cenv.locals m₂) (hv : m₂ nm = some (.str v t)) (hg : s.heap.Ns cenv.globals mg) (hb : s.heap.Ns cenv.builtins mb) (hmiss : mg (Str.ofString "len") = none) (hlen : mb (Str.ofString "len") = some (.builtin "len")) (hz : v.length ≤ 1000000)
    (h : ∀ t', Q (.int v.length t') { s with toks := s.toks + 1 + 1 }) : wpAny (model prog w) A (eval (.Call (.Name (Str.ofString "len") p1) [.Name nm p2] [] p3) cenv) Q E s := by
  refine Call_Name rfl (Name_function_global hk hl (loadGlobal_builtin hg hmiss hb hlen ?_))
  refine callWith_builtin1 (spliced_cons (wpAny_Name (wpAny_loadName_local hk hn hN hv (spliced_nil ?_)) hnd))
  exact len_str (by omega) (h _)
theorem len_elt {prog : Program} {A : Around} {cenv : Env} {v1 v2 : Str} {t1 t2 : Tok} {n1 n2 : Str} {p1 p2 p3 p4 p5 p6 p7 : Pos} {m₂ mg mb : Str → Option Value} (hk : cenv.scope.kind = .function) (hl : cenv.kindOf (Str.ofString "len") = some .globalImplicit) (hn1 : cenv.kindOf n1 = some .local) (hn2 : cenv.kindOf n2 = some .local) (hd1 : (n1 == ("__debug__" : Str)) = false) (hd2 : (n2 == ("__debug__" : Str)) = false)
    (hN : s.heap.Ns cenv.locals m₂) (hv1 : m₂ n1 = some (.str v1 t1)) (hv2 : m₂ n2 = some (.str v2 t2)) (hg : s.heap.Ns cenv.globals mg) (hb : s.heap.Ns cenv.builtins mb) (hmiss : mg (Str.ofString "len") = none) (hlen : mb (Str.ofString "len") = some (.builtin "len")) (hz1 : v1.length ≤ 1000000) (hz2 : v2.length ≤ 1000000) :
    wpAny (model prog w) A (eval (.BinOp (.Call (.Name (Str.ofString "len") p1) [.Name n1 p2] [] p3) .Add (.Call (.Name (Str.ofString "len") p4) [.Name n2 p5] [] p6) p7) cenv) (fun y s₃ => (∃ t, y = .int (v1.length + v2.length : Nat) t) ∧ Keeps s s₃) E s := by
  refine wpAny_BinOp (len_of hk hl hn1 hd1 hN hv1 hg hb hmiss hlen hz1 fun t' => ?_)
  refine len_of (s := { s with toks := s.toks + 1 + 1 }) hk hl hn2 hd2 hN hv2 hg hb hmiss hlen hz2 fun t'' => ?_
  refine wpAny_add_int ⟨⟨_, by rw [Int.natCast_add]⟩, _, _, rfl, fun _ _ e => e⟩
noncomputable def sumLen (l : List (Str × Str)) : Nat := l.foldr (fun p a => p.1.length + p.2.length + a) 0
end
end
theorem rs_L14 : True := by
  have h : (1 : Nat) = 1 := by walk1
  w_top off; exact trivial
section
section
theorem get_acc_own {prog : Program} {w : World} {A : Around} {E : Value → Shared → Prop} {s : Shared} {K : Frag} {x C : Addr} {ox : Obj} {name : Str} {es : List DictEntry} {n : Nat} {attr : Option Value} {v : Value} {Q : Value → Shared → Prop} {expr : Bool} (X : K.In s.heap) (I : InstAt s.heap x ox C (some (dictOf es n))) (hga : findIn K (.ref C) "__getattribute__" = some (some (.builtin "list.__getattribute__"))) (hgt : findIn K (.ref C) "__getattr__" = some none)
    (hsub : mroIn K C (.type "list") = some true) (hh : hasDictIn K C = true) (ha : findIn K (.ref C) name = some attr) (hn : noGet K attr = true) (hl : getL name es = some (some v)) (hv : handedIn v = true) (h : Q v { s with toks := s.toks + 1 }) : wpAny (model prog w) A (getAttr (.ref x) name expr) Q E s :=
  get_acc X I hga hgt hsub (findObj_own hh ha hn hl) hv h
end
set_option hygiene false
local macro_rules | `(tactic| walk_at "mine enter") => `(tactic| (refine wpAny_call ?_; k_dflt (first | (refine' code_def ?k1 ?k2 ?k3 ?k4 ?k5 ?kA ?kF ?kK ?k6 ?k7 ?k8 ?k9 ?kB ?_ ?c2 ?c3 ?c4 ?c5; (walk_at "mine c1"); (case k9 => first | exact BindsTo.of_eq rfl | exact binds_K (by k_in) rfl (by k_is) rfl rfl rfl); (case c5 => decide); (case kB => exact locs rfl); (case c2 | c3 | c4 => exact rfl); k_whole; intro g' L' h' FG' F' N' B' X' T'; (try dsimp only); (try k_fold)) | (refine' ks_code_super ?k1 ?k2 ?k3 ?k4 ?k5 ?kA ?kF ?kK ?k6 ?k7 ?k8 ?k9 ?kB ?_ ?c1 ?c2 ?c3 ?c4; (walk_at "mine c1"); (case k9 => exact BindsTo.of_eq rfl); (walk_at "mine c2"); k_whole; intro g' L' h' FG' F' N' B' X' T' lt'; (try dsimp only); (try k_fold)))))
local macro_rules | `(tactic| walk_at "mine upd") => `(tactic| first | (apply_assumption (exfalso := false); done) | k_upd | (refine' Upd.tail ?a ?b; (walk_at "mine c4")))
local macro_rules | `(tactic| walk_at "getMethod ref") => `(tactic| (k_here; k_dflt (refine' method_acc ?k1 ?k3 ?k4 canon_list_ga ?k5 ?k6 ?k7 ?k8 ?_; (case k1 => k_in); (case k3 => walk_at "mine inst"); (case k4 | k5 | k6 => k_is); (case k7 => first | (exact .inl (by k_is)) | (exact .inr (by k_is))); (case k8 => assumption); k_whole)))
local macro_rules | `(tactic| walk_at "getMethod ref") => `(tactic| (k_here; ks_any; k_dflt (refine' ls_method ?k1 ?k2 ?k3 ?k4 ?k5 ?k6 ?k7 ?k8 ?k9 ?k10 ?_; (case k1 | k2 | k3 => k_asm); (case k4 => walk_at "mine mem"); (case k5 => walk_at "mine inst"); (case k6 => k_is); (case k7 => ks_is); (case k8 => k_is); (case k9 => decide); (case k10 => walk_at "mine bound"); k_whole); intro b' h' F' N' l1'))
local macro_rules | `(tactic| walk_at "getAttr ref") => `(tactic| (k_here; k_dflt (refine' get_acc_own ?k1 ?k2 ?k3 ?k4 ?k5 ?k6 ?k7 ?k8 ?k9 ?k10 ?_; (case k1 => k_in); (case k2 => walk_at "mine inst"); (case k3 | k4 | k5 | k6 | k7 | k8 => k_is); (case k9 => k_get); (case k10 => k_handed); k_whole)))
section
variable {w : World} {p : Program} {loose : List Str} {mean : ExcName → Option Value} {mg mb : Str → Option Value} {dp un : Nat} {gd : Option (List Code)} {cn : Str} {cs : Scope} {a : Addr} {ccd : Value} {cl : List (Str × Addr)} {outer : List Env} {A₀ : Around} {base h₀ : Heap} {L : Addr} {m : Str → Option Value} {news : List (Addr × Obj)} {s : Shared} {Q E : Value → Shared → Prop}
set_option maxHeartbeats 2000000
noncomputable abbrev Part := Addr × (Str × Tok) × (Str × Tok)
noncomputable abbrev pv (q : Part) : Addr × Value × Value := (q.1, .str q.2.1.1 q.2.1.2, .str q.2.2.1 q.2.2.2)
noncomputable abbrev pref (q : Part) : Value := .ref q.1
noncomputable abbrev pO (q : Part) : Obj := tupO [.str q.2.1.1 q.2.1.2, .str q.2.2.1 q.2.2.2]
noncomputable def partsLen (l : List Part) : Nat := (l.map fun q => q.2.1.1.length + q.2.2.1.length).sum
noncomputable def lenAt (l : List Part) (i : Nat) : Int := ((l[i]?.map fun q => q.2.1.1.length + q.2.2.1.length).getD 0 : Nat)
theorem preSum_parts (k : Int) (l : List Part) : preSum (shiftV k (lenAt l)) (l.length + 1) = k + partsLen l := by
  have key : ∀ j, j ≤ l.length → preSum (shiftV k (lenAt l)) (j + 1) = k + (partsLen (l.take j) : Nat) := by
    intro j
    induction j with
    | zero => intro _; simp [preSum, shiftV, partsLen]
    | succ j ih =>
      intro hj
      rw [preSum, ih (by omega)]
      have hlt : j < l.length := by omega
      simp only [shiftV, lenAt, List.getElem?_eq_getElem hlt, Option.map_some, Option.getD_some, partsLen]
      rw [List.take_succ_eq_append_getElem hlt, List.map_append, List.sum_append]
      simp
      omega
  rw [key l.length (Nat.le_refl _), List.take_length]
theorem fr_but {P : Addr} {h h' : Heap} (F : Fr h₀ L h m) (hP : h₀.get? P = none) (hne : P ≠ L) (k : ∀ b o, b ≠ P → h.get? b = some o → h'.get? b = some o) : Fr h₀ L h' m := by
  obtain ⟨oL, es, ep, hL, r⟩ := F.ns
  exact ⟨⟨oL, es, ep, k _ _ hne.symm hL, r⟩, fun b o e => k b o (by rintro rfl; rw [hP] at e; cases e) (F.keep b o e), F.above⟩
theorem news_but {P : Addr} {h h' : Heap} {o o' : Obj} {news' : List (Addr × Obj)} (N : News h₀ L h news) (U : Upd P o o' news news') (k : ∀ b o, b ≠ P → h.get? b = some o → h'.get? b = some o) (e : h'.get? P = some o') : News h₀ L h' news' := by
  obtain ⟨pre, post, rfl, rfl, a, b⟩ := U.split
  intro p hp
  rcases List.mem_append.mp hp with hp | hp
  · have z := N p (List.mem_append.mpr (.inl hp))
    exact ⟨k _ _ (a p hp) z.1, z.2⟩
  · rcases List.mem_cons.mp hp with rfl | hp
    · exact ⟨e, (N (P, o) (List.mem_append.mpr (.inr (.head _)))).2⟩
    · have z := N p (List.mem_append.mpr (.inr (.tail _ hp)))
      exact ⟨k _ _ (b p hp) z.1, z.2⟩
theorem upd_mem {P : Addr} {o o' : Obj} {l l' : List (Addr × Obj)} (U : Upd P o o' l l') {q : Addr × Obj} (hq : q ∈ l) (hne : q.1 ≠ P) : q ∈ l' := by
  obtain ⟨pre, post, rfl, rfl, _, _⟩ := U.split
  rcases List.mem_append.mp hq with h | h
  · exact List.mem_append.mpr (.inl h)
  · rcases List.mem_cons.mp h with rfl | h
    · exact absurd rfl hne
    · exact List.mem_append.mpr (.inr (.tail _ h))
theorem upd_key {P : Addr} {o o' : Obj} {l l' : List (Addr × Obj)} (U : Upd P o o' l l') {q : Addr × Obj} (hq : q ∈ l') : ∃ r ∈ l, r.1 = q.1 := by
  obtain ⟨pre, post, rfl, rfl, _, _⟩ := U.split
  rcases List.mem_append.mp hq with h | h
  · exact ⟨q, List.mem_append.mpr (.inl h), rfl⟩
  · rcases List.mem_cons.mp h with rfl | h
    · exact ⟨(P, o), List.mem_append.mpr (.inr (.head _)), rfl⟩
    · exact ⟨q, List.mem_append.mpr (.inr (.tail _ h)), rfl⟩
theorem fr_moved {wr : List Addr} {h h' : Heap} (F : Fr h₀ L h m) (hL : L ∉ wr) (hb : ∀ b ∈ wr, h₀.get? b = none) (k : ∀ b o, b ∉ wr → h.get? b = some o → h'.get? b = some o) : Fr h₀ L h' m := by
  obtain ⟨oL, es, ep, hL', r⟩ := F.ns
  exact ⟨⟨oL, es, ep, k _ _ hL hL', r⟩, fun b o e => k b o (fun hm => by rw [hb b hm] at e; cases e) (F.keep b o e), F.above⟩
theorem news_moved {wr : List Addr} {h h' : Heap} (N : News h₀ L h news) (hn : ∀ p ∈ news, p.1 ∉ wr) (k : ∀ b o, b ∉ wr → h.get? b = some o → h'.get? b = some o) : News h₀ L h' news := fun p hp => ⟨k _ _ (hn p hp) (N p hp).1, (N p hp).2⟩
theorem len_ct {x dx : Addr} {l : List Part} {n n' : Nat} {tk0 t0 : Tok} {k0 : Int} {ps : Array Value} {news' : Array Value → List (Addr × Obj)}
  (B : Below A₀ base outer h₀) (F : Fr h₀ L s.heap m) (X : (KF w.params).In h₀) (N : News h₀ L s.heap news) (T : Top p loose mean mg mb h₀) (hk : cs.kind = .function)
  (hdp : dp ≤ 890) (hun : un ≤ 4900) (hx : (x, accO 205 dx (l.map pref) n) ∈ news) (hd : (dx, dictOf (isz w.params tk0 k0 t0) n') ∈ news) (ht : ∀ q ∈ l, (q.1, pO q) ∈ news) (hz : ∀ q ∈ l, q.2.1.1.length ≤ 1000 ∧ q.2.2.1.length ≤ 1000)
  (hP : (167, PySem.W.X.tableObj ps) ∈ news) (htr : TriplesOk ps.toList) (hgb : AllBare s.gens)
  (U : ∀ more, Upd 167 (PySem.W.X.tableObj ps) (PySem.W.X.tableObj (ps ++ more)) news (news' more))
  (hret : ∀ h' g' tk t more, Fr h₀ L h' m → News h₀ L h' (news' more) → TriplesOk (ps ++ more).toList → AllBare g' → Q (.int (k0 + partsLen l) t) ⟨h', g', s.drawn, tk, s.os⟩) :
  wpAny (model PySem.Challenge.rw_wc0034_01.row.prog w) (ktrTop dp un gd cn cs L a ccd cl outer) (call (.ref 172) [.ref x]) Q E s := by
  refine up hdp hun ?_
  revert X; k_fill; intro X
  walk_at "mine enter"
  iterate 6 (walk_at "mine step")
  have htb : ∀ hp : Heap, (∀ b o, h₀.get? b = some o → hp.get? b = some o) → hp.get? 167 = some (PySem.W.X.tableObj ps) → hp.IsCode 171 167 ps ∧ hp.TableAt 171 167 ps := fun hp k e => by
    have e1 : hp.get? 171 = some (o171C58 w.params) := k _ _ (X _ _ (by kernel_rfl))
    exact ⟨⟨_, _, _, _, _, _, _, _, _, _, e1, rfl, rfl, rfl, rfl, rfl, rfl, e, rfl, htr, by decide⟩, ⟨_, _, e1, rfl, rfl, rfl⟩, e⟩
  have kk : ∀ b o, h₀.get? b = some o → h'.get? b = some o := fun b o e => F'.keep b o (FG'.keep b o e)
  have q := htb h' kk (N' _ hP).1
  obtain ⟨bm, ob, b1, b2, b3, b4, b5, b6⟩ := T'.bmain
  refine gen_acc (K := KF w.params) (tvs := l.map pv) (mg := mg) (mb := mb) (Fv := fun i y => ∃ t, y = .int (lenAt l i) t) (o := dictOf (isz w.params tk0 k0 t0) n') (n := n) (x := x) (C := 205) (dx := dx) rfl (by show 890 + 1 < 1000; decide) F' X' N' T'.g T'.b T'.nolimit b1 b2 b3 b4 b5 b6 ?_ hd ?_ ?_ ?_ rfl rfl rfl (by decide) hP q.1 q.2 rfl rfl (by decide) rfl rfl rfl (by decide) rfl (fun _ => rfl) ?_ ?_
  · rw [List.map_map]; exact hx
  · intro t hq
    obtain ⟨q, hq', rfl⟩ := List.mem_map.mp hq
    exact ht q hq'
  · k_is
  · k_is
  · intro A' E' i t s₂ m₂ C' code hA hi hN ha hb hg hbn _
    obtain ⟨q, hq, rfl⟩ : ∃ q, l[i]? = some q ∧ pv q = t := by
      rw [List.getElem?_map] at hi
      exact Option.map_eq_some_iff.mp hi
    have hm := hz q (List.mem_of_getElem? hq)
    refine wpAny_mono (len_elt rfl rfl rfl rfl (by decide) (by decide) hN ha hb hg hbn (mg_none_of X' T'.g (by k_is)) ((T'.builtins _ (by decide)).trans (by boot_by_name)) (by omega) (by omega)) (fun y s₃ hy => ?_) fun _ _ z => z
    obtain ⟨⟨t', rfl⟩, hk3⟩ := hy
    exact ⟨⟨t', by simp [lenAt, hq]⟩, hk3⟩
  · intro a s₅ more fp' wr' G' St gs hkeep hP5 htab5 htr5 hgens hbare hG hos hdr W hTg hIg st0 hfp hwr
    have F5 := fr_but F' (N' _ hP).2.2 (N' _ hP).2.1 hkeep
    have N5 := news_but N' (U more) hkeep hP5
    have hx5 := upd_mem (U more) hx (by intro e; have q1 := (N' _ hx).1; rw [e, (N' _ hP).1] at q1; cases q1)
    have hd5 := upd_mem (U more) hd (by intro e; have q1 := (N' _ hd).1; rw [e, (N' _ hP).1] at q1; cases q1)
    have hwL : L' ∉ wr' := fun hb => by
      obtain ⟨oL, es, ep, hL', r⟩ := F'.ns
      have := (hwr _ hb).1
      rw [hL'] at this; cases this
    have hw0 : ∀ b ∈ wr', g'.get? b = none := fun b hb => by
      cases q0 : g'.get? b with
      | none => rfl
      | some o => have := (hwr _ hb).1; rw [F'.keep _ _ q0] at this; cases this
    have hwN : ∀ p ∈ news' more, p.1 ∉ wr' := fun p hp hb => by
      obtain ⟨r, hr, e⟩ := upd_key (U more) hp
      have := (hwr _ hb).1
      rw [← e, (N' r hr).1] at this; cases this
    clear F' N' hx hd
    k_steps
    have W1 := WalksS.in4_1 W
    have st1 : St 0 { s₅ with toks := s₅.toks + 1 } := W.frame 0 s₅ s₅.heap (s₅.toks + 1) st0 (Nat.le_succ _) fun _ _ _ e => e
    refine call_sum2 (W1.self 0 _ _ _ st1 ⟨a, fp', wr', G', _, _, St, lenAt l, rfl, W1, st1, hfp, fun i v hv => .inl hv, fun s' t' hm => ?_⟩)
    rw [List.length_map, preSum_parts]
    have F6 := fr_moved F5 hwL hw0 hm.heap
    have N6 := news_moved N5 hwN hm.heap
    have hg6 : AllBare s'.gens := by
      have z := hm.gens
      rw [hG] at z
      refine GenOnlyQ.bare z fun y hy => ?_
      rw [hgens] at hy
      rcases Array.mem_push.mp hy with hy | rfl
      · exact hgb y hy
      · exact hbare
    have hd6 := hm.drawn.trans hdr
    have ho6 := hm.os.trans hos
    obtain ⟨h6, g6, d6, t6, o6⟩ := s'
    dsimp only at F6 N6 hg6 hd6 ho6
    subst hd6 ho6
    clear F5 N5
    k_steps
    exact hret _ _ _ _ more (by k_asm) (by k_asm) htr5 hg6
end
end
local macro_rules | `(tactic| walk_at "mine enter") => `(tactic| (refine wpAny_call ?_; k_dflt (first | (refine' code_def ?k1 ?k2 ?k3 ?k4 ?k5 ?kA ?kF ?kK ?k6 ?k7 ?k8 ?k9 ?kB ?_ ?c2 ?c3 ?c4 ?c5; (walk_at "mine c1"); (case k9 => first | exact BindsTo.of_eq rfl | exact binds_K (by k_in) rfl (by k_is) rfl rfl rfl); (case c5 => decide); (case kB => exact locs rfl); (case c2 | c3 | c4 => exact rfl); k_whole; intro g' L' h' FG' F' N' B' X' T'; (try dsimp only); (try k_fold)) | (refine' ks_code_super ?k1 ?k2 ?k3 ?k4 ?k5 ?kA ?kF ?kK ?k6 ?k7 ?k8 ?k9 ?kB ?_ ?c1 ?c2 ?c3 ?c4; (walk_at "mine c1"); (case k9 => exact BindsTo.of_eq rfl); (walk_at "mine c2"); k_whole; intro g' L' h' FG' F' N' B' X' T' lt'; (try dsimp only); (try k_fold)))))
local macro_rules | `(tactic| walk_at "getAttr ref") => `(tactic| (k_here; k_dflt (refine' get_acc_own ?k1 ?k2 ?k3 ?k4 ?k5 ?k6 ?k7 ?k8 ?k9 ?k10 ?_; (case k1 => k_in); (case k2 => walk_at "mine inst"); (case k3 | k4 | k5 | k6 | k7 | k8 => k_is); (case k9 => k_get); (case k10 => k_handed); k_whole)))
theorem rs_L15 : True := by
  have h : (1 : Nat) = 1 := by walk1
  w_top off; exact trivial
section
local macro_rules | `(tactic| walk_at "mine upd") => `(tactic| first | (apply_assumption (exfalso := false); done) | k_upd | (refine' Upd.tail ?a ?b; (walk_at "mine c4")))
section
variable {w : World} {p : Program} {loose : List Str} {mean : ExcName → Option Value} {mg mb : Str → Option Value} {dp un : Nat} {gd : Option (List Code)} {cn : Str} {cs : Scope} {a : Addr} {ccd : Value} {cl : List (Str × Addr)} {outer : List Env} {A₀ : Around} {base h₀ : Heap} {L : Addr} {m : Str → Option Value} {news : List (Addr × Obj)} {s : Shared} {Q E : Value → Shared → Prop}
set_option maxHeartbeats 2000000
theorem join_elt {prog : Program} {A : Around} {cenv : Env} {v1 v2 : Str} {t1 t2 te : Tok} {n1 n2 : Str} {p0 p1 p2 pt pa pp : Pos} {kt : Nat} {pl : Sem Bool} {m₂ mg : Str → Option Value} (hk : cenv.scope.kind = .function) (hl : cenv.kindOf (Str.ofString "EMPTYSTRING") = some .globalImplicit) (hn1 : cenv.kindOf n1 = some .local) (hn2 : cenv.kindOf n2 = some .local) (hd1 : (n1 == ("__debug__" : Str)) = false) (hd2 : (n2 == ("__debug__" : Str)) = false)
    (hN : s.heap.Ns cenv.locals m₂) (hv1 : m₂ n1 = some (.str v1 t1)) (hv2 : m₂ n2 = some (.str v2 t2)) (hg : s.heap.Ns cenv.globals mg) (he : mg (Str.ofString "EMPTYSTRING") = some (.str (Str.ofString "") te)) (hz1 : v1.length ≤ 1000) (hz2 : v2.length ≤ 1000)
    (hev : eval (.Call (.Attribute (.Name (Str.ofString "EMPTYSTRING") p0) (Str.ofString "join") pa) [.Tuple [.Name n1 p1, .Name n2 p2] kt pt] [] pp) cenv = (do
      let ov ← eval (.Name (Str.ofString "EMPTYSTRING") p0) cenv
      standAt pa.atName
      let (f, first) ← holding [ov] (getMethod ov (Str.ofString "join") pl)
      callWith pp f first (backTo pp (starEach [.Tuple [.Name n1 p1, .Name n2 p2] kt pt] cenv)) [])) :
    wpAny (model prog w) A (eval (.Call (.Attribute (.Name (Str.ofString "EMPTYSTRING") p0) (Str.ofString "join") pa) [.Tuple [.Name n1 p1, .Name n2 p2] kt pt] [] pp) cenv) (fun y s₃ => (∃ t, y = .str (Txt.join (Str.ofString "") [v1, v2]) t) ∧ Keeps s s₃) E s := by
  refine MethodCall_ (Name_function_global hk hl (loadGlobal_global hg he ?_)) hev
  refine GM.join ?_
  refine callWith_builtin rfl (evalArgs_plain (spliced_cons (Tuple_ (k := kt) (spliced_cons (wpAny_Name (wpAny_loadName_local hk hn1 hN hv1 (spliced_cons (wpAny_Name (wpAny_loadName_local hk hn2 hN hv2 (spliced_nil ?_)) hd2))) hd1)))))
  refine wpAny_newTuple ?_ (by show 2 ≤ sizeLine; rw [sizeLine_eq]; omega)
  refine spliced_nil ?_
  have hk2 : ∀ b o, s.heap.get? b = some o → (s.heap.push ({ cls := .type "tuple", data := .seq #[.str v1 t1, .str v2 t2] } : Obj)).get? b = some o := fun b o e => Heap.get?_push_of_some _ e
  have e0 : (Str.ofString "").length = 0 := by decide
  have hfit : (([v1, v2] : List Str).map (·.length)).sum + ([v1, v2] : List Str).length * (Str.ofString "").length ≤ 16777216 := by
    rw [e0]
    simp only [List.map_cons, List.map_nil, List.sum_cons, List.sum_nil]
    omega
  refine join_tuple (items := #[.str v1 t1, .str v2 t2]) (ys := [v1, v2]) ⟨_, Heap.get?_push_size _ rfl, rfl, 0, rfl⟩ (.cons _ _ (.cons _ _ .nil)) hfit fun t' k => ⟨⟨_, rfl⟩, _, _, rfl, hk2⟩
end
end
theorem rs_L16 : True := by
  have h : (1 : Nat) = 1 := by walk1
  w_top off; exact trivial
section
local macro_rules | `(tactic| walk_at "mine upd") => `(tactic| first | (apply_assumption (exfalso := false); done) | k_upd | (refine' Upd.tail ?a ?b; (walk_at "mine c4")))
section
variable {w : World} {p : Program} {loose : List Str} {mean : ExcName → Option Value} {mg mb : Str → Option Value} {dp un : Nat} {gd : Option (List Code)} {cn : Str} {cs : Scope} {a : Addr} {ccd : Value} {cl : List (Str × Addr)} {outer : List Env} {A₀ : Around} {base h₀ : Heap} {L : Addr} {m : Str → Option Value} {news : List (Addr × Obj)} {s : Shared} {Q E : Value → Shared → Prop}
set_option maxHeartbeats 2000000
noncomputable def partText (q : Part) : Str := Txt.join (Str.ofString "") [q.2.1.1, q.2.2.1]
noncomputable def txtAt (l : List Part) (i : Nat) : Str := (l[i]?.map partText).getD (Str.ofString "")
noncomputable def partsText (l : List Part) : Str := Txt.join (Str.ofString "") (l.map partText)
theorem partText_le (q : Part) (h : q.2.1.1.length ≤ 1000 ∧ q.2.2.1.length ≤ 1000) : (partText q).length ≤ 2000 := by
  have e0 : (Str.ofString "").length = 0 := by decide
  have z := StrLaws.join_length_le (Str.ofString "") [q.2.1.1, q.2.2.1]
  rw [e0] at z
  simp only [List.map_cons, List.map_nil, List.sum_cons, List.sum_nil, Nat.mul_zero] at z
  have : (partText q).length = (Txt.join (Str.ofString "") [q.2.1.1, q.2.2.1]).length := rfl
  have z' : (Txt.join (Str.ofString "") [q.2.1.1, q.2.2.1]).length ≤ q.2.1.1.length + (q.2.2.1.length + 0) + 0 := z
  omega
theorem texts_ok (l : List Part) (hz : ∀ q ∈ l, q.2.1.1.length ≤ 1000 ∧ q.2.2.1.length ≤ 1000) (hl : l.length ≤ 1000) : JoinOk (Str.ofString "") (l.map partText) = true := by
  have e0 : (Str.ofString "").length = 0 := by decide
  refine joinOk_of ?_
  rw [e0, Nat.mul_zero, List.map_map]
  have : ∀ l : List Part, (∀ q ∈ l, q.2.1.1.length ≤ 1000 ∧ q.2.2.1.length ≤ 1000) → (l.map ((fun x => x.length) ∘ partText)).sum ≤ 2000 * l.length := by
    intro l
    induction l with
    | nil => intro _; simp
    | cons q r ih =>
      intro h
      have h1 := partText_le q (h q (List.mem_cons_self ..))
      have h2 := ih fun q hq => h q (List.mem_cons_of_mem _ hq)
      rw [List.map_cons, List.sum_cons, List.length_cons]
      have h3 : ((fun x => x.length) ∘ partText) q = (partText q).length := rfl
      rw [h3]
      omega
  have := this l hz
  omega
theorem texts_eq {l : List Part} {lv : List (Str × Tok)} {k : Nat} (h : ItemsOf (fun i y => ∃ t, y = Value.str (txtAt l i) t) (strValues lv).toArray k) (hk : k = l.length) : lv.map (·.1) = l.map partText := by
  have hlen : lv.length = l.length := by have := h.1; rw [hk] at this; simpa [strValues] using this
  refine List.ext_getElem (by simp [hlen]) fun j h1 h2 => ?_
  have hj : j < lv.length := by simpa using h1
  have hj2 : j < l.length := by omega
  obtain ⟨t, e⟩ := h.2 j (.str lv[j].1 lv[j].2) (by simp [strValues, hj])
  injection e with e1 _
  simp only [List.getElem_map]
  rw [e1]
  simp [txtAt, hj2]
theorem str_ct {x dx : Addr} {l : List Part} {n n' : Nat} {tk0 t0 : Tok} {k0 : Int} {ps : Array Value} {news' : Array Value → List (Addr × Obj)}
  (B : Below A₀ base outer h₀) (F : Fr h₀ L s.heap m) (X : (KF w.params).In h₀) (N : News h₀ L s.heap news) (T : Top p loose mean mg mb h₀) (hk : cs.kind = .function)
  (hdp : dp ≤ 890) (hun : un ≤ 4900) (hx : (x, accO 205 dx (l.map pref) n) ∈ news) (hd : (dx, dictOf (isz w.params tk0 k0 t0) n') ∈ news) (ht : ∀ q ∈ l, (q.1, pO q) ∈ news) (hz : ∀ q ∈ l, q.2.1.1.length ≤ 1000 ∧ q.2.2.1.length ≤ 1000)
  (hP : (174, PySem.W.X.tableObj ps) ∈ news) (htr : TriplesOk ps.toList) (hgb : AllBare s.gens) (hl : l.length ≤ 1000)
  (U : ∀ more, Upd 174 (PySem.W.X.tableObj ps) (PySem.W.X.tableObj (ps ++ more)) news (news' more))
  (hret : ∀ h' g' tk t more, Fr h₀ L h' m → News h₀ L h' (news' more) → TriplesOk (ps ++ more).toList → AllBare g' → Q (.str (partsText l) t) ⟨h', g', s.drawn, tk, s.os⟩) :
  wpAny (model PySem.Challenge.rw_wc0034_01.row.prog w) (ktrTop dp un gd cn cs L a ccd cl outer) (call (.ref 179) [.ref x]) Q E s := by
  refine up hdp hun ?_
  revert X; k_fill; intro X
  walk_at "mine enter"
  iterate 7 (walk_at "mine step")
  have htb : ∀ hp : Heap, (∀ b o, h₀.get? b = some o → hp.get? b = some o) → hp.get? 174 = some (PySem.W.X.tableObj ps) → hp.IsCode 178 174 ps ∧ hp.TableAt 178 174 ps := fun hp k e => by
    have e1 : hp.get? 178 = some (o178C58 w.params) := k _ _ (X _ _ (by kernel_rfl))
    exact ⟨⟨_, _, _, _, _, _, _, _, _, _, e1, rfl, rfl, rfl, rfl, rfl, rfl, e, rfl, htr, by decide⟩, ⟨_, _, e1, rfl, rfl, rfl⟩, e⟩
  have kk : ∀ b o, h₀.get? b = some o → h'.get? b = some o := fun b o e => F'.keep b o (FG'.keep b o e)
  have q := htb h' kk (N' _ hP).1
  obtain ⟨bm, ob, b1, b2, b3, b4, b5, b6⟩ := T'.bmain
  refine gen_acc (K := KF w.params) (tvs := l.map pv) (mg := mg) (mb := mb) (Fv := fun i y => ∃ t, y = .str (txtAt l i) t) (o := dictOf (isz w.params tk0 k0 t0) n') (n := n) (x := x) (C := 205) (dx := dx) rfl (by show 890 + 1 < 1000; decide) F' X' N' T'.g T'.b T'.nolimit b1 b2 b3 b4 b5 b6 ?_ hd ?_ ?_ ?_ rfl rfl rfl (by decide) hP q.1 q.2 rfl rfl (by decide) rfl rfl rfl (by decide) rfl (fun _ => rfl) ?_ ?_
  · rw [List.map_map]; exact hx
  · intro t hq
    obtain ⟨q, hq', rfl⟩ := List.mem_map.mp hq
    exact ht q hq'
  · k_is
  · k_is
  · intro A' E' i t s₂ m₂ C' code hA hi hN ha hb hg hbn _
    obtain ⟨q, hq, rfl⟩ : ∃ q, l[i]? = some q ∧ pv q = t := by
      rw [List.getElem?_map] at hi
      exact Option.map_eq_some_iff.mp hi
    have hm := hz q (List.mem_of_getElem? hq)
    refine wpAny_mono (join_elt rfl rfl rfl rfl (by decide) (by decide) hN ha hb hg (mg_of X' T'.g (by k_is)) hm.1 hm.2 rfl) (fun y s₃ hy => ?_) fun _ _ z => z
    obtain ⟨⟨t', rfl⟩, hk3⟩ := hy
    exact ⟨⟨t', by simp [txtAt, hq, partText]⟩, hk3⟩
  · intro a s₅ more fp' wr' G' St gs hkeep hP5 htab5 htr5 hgens hbare hG hos hdr W hTg hIg st0 hfp hwr
    have F5 := fr_but F' (N' _ hP).2.2 (N' _ hP).2.1 hkeep
    have N5 := news_but N' (U more) hkeep hP5
    have hx5 := upd_mem (U more) hx (by intro e; have q1 := (N' _ hx).1; rw [e, (N' _ hP).1] at q1; cases q1)
    have hd5 := upd_mem (U more) hd (by intro e; have q1 := (N' _ hd).1; rw [e, (N' _ hP).1] at q1; cases q1)
    have hwL : L' ∉ wr' := fun hb => by
      obtain ⟨oL, es, ep, hL', r⟩ := F'.ns
      have := (hwr _ hb).1
      rw [hL'] at this; cases this
    have hw0 : ∀ b ∈ wr', g'.get? b = none := fun b hb => by
      cases q0 : g'.get? b with
      | none => rfl
      | some o => have := (hwr _ hb).1; rw [F'.keep _ _ q0] at this; cases this
    have hwN : ∀ p ∈ news' more, p.1 ∉ wr' := fun p hp hb => by
      obtain ⟨r, hr, e⟩ := upd_key (U more) hp
      have := (hwr _ hb).1
      rw [← e, (N' r hr).1] at this; cases this
    clear F' N' hx hd
    k_steps
    refine SC.joinGen (WalksS.in4_2 W) hTg st0 hfp hIg (fun i v hv => let ⟨t, e⟩ := hv; ⟨_, t, e⟩) (fun s' lv hm hacc => ?_) (by rw [List.length_map, sizeLine_eq]; omega)
    have etx := texts_eq hacc (by rw [List.length_map])
    rw [etx]
    refine ⟨texts_ok l hz hl, fun t' k => ?_⟩
    have F6 := fr_moved F5 hwL hw0 hm.heap
    have N6 := news_moved N5 hwN hm.heap
    have hg6 : AllBare s'.gens := by
      have z := hm.gens
      rw [hG] at z
      refine GenOnlyQ.bare z fun y hy => ?_
      rw [hgens] at hy
      rcases Array.mem_push.mp hy with hy | rfl
      · exact hgb y hy
      · exact hbare
    have hd6 := hm.drawn.trans hdr
    have ho6 := hm.os.trans hos
    obtain ⟨h6, g6, d6, t6, o6⟩ := s'
    dsimp only at F6 N6 hg6 hd6 ho6
    subst hd6 ho6
    clear F5 N5
    k_steps
    exact hret _ _ _ _ more (by k_asm) (by k_asm) htr5 hg6
end
end
local macro_rules | `(tactic| walk_at "mine upds") => `(tactic| first | exact U1 | exact U2 _ | exact U1 _ | exact U2 _ _ | (intro more'; walk_at "mine upd"))
local macro_rules | `(tactic| walk_at "call ref") => `(tactic| (k_here; k_dflt (refine' str_ct ?k1 ?k2 ?k3 ?k4 ?k5 ?k6 ?k7 ?k8 ?k9 ?k10 ?k11 ?k12 ?k13 ?k14 ?k15 ?k16 ?k17 ?_; (walk_at "mine c0"); (case k9 | k10 => walk_at "mine mem"); (case k11 | k12 => assumption); (case k13 => walk_at "mine mem"); (case k14 | k15 | k16 => assumption); (case k17 => walk_at "mine upds"); k_whole); intro h' g' tk t more F' N' htr' hgb'; (try k_sweep)))
theorem rs_L17 : True := by
  have h : (1 : Nat) = 1 := by walk1
  w_top off; exact trivial
section
local macro_rules | `(tactic| walk_at "mine upd") => `(tactic| first | (apply_assumption (exfalso := false); done) | k_upd | (refine' Upd.tail ?a ?b; (walk_at "mine c4")))
section
variable {prog : Program} {w : World} {A : Around} {E : Value → Shared → Prop} {s : Shared} {K : Frag} {x C L f : Addr} {h₀ : Heap} {m : Str → Option Value} {ox : Obj} {od : Option Obj}
open Builtin in
theorem truthy_len {Q : Bool → Shared → Prop} (F : Fr h₀ L s.heap m) (X₀ : K.In h₀) (I : InstAt s.heap x ox C od) (hb : findIn K (.ref C) "__bool__" = some none) (hs : findIn K (.ref C) "__len__" = some (some (.ref f))) (hf : isFn K (.ref f) = true)
    (h : wpAny (model prog w) A.in1 (call (.ref f) [.ref x]) (PySem.W.LenBack (fun v s' => match v with | .int n _ => Q (n != 0) s' | _ => False)) E s) : wpAny (model prog w) A (truthy (.ref x)) Q E s := by
  have X := X₀.keeps F.keep
  unfold truthy
  refine wpAny_bind (m := callSpecial? (.ref x) (Str.ofString "__bool__")) (wpAny_bind (wpAny_bind (I.type.here ((looks_findIn X hb).here (wpAny_pure ?_)))))
  refine wpAny_bind (wpAny_bind (I.type.here ((looks_findIn X hs).here ?_)))
  rw [if_neg (by simp)]
  refine wpAny_bind (wpAny_runValue (codeAny_builtin entry_len ?_))
  rw [Around.under_plainId plain_len]
  unfold Builtin.«len»
  refine wpAny_bind (m := oneArg "len" _) (wpAny_pure ?_)
  refine wpAny_bind (m := callSpecial? (.ref x) (Str.ofString "__len__")) (special_fn X I hs (beq_iff_eq.mp hf) (wpAny_mono h (fun r s' hr => ?_) fun _ _ y => y))
  cases r <;> first | exact hr.elim | skip
  rename_i n u
  obtain ⟨⟨h0, h1⟩, hq⟩ := hr
  refine wpAny_bind (wpAny_holding (wpAny_pure ?_))
  refine wpAny_bind (wpAny_letGo ?_)
  show wpAny _ _ (if n < 0 then _ else _) _ _ _
  rw [if_neg (by omega)]
  show wpAny _ _ (if n ≥ 2 ^ 63 then _ else _) _ _ _
  rw [if_neg (by omega)]
  refine wpAny_bind (wpAny_mkInt (wpAny_pure ?_))
  exact wpAny_pure hq
end
section
variable {w : World} {p : Program} {loose : List Str} {mean : ExcName → Option Value} {mg mb : Str → Option Value} {dp un : Nat} {gd : Option (List Code)} {cn : Str} {cs : Scope} {a : Addr} {ccd : Value} {cl : List (Str × Addr)} {outer : List Env} {A₀ : Around} {base h₀ : Heap} {L : Addr} {m : Str → Option Value} {news : List (Addr × Obj)} {s : Shared} {Q E : Value → Shared → Prop}
set_option maxHeartbeats 2000000
theorem partsLen_le {l : List Part} (hz : ∀ q ∈ l, q.2.1.1.length ≤ 1000 ∧ q.2.2.1.length ≤ 1000) (hl : l.length ≤ 1000) : partsLen l ≤ 2000000 := by
  have : ∀ l : List Part, (∀ q ∈ l, q.2.1.1.length ≤ 1000 ∧ q.2.2.1.length ≤ 1000) → partsLen l ≤ 2000 * l.length := by
    intro l
    induction l with
    | nil => intro _; simp [partsLen]
    | cons q r ih =>
      intro h
      have h1 := h q (List.mem_cons_self ..)
      have h2 := ih fun q hq => h q (List.mem_cons_of_mem _ hq)
      simp only [partsLen, List.map_cons, List.sum_cons, List.length_cons] at h2 ⊢
      omega
  have := this l hz
  omega
theorem is_onlyws_ct {x dx : Addr} {l : List Part} {n n' : Nat} {tk0 t0 : Tok} {ps1 ps2 : Array Value} {news1 : Array Value → List (Addr × Obj)} {news2 : Array Value → Array Value → List (Addr × Obj)}
  (B : Below A₀ base outer h₀) (F : Fr h₀ L s.heap m) (X : (KF w.params).In h₀) (N : News h₀ L s.heap news) (T : Top p loose mean mg mb h₀) (hk : cs.kind = .function)
  (hdp : dp ≤ 880) (hun : un ≤ 4800) (hx : (x, accO 205 dx (l.map pref) n) ∈ news) (hd : (dx, dictOf (isz w.params tk0 0 t0) n') ∈ news) (ht : ∀ q ∈ l, (q.1, pO q) ∈ news) (hz : ∀ q ∈ l, q.2.1.1.length ≤ 1000 ∧ q.2.2.1.length ≤ 1000)
  (hP1 : (167, PySem.W.X.tableObj ps1) ∈ news) (htr1 : TriplesOk ps1.toList) (hP2 : (174, PySem.W.X.tableObj ps2) ∈ news) (htr2 : TriplesOk ps2.toList)
  (hgb : AllBare s.gens) (hl : l.length ≤ 1000) (hpos : 0 < partsLen l) (hns : Txt.isspace (partsText l) = false)
  (U1 : ∀ more, Upd 167 (PySem.W.X.tableObj ps1) (PySem.W.X.tableObj (ps1 ++ more)) news (news1 more))
  (U2 : ∀ more more2, Upd 174 (PySem.W.X.tableObj ps2) (PySem.W.X.tableObj (ps2 ++ more2)) (news1 more) (news2 more more2))
  (hret : ∀ h' g' tk more more2, Fr h₀ L h' m → News h₀ L h' (news2 more more2) → TriplesOk (ps1 ++ more).toList → TriplesOk (ps2 ++ more2).toList → AllBare g' → Q (.bool false) ⟨h', g', s.drawn, tk, s.os⟩) :
  wpAny (model PySem.Challenge.rw_wc0034_01.row.prog w) (ktrTop dp un gd cn cs L a ccd cl outer) (call (.ref 194) [.ref x]) Q E s := by
  refine up hdp hun ?_
  revert X; k_fill; intro X
  walk_at "mine enter"
  k_steps
  refine truthy_len (K := KF w.params) (f := 172) F' X' (by walk_at "mine inst") (by k_is) (by k_is) (by k_is) ?_
  refine' len_ct B' F' X' N' T' rfl (Nat.le_of_ble_eq_true rfl) (Nat.le_of_ble_eq_true rfl) hx hd ht hz hP1 htr1 hgb U1 ?_
  intro h6 g6 tk6 t6 more F6 N6 htr6 hg6
  refine ⟨⟨by omega, by have := partsLen_le hz hl; omega⟩, ?_⟩
  dsimp only
  have e : ((0 + (partsLen l : Int)) != 0) = true := by
    have : ((0 + (partsLen l : Int)) ≠ 0) := by omega
    simpa using this
  rw [e]
  clear F' N'
  have hne : (174 : Addr) ≠ 167 := by decide
  have hx1 := upd_mem (U1 more) hx (by intro e; have q1 := (N _ hx).1; rw [e, (N _ hP1).1] at q1; cases q1)
  have hd1 := upd_mem (U1 more) hd (by intro e; have q1 := (N _ hd).1; rw [e, (N _ hP1).1] at q1; cases q1)
  have hP3 := upd_mem (U1 more) hP2 hne
  have ht1 : ∀ q ∈ l, (q.1, pO q) ∈ news1 more := fun q hq => upd_mem (U1 more) (ht q hq) (by intro e; have q1 := (N _ (ht q hq)).1; rw [e, (N _ hP1).1] at q1; cases q1)
  k_steps
  show PySem.wpAny _ _ _ _ _ _
  k_steps
  rw [hns]
  exact hret _ _ _ _ _ (by k_asm) (by k_asm) (by assumption) (by assumption) (by assumption)
end
end
section
open Builtin Builtin.ObjectAttr Builtin.Getset_descriptor
set_option maxHeartbeats 4000000
noncomputable def makesL (K : Frag) (C : Addr) : Bool := match K.lookup C with
  | some ⟨_, _, .cls cd, sl⟩ => !cd.abstract && !cd.hasDel && (sl.toList[4]?).join == some (.builtin "list.__new__") && !cd.mro.isEmpty && cd.mro.contains (.ref C) && cd.mro.contains (.type "list") &&
      specialIn K (.ref C) "__call__" == some (some (.builtin "type.__call__")) && instIn K (.ref C) (.type "type") == some true
  | _ => false
structure MakesL (M : Model) (h : Heap) (C : Addr) : Prop where
  obj : ∃ oc od cd sl, h.get? C = some ⟨oc, od, .cls cd, sl⟩ ∧ cd.abstract = false ∧ cd.hasDel = false ∧ cd.mro.isEmpty = false
  made : Looks M h (Bind.madeBy (.ref C)) (some "list.__new__")
  base : Looks M h (Bind.staticBase (.ref C)) (.ref C)
  self : Looks M h (isSubtype (.ref C) (.ref C)) true
  top : Looks M h (isSubtype (.ref C) (.type "list")) true
  call : Looks M h (specialOf (.ref C) "__call__") (some (.builtin "type.__call__"))
  typ : Looks M h (isInstance (.ref C) (.type "type")) true
theorem makesL_of {K : Frag} {M : Model} {h : Heap} (X : K.In h) {C : Addr} (e : makesL K C = true) : MakesL M h C := by
  unfold makesL at e
  split at e
  · rename_i oc od cd sl ho
    simp only [Bool.and_eq_true, Bool.not_eq_true', beq_iff_eq] at e
    obtain ⟨⟨⟨⟨⟨⟨⟨e1, e2⟩, e3⟩, e4⟩, e5⟩, e6⟩, e7⟩, e8⟩ := e
    have hc : clsIn K C = some cd := by unfold clsIn; rw [ho]
    have hm : Looks M h (mroOf (.ref C)) cd.mro := (looks_clsIn X hc).andThen .now
    obtain ⟨c, l, hl⟩ : ∃ c l, cd.mro = c :: l := by cases q : cd.mro with | nil => rw [q] at e4; cases e4 | cons c l => exact ⟨c, l, rfl⟩
    have made : Looks M h (Bind.madeBy (.ref C)) (some "list.__new__") := by
      intro A Q E s k q
      unfold Bind.madeBy
      refine wpAny_bind (hm A _ E s k ?_)
      rw [hl, List.forIn_cons]
      refine wpAny_bind (wpAny_bind (wpAny_bind (wpAny_bind (wpAny_loadPart (k _ _ (X _ _ ho)) (wpAny_pure ?_)))))
      dsimp only
      rw [← Array.getElem?_toList, e3]
      exact wpAny_pure (wpAny_pure (wpAny_pure q))
    refine ⟨⟨oc, od, cd, sl, X _ _ ho, e1, e2, e4⟩, made, ?_, looks_mroIn X ?_, looks_mroIn X ?_, looks_specialIn X e7, looks_instIn X e8⟩
    · intro A Q E s k q
      unfold Bind.staticBase
      refine wpAny_bind (hm A _ E s k ?_)
      rw [hl, List.forIn_cons]
      exact wpAny_bind (wpAny_bind (wpAny_bind (made A _ E s k (wpAny_pure (wpAny_pure (wpAny_pure q))))))
    · unfold mroIn; rw [hc, Option.bind_some, if_neg (by rw [e4]; decide), e5]
    · unfold mroIn; rw [hc, Option.bind_some, if_neg (by rw [e4]; decide), e6]
  · cases e
theorem ln_kind : builtinKind "list.__new__" = some .builtinFn := by decide +kernel
theorem ln_split : splitId "list.__new__" = some ("list", "__new__") := by decide +kernel
theorem ln_row : Manifest.signature? "list.__new__" = some ⟨.any, "list", "list", .cls, [⟨"args", .varPos, false⟩, ⟨"kwargs", .varKw, false⟩]⟩ := by kernel_rfl
section
variable {prog : Program} {w : World} {A : Around} {K : Frag} {C : Addr} {R : Result → Shared → Prop} {h : Heap} {g : Array GenState} {d : Drawn} {t : Nat} {os : OsState}
theorem new_L {rest : List Value} (Y : MakesL (model prog w) h C)
    (hq : R (.ok (.ret (.ref (h.objs.size + 1)))) ⟨(h.push emptyDict).push (accO C h.objs.size [] 0), g, d, t, os⟩) :
    codeAny (model prog w) A (.call (.builtin "list.__new__") ⟨.ref C :: rest, []⟩) R ⟨h, g, d, t, os⟩ := by
  obtain ⟨⟨oc, od, cd, sl, hC, e1, e2, e4⟩, made, base, self, top, call, typ⟩ := Y
  refine codeAny_call_builtin_code (Code.quiet_builtin _ (by decide +kernel)) ?_
  simp only [checkBuiltinCall, ln_kind, ln_split, ln_row]
  have here : Looks (model prog w) h (Bind.madeHere "list.__new__" (.ref C)) () := base.andThen (made.andThen (Looks.of_pure (by simp only [Option.map_some, bne_self_eq_false, Bool.false_eq_true, if_false])))
  have args : Bind.checkArgs "list.__new__" ⟨.any, "list", "list", .cls, [⟨"args", .varPos, false⟩, ⟨"kwargs", .varKw, false⟩]⟩ ⟨.ref C :: rest, []⟩ = pure () := by kernel_rfl
  rw [args]
  repeat (first | simp only [bne_self_eq_false, Bool.false_eq_true, if_false] | lk)
  refine codeAny_builtin_stack F.entry_list_new rfl fun p st => ?_
  dsimp only
  rw [owner_list_new]
  have ht : Looks (model prog w) h (isType (.ref C)) true := (Looks.ld (part := none) hC).andThen .now
  refine wpAny_bind (ht.here ?_)
  rw [if_neg (by simp)]
  refine wpAny_bind (top.here ?_)
  rw [if_neg (by simp)]
  show wpAny _ _ (pure (Data.seq #[]) >>= _) _ _ _
  refine wpAny_bind (wpAny_pure ?_)
  show wpAny _ _ (newDict >>= _) _ _ _
  refine wpAny_bind ?_
  unfold newDict newObj
  dsimp only
  rw [if_neg (by simp)]
  unfold newObjAsIs classHasDel
  refine wpAny_bind (wpAny_alloc ?_)
  show wpAny _ _ (pure _) _ _ _
  refine wpAny_pure ?_
  dsimp only
  refine wpAny_bind ?_
  rw [if_neg (by decide)]
  refine wpAny_bind (wpAny_alloc ?_)
  dsimp only
  refine wpAny_bind (wpAny_bind (wpAny_load (Heap.get?_push_of_some _ (Heap.get?_push_of_some _ hC)) (wpAny_pure ?_)))
  rw [e2]
  refine wpAny_pure (wpAny_pure ?_)
  show R _ _
  rw [Heap.size_push]
  exact hq
theorem make_coreL {rest : List Value} {init : Value} (Y : MakesL (model prog w) h C) (hi : Looks (model prog w) h (typeLookup (.ref C) "__init__") (some init))
    (hb : ∀ self, Looks (model prog w) h (bindSpecial init self) (init, [self]))
    (hq : codeAny (model prog w) (A.under (.builtin "type.__call__" ⟨.ref C :: rest, []⟩)) (.call init ⟨.ref (h.objs.size + 1) :: rest, []⟩) (InitBack (h.objs.size + 1) R) ⟨(h.push emptyDict).push (accO C h.objs.size [] 0), g, d, t, os⟩) :
    codeAny (model prog w) A (.call (.ref C) ⟨rest, []⟩) R ⟨h, g, d, t, os⟩ := by
  have Y' := Y
  obtain ⟨⟨oc, od, cd, sl, hC, e1, e2, e4⟩, made, base, self, top, call, typ⟩ := Y
  refine codeAny_of_tree ?_
  show wpAny _ _ (callAny (.ref C) _) _ _ _
  refine nd_load hC ?_
  show wpAny _ _ (callAny.viaDunder (.ref C) _) _ _ _
  unfold callAny.viaDunder
  refine wpAny_bind (call.at ?_)
  dsimp only
  rw [tc_bind]
  refine wpAny_bind (wpAny_pure (wpAny_bind (wpAny_pure ?_)))
  refine wpAny_pure (a := Fin.again (.call (.builtin "type.__call__") ⟨.ref C :: rest, []⟩)) (And.intro rfl ?_)
  refine codeAny_call_builtin_at (Code.quiet_builtin _ (by decide +kernel)) entry_typeCall (check_slot tc_kind tc_split typ (tc_args _ _ _) ?_)
  unfold Builtin.«type.__call__»
  have hm : Looks (model prog w) h (mroOf (.ref C)) cd.mro := ((Looks.ld (part := none) hC).andThen .now).andThen .now
  repeat (first | simp only [e4, Bool.false_eq_true, if_false] | with_reducible refine wpAny_call ?_ | lk)
  refine new_L Y' ?_
  have k : ∀ b o, h.get? b = some o → ((h.push emptyDict).push (accO C h.objs.size [] 0)).get? b = some o := fun b o e => Heap.get?_push_of_some _ (Heap.get?_push_of_some _ e)
  have hx : ((h.push emptyDict).push (accO C h.objs.size [] 0)).get? (h.objs.size + 1) = some (accO C h.objs.size [] 0) := by heap_get
  have t1 : Looks (model prog w) ((h.push emptyDict).push (accO C h.objs.size [] 0)) (typeOf (.ref (h.objs.size + 1))) (.ref C) := (Looks.ld hx).andThen .now
  have s1 := self.keeps k
  have i1 := hi.keeps k
  have b1 := (hb (.ref (h.objs.size + 1))).keeps k
  unfold isInstance callSpecial? specialOf
  repeat (first | with_reducible refine wpAny_call ?_ | lk)
  refine codeAny_mono hq fun r s' z => ?_
  rcases r with e | (v | _ | _ | _) <;> first | exact z | exact z.elim | skip
  obtain ⟨rfl, z⟩ := z
  exact wpAny_pure (wpAny_pure z)
end
section
variable {prog : Program} {w : World} {A : Around} {K : Frag} {C L : Addr} {s : Shared} {E : Value → Shared → Prop} {h₀ : Heap} {m : Str → Option Value} {news : List (Addr × Obj)} {Q : Value → Shared → Prop}
theorem call_clsL {pos : List Value} {fI : Addr} (F : Fr h₀ L s.heap m) (X₀ : K.In h₀) (N : News h₀ L s.heap news) (hm : makesL K C = true) (hi : findIn K (.ref C) "__init__" = some (some (.ref fI))) (hf : isFn K (.ref fI) = true)
    (h : ∀ x dx h', Fr h₀ L h' m → News h₀ L h' ((x, accO C dx [] 0) :: (dx, dictOf [] 0) :: news) → (∀ p ∈ news, p.1 < dx) → dx < x →
      codeAny (model prog w) (A.under (.builtin "type.__call__" ⟨.ref C :: pos, []⟩)) (.call (.ref fI) ⟨.ref x :: pos, []⟩) (InitBack x fun r s' => match r with | .ok (.ret v) => Q v s' | .ok _ => False | .error e => E e s') { s with heap := h' }) :
    wpAny (model prog w) A (call (.ref C) pos) Q E s := by
  refine wpAny_call ?_
  have X := X₀.keeps F.keep
  obtain ⟨hh, g, d, t, os⟩ := s
  refine make_coreL (makesL_of X hm) (looks_findIn X hi) (fun self => bind_fn X self (beq_iff_eq.mp hf)) (h _ hh.objs.size _ ((F.push _).push _) ?_ (fun p hp => Heap.lt_size (N p hp).1) (Nat.lt_succ_self _))
  have := (N.push F emptyDict).push (F.push _) (accO C hh.objs.size [] 0)
  rwa [Heap.size_push] at this
end
end
local macro_rules | `(tactic| walk_at "mine enter2") => `(tactic| (k_dflt (first | (refine' code_def ?k1 ?k2 ?k3 ?k4 ?k5 ?kA ?kF ?kK ?k6 ?k7 ?k8 ?k9 ?kB ?_ ?c2 ?c3 ?c4 ?c5; (walk_at "mine c1"); (case k9 => first | exact BindsTo.of_eq rfl | exact binds_K (by k_in) rfl (by k_is) rfl rfl rfl); (case c5 => decide); (case kB => exact locs rfl); (case c2 | c3 | c4 => exact rfl); k_whole; intro g' L' h' FG' F' N' B' X' T'; (try dsimp only); (try k_fold)) | (refine' ks_code_super ?k1 ?k2 ?k3 ?k4 ?k5 ?kA ?kF ?kK ?k6 ?k7 ?k8 ?k9 ?kB ?_ ?c1 ?c2 ?c3 ?c4; (walk_at "mine c1"); (case k9 => first | exact BindsTo.of_eq rfl | exact binds_K (by k_in) rfl (by k_is) rfl rfl rfl); (walk_at "mine c2"); k_whole; intro g' L' h' FG' F' N' B' X' T' lt'; (try dsimp only); (try k_fold)))))
local macro_rules | `(tactic| walk_at "mine enter3") => `(tactic| (k_dflt (refine' ks_code_super ?k1 ?k2 ?k3 ?k4 ?k5 ?kA ?kF ?kK ?k6 ?k7 ?k8 ?k9 ?kB ?_ ?c1 ?c2 ?c3 ?c4; (walk_at "mine c1"); (case k9 => first | exact BindsTo.of_eq rfl | exact binds_K (by k_in) rfl (by k_is) rfl rfl rfl); (walk_at "mine c2"); k_whole; intro g' L' h' FG' F' N' B' X' T' lt'; (try dsimp only); (try k_fold))))
theorem rs_L19 : True := by
  have h : (1 : Nat) = 1 := by walk1
  w_top off; exact trivial
section
local macro_rules | `(tactic| walk_at "mine upd") => `(tactic| first | (apply_assumption (exfalso := false); done) | k_upd | (refine' Upd.tail ?a ?b; (walk_at "mine c4")))
section
variable {prog : Program} {w : World} {A : Around} {E : Value → Shared → Prop} {s : Shared} {h₀ : Heap} {L : Addr} {m mg mb : Str → Option Value} {news : List (Addr × Obj)} {K : Frag} {x C D so dx : Addr} {od : Obj}
theorem init_acc {M : Model} {n : Nat} {news' : Nat → List (Addr × Obj)} {Q : Value → Shared → Prop} (F : Fr h₀ L s.heap m) (N : News h₀ L s.heap news) (hx : (x, accO C dx [] n) ∈ news)
    (U : ∀ n', Upd x (accO C dx [] n) (accO C dx [] n') news (news' n'))
    (h : ∀ h' n', Fr h₀ L h' m → News h₀ L h' (news' n') → Q .none { s with heap := h' }) :
    wpAny M A (Builtin.«list.__init__» ⟨[.ref x], []⟩) (fun fin s' => ∃ v', fin = .done (.ret v') ∧ Q v' s') E s := by
  have hl := (N _ hx).1
  unfold Builtin.«list.__init__»
  dsimp only
  rw [if_neg (by simp)]
  rw [if_neg (by simp)]
  refine wpAny_bind (items_acc hl ?_)
  refine wpAny_bind ?_
  show wpAny _ _ (updateSeq x fun _ => #[]) _ _ _
  refine updateSeq_acc (f := fun _ => #[]) (its := []) (n := n) F N U (by simp) (by simp) fun h' n' F' N' => ?_
  refine wpAny_bind ?_
  show wpAny _ _ (letGo []) _ _ _
  refine wpAny_letGo ?_
  exact wpAny_pure ⟨.none, rfl, h h' n' F' N'⟩
theorem call_init_acc {b : Addr} {n : Nat} {news' : Nat → List (Addr × Obj)} {Q : Value → Shared → Prop} (F : Fr h₀ L s.heap m) (N : News h₀ L s.heap news) (hb : (b, ({ cls := .type "method-wrapper", data := .fields #[.builtin "list.__init__", .ref x] } : Obj)) ∈ news) (hx : (x, accO C dx [] n) ∈ news)
    (U : ∀ n', Upd x (accO C dx [] n) (accO C dx [] n') news (news' n'))
    (h : ∀ h' n', Fr h₀ L h' m → News h₀ L h' (news' n') → Q .none { s with heap := h' }) : wpAny (model prog w) A (call (.ref b) []) Q E s :=
  call_bound (N _ hb).1 (.inl rfl) (by decide +kernel) (entryFor_of_tree (by kernel_rfl)) (Looks.of_pure bound_init) (init_acc F N hx U h)
end
section
variable {w : World} {p : Program} {loose : List Str} {mean : ExcName → Option Value} {mg mb : Str → Option Value} {dp un : Nat} {gd : Option (List Code)} {cn : Str} {cs : Scope} {a : Addr} {ccd : Value} {cl : List (Str × Addr)} {outer : List Env} {A₀ : Around} {base h₀ : Heap} {L : Addr} {m : Str → Option Value} {news : List (Addr × Obj)} {s : Shared} {Q E : Value → Shared → Prop}
set_option maxHeartbeats 2000000
theorem acc_new_ct
  (B : Below A₀ base outer h₀) (F : Fr h₀ L s.heap m) (X : (KF w.params).In h₀) (N : News h₀ L s.heap news) (T : Top p loose mean mg mb h₀) (hk : cs.kind = .function)
  (hdp : dp ≤ 890) (hun : un ≤ 4900)
  (hret : ∀ x dx h' tk tk0 t n n', Fr h₀ L h' m → News h₀ L h' ((x, accO 205 dx [] n) :: (dx, dictOf (isz w.params tk0 0 t) n') :: news) → (∀ p ∈ news, p.1 < dx) → dx < x → Q (.ref x) { s with heap := h', toks := tk }) :
  wpAny (model PySem.Challenge.rw_wc0034_01.row.prog w) (ktrTop dp un gd cn cs L a ccd cl outer) (call (.ref 205) []) Q E s := by
  refine up hdp hun ?_
  revert X; k_fill; intro X
  refine call_clsL (K := KF w.params) (fI := 142) F X N (by kernel_rfl) (by k_is) (by k_is) ?_
  intro x dx h1 F1 N1 l1 l2
  clear F N
  walk_at "mine enter2"
  k_steps
  refine' set_acc (n := 0) ?k1 ?k2 ?k3 ?k4 ?k5 ?k6 ?k7 ?k8 ?k9 ?k10 ?k11 ?k12 ?k13 ?k14 ?k15 ?_
  (case k1 => k_asm); (case k2 => k_asm); (case k3 => k_asm); (case k4 => walk_at "mine mem"); (case k5 => walk_at "mine mem"); (case k6 => k_is); (case k7 => k_is); (case k8 => rfl); (case k9 => rfl); (case k10 => k_is); (case k12 => k_is); (case k11 => rfl); (case k13 => k_put); (case k14 => exact Upd.tail (Nat.ne_of_gt l2) (.head fun p hp => Nat.ne_of_lt (l1 p hp))); (case k15 => exact Nat.le_of_ble_eq_true rfl)
  intro h3 F3 N3
  clear F' N'
  dsimp only
  refine ks_wpAt_execs_cons (ks_wpAt_Expr_any (ks_wpAt_MethodCall ?_))
  k_steps
  rename _ < _ ∧ _ < _ ∧ AllLt _ _ => ls'
  refine' call_init_acc (n := 0) (x := x) (C := 205) (dx := dx) ?k1 ?k2 ?k3 ?k4 ?k5 ?_
  (case k1 => k_asm); (case k2 => k_asm); (case k3 => walk_at "mine mem"); (case k4 => walk_at "mine mem")
  (case k5 =>
    intro n'
    exact Upd.tail (by have := l1' _ (.tail _ (.head _)); exact fun e => Nat.lt_irrefl _ (e ▸ this)) (Upd.tail (by have := ls'.1; exact fun e => Nat.lt_irrefl _ (e ▸ this)) (.head fun p hp => by
      rcases List.mem_cons.mp hp with rfl | hp
      · exact Nat.ne_of_lt l2
      · exact Nat.ne_of_lt (Nat.lt_trans (l1 p hp) l2))))
  intro h5 n5 F5 N5
  clear F' N'
  k_steps
  exact hret x dx h5 _ _ _ _ _ (by k_asm) (fun p hp => (by k_asm : News _ _ _ _) p (.tail _ (.tail _ hp))) l1 l2
theorem acc_new1_ct {k : Int} {tk1 : Tok}
  (B : Below A₀ base outer h₀) (F : Fr h₀ L s.heap m) (X : (KF w.params).In h₀) (N : News h₀ L s.heap news) (T : Top p loose mean mg mb h₀) (hk : cs.kind = .function)
  (hdp : dp ≤ 890) (hun : un ≤ 4900)
  (hret : ∀ x dx h' tk tk0 t n n', Fr h₀ L h' m → News h₀ L h' ((x, accO 205 dx [] n) :: (dx, dictOf (isz w.params tk0 k t) n') :: news) → (∀ p ∈ news, p.1 < dx) → dx < x → Q (.ref x) { s with heap := h', toks := tk }) :
  wpAny (model PySem.Challenge.rw_wc0034_01.row.prog w) (ktrTop dp un gd cn cs L a ccd cl outer) (call (.ref 205) [.int k tk1]) Q E s := by
  refine up hdp hun ?_
  revert X; k_fill; intro X
  refine call_clsL (K := KF w.params) (fI := 142) F X N (by kernel_rfl) (by k_is) (by k_is) ?_
  intro x dx h1 F1 N1 l1 l2
  clear F N
  walk_at "mine enter3"
  refine ks_wpAt_execs_cons (wpAt_of_wpAny ?_)
  k_steps
  refine' set_acc (n := 0) ?k1 ?k2 ?k3 ?k4 ?k5 ?k6 ?k7 ?k8 ?k9 ?k10 ?k11 ?k12 ?k13 ?k14 ?k15 ?_
  (case k1 => k_asm); (case k2 => k_asm); (case k3 => k_asm); (case k4 => walk_at "mine mem"); (case k5 => walk_at "mine mem"); (case k6 => k_is); (case k7 => k_is); (case k8 => rfl); (case k9 => rfl); (case k10 => k_is); (case k12 => k_is); (case k11 => rfl); (case k13 => k_put); (case k14 => exact Upd.tail (Nat.ne_of_gt l2) (.head fun p hp => Nat.ne_of_lt (l1 p hp))); (case k15 => exact Nat.le_of_ble_eq_true rfl)
  intro h3 F3 N3
  clear F' N'
  dsimp only
  refine ks_wpAt_execs_cons (ks_wpAt_Expr_any (ks_wpAt_MethodCall ?_))
  k_steps
  rename _ < _ ∧ _ < _ ∧ AllLt _ _ => ls'
  refine' call_init_acc (n := 0) (x := x) (C := 205) (dx := dx) ?k1 ?k2 ?k3 ?k4 ?k5 ?_
  (case k1 => k_asm); (case k2 => k_asm); (case k3 => walk_at "mine mem"); (case k4 => walk_at "mine mem")
  (case k5 =>
    intro n'
    exact Upd.tail (by have := l1' _ (.tail _ (.head _)); exact fun e => Nat.lt_irrefl _ (e ▸ this)) (Upd.tail (by have := ls'.1; exact fun e => Nat.lt_irrefl _ (e ▸ this)) (.head fun p hp => by
      rcases List.mem_cons.mp hp with rfl | hp
      · exact Nat.ne_of_lt l2
      · exact Nat.ne_of_lt (Nat.lt_trans (l1 p hp) l2))))
  intro h5 n5 F5 N5
  clear F' N'
  k_steps
  exact hret x dx h5 _ _ _ _ _ (by k_asm) (fun p hp => (by k_asm : News _ _ _ _) p (.tail _ (.tail _ hp))) l1 l2
end
end
theorem rs_L20 : True := by
  have h : (1 : Nat) = 1 := by walk1
  w_top off; exact trivial
section
theorem all_ne2 {z y : Addr} {news : List (Addr × Obj)} (h : ∀ p ∈ news, p.1 < z) (hz : z ≤ y) : ∀ p ∈ news, p.1 ≠ y := fun p hp => Nat.ne_of_lt (Nat.lt_of_lt_of_le (h p hp) hz)
set_option hygiene false
local macro_rules | `(tactic| walk_at "mine all") => `(tactic| first | exact List.forall_mem_nil _ | (refine' List.forall_mem_cons.mpr ⟨?mua, ?mub⟩; (case mua => walk_at "mine ne"); (case mub => walk_at "mine all")) | solve_by_elim (maxDepth := 6) only [all_ne2, Nat.le_refl, Nat.le_of_lt, *])
local macro_rules | `(tactic| k_all) => `(tactic| walk_at "mine all")
local macro_rules | `(tactic| walk_at "mine upd") => `(tactic| first | (apply_assumption (exfalso := false); done) | k_upd | (refine' Upd.head ?a; (case a => walk_at "mine all")) | (refine' Upd.tail ?a ?b; (walk_at "mine c4")))
local macro_rules | `(tactic| walk_at "getMethod ref") => `(tactic| (k_here; k_dflt (refine' method_acc ?k1 ?k3 ?k4 canon_list_ga ?k5 ?k6 ?k7 ?k8 ?_; (case k1 => k_in); (case k3 => walk_at "mine inst"); (case k4 | k5 | k6 => k_is); (case k7 => first | (exact .inl (by k_is)) | (exact .inr (by k_is))); (case k8 => assumption); k_whole)))
local macro_rules | `(tactic| walk_at "getMethod ref") => `(tactic| (k_here; ks_any; k_dflt (refine' ls_method ?k1 ?k2 ?k3 ?k4 ?k5 ?k6 ?k7 ?k8 ?k9 ?k10 ?_; (case k1 | k2 | k3 => k_asm); (case k4 => walk_at "mine mem"); (case k5 => walk_at "mine inst"); (case k6 => k_is); (case k7 => ks_is); (case k8 => k_is); (case k9 => decide); (case k10 => walk_at "mine bound"); k_whole); intro b' h' F' N' l1'))
local macro_rules | `(tactic| walk_at "call ref") => `(tactic| (k_here; k_dflt (refine' acc_new1_ct ?k1 ?k2 ?k3 ?k4 ?k5 ?k6 ?k7 ?k8 ?_; (walk_at "mine c0"); k_whole); intro x dx h' tk tk0 t n n' F' N' l1 l2; (try k_lt l1); (try k_lt2 l2); (try k_sweep)))
section
noncomputable abbrev ent (P : Params) (n : String) (tk : Tok) (v : Value) : DictEntry := ⟨PyData.keyHash P (Str.ofString n), .str (Str.ofString n) tk, v⟩
noncomputable abbrev vfd (P : Params) (k1 k2 k3 k4 k5 k6 : Tok) (M cw cl sp : Value) (ll x : Addr) : List DictEntry := [ent P "_maxlen" k1 M, ent P "_continuation_ws" k2 cw, ent P "_continuation_ws_len" k3 cl, ent P "_splitchars" k4 sp, ent P "_lines" k5 (.ref ll), ent P "_current_line" k6 (.ref x)]
variable {w : World} {p : Program} {loose : List Str} {mean : ExcName → Option Value} {mg mb : Str → Option Value} {dp un : Nat} {gd : Option (List Code)} {cn : Str} {cs : Scope} {a : Addr} {ccd : Value} {cl : List (Str × Addr)} {outer : List Env} {A₀ : Around} {base h₀ : Heap} {L : Addr} {m : Str → Option Value} {news : List (Addr × Obj)} {s : Shared} {Q E : Value → Shared → Prop}
set_option maxHeartbeats 2000000
theorem vf_new_ct {M : Int} {t0 t1 t2 t3 : Tok}
  (B : Below A₀ base outer h₀) (F : Fr h₀ L s.heap m) (X : (KF w.params).In h₀) (N : News h₀ L s.heap news) (T : Top p loose mean mg mb h₀) (hk : cs.kind = .function)
  (hdp : dp ≤ 880) (hun : un ≤ 4800)
  (hret : ∀ v dv ll x dx h' tk k1 k2 k3 k4 k5 k6 cl tk0 t nv n n', Fr h₀ L h' m →
    News h₀ L h' ((x, accO 205 dx [] n) :: (dx, dictOf (isz w.params tk0 0 t) n') :: (ll, listOf #[] 0) :: (v, instObj 121 dv) :: (dv, dictOf (vfd w.params k1 k2 k3 k4 k5 k6 (.int M t1) (.str (Str.ofString " ") t2) cl (.str (Str.ofString " ") t3) ll x) nv) :: news) →
    (∀ p ∈ news, p.1 < dv) → dv < v → v < ll → ll < dx → dx < x → Q (.ref v) { s with heap := h', toks := tk }) :
  wpAny (model PySem.Challenge.rw_wc0034_01.row.prog w) (ktrTop dp un gd cn cs L a ccd cl outer) (call (.ref 121) [.int 0 t0, .int M t1, .str (Str.ofString " ") t2, .str (Str.ofString " ") t3]) Q E s := by
  refine up hdp hun ?_
  revert X; k_fill; intro X
  refine call_cls (K := KF w.params) (fI := 62) F X N (by k_is) (by k_is) (by k_is) ?_
  intro v dv h1 F1 N1 lv1 lv2
  clear F N; k_lt2 lv2
  walk_at "mine enter2"
  k_steps
  refine hret _ _ _ _ _ _ _ _ _ _ _ _ _ _ _ _ _ _ _ (by k_asm) (by k_asm) lv1 lv2 (ltN (by omega)) (ltN (by omega)) (ltN (by omega))
end
end
local macro_rules | `(tactic| walk_at "getMethod ref") => `(tactic| (k_here; k_dflt (refine' method_acc ?k1 ?k3 ?k4 canon_list_ga ?k5 ?k6 ?k7 ?k8 ?_; (case k1 => k_in); (case k3 => walk_at "mine inst"); (case k4 | k5 | k6 => k_is); (case k7 => first | (exact .inl (by k_is)) | (exact .inr (by k_is))); (case k8 => first | assumption | exact rfl); k_whole)))
local macro_rules | `(tactic| walk_at "getMethod ref") => `(tactic| (k_here; ks_any; k_dflt (refine' ls_method ?k1 ?k2 ?k3 ?k4 ?k5 ?k6 ?k7 ?k8 ?k9 ?k10 ?_; (case k1 | k2 | k3 => k_asm); (case k4 => walk_at "mine mem"); (case k5 => walk_at "mine inst"); (case k6 => k_is); (case k7 => ks_is); (case k8 => k_is); (case k9 => decide); (case k10 => walk_at "mine bound"); k_whole); intro b' h' F' N' l1'))
local macro_rules | `(tactic| walk_at "mine all") => `(tactic| first | exact List.forall_mem_nil _ | (refine' List.forall_mem_cons.mpr ⟨?mua, ?mub⟩; (case mua => walk_at "mine ne"); (case mub => walk_at "mine all")) | solve_by_elim (maxDepth := 6) only [all_ne2, Nat.le_refl, Nat.le_of_lt, *])
local macro_rules | `(tactic| k_all) => `(tactic| walk_at "mine all")
local macro_rules | `(tactic| walk_at "call ref") => `(tactic| (k_here; k_dflt (refine' acc_new1_ct ?k1 ?k2 ?k3 ?k4 ?k5 ?k6 ?k7 ?k8 ?_; (walk_at "mine c0"); k_whole); intro x dx h' tk tk0 t n n' F' N' l1 l2; (try k_lt l1); (try k_lt2 l2); (try k_sweep)))
theorem rs_L21 : True := by
  have h : (1 : Nat) = 1 := by walk1
  w_top off; exact trivial
section
local macro_rules | `(tactic| walk_at "mine mem") => `(tactic| first | (focus ((repeat (first | exact List.mem_cons_self | refine List.mem_cons_of_mem _ ?_)); first | done | assumption | (apply_assumption (exfalso := false); done))) | assumption | (apply_assumption (exfalso := false); done))
local macro_rules | `(tactic| walk_at "mine upd") => `(tactic| first | (apply_assumption (exfalso := false); done) | k_upd | (refine' Upd.head ?a; (case a => walk_at "mine all")) | (refine' Upd.tail ?a ?b; (walk_at "mine c4")))
theorem allLt_mem {d : Addr} {l : List (Addr × Obj)} (h : AllLt d l) : ∀ p ∈ l, p.1 < d := by
  induction l with
  | nil => intro p hp; cases hp
  | cons q r ih =>
    intro p hp
    have h' : (q.1 : Nat) < d ∧ AllLt d r := h
    rcases List.mem_cons.mp hp with e | hp
    · rw [e]; exact h'.1
    · exact ih h'.2 p hp
theorem upd_new {P : Addr} {o o' : Obj} {l l' : List (Addr × Obj)} (U : Upd P o o' l l') : (P, o') ∈ l' := by
  obtain ⟨pre, post, _, rfl, _, _⟩ := U.split
  simp
theorem upd_keep {P L : Addr} {o o' : Obj} {h₀ h : Heap} {l l' : List (Addr × Obj)} (N : News h₀ L h l) (hx : (P, o) ∈ l) (U : Upd P o o' l l') {q : Addr × Obj} (hq : q ∈ l) (hne : q.2 ≠ o) : q ∈ l' :=
  upd_mem U hq fun e => hne (by have q1 := (N _ hq).1; rw [e, (N _ hx).1] at q1; exact (Option.some.inj q1).symm)
theorem partsLen_append (l l' : List Part) : partsLen (l ++ l') = partsLen l + partsLen l' := by unfold partsLen; rw [List.map_append, List.sum_append]
section
variable {w : World} {p : Program} {loose : List Str} {mean : ExcName → Option Value} {mg mb : Str → Option Value} {dp un : Nat} {gd : Option (List Code)} {cn : Str} {cs : Scope} {a : Addr} {ccd : Value} {cl : List (Str × Addr)} {outer : List Env} {A₀ : Around} {base h₀ : Heap} {L : Addr} {m : Str → Option Value} {news : List (Addr × Obj)} {s : Shared} {Q E : Value → Shared → Prop}
set_option maxHeartbeats 2000000
theorem push_part_ct {x dx : Addr} {l : List Part} {n n' : Nat} {tk0 t0 : Tok} {k0 : Int} {s1 s2 : Str} {t1 t2 : Tok} {news' : Addr → Nat → List (Addr × Obj)}
  (B : Below A₀ base outer h₀) (F : Fr h₀ L s.heap m) (X : (KF w.params).In h₀) (N : News h₀ L s.heap news) (T : Top p loose mean mg mb h₀) (hk : cs.kind = .function)
  (hdp : dp ≤ 890) (hun : un ≤ 4900) (hx : (x, accO 205 dx (l.map pref) n) ∈ news) (hd : (dx, dictOf (isz w.params tk0 k0 t0) n') ∈ news) (hz : l.length ≤ 1000)
  (U : ∀ t n', Upd x (accO 205 dx (l.map pref) n) (accO 205 dx ((l ++ [(t, (s1, t1), (s2, t2))]).map pref) n') news (news' t n'))
  (hret : ∀ h' tk t n', Fr h₀ L h' m → News h₀ L h' ((t, tupO [.str s1 t1, .str s2 t2]) :: news' t n') → (∀ p ∈ news, p.1 < t) → Q .none { s with heap := h', toks := tk }) :
  wpAny (model PySem.Challenge.rw_wc0034_01.row.prog w) (ktrTop dp un gd cn cs L a ccd cl outer) (call (.ref 149) [.ref x, .str s1 t1, .str s2 t2]) Q E s := by
  refine push_ct (news' := news') B F X N T hk (Nat.lt_of_le_of_lt (Nat.add_le_add_right hdp 1) (by decide)) (Nat.lt_of_le_of_lt (Nat.add_le_add_right hun 8) (by decide)) hx hd rfl (by rw [List.length_map]; exact hz) ?_ hret
  intro t n'
  have := U t n'
  rwa [List.map_append] at this
end
local macro_rules | `(tactic| walk_at "call ref") => `(tactic| (k_here; k_dflt (refine' push_part_ct ?k1 ?k2 ?k3 ?k4 ?k5 ?k6 ?k7 ?k8 ?k9 ?k10 ?k11 ?k12 ?_; (walk_at "mine c0"); (case k9 | k10 => walk_at "mine mem"); (case k11 => first | assumption | omega); (case k12 => intro t' n'; walk_at "mine upd"); k_whole); intro h' tk tp n' F' N' l1; (try k_lt l1); (try k_sweep)))
local macro_rules | `(tactic| walk_at "call ref") => `(tactic| (k_here; k_dflt (refine' len_ct ?k1 ?k2 ?k3 ?k4 ?k5 ?k6 ?k7 ?k8 ?k9 ?k10 ?k11 ?k12 ?k13 ?k14 ?k15 ?k16 ?_; (walk_at "mine c0"); (case k9 | k10 => walk_at "mine mem"); (case k11 | k12 => first | assumption | apply_assumption (exfalso := false)); (walk_at "mine c3"); (case k16 => walk_at "mine upds"); k_whole); intro h' g' tk t more F' N' htr' hgb'; (try k_sweep)))
local macro_rules | `(tactic| walk_at "mine upds") => `(tactic| exact fun more' => U2 _ _ more' (by assumption))
section
variable {w : World} {p : Program} {loose : List Str} {mean : ExcName → Option Value} {mg mb : Str → Option Value} {dp un : Nat} {gd : Option (List Code)} {cn : Str} {cs : Scope} {a : Addr} {ccd : Value} {cl : List (Str × Addr)} {outer : List Env} {A₀ : Around} {base h₀ : Heap} {L : Addr} {m : Str → Option Value} {news : List (Addr × Obj)} {s : Shared} {Q E : Value → Shared → Prop}
set_option maxHeartbeats 2000000
theorem chunk_short_ct {v dv x dx ll : Addr} {l : List Part} {n n' nv : Nat} {tk0 t0 k1 k2 k3 k4 k5 k6 tM tf ts : Tok} {M : Int} {cwV clV spV : Value} {s1 s2 : Str} {ps : Array Value} {news1 : Addr → Nat → List (Addr × Obj)} {news2 : Addr → Nat → Array Value → List (Addr × Obj)}
  (B : Below A₀ base outer h₀) (F : Fr h₀ L s.heap m) (X : (KF w.params).In h₀) (N : News h₀ L s.heap news) (T : Top p loose mean mg mb h₀) (hk : cs.kind = .function)
  (hdp : dp ≤ 870) (hun : un ≤ 4700)
  (hv : (v, instObj 121 dv) ∈ news) (hdv : (dv, dictOf (vfd w.params k1 k2 k3 k4 k5 k6 (.int M tM) cwV clV spV ll x) nv) ∈ news)
  (hx : (x, accO 205 dx (l.map pref) n) ∈ news) (hd : (dx, dictOf (isz w.params tk0 0 t0) n') ∈ news) (ht : ∀ q ∈ l, (q.1, pO q) ∈ news) (hz : ∀ q ∈ l, q.2.1.1.length ≤ 1000 ∧ q.2.2.1.length ≤ 1000)
  (hl : l.length ≤ 900) (h1 : s1.length ≤ 1000) (h2 : s2.length ≤ 1000) (hle : (partsLen l : Int) + s1.length + s2.length ≤ M)
  (hP : (167, PySem.W.X.tableObj ps) ∈ news) (htr : TriplesOk ps.toList) (hgb : AllBare s.gens)
  (U1 : ∀ t n', Upd x (accO 205 dx (l.map pref) n) (accO 205 dx ((l ++ [(t, (s1, tf), (s2, ts))]).map pref) n') news (news1 t n'))
  (U2 : ∀ t n' more, (∀ p ∈ news, p.1 < t) → Upd 167 (PySem.W.X.tableObj ps) (PySem.W.X.tableObj (ps ++ more)) ((t, tupO [.str s1 tf, .str s2 ts]) :: news1 t n') (news2 t n' more))
  (hret : ∀ h' g' tk t n' more, Fr h₀ L h' m → News h₀ L h' (news2 t n' more) → TriplesOk (ps ++ more).toList → AllBare g' → (∀ p ∈ news, p.1 < t) → Q .none ⟨h', g', s.drawn, tk, s.os⟩) :
  wpAny (model PySem.Challenge.rw_wc0034_01.row.prog w) (ktrTop dp un gd cn cs L a ccd cl outer) (call (.ref 118) [.ref v, .str s1 tf, .str s2 ts]) Q E s := by
  refine up hdp hun ?_
  have hv1 : ∀ t n', (v, instObj 121 dv) ∈ news1 t n' := fun t n' => upd_keep N hx (U1 t n') hv (by intro e; cases e)
  have hdv1 : ∀ t n', (dv, dictOf (vfd w.params k1 k2 k3 k4 k5 k6 (.int M tM) cwV clV spV ll x) nv) ∈ news1 t n' := fun t n' => upd_keep N hx (U1 t n') hdv (by intro e; cases e)
  have hd1 : ∀ t n'', (dx, dictOf (isz w.params tk0 0 t0) n') ∈ news1 t n'' := fun t n' => upd_keep N hx (U1 t n') hd (by intro e; cases e)
  have hP1 : ∀ t n', (167, PySem.W.X.tableObj ps) ∈ news1 t n' := fun t n' => upd_keep N hx (U1 t n') hP (by intro e; cases e)
  have hx1 : ∀ t n', (x, accO 205 dx ((l ++ [(t, (s1, tf), (s2, ts))]).map pref) n') ∈ news1 t n' := fun t n' => upd_new (U1 t n')
  have ht1 : ∀ (t : Addr) n', ∀ q ∈ l ++ [(t, (s1, tf), (s2, ts))], (q.1, pO q) ∈ (t, tupO [.str s1 tf, .str s2 ts]) :: news1 t n' := by
    intro t n' q hq
    rcases List.mem_append.mp hq with hq | hq
    · exact .tail _ (upd_keep N hx (U1 t n') (ht q hq) (by intro e; cases e))
    · rw [List.mem_singleton.mp hq]; exact .head _
  have hz1 : ∀ t : Addr, ∀ q ∈ l ++ [(t, (s1, tf), (s2, ts))], q.2.1.1.length ≤ 1000 ∧ q.2.2.1.length ≤ 1000 := by
    intro t q hq
    rcases List.mem_append.mp hq with hq | hq
    · exact hz q hq
    · rw [List.mem_singleton.mp hq]; exact ⟨h1, h2⟩
  have hz2 : ∀ t : Addr, partsLen (l ++ [(t, (s1, tf), (s2, ts))]) ≤ 2000000 := fun t => partsLen_le (hz1 t) (by simp; omega)
  have hz3 : ∀ t : Addr, (partsLen (l ++ [(t, (s1, tf), (s2, ts))]) : Int) ≤ M := fun t => by rw [partsLen_append]; simp only [partsLen, List.map_cons, List.map_nil, List.sum_cons, List.sum_nil]; unfold partsLen at hle; omega
  have hvP : v ≠ 167 := fun e => by have q1 := (N _ hv).1; rw [e, (N _ hP).1] at q1; cases q1
  have hdvP : dv ≠ 167 := fun e => by have q1 := (N _ hdv).1; rw [e, (N _ hP).1] at q1; cases q1
  have hv2 : ∀ t n' more, (∀ p ∈ news, p.1 < t) → (v, instObj 121 dv) ∈ news2 t n' more := fun t n' more hlt => upd_mem (U2 t n' more hlt) (.tail _ (hv1 t n')) hvP
  have hdv2 : ∀ t n' more, (∀ p ∈ news, p.1 < t) → (dv, dictOf (vfd w.params k1 k2 k3 k4 k5 k6 (.int M tM) cwV clV spV ll x) nv) ∈ news2 t n' more := fun t n' more hlt => upd_mem (U2 t n' more hlt) (.tail _ (hdv1 t n')) hdvP
  revert X; k_fill; intro X
  walk_at "mine enter"
  k_steps
  have hv3 := hv2 tp n' more (by assumption)
  have hdv3 := hdv2 tp n' more (by assumption)
  have hb := hz2 tp
  have hc := hz3 tp
  refine ⟨⟨by omega, by omega⟩, ?_⟩
  dsimp only
  k_steps
  exact hret _ _ _ tp _ _ (by k_asm) (by k_asm) (by assumption) (by assumption) (by assumption)
end
end
section
variable {prog : Program} {w : World} {A : Around} {E : Value → Shared → Prop} {s : Shared} {env : Env} {h₀ : Heap} {L : Addr} {target iter : Expr} {body orelse : List Stmt} {pos : Pos} {Q : Flow → Shared → Prop} {m : Str → Option Value} {news : List (Addr × Obj)}
noncomputable abbrev Nev : Value → Shared → Prop := fun _ _ => False
theorem no_err {α : Type} {M : Model} {t : Sem α} {Q : α → Shared → Prop} (h : wpAny M A t Q Nev s) : wpAny M A t Q E s := wpAny_mono h (fun _ _ x => x) fun _ _ x => x.elim
noncomputable def BrkAt (prog : Program) (w : World) (A : Around) (env : Env) (target : Expr) (body : List Stmt) (Q : Flow → Shared → Prop) (it : Value) (s₂ : Shared) : Prop :=
  wpAny (model prog w) A (pyNext it) (fun r s₃ => ∃ v, r = some v ∧ wpAny (model prog w) A (letOwnedTupleGo target it v) (fun _ s₄ => wpAny (model prog w) A (assign target env v) (fun _ s₅ => wpAny (model prog w) A (execs body env) (fun f s₆ => f = .brk ∧ Q .next s₆) Nev s₅) Nev s₄) Nev s₃) Nev s₂
theorem For_brk (h : wpAny (model prog w) A (eval iter env) (fun xv s₁ => wpAny (model prog w) A (pyIter xv) (fun it s₂ => BrkAt prog w A env target body Q it s₂) Nev s₁) Nev s)
    (hs : ∀ x, foldedSetIterable iter env x = pure x := by intro _; rfl) : wpAny (model prog w) A (exec (.For target iter body orelse pos) env) Q E s := by
  refine no_err (wpAny_For (wpAny_mono h (fun xv s₁ h₁ => wpAny_mono h₁ (fun it s₂ h₂ => ?_) fun _ _ e => e) fun _ _ e => e) hs)
  refine codeAny_forLoop_any (fun n s' => s' = s₂) (fun n s' e => ?_) 0 rfl
  subst e
  refine wpAny_mono h₂ (fun r s₃ h₃ => ?_) fun _ _ x => x.elim
  obtain ⟨v, rfl, h₃⟩ := h₃
  refine wpAny_mono h₃ (fun _ s₄ h₄ => wpAny_mono h₄ (fun _ s₅ h₅ => wpAny_mono h₅ (fun f s₆ h₆ => ?_) fun _ _ x => x.elim) fun _ _ x => x.elim) fun _ _ x => x.elim
  obtain ⟨rfl, h₆⟩ := h₆
  exact h₆
noncomputable def LoopG (prog : Program) (w : World) (A : Around) (env : Env) (target : Expr) (body : List Stmt) (Q : Flow → Shared → Prop) (it : Value) (s₀ : Shared) : Prop :=
  ∃ (I : Nat → Shared → Prop) (n : Nat), I n s₀ ∧ ∀ n s, I n s → wpAny (model prog w) A (pyNext it) (fun r s₁ => match r with
    | none => Q .next s₁
    | some v => wpAny (model prog w) A (letOwnedTupleGo target it v) (fun _ s₂ => wpAny (model prog w) A (assign target env v) (fun _ s₃ => wpAny (model prog w) A (execs body env) (fun f s₄ => match f with
        | .next | .cont => ∃ m, m < n ∧ I m s₄
        | .brk => Q .next s₄
        | .ret v => Q (.ret v) s₄) Nev s₃) Nev s₂) Nev s₁) Nev s
theorem For_G (h : wpAny (model prog w) A (eval iter env) (fun xv s₁ => wpAny (model prog w) A (pyIter xv) (fun it s₂ => LoopG prog w A env target body Q it s₂) Nev s₁) Nev s)
    (hs : ∀ x, foldedSetIterable iter env x = pure x := by intro _; rfl) : wpAny (model prog w) A (exec (.For target iter body [] pos) env) Q E s := by
  refine no_err (wpAny_For (wpAny_mono h (fun xv s₁ h₁ => wpAny_mono h₁ (fun it s₂ h₂ => ?_) fun _ _ e => e) fun _ _ e => e) hs)
  obtain ⟨I, n, h0, turn⟩ := h₂
  refine codeAny_forLoop_any I (fun n s' hI => ?_) n h0
  refine wpAny_mono (turn n s' hI) (fun r s₁ h₁ => ?_) fun _ _ x => x.elim
  cases r with
  | none => exact wpAny_execs_nil h₁
  | some v =>
    refine wpAny_mono h₁ (fun _ s₂ h₂ => wpAny_mono h₂ (fun _ s₃ h₃ => wpAny_mono h₃ (fun f s₄ h₄ => ?_) fun _ _ x => x.elim) fun _ _ x => x.elim) fun _ _ x => x.elim
    cases f <;> exact h₄
/-- one turn's end: the iterator stands, the rest is J's -/
noncomputable def EndG (h₀ : Heap) (L : Addr) (s₁ : Shared) (I : Addr) (it : Obj) (keep : List (Addr × Obj)) (J : Array GenState → (Str → Option Value) → List (Addr × Obj) → Prop) (s₂ : Shared) : Prop :=
  ∃ h' g' tk m' news', s₂ = ⟨h', g', s₁.drawn, tk, s₁.os⟩ ∧ Fr h₀ L h' m' ∧ News h₀ L h' ((I, it) :: news') ∧ (∀ p ∈ news', p.1 ≠ I) ∧ (∀ p ∈ keep, p ∈ news') ∧ J g' m' news'
noncomputable def PostG (h₀ : Heap) (L : Addr) (s₁ : Shared) (I : Addr) (it : Obj) (keep : List (Addr × Obj)) (J : Array GenState → (Str → Option Value) → List (Addr × Obj) → Prop) (Q : Flow → Shared → Prop) (f : Flow) (s₂ : Shared) : Prop :=
  match f with
  | .ret v => Q (.ret v) s₂
  | .brk => Q .next s₂
  | _ => EndG h₀ L s₁ I it keep J s₂
theorem loopG_of {I : Addr} {fp : List Addr} {n : Nat} {P : Nat → Value → Prop} {St : Nat → Heap → Prop} {keep : List (Addr × Obj)} (W : Walks prog w A I fp [I] n P St)
    (hgo : ∀ i v (s : Shared) (Q : Unit → Shared → Prop) (E : Value → Shared → Prop), St i s.heap → Q () s → wpAny (model prog w) A (letOwnedTupleGo target (.ref I) v) Q E s)
    (hobj : ∀ i h, St i h → ∃ it, h.get? I = some it ∧ it.cls ≠ .type "tuple") (hfp : ∀ b ∈ fp, b = I ∨ ∃ o, (b, o) ∈ keep) (hkeep : ∀ p ∈ keep, p ∈ news)
    (hIL : I ≠ env.locals) (hI0 : h₀.get? I = none) (hIn : ∀ p ∈ news, p.1 ≠ I) (hst : St 0 s.heap) (F : Fr h₀ env.locals s.heap m) (N : News h₀ env.locals s.heap news)
    (J : Nat → Array GenState → (Str → Option Value) → List (Addr × Obj) → Prop) (h0 : J 0 s.gens m news)
    (step : ∀ i v g m₁ news₁ h tk it, i < n → P i v → J i g m₁ news₁ → (∀ p ∈ keep, p ∈ news₁) → (∀ p ∈ news₁, p.1 ≠ I) → Fr h₀ env.locals h m₁ → News h₀ env.locals h ((I, it) :: news₁) → it.cls ≠ .type "tuple" →
      wpAny (model prog w) A (assign target env v) (fun _ s₃ => wpAny (model prog w) A (execs body env) (PostG h₀ env.locals s I it keep (J (i + 1)) Q) Nev s₃) Nev ⟨h, g, s.drawn, tk, s.os⟩)
    (done : ∀ h g tk m₁ news₁, J n g m₁ news₁ → Fr h₀ env.locals h m₁ → News h₀ env.locals h news₁ → Q .next ⟨h, g, s.drawn, tk, s.os⟩) : LoopG prog w A env target body Q (.ref I) s := by
  refine ⟨fun k s' => ∃ i h g tk m₁ news₁, s' = ⟨h, g, s.drawn, tk, s.os⟩ ∧ St i h ∧ Fr h₀ env.locals h m₁ ∧ News h₀ env.locals h news₁ ∧ (∀ p ∈ news₁, p.1 ≠ I) ∧ (∀ p ∈ keep, p ∈ news₁) ∧ J i g m₁ news₁ ∧ i ≤ n ∧ k = n + 1 - i, n + 1,
    ⟨0, s.heap, s.gens, s.toks, m, news, rfl, hst, F, N, hIn, hkeep, h0, Nat.zero_le _, rfl⟩, ?_⟩
  rintro k s' ⟨i, h, g, tk, m₁, news₁, rfl, hst', F', N', hn', hk', hJ, hi, rfl⟩
  have next : ∀ h₁ : Heap, (∀ b o, b ∉ [I] → h.get? b = some o → h₁.get? b = some o) → Fr h₀ env.locals h₁ m₁ ∧ News h₀ env.locals h₁ news₁ := fun h₁ hk₁ =>
    ⟨⟨F'.ns.at' fun o e => hk₁ _ o (fun hm => hIL (List.mem_singleton.mp hm).symm) e, fun b o e => hk₁ b o (fun hm => by rw [List.mem_singleton.mp hm, hI0] at e; cases e) (F'.keep b o e), F'.above⟩,
     fun p hp => ⟨hk₁ _ _ (fun hm => hn' p hp (List.mem_singleton.mp hm)) (N' p hp).1, (N' p hp).2⟩⟩
  by_cases hlt : i < n
  · refine W.item i _ _ _ hlt hst' fun v h₁ tk₁ hP st₁ hk₁ => ?_
    obtain ⟨F₁, N₁⟩ := next h₁ hk₁
    obtain ⟨it, hit, hitc⟩ := hobj _ _ st₁
    refine hgo _ v _ _ _ st₁ ?_
    refine wpAny_mono (step i v g m₁ news₁ h₁ tk₁ it hlt hP hJ hk' hn' F₁ (fun p hp => ?_) hitc) (fun _ s₂ h₂ => wpAny_mono h₂ (fun f s₃ h₃ => ?_) fun _ _ e => e) fun _ _ e => e
    · rcases List.mem_cons.mp hp with rfl | hp
      · exact ⟨hit, hIL, hI0⟩
      · exact N₁ p hp
    have fin : EndG h₀ env.locals s I it keep (J (i + 1)) s₃ → ∃ m, m < n + 1 - i ∧ ∃ i h g tk m₁ news₁, s₃ = ⟨h, g, s.drawn, tk, s.os⟩ ∧ St i h ∧ Fr h₀ env.locals h m₁ ∧ News h₀ env.locals h news₁ ∧ (∀ p ∈ news₁, p.1 ≠ I) ∧ (∀ p ∈ keep, p ∈ news₁) ∧ J i g m₁ news₁ ∧ i ≤ n ∧ m = n + 1 - i := by
      rintro ⟨h', g', tk', m', news', rfl, F₂, N₂, hn₂, hk₂, hJ₂⟩
      refine ⟨n + 1 - (i + 1), by omega, i + 1, h', g', tk', m', news', rfl, W.frame _ _ _ st₁ (fun b hb o e => ?_), F₂, fun p hp => N₂ p (.tail _ hp), hn₂, hk₂, hJ₂, hlt, rfl⟩
      rcases hfp b hb with rfl | ⟨o', ho'⟩
      · rw [hit] at e; cases e; exact (N₂ _ (.head _)).1
      · have e1 := (N₁ _ (hk' _ ho')).1
        rw [e] at e1; cases e1
        exact (N₂ _ (.tail _ (hk₂ _ ho'))).1
    cases f with
    | ret v => exact h₃
    | brk => exact h₃
    | cont => exact fin h₃
    | next => exact fin h₃
  · have hin : i = n := by omega
    subst hin
    refine W.done _ _ _ hst' fun h₁ tk₁ hk₁ => ?_
    obtain ⟨F₁, N₁⟩ := next h₁ hk₁
    exact done h₁ g tk₁ m₁ news₁ hJ F₁ N₁
theorem iter_listG {ax : Addr} {lo : Obj} {vs : List Value} {n : Nat} (hh : A.handled = none) (F : Fr h₀ env.locals s.heap m) (N : News h₀ env.locals s.heap news) (hm : (ax, lo) ∈ news) (hc : lo.cls = .type "list") (hd : lo.data = .seq vs.toArray n)
    (J : Nat → Array GenState → (Str → Option Value) → List (Addr × Obj) → Prop) (h0 : J 0 s.gens m news)
    (step : ∀ I i v g m₁ news₁ h tk it (s' : Shared), vs[i]? = some v → J i g m₁ news₁ → (ax, lo) ∈ news₁ → (∀ p ∈ news₁, p.1 ≠ I) → s'.drawn = s.drawn → s'.os = s.os → Fr h₀ env.locals h m₁ → News h₀ env.locals h ((I, it) :: news₁) → it.cls ≠ .type "tuple" →
      wpAny (model prog w) A (assign target env v) (fun _ s₃ => wpAny (model prog w) A (execs body env) (PostG h₀ env.locals s' I it [(ax, lo)] (J (i + 1)) Q) Nev s₃) Nev ⟨h, g, s'.drawn, tk, s'.os⟩)
    (done : ∀ h g tk m₁ news₁, J vs.length g m₁ news₁ → Fr h₀ env.locals h m₁ → News h₀ env.locals h news₁ → Q .next ⟨h, g, s.drawn, tk, s.os⟩) :
    wpAny (model prog w) A (pyIter (.ref ax)) (fun it s₂ => LoopG prog w A env target body Q it s₂) E s := by
  have hax := N _ hm
  have hl : s.heap.IsList ax vs.toArray := ⟨lo, hax.1, hc, n, hd⟩
  have hlt : ax < s.heap.objs.size := Heap.lt_size hax.1
  have hne : ax ≠ s.heap.objs.size := Nat.ne_of_lt hlt
  refine wpAny_pyIter_list hl ?_
  have W := Walks.list (prog := prog) (w := w) (A := A) hh s.heap.objs.size ax hne vs.toArray
  have hlen : vs.toArray.size = vs.length := by simp
  rw [hlen] at W
  refine loopG_of (keep := [(ax, lo)]) W (fun i v s Q E st q => letGo_listiter st.1 q) (fun i h st => ?_) (fun b hb => ?_) (fun p hp => by rw [List.mem_singleton.mp hp]; exact hm) (fun e => absurd F.ns.lt (e ▸ Nat.lt_irrefl _)) (next_is_new F) (fun p hp => Nat.ne_of_lt (Heap.lt_size (N p hp).1))
    ⟨⟨_, Heap.get?_push_size _ rfl, rfl, rfl⟩, hl.at fun o e => Heap.get?_push_of_some _ e⟩ (F.push _) (fun p hp => ⟨Heap.get?_push_of_some _ (N p hp).1, (N p hp).2⟩) J h0 (fun i v g m₁ news₁ h tk it hi hP hJ hk hn F₁ N₁ hc => ?_) done
  · obtain ⟨it, hit, hcc, _⟩ := st.1
    exact ⟨it, hit, by rw [hcc]; exact fun e => absurd (Value.type.inj e) (by decide)⟩
  · have hb' : b = s.heap.objs.size ∨ b = ax := by simpa using hb
    rcases hb' with e | e
    · exact .inl e
    · exact .inr ⟨lo, by simp [e]⟩
  · exact step s.heap.objs.size i v g m₁ news₁ h tk it _ (by simpa using hP) hJ (hk _ (.head _)) hn rfl rfl F₁ N₁ hc
theorem iter_strG {tx : Str} {t : Tok} (hh : A.handled = none) (F : Fr h₀ env.locals s.heap m) (N : News h₀ env.locals s.heap news) (ht : ∀ it v, letOwnedTupleGo target it v = pure ())
    (J : Nat → Array GenState → (Str → Option Value) → List (Addr × Obj) → Prop) (h0 : J 0 s.gens m news)
    (step : ∀ I i c u g m₁ news₁ h tk it (s' : Shared), tx.cps[i]? = some c → J i g m₁ news₁ → (∀ p ∈ news₁, p.1 ≠ I) → s'.drawn = s.drawn → s'.os = s.os → Fr h₀ env.locals h m₁ → News h₀ env.locals h ((I, it) :: news₁) → it.cls ≠ .type "tuple" →
      wpAny (model prog w) A (assign target env (.str ⟨#[c]⟩ u)) (fun _ s₃ => wpAny (model prog w) A (execs body env) (PostG h₀ env.locals s' I it [] (J (i + 1)) Q) Nev s₃) Nev ⟨h, g, s'.drawn, tk, s'.os⟩)
    (done : ∀ h g tk m₁ news₁, J tx.cps.size g m₁ news₁ → Fr h₀ env.locals h m₁ → News h₀ env.locals h news₁ → Q .next ⟨h, g, s.drawn, tk, s.os⟩) :
    wpAny (model prog w) A (pyIter (.str tx t)) (fun it s₂ => LoopG prog w A env target body Q it s₂) E s := by
  have go : ∀ (T : String) (o : Obj), T ≠ "tuple" → Walks prog w A s.heap.objs.size [s.heap.objs.size] [s.heap.objs.size] tx.cps.size (SignAt tx) (fun i h => h.IsStrIter s.heap.objs.size T tx t i) →
      (s.heap.push o).IsStrIter s.heap.objs.size T tx t 0 → LoopG prog w A env target body Q (.ref s.heap.objs.size) { s with heap := s.heap.push o } := by
    intro T o hT W hst
    refine loopG_of (keep := []) W (fun i v s Q E st q => by rw [ht]; exact wpAny_pure q) (fun i h st => ?_) (fun b hb => .inl (List.mem_singleton.mp hb)) (fun p hp => nomatch hp) (fun e => absurd F.ns.lt (e ▸ Nat.lt_irrefl _)) (next_is_new F) (fun p hp => Nat.ne_of_lt (Heap.lt_size (N p hp).1))
      hst (F.push _) (fun p hp => ⟨Heap.get?_push_of_some _ (N p hp).1, (N p hp).2⟩) J h0 (fun i v g m₁ news₁ h tk it hi hP hJ hk hn F₁ N₁ hc => ?_) done
    · obtain ⟨it, hit, hcc, _⟩ := st
      exact ⟨it, hit, by rw [hcc]; exact fun e => hT (Value.type.inj e)⟩
    · obtain ⟨c, u, hcc, rfl⟩ := hP
      exact step s.heap.objs.size i c u g m₁ news₁ h tk it _ hcc hJ hn rfl rfl F₁ N₁ hc
  cases ha : tx.cps.all (· < 128)
  · exact wpAny_pyIter_wide ha (go "str_iterator" _ (by decide) (Walks.strWide hh _ tx t) ⟨_, Heap.get?_push_size _ rfl, rfl, rfl⟩)
  · exact wpAny_pyIter_ascii ha (go "str_ascii_iterator" _ (by decide) (Walks.strAscii hh _ tx t) ⟨_, Heap.get?_push_size _ rfl, rfl, rfl⟩)
theorem brk_of {I : Addr} {fp : List Addr} {n : Nat} {P : Nat → Value → Prop} {St : Nat → Heap → Prop} {o : Obj} (W : Walks prog w A I fp [I] n P St) (hn : 0 < n) (ht : ∀ it v, letOwnedTupleGo target it v = pure ())
    (hobj : ∀ i h, St i h → ∃ it, h.get? I = some it) (hI : I = s.heap.objs.size) (hst : St 0 (s.heap.push o)) (F : Fr h₀ env.locals s.heap m) (N : News h₀ env.locals s.heap news)
    (step : ∀ v h tk it, P 0 v → Fr h₀ env.locals h m → News h₀ env.locals h ((I, it) :: news) → (∀ p ∈ news, p.1 < I) →
      wpAny (model prog w) A (assign target env v) (fun _ s₃ => wpAny (model prog w) A (execs body env) (fun f s₆ => f = .brk ∧ Q .next s₆) Nev s₃) Nev { s with heap := h, toks := tk }) :
    BrkAt prog w A env target body Q (.ref I) { s with heap := s.heap.push o } := by
  subst hI
  refine W.item 0 _ _ _ hn hst fun v h₁ tk₁ hP st₁ hk₁ => ⟨v, rfl, ?_⟩
  rw [ht]
  refine wpAny_pure ?_
  have hIL : s.heap.objs.size ≠ env.locals := fun e => absurd F.ns.lt (e ▸ Nat.lt_irrefl _)
  have hI0 : h₀.get? s.heap.objs.size = none := next_is_new F
  have F' := F.push o
  obtain ⟨it, hit⟩ := hobj _ _ st₁
  refine step v h₁ tk₁ it hP ⟨F'.ns.at' fun o e => hk₁ _ o (fun hm => hIL (List.mem_singleton.mp hm).symm) e, fun b o e => hk₁ b o (fun hm => by rw [List.mem_singleton.mp hm, hI0] at e; cases e) (F'.keep b o e), F'.above⟩ (fun p hp => ?_) fun p hp => Heap.lt_size (N p hp).1
  rcases List.mem_cons.mp hp with rfl | hp
  · exact ⟨hit, hIL, hI0⟩
  · exact ⟨hk₁ _ _ (fun hm => absurd (Heap.lt_size (N p hp).1) (List.mem_singleton.mp hm ▸ Nat.lt_irrefl _)) (Heap.get?_push_of_some _ (N p hp).1), (N p hp).2⟩
theorem brk_str {tx : Str} {t : Tok} {c : Nat} (hh : A.handled = none) (hc : tx.cps[0]? = some c) (F : Fr h₀ env.locals s.heap m) (N : News h₀ env.locals s.heap news) (ht : ∀ it v, letOwnedTupleGo target it v = pure ())
    (step : ∀ I u h tk it, Fr h₀ env.locals h m → News h₀ env.locals h ((I, it) :: news) → (∀ p ∈ news, p.1 < I) →
      wpAny (model prog w) A (assign target env (.str ⟨#[c]⟩ u)) (fun _ s₃ => wpAny (model prog w) A (execs body env) (fun f s₆ => f = .brk ∧ Q .next s₆) Nev s₃) Nev { s with heap := h, toks := tk }) :
    wpAny (model prog w) A (pyIter (.str tx t)) (fun it s₂ => BrkAt prog w A env target body Q it s₂) E s := by
  have hn : 0 < tx.cps.size := by
    rcases Nat.eq_zero_or_pos tx.cps.size with e | e
    · rw [Array.getElem?_eq_none (by omega)] at hc; cases hc
    · exact e
  have go : ∀ (T : String) (o : Obj), Walks prog w A s.heap.objs.size [s.heap.objs.size] [s.heap.objs.size] tx.cps.size (SignAt tx) (fun i h => h.IsStrIter s.heap.objs.size T tx t i) →
      (s.heap.push o).IsStrIter s.heap.objs.size T tx t 0 → BrkAt prog w A env target body Q (.ref s.heap.objs.size) { s with heap := s.heap.push o } := by
    intro T o W hst
    refine brk_of W hn ht (fun i h st => ?_) rfl hst F N fun v h tk it hP F₁ N₁ l₁ => ?_
    · obtain ⟨it, hit, _⟩ := st
      exact ⟨it, hit⟩
    · obtain ⟨c', u, hc', rfl⟩ := hP
      rw [hc] at hc'; cases hc'
      exact step _ u h tk it F₁ N₁ l₁
  cases ha : tx.cps.all (· < 128)
  · exact wpAny_pyIter_wide ha (go "str_iterator" _ (Walks.strWide hh _ tx t) ⟨_, Heap.get?_push_size _ rfl, rfl, rfl⟩)
  · exact wpAny_pyIter_ascii ha (go "str_ascii_iterator" _ (Walks.strAscii hh _ tx t) ⟨_, Heap.get?_push_size _ rfl, rfl, rfl⟩)
theorem brk_range {r : Addr} {a b c : Int} {t u v : Tok} {n : Nat} (hh : A.handled = none) (hr : IsRange s.heap r a b c t u v) (hsmall : Builtin.Range.small a b c = true) (hsz : Builtin.Range.rangeSize a b c = (n : Int)) (hn : 0 < n) (F : Fr h₀ env.locals s.heap m) (N : News h₀ env.locals s.heap news) (ht : ∀ it v, letOwnedTupleGo target it v = pure ())
    (step : ∀ I u h tk it, Fr h₀ env.locals h m → News h₀ env.locals h ((I, it) :: news) → (∀ p ∈ news, p.1 < I) →
      wpAny (model prog w) A (assign target env (.int a u)) (fun _ s₃ => wpAny (model prog w) A (execs body env) (fun f s₆ => f = .brk ∧ Q .next s₆) Nev s₃) Nev { s with heap := h, toks := tk }) :
    wpAny (model prog w) A (pyIter (.ref r)) (fun it s₂ => BrkAt prog w A env target body Q it s₂) E s := by
  refine wpAny_pyIter_range hr hsmall ?_
  refine brk_of (Walks.range hh _ a c n) hn ht (fun i h st => ⟨_, st⟩) rfl ?_ F N fun v h tk it hP F₁ N₁ l₁ => ?_
  · show IsRangeIter _ _ _ _ _
    rw [hsz]
    simpa using Heap.get?_push_size _ rfl
  · obtain ⟨t', rfl⟩ := hP
    have e1 : a + ((0 : Nat) : Int) * c = a := by simp
    rw [e1]
    exact step _ t' h tk it F₁ N₁ l₁
end
noncomputable def Halt (P : Prop) : Prop := P
theorem halt {P : Prop} (h : Halt P) : P := h
local macro_rules | `(tactic| walk_at "call ref") => `(tactic| (k_here; k_dflt (refine' part_count_ct ?k1 ?k2 ?k3 ?k4 ?k5 ?k6 ?k7 ?k8 ?k9 ?k10 ?k11 ?_; (case k1 | k2 | k3 | k4 | k5 => k_asm); (case k6 => first | exact rfl | assumption); (case k9 | k10 => walk_at "mine mem"); (case k11 => first | assumption | (simp only [List.length_map, List.length_append, List.length_cons, List.length_nil]; omega)); (case k7 | k8 => exact Nat.le_of_ble_eq_true rfl); k_whole); intro h' tk t F' N'; (try k_sweep)))
local macro_rules | `(tactic| walk_at "call ref") => `(tactic| (k_here; k_dflt (refine' push_part_ct ?k1 ?k2 ?k3 ?k4 ?k5 ?k6 ?k7 ?k8 ?k9 ?k10 ?k11 ?k12 ?_; (walk_at "mine c0"); (case k9 | k10 => walk_at "mine mem"); (case k11 => first | assumption | omega); (case k12 => intro t' n'; walk_at "mine upd"); k_whole); intro h' tk tp n' F' N' l1; (try k_lt l1); (try k_sweep)))
local macro_rules | `(tactic| walk_at "call ref") => `(tactic| (k_here; k_dflt (refine' len_ct ?k1 ?k2 ?k3 ?k4 ?k5 ?k6 ?k7 ?k8 ?k9 ?k10 ?k11 ?k12 ?k13 ?k14 ?k15 ?k16 ?_; (walk_at "mine c0"); (case k9 | k10 => walk_at "mine mem"); (case k11 | k12 => first | assumption | apply_assumption (exfalso := false)); (walk_at "mine c3"); (case k16 => walk_at "mine upds"); k_whole); intro h' g' tk t more F' N' htr' hgb'; (try k_sweep)))
theorem rs_L23 : True := by
  have h : (1 : Nat) = 1 := by walk1
  w_top off; exact trivial
section
local macro_rules | `(tactic| walk_at "mine upd") => `(tactic| first | (apply_assumption (exfalso := false); done) | k_upd | (refine' Upd.head ?a; (case a => walk_at "mine all")) | (refine' Upd.tail ?a ?b; (walk_at "mine c4")))
section
variable {prog : Program} {w : World} {A : Around} {E : Value → Shared → Prop} {s : Shared} {h₀ : Heap} {L : Addr} {m mg mb : Str → Option Value} {news news' : List (Addr × Obj)} {K : Frag} {x C D so dx : Addr}
theorem tail_int {value slice : Expr} {its l : List Value} {n : Nat} {k : Int} {u : Tok} {v : Value} {o : Obj} {Q : Value → Shared → Prop} (F : Fr h₀ L s.heap m) (X₀ : K.In h₀) (N : News h₀ L s.heap news) (hx : (x, accO C dx its n) ∈ news) (hd : (dx, o) ∈ news)
    (h0 : 0 ≤ k) (hfit : k < 2 ^ 63) (hk : its[k.toNat]? = some v) (hq : noSeq K C = true) (hs : findIn K (.ref C) "__getitem__" = some (some (.builtin "list.__getitem__"))) (hm : mroIn K C (.type "list") = some true)
    (hsl : subscripted slice false (.ref x) (.int k u) = operate l (getItem (.ref x) (.int k u)))
    (h : ∀ tk, Q v { s with toks := tk }) :
    wpAny (model prog w) A (subscriptTail value slice (.ref x) (.int k u)) Q E s := by
  have X := X₀.keeps F.keep
  refine tail_acc (l := l) X (inst_acc N hx hd) hq hs hm ?_ hsl
  refine getint_acc (N _ hx).1 h0 hfit hk ?_
  exact wpAny_letTemporaryGo (h _)
end
theorem at_last {l : List Part} {q : Part} : ((l ++ [q]).map pref)[((l.length : Nat) : Int).toNat]? = some (pref q) := by simp
theorem range_size {k : Nat} (hk : 0 < k) : Builtin.Range.rangeSize (k : Int) 0 (-1) = (k : Int) := by
  unfold Builtin.Range.rangeSize
  rw [if_neg (by decide), if_pos (by omega)]
  simp
theorem range_small {k : Nat} (hk : 0 < k) (h : k ≤ 1000) : Builtin.Range.small (k : Int) 0 (-1) = true := by
  unfold Builtin.Range.small
  rw [range_size hk]
  unfold Builtin.Range.rangeFitsLong
  simp
  omega
section
variable {w : World} {p : Program} {loose : List Str} {mean : ExcName → Option Value} {mg mb : Str → Option Value} {dp un : Nat} {gd : Option (List Code)} {cn : Str} {cs : Scope} {a : Addr} {ccd : Value} {cl : List (Str × Addr)} {outer : List Env} {A₀ : Around} {base h₀ : Heap} {L : Addr} {m : Str → Option Value} {news : List (Addr × Obj)} {s : Shared} {Q E : Value → Shared → Prop}
set_option maxHeartbeats 2000000
theorem pop_from_part_ct {x dx : Addr} {l1 l2 : List Part} {n n' : Nat} {ti : Tok} {es : List DictEntry} {news' : Nat → List (Addr × Obj)}
  (B : Below A₀ base outer h₀) (F : Fr h₀ L s.heap m) (X : (KF w.params).In h₀) (N : News h₀ L s.heap news) (T : Top p loose mean mg mb h₀) (hk : cs.kind = .function)
  (hdp : dp ≤ 890) (hun : un ≤ 4900) (hx : (x, accO 205 dx ((l1 ++ l2).map pref) n) ∈ news) (hd : (dx, dictOf es n') ∈ news) (hz : l1.length + l2.length ≤ 1000)
  (U : ∀ n', Upd x (accO 205 dx ((l1 ++ l2).map pref) n) (accO 205 dx (l1.map pref) n') news (news' n'))
  (hret : ∀ h' tk n' l c, Fr h₀ L h' m → News h₀ L h' ((l, listOf (l2.map pref).toArray c) :: news' n') → (∀ p ∈ news, p.1 < l) → Q (.ref l) { s with heap := h', toks := tk }) :
  wpAny (model PySem.Challenge.rw_wc0034_01.row.prog w) (ktrTop dp un gd cn cs L a ccd cl outer) (call (.ref 157) [.ref x, .int (l1.length : Nat) ti]) Q E s := by
  have e1 : ((l1 ++ l2).map pref).take l1.length = l1.map pref := by simp
  have e2 : ((l1 ++ l2).map pref).drop l1.length = l2.map pref := by simp
  refine pop_from_ct (news' := news') B F X N T hk hdp hun hx hd (by simp; omega) (by simp) ?_ ?_
  · rw [e1]; exact U
  · rw [e2]; exact hret
end
end
noncomputable def NEQ (a b : Addr) : Prop := a ≠ b
theorem NEQ.of {a b : Nat} (h : a < b) : NEQ a b := Nat.ne_of_lt h
theorem NEQ.out {a b : Addr} (h : NEQ a b) : a ≠ b := h
theorem NEQ.sym {a b : Addr} (h : NEQ b a) : a ≠ b := Ne.symm h
theorem ord7 {P : Prop} {a b c d e : Addr} (h : @LT.lt Nat _ 174 a ∧ @LT.lt Nat _ a b ∧ @LT.lt Nat _ b c ∧ @LT.lt Nat _ c d ∧ @LT.lt Nat _ d e) (k : NEQ 167 174 → NEQ 167 a → NEQ 167 b → NEQ 167 c → NEQ 167 d → NEQ 167 e → NEQ 174 a → NEQ 174 b → NEQ 174 c → NEQ 174 d → NEQ 174 e → NEQ a b → NEQ a c → NEQ a d → NEQ a e → NEQ b c → NEQ b d → NEQ b e → NEQ c d → NEQ c e → NEQ d e → P) : P :=
  match h with
  | ⟨l12, l23, l34, l45, l56⟩ =>
    have l01 : @LT.lt Nat _ 167 174 := Nat.le_of_ble_eq_true rfl
    have l02 := Nat.lt_trans l01 l12
    have l13 := Nat.lt_trans l12 l23
    have l24 := Nat.lt_trans l23 l34
    have l35 := Nat.lt_trans l34 l45
    have l46 := Nat.lt_trans l45 l56
    have l03 := Nat.lt_trans l02 l23
    have l14 := Nat.lt_trans l13 l34
    have l25 := Nat.lt_trans l24 l45
    have l36 := Nat.lt_trans l35 l56
    have l04 := Nat.lt_trans l03 l34
    have l15 := Nat.lt_trans l14 l45
    have l26 := Nat.lt_trans l25 l56
    have l05 := Nat.lt_trans l04 l45
    have l16 := Nat.lt_trans l15 l56
    have l06 := Nat.lt_trans l05 l56
    k (NEQ.of l01) (NEQ.of l02) (NEQ.of l03) (NEQ.of l04) (NEQ.of l05) (NEQ.of l06) (NEQ.of l12) (NEQ.of l13) (NEQ.of l14) (NEQ.of l15) (NEQ.of l16) (NEQ.of l23) (NEQ.of l24) (NEQ.of l25) (NEQ.of l26) (NEQ.of l34) (NEQ.of l35) (NEQ.of l36) (NEQ.of l45) (NEQ.of l46) (NEQ.of l56)
theorem ord9 {P : Prop} {a b c d e f g : Addr} (h : @LT.lt Nat _ 174 a ∧ @LT.lt Nat _ a b ∧ @LT.lt Nat _ b c ∧ @LT.lt Nat _ c d ∧ @LT.lt Nat _ d e ∧ @LT.lt Nat _ e f ∧ @LT.lt Nat _ f g) (k : NEQ 167 174 → NEQ 167 a → NEQ 167 b → NEQ 167 c → NEQ 167 d → NEQ 167 e → NEQ 167 f → NEQ 167 g → NEQ 174 a → NEQ 174 b → NEQ 174 c → NEQ 174 d → NEQ 174 e → NEQ 174 f → NEQ 174 g → NEQ a b → NEQ a c → NEQ a d → NEQ a e → NEQ a f → NEQ a g → NEQ b c → NEQ b d → NEQ b e → NEQ b f → NEQ b g → NEQ c d → NEQ c e → NEQ c f → NEQ c g → NEQ d e → NEQ d f → NEQ d g → NEQ e f → NEQ e g → NEQ f g → P) : P :=
  match h with
  | ⟨l12, l23, l34, l45, l56, l67, l78⟩ =>
    have l01 : @LT.lt Nat _ 167 174 := Nat.le_of_ble_eq_true rfl
    have l02 := Nat.lt_trans l01 l12
    have l13 := Nat.lt_trans l12 l23
    have l24 := Nat.lt_trans l23 l34
    have l35 := Nat.lt_trans l34 l45
    have l46 := Nat.lt_trans l45 l56
    have l57 := Nat.lt_trans l56 l67
    have l68 := Nat.lt_trans l67 l78
    have l03 := Nat.lt_trans l02 l23
    have l14 := Nat.lt_trans l13 l34
    have l25 := Nat.lt_trans l24 l45
    have l36 := Nat.lt_trans l35 l56
    have l47 := Nat.lt_trans l46 l67
    have l58 := Nat.lt_trans l57 l78
    have l04 := Nat.lt_trans l03 l34
    have l15 := Nat.lt_trans l14 l45
    have l26 := Nat.lt_trans l25 l56
    have l37 := Nat.lt_trans l36 l67
    have l48 := Nat.lt_trans l47 l78
    have l05 := Nat.lt_trans l04 l45
    have l16 := Nat.lt_trans l15 l56
    have l27 := Nat.lt_trans l26 l67
    have l38 := Nat.lt_trans l37 l78
    have l06 := Nat.lt_trans l05 l56
    have l17 := Nat.lt_trans l16 l67
    have l28 := Nat.lt_trans l27 l78
    have l07 := Nat.lt_trans l06 l67
    have l18 := Nat.lt_trans l17 l78
    have l08 := Nat.lt_trans l07 l78
    k (NEQ.of l01) (NEQ.of l02) (NEQ.of l03) (NEQ.of l04) (NEQ.of l05) (NEQ.of l06) (NEQ.of l07) (NEQ.of l08) (NEQ.of l12) (NEQ.of l13) (NEQ.of l14) (NEQ.of l15) (NEQ.of l16) (NEQ.of l17) (NEQ.of l18) (NEQ.of l23) (NEQ.of l24) (NEQ.of l25) (NEQ.of l26) (NEQ.of l27) (NEQ.of l28) (NEQ.of l34) (NEQ.of l35) (NEQ.of l36) (NEQ.of l37) (NEQ.of l38) (NEQ.of l45) (NEQ.of l46) (NEQ.of l47) (NEQ.of l48) (NEQ.of l56) (NEQ.of l57) (NEQ.of l58) (NEQ.of l67) (NEQ.of l68) (NEQ.of l78)
theorem off_up {v dv x dx ll xr dxr t : Addr} (ho : @LT.lt Nat _ 174 dv ∧ @LT.lt Nat _ dv v ∧ @LT.lt Nat _ v ll ∧ @LT.lt Nat _ ll dx ∧ @LT.lt Nat _ dx x ∧ @LT.lt Nat _ x dxr ∧ @LT.lt Nat _ dxr xr) (lx : @LT.lt Nat _ xr t) :
    t ≠ x ∧ t ≠ dx ∧ t ≠ ll ∧ t ≠ v ∧ t ≠ dv ∧ t ≠ 167 ∧ t ≠ 174 ∧ t ≠ xr ∧ t ≠ dxr :=
  have g : ∀ {a b : Nat}, a < b → b ≠ a := fun h => Nat.ne_of_gt h
  have l1 := Nat.lt_trans ho.2.2.2.2.2.2 lx
  have l2 := Nat.lt_trans ho.2.2.2.2.2.1 l1
  have l3 := Nat.lt_trans ho.2.2.2.2.1 l2
  have l4 := Nat.lt_trans ho.2.2.2.1 l3
  have l5 := Nat.lt_trans ho.2.2.1 l4
  have l6 := Nat.lt_trans ho.2.1 l5
  have l7 := Nat.lt_trans ho.1 l6
  ⟨g l2, g l3, g l4, g l5, g l6, g (Nat.lt_trans (Nat.le_of_ble_eq_true rfl : @LT.lt Nat _ 167 174) l7), g l7, g lx, g l1⟩
theorem off_dn {v dv x dx ll xr dxr t : Addr} (ho : @LT.lt Nat _ 174 dv ∧ @LT.lt Nat _ dv v ∧ @LT.lt Nat _ v ll ∧ @LT.lt Nat _ ll dx ∧ @LT.lt Nat _ dx x ∧ @LT.lt Nat _ x dxr ∧ @LT.lt Nat _ dxr xr) (lx : @LT.lt Nat _ t dv) (h1 : t ≠ 167) (h2 : t ≠ 174) :
    t ≠ x ∧ t ≠ dx ∧ t ≠ ll ∧ t ≠ v ∧ t ≠ dv ∧ t ≠ 167 ∧ t ≠ 174 ∧ t ≠ xr ∧ t ≠ dxr :=
  have g : ∀ {a b : Nat}, a < b → a ≠ b := fun h => Nat.ne_of_lt h
  have l1 := Nat.lt_trans lx ho.2.1
  have l2 := Nat.lt_trans l1 ho.2.2.1
  have l3 := Nat.lt_trans l2 ho.2.2.2.1
  have l4 := Nat.lt_trans l3 ho.2.2.2.2.1
  have l5 := Nat.lt_trans l4 ho.2.2.2.2.2.1
  have l6 := Nat.lt_trans l5 ho.2.2.2.2.2.2
  ⟨g l4, g l3, g l2, g l1, g lx, h1, h2, g l6, g l5⟩
local macro_rules | `(tactic| k_ne) => `(tactic| first | (refine NEQ.out ?_; (try dsimp only); with_reducible assumption) | (refine NEQ.sym ?_; (try dsimp only); with_reducible assumption))
local macro_rules | `(tactic| walk_at "call ref") => `(tactic| (k_here; k_dflt (refine' str_ct ?k1 ?k2 ?k3 ?k4 ?k5 ?k6 ?k7 ?k8 ?k9 ?k10 ?k11 ?k12 ?k13 ?k14 ?k15 ?k16 ?k17 ?_; (walk_at "mine c0"); (case k9 | k10 => walk_at "mine mem"); (case k11 => first | assumption | apply_assumption (exfalso := false) | (intro q hq; repeat (first | exact ht q hq | refine List.mem_cons_of_mem _ ?_))); (case k12 => assumption); (walk_at "mine c3"); (case k16 => first | assumption | omega); (case k17 => walk_at "mine upds"); k_whole); intro h' g' tk t more F' N' htr' hgb'; (try k_sweep)))
local macro_rules | `(tactic| walk_at "call ref") => `(tactic| (k_here; k_dflt (refine' len_ct ?k1 ?k2 ?k3 ?k4 ?k5 ?k6 ?k7 ?k8 ?k9 ?k10 ?k11 ?k12 ?k13 ?k14 ?k15 ?k16 ?_; (walk_at "mine c0"); (case k9 | k10 => walk_at "mine mem"); (case k11 => first | assumption | apply_assumption (exfalso := false) | (intro q hq; repeat (first | exact ht q hq | refine List.mem_cons_of_mem _ ?_))); (case k12 => first | assumption | apply_assumption (exfalso := false)); (walk_at "mine c3"); (case k16 => walk_at "mine upds"); k_whole); intro h' g' tk t more F' N' htr' hgb'; (try k_sweep)))
local macro_rules | `(tactic| walk_at "subscriptTail") => `(tactic| (k_here; (with_reducible show wpAny _ _ (subscriptTail _ _ (Value.ref _) (Value.int _ _)) _ _ _); k_dflt (refine' tail_int ?k1 ?k2 ?k3 ?k4 ?k5 ?k6 ?k7 ?k8 ?k9 ?k10 ?k11 ?k12 ?_; (case k1 | k2 | k3 => k_asm); (case k4 | k5 => walk_at "mine mem"); (case k6 => first | exact Int.natCast_nonneg _ | decide | omega); (case k7 => first | decide | omega); (case k8 => first | exact at_last | exact rfl | assumption); (case k9 | k10 | k11 => k_is); (case k12 => with_unfolding_all rfl); k_whole); intro tk; (try k_sweep)))
local macro_rules | `(tactic| walk_at "call ref") => `(tactic| (k_here; k_dflt (refine' pop_from_part_ct ?k1 ?k2 ?k3 ?k4 ?k5 ?k6 ?k7 ?k8 ?k9 ?k10 ?k11 ?k12 ?_; (walk_at "mine c0"); (case k9 | k10 => walk_at "mine mem"); (case k11 => first | (simp only [List.length_cons, List.length_nil]; omega) | omega); (case k12 => intro n'; walk_at "mine upd"); k_whole); intro h' tk n' lr c' F' N' l1; (try k_lt l1); (try k_sweep)))
local macro_rules | `(tactic| walk_at "call ref") => `(tactic| (k_here; k_dflt (refine' reset_ct ?k1 ?k2 ?k3 ?k4 ?k5 ?k6 ?k7 ?k8 ?k9 ?k10 ?k11 ?k12 ?k13 ?k14 ?k15 ?k16 ?k17 ?_; (walk_at "mine c0"); (case k9 | k10 | k11 => walk_at "mine mem"); (case k12 | k13 => simp only [List.length_map, List.length_append, List.length_cons, List.length_nil]; omega); (case k14 => intro n'; walk_at "mine upd"); (case k15 | k16 => intro m'; walk_at "mine mem"); (case k17 => intro m' t'; walk_at "mine upd"); k_whole); intro h' tk n' tz F' N'; (try k_sweep)))
local macro_rules | `(tactic| walk_at "StrBack") => `(tactic| (show PySem.wpAny _ _ _ _ _ _))
local macro_rules | `(tactic| walk_at "mine sub") => `(tactic| first | exact List.forall_mem_nil _ | (refine' List.forall_mem_cons.mpr ⟨?msa, ?msb⟩; (case msa => walk_at "mine mem"); (case msb => walk_at "mine sub")) | (intro p hp; repeat (first | exact hp | refine List.mem_cons_of_mem _ ?_)))
theorem rs_L24 : True := by
  have h : (1 : Nat) = 1 := by walk1
  w_top off; exact trivial
section
local macro_rules | `(tactic| walk_at "mine upd") => `(tactic| first | (apply_assumption (exfalso := false); done) | k_upd | (refine' Upd.head ?a; (case a => walk_at "mine all")) | (refine' Upd.tail ?a ?b; (walk_at "mine c4")))
local macro_rules | `(tactic| walk_at "exec For") => `(tactic| ((with_reducible show wpAny _ _ (exec (Stmt.For _ _ _ _ _) _) _ _ _); refine halt ?_))
section
variable {w : World} {p : Program} {loose : List Str} {mean : ExcName → Option Value} {mg mb : Str → Option Value} {dp un : Nat} {gd : Option (List Code)} {cn : Str} {cs : Scope} {a : Addr} {ccd : Value} {cl : List (Str × Addr)} {outer : List Env} {A₀ : Around} {base h₀ : Heap} {L : Addr} {m : Str → Option Value} {news : List (Addr × Obj)} {s : Shared} {Q E : Value → Shared → Prop}
set_option maxHeartbeats 2000000
theorem chunk_full_ct {v dv x dx ll : Addr} {l : List Part} {lines : List Value} {n n' nv nl : Nat} {tk0 t0 k1 k2 k3 k4 k5 k6 tM tf ts t3 : Tok} {M : Int} {cwV clV : Value} {s2 : Str} {ps1 ps2 : Array Value} {rest : List (Addr × Obj)}
  (B : Below A₀ base outer h₀) (F : Fr h₀ L s.heap m) (X : (KF w.params).In h₀)
  (N : News h₀ L s.heap ((x, accO 205 dx (l.map pref) n) :: (dx, dictOf (isz w.params tk0 0 t0) n') :: (ll, listOf lines.toArray nl) :: (v, instObj 121 dv) :: (dv, dictOf (vfd w.params k1 k2 k3 k4 k5 k6 (.int M tM) cwV clV (.str (Str.ofString " ") t3) ll x) nv) :: (167, PySem.W.X.tableObj ps1) :: (174, PySem.W.X.tableObj ps2) :: rest))
  (T : Top p loose mean mg mb h₀) (hk : cs.kind = .function)
  (hdp : dp ≤ 870) (hun : un ≤ 4700)
  (ho : @LT.lt Nat _ 174 dv ∧ @LT.lt Nat _ dv v ∧ @LT.lt Nat _ v ll ∧ @LT.lt Nat _ ll dx ∧ @LT.lt Nat _ dx x)
  (r1 : ∀ p ∈ rest, p.1 ≠ x) (r2 : ∀ p ∈ rest, p.1 ≠ dx) (r3 : ∀ p ∈ rest, p.1 ≠ ll) (r4 : ∀ p ∈ rest, p.1 ≠ 167) (r5 : ∀ p ∈ rest, p.1 ≠ 174)
  (ht : ∀ q ∈ l, (q.1, pO q) ∈ rest) (hz : ∀ q ∈ l, q.2.1.1.length ≤ 1000 ∧ q.2.2.1.length ≤ 1000)
  (hl : l.length ≤ 900) (h2 : s2.length ≤ 1000) (hln : lines.length ≤ 900) (hpos : 0 < l.length) (hgt : M < (partsLen l : Int) + 1 + s2.length)
  (htr1 : TriplesOk ps1.toList) (htr2 : TriplesOk ps2.toList) (hgb : AllBare s.gens)
  (hret : ∀ h' g' tk tp n1 n2 t1 t2 nl' more1 more2, Fr h₀ L h' m → News h₀ L h' ((x, accO 205 dx [.ref tp] n1) :: (dx, dictOf (isz w.params tk0 0 t1) n2) :: (ll, listOf (lines ++ [Value.str (partsText l) t2]).toArray nl') :: (v, instObj 121 dv) :: (dv, dictOf (vfd w.params k1 k2 k3 k4 k5 k6 (.int M tM) cwV clV (.str (Str.ofString " ") t3) ll x) nv) :: (167, PySem.W.X.tableObj (ps1 ++ more1)) :: (174, PySem.W.X.tableObj (ps2 ++ more2)) :: (tp, tupO [.str (Str.ofString " ") tf, .str s2 ts]) :: rest) →
    TriplesOk (ps1 ++ more1).toList → TriplesOk (ps2 ++ more2).toList → AllBare g' → (∀ p ∈ rest, p.1 < tp) → x < tp → Q .none ⟨h', g', s.drawn, tk, s.os⟩) :
  wpAny (model PySem.Challenge.rw_wc0034_01.row.prog w) (ktrTop dp un gd cn cs L a ccd cl outer) (call (.ref 118) [.ref v, .str (Str.ofString " ") tf, .str s2 ts]) Q E s := by
  refine up hdp hun ?_
  refine ord7 ho ?_
  intros
  have hz1 : ∀ t : Addr, ∀ q ∈ l ++ [(t, (Str.ofString " ", tf), (s2, ts))], q.2.1.1.length ≤ 1000 ∧ q.2.2.1.length ≤ 1000 := by
    intro t q hq
    rcases List.mem_append.mp hq with hq | hq
    · exact hz q hq
    · rw [List.mem_singleton.mp hq]; exact ⟨(by decide : (Str.ofString " ").length ≤ 1000), h2⟩
  have hz2 : ∀ t : Addr, partsLen (l ++ [(t, (Str.ofString " ", tf), (s2, ts))]) ≤ 2000000 := fun t => partsLen_le (hz1 t) (by simp; omega)
  have hz3 : ∀ t : Addr, M < (partsLen (l ++ [(t, (Str.ofString " ", tf), (s2, ts))]) : Int) := fun t => by
    have e1 : (Str.ofString " ").length = 1 := rfl
    rw [partsLen_append]; simp only [partsLen, List.map_cons, List.map_nil, List.sum_cons, List.sum_nil, e1]; unfold partsLen at hgt; omega
  have ht1 : ∀ (t : Addr) (a1 a2 a3 a4 a5 a6 a7 : Addr × Obj), ∀ q ∈ l ++ [(t, (Str.ofString " ", tf), (s2, ts))], (q.1, pO q) ∈ ((t, tupO [.str (Str.ofString " ") tf, .str s2 ts]) : Addr × Obj) :: a1 :: a2 :: a3 :: a4 :: a5 :: a6 :: a7 :: rest := by
    intro t a1 a2 a3 a4 a5 a6 a7 q hq
    rcases List.mem_append.mp hq with hq | hq
    · exact .tail _ (.tail _ (.tail _ (.tail _ (.tail _ (.tail _ (.tail _ (.tail _ (ht q hq))))))))
    · rw [List.mem_singleton.mp hq]; exact .head _
  revert X; k_fill; intro X
  walk_at "mine enter"
  k_steps
  have hb := hz2 tp
  have hc := hz3 tp
  refine ⟨⟨by omega, by omega⟩, ?_⟩
  dsimp only
  k_steps
  show wpAny _ _ _ _ _ _
  refine For_brk ?_
  k_steps
  refine brk_str rfl (c := 32) rfl F' N' (fun _ _ => rfl) ?_
  intro Ic uc hc1 tkc itc Fc Nc lIc
  clear F' N'
  k_lt lIc
  k_steps
  show wpAny _ _ _ _ _ _
  refine For_brk ?_
  k_steps
  rename IsRange _ _ _ _ _ _ _ _ => rgX
  rename Fr _ _ _ _ => Fx
  rename News _ _ _ _ => Nx
  have hlen : ((List.map pref (l ++ [(tp, (Str.ofString " ", tf), s2, ts)])).length : Int) - 1 = (l.length : Int) := by simp
  rw [hlen] at rgX
  refine brk_range (n := l.length) rfl rgX (range_small hpos (by omega)) (range_size hpos) hpos Fx Nx (fun _ _ => rfl) ?_
  intro Ir ur hr1 tkr itr Fr1 Nr1 lIr
  clear Fx Nx
  k_lt lIr
  k_steps
  rename x < tp ∧ _ => ltp
  rename News h₀ L _ _ => kNx
  rw [List.push_toArray] at kNx
  refine' hret _ _ _ tp _ _ _ _ _ _ _ (by k_asm) (news_sub kNx ?sb) (by assumption) (by assumption) (by assumption) ?lq ltp.1
  case sb => walk_at "mine sub"
  case lq => exact allLt_mem ltp.2.2.2.2.2.2.2
end
end
local macro_rules | `(tactic| walk_at "mine upd") => `(tactic| first | (apply_assumption (exfalso := false); done) | k_upd | (refine' Upd.head ?mua; (case mua => walk_at "mine all")) | (refine' Upd.tail ?mua ?mub; (case mua => walk_at "mine ne"); (case mub => first | apply_assumption (exfalso := false) | walk_at "mine upd")))
theorem rs_L25 : True := by
  have h : (1 : Nat) = 1 := by walk1
  w_top off; exact trivial
section
local macro_rules | `(tactic| walk_at "mine mem") => `(tactic| first | (focus ((repeat (first | exact List.mem_cons_self | refine List.mem_cons_of_mem _ ?_)); first | done | assumption | (apply_assumption (exfalso := false); done))) | assumption | (apply_assumption (exfalso := false); done))
section
variable {w : World} {p : Program} {loose : List Str} {mean : ExcName → Option Value} {mg mb : Str → Option Value} {dp un : Nat} {gd : Option (List Code)} {cn : Str} {cs : Scope} {a : Addr} {ccd : Value} {cl : List (Str × Addr)} {outer : List Env} {A₀ : Around} {base h₀ : Heap} {L : Addr} {m : Str → Option Value} {news : List (Addr × Obj)} {s : Shared} {Q E : Value → Shared → Prop}
set_option maxHeartbeats 2000000
theorem reset_none_ct {x dx : Addr} {its : List Value} {n n' : Nat} {tk0 t0 : Tok} {k0 : Int} {news1 : Nat → List (Addr × Obj)} {news2 : Nat → Tok → List (Addr × Obj)}
  (B : Below A₀ base outer h₀) (F : Fr h₀ L s.heap m) (X : (KF w.params).In h₀) (N : News h₀ L s.heap news) (T : Top p loose mean mg mb h₀) (hk : cs.kind = .function)
  (hdp : dp ≤ 890) (hun : un ≤ 4900) (hx : (x, accO 205 dx its n) ∈ news) (hd : (dx, dictOf (isz w.params tk0 k0 t0) n') ∈ news) (hz : its.length ≤ 1000)
  (U : ∀ n', Upd x (accO 205 dx its n) (accO 205 dx [] n') news (news1 n'))
  (hd1 : ∀ m', (dx, dictOf (isz w.params tk0 k0 t0) n') ∈ news1 m') (hx1 : ∀ m', (x, accO 205 dx [] m') ∈ news1 m')
  (V : ∀ m' t, Upd dx (dictOf (isz w.params tk0 k0 t0) n') (dictOf (isz w.params tk0 0 t) n') (news1 m') (news2 m' t))
  (hret : ∀ h' tk n' t, Fr h₀ L h' m → News h₀ L h' (news2 n' t) → Q .none { s with heap := h', toks := tk }) :
  wpAny (model PySem.Challenge.rw_wc0034_01.row.prog w) (ktrTop dp un gd cn cs L a ccd cl outer) (call (.ref 187) [.ref x]) Q E s := by
  refine up hdp hun ?_
  revert X; k_fill; intro X
  walk_at "mine enter"
  k_steps
  exact hret _ _ _ _ (by k_asm) (fun p hp => (by k_asm : News _ _ _ _) p (.tail _ hp))
end
end
section
variable {w : World} {p : Program} {loose : List Str} {mean : ExcName → Option Value} {mg mb : Str → Option Value} {dp un : Nat} {gd : Option (List Code)} {cn : Str} {cs : Scope} {a : Addr} {ccd : Value} {cl : List (Str × Addr)} {outer : List Env} {A₀ : Around} {base h₀ : Heap} {L : Addr} {m : Str → Option Value} {news : List (Addr × Obj)} {s : Shared} {Q E : Value → Shared → Prop}
set_option maxHeartbeats 2000000
theorem pop_part_ct {x dx : Addr} {l : List Part} {q : Part} {n n' : Nat} {tk0 t0 : Tok} {k0 : Int} {news' : Nat → List (Addr × Obj)}
  (B : Below A₀ base outer h₀) (F : Fr h₀ L s.heap m) (X : (KF w.params).In h₀) (N : News h₀ L s.heap news) (T : Top p loose mean mg mb h₀) (hk : cs.kind = .function)
  (hdp : dp ≤ 890) (hun : un ≤ 4900) (hx : (x, accO 205 dx ((l ++ [q]).map pref) n) ∈ news) (hd : (dx, dictOf (isz w.params tk0 k0 t0) n') ∈ news) (hz : l.length ≤ 999)
  (U : ∀ n', Upd x (accO 205 dx ((l ++ [q]).map pref) n) (accO 205 dx (l.map pref) n') news (news' n'))
  (hret : ∀ h' tk n', Fr h₀ L h' m → News h₀ L h' (news' n') → Q (.ref q.1) { s with heap := h', toks := tk }) :
  wpAny (model PySem.Challenge.rw_wc0034_01.row.prog w) (ktrTop dp un gd cn cs L a ccd cl outer) (call (.ref 165) [.ref x]) Q E s := by
  have e : (l ++ [q]).map pref = l.map pref ++ [pref q] := by simp
  rw [e] at hx U
  exact pop_ct (news' := news') B F X N T hk hdp hun hx hd (by simpa using hz) rfl U hret
end
section
variable {prog : Program} {w : World} {A : Around} {E : Value → Shared → Prop} {s : Shared} {h₀ : Heap} {L a b : Addr} {news : List (Addr × Obj)} {Q : Value → Shared → Prop}
theorem ne_tup2 {s1 s2 s3 s4 : Str} {t1 t2 t3 t4 : Tok} (N : News h₀ L s.heap news) (ma : (a, tupO [.str s1 t1, .str s2 t2]) ∈ news) (mb : (b, tupO [.str s3 t3, .str s4 t4]) ∈ news) (hne : s2 ≠ s4)
    (o1 : PyData.strOk s1 = true) (o2 : PyData.strOk s2 = true) (o3 : PyData.strOk s3 = true) (o4 : PyData.strOk s4 = true) (hu : A.units + 64 < cLine) (h : Q (.bool true) s) :
    wpAny (model prog w) A (compareOp .NotEq (.ref a) (.ref b)) Q E s := by
  have sh : ∀ x y, PyData.strOk x = true → PyData.strOk y = true → SeqAt.shaped (.tuple [.str x, .str y]) = true := by
    intro x y hx hy
    simp [SeqAt.shaped, PyData.canLay0, PyData.canLayAll0, PyData.depth, PyData.depthAll, hx, hy]
  refine ne_dataH (da := .tuple [.str s1, .str s2]) (db := .tuple [.str s3, .str s4]) (reads_tuple_at (N _ ma).1 rfl rfl (ReadsAll.cons (Reads.str s1 t1) (ReadsAll.cons (Reads.str s2 t2) .nil))) (reads_tuple_at (N _ mb).1 rfl rfl (ReadsAll.cons (Reads.str s3 t3) (ReadsAll.cons (Reads.str s4 t4) .nil))) (sh _ _ o1 o2) (sh _ _ o3 o4) hu ?_
  have e : PyData.eqv (.tuple [.str s1, .str s2]) (.tuple [.str s3, .str s4]) = false := by
    have hb : (s2 == s4) = false := by simpa using hne
    simp [PyData.eqv, PyData.eqvAll, hb]
  rw [e]
  exact h
end
section
variable {prog : Program} {w : World} {A : Around} {E : Value → Shared → Prop} {s : Shared} {h₀ : Heap} {L : Addr} {m mg mb : Str → Option Value} {news news' : List (Addr × Obj)} {K : Frag} {x C f : Addr} {ox : Obj} {od : Option Obj} {name : Str} {env : Env}
theorem get_acc_meth {es : List DictEntry} {n : Nat} {Q : Value → Shared → Prop} {expr : Bool} (F : Fr h₀ L s.heap m) (X₀ : K.In h₀) (N : News h₀ L s.heap news) (I : InstAt s.heap x ox C (some (dictOf es n))) (hga : findIn K (.ref C) "__getattribute__" = some (some (.builtin "list.__getattribute__"))) (hgt : findIn K (.ref C) "__getattr__" = some none)
    (hsub : mroIn K C (.type "list") = some true) (hh : hasDictIn K C = true) (ha : findIn K (.ref C) name = some (some (.ref f))) (hf : isFn K (.ref f) = true)
    (hgf : specialIn K (.ref f) "__get__" = some (some (.builtin "function.__get__"))) (ht : takesIn K (.ref f) = some false) (hc : copiedNames.contains name = false) (hl : getL name es = some none)
    (h : ∀ q h', Fr h₀ L h' m → News h₀ L h' ((q, methodObj (.ref f) (.ref x)) :: news) → (∀ p ∈ news, p.1 < q) → Q (.ref q) { s with heap := h', toks := s.toks + 1 }) : wpAny (model prog w) A (getAttr (.ref x) name expr) Q E s := by
  have X := X₀.keeps F.keep
  have hfo : findObj K C (some (dictOf es n)) name = some (.bind (.builtin "function.__get__") (.ref f)) := findObj_fn hh ha hgf ht hc (by show lookIn name (dictOf es n) = _; rw [lookIn_dict, hl])
  have h' := h s.heap.objs.size _ (F.push _) (N.push F (methodObj (.ref f) (.ref x))) fun p hp => Heap.lt_size (N p hp).1
  obtain ⟨hp, g, d, t, os⟩ := s
  have L0 := I.type (M := model prog w)
  have L1 := looks_findIn (M := model prog w) X hga
  have L2 := looks_find (M := model prog w) X I hfo
  have L4 := looks_findIn (M := model prog w) X hgt
  have L3 : Looks (model prog w) hp (hookBefore (.ref C)) none := looks_hook (M := model prog w) X (mc := .ref C) (by rw [show onTheHeap (.ref C) = true from rfl, if_pos rfl]; exact hgt)
  unfold getAttr getAttrBy
  refine wpAny_bind (wpAny_mkText (wpAny_holding (wpAny_bind (L0.at (wpAny_bind (L1.at ?_))))))
  show wpAny _ _ (getAttrByItsOwn (.ref x) (.str name t) (.ref C) (.builtin "list.__getattribute__") true expr) _ _ _
  unfold getAttrByItsOwn
  refine wpAny_bind (L3.at ?_)
  refine wpAny_bind (wpAny_attempt (wpAny_holding ?_))
  have e0 : callGetattribute (.ref x) (.str name t) (.builtin "list.__getattribute__") expr = boundAndCalled (.builtin "list.__getattribute__") (.ref x) (.str name t) := by
    unfold callGetattribute
    rw [show (expr && onTheHeap (.builtin "list.__getattribute__")) = false from by cases expr <;> rfl]
    rfl
  rw [e0]
  unfold boundAndCalled
  refine wpAny_bind (wpAny_of_eq (slot_list_ga.bind _) ?_)
  refine wpAny_mono (Q := fun v' s' => v' = .ref hp.objs.size ∧ s' = ⟨hp.push (methodObj (.ref f) (.ref x)), g, d, t + 1, os⟩) (E := fun _ _ => False)
    (sub_entry slot_list_ga.plain PySem.am_entry_list_getattribute (.inl (by decide +kernel)) (n := "__getattribute__") (by decide +kernel) X I hsub (args_list_ga _ _) ?_) (fun v' s' hv => ?_) fun _ _ z => z.elim
  · refine wpAny_bind (wpAny_pure (wpAny_bind (wpAny_pure (wpAny_bind (L0.at (wpAny_bind (L2.at ?_)))))))
    show wpAny _ _ (holding [.ref f] (call (.builtin "function.__get__") [.ref f, .ref x, .ref C]) >>= _) _ _ _
    refine wpAny_bind (wpAny_holding (wpAny_call (fn_get X (beq_iff_eq.mp hf) ?_)))
    exact wpAny_pure ⟨_, rfl, rfl, rfl⟩
  · obtain ⟨rfl, rfl⟩ := hv
    show wpAny _ _ (handedOut (.ref hp.objs.size)) _ _ _
    exact handed_on rfl h'
theorem StarCall_ {M : Model} {o : Expr} {name : Str} {apos pos : Pos} {args : List Expr} {Q : Value → Shared → Prop}
    (h : wpAny M A (eval o env) (fun ov s₁ => wpAny M A (getAttr ov name true) (fun f s₂ => wpAny M A (callWith pos f [] (backTo pos (starEach args env)) []) Q E s₂) E s₁) E s)
    (he : eval (.Call (.Attribute o name apos) args [] pos) env = (do
      let ov ← eval o env
      standAt apos.atName
      let (f, first) ← holding [ov] (do let f ← getAttr ov name true; pure (f, ([] : List Value)))
      callWith pos f first (backTo pos (starEach args env)) []) := by rfl) :
    wpAny M A (eval (.Call (.Attribute o name apos) args [] pos) env) Q E s := by
  rw [he]
  exact wpAny_bind (wpAny_mono h (fun ov s₁ h₁ => wpAny_bind (wpAny_standAt (wpAny_bind (wpAny_holding (wpAny_bind (wpAny_mono h₁ (fun f s₂ h₂ => wpAny_pure h₂) fun _ _ e => e)))))) fun _ _ e => e)
end
section
variable {M : Model} {A : Around} {E : Value → Shared → Prop} {s : Shared} {K : Frag} {env : Env} {pos p : Pos} {first : List Value} {Q : Value → Shared → Prop} {e : Expr} {q g : Addr} {self : Value}
theorem callWith_SM (hf : fnIn K g = true) (h : wpAny M A (eval e env) (fun v s₁ => StarOf M A E v (fun vs s₂ => MethP K q g self s₂.heap ∧ wpAny M A (call (.ref q) (first ++ vs)) Q E s₂) s₁) E s)
    (he : starEach [.Starred e p] env = [(true, eval e env)] := by rfl) :
    wpAny M A (callWith pos (.ref q) first (backTo pos (starEach [.Starred e p] env)) []) Q E s := by
  rw [he]
  exact ks_call rfl (keeps_M hf) (ks_lone h)
end
theorem parts_app {l : List Part} {t : Addr} {a b : Str × Tok} {news : List (Addr × Obj)} (h : ∀ q ∈ l, (q.1, pO q) ∈ news) (h2 : (t, tupO [Value.str a.1 a.2, Value.str b.1 b.2]) ∈ news) : ∀ q ∈ l ++ [(t, a, b)], (q.1, pO q) ∈ news := by
  intro q hq
  rcases List.mem_append.mp hq with hq | hq
  · exact h q hq
  · rw [List.mem_singleton.mp hq]; exact h2
theorem lens_app {l : List Part} {t : Addr} {a b : Str × Tok} (h : ∀ q ∈ l, q.2.1.1.length ≤ 1000 ∧ q.2.2.1.length ≤ 1000) (ha : a.1.length ≤ 1000) (hb : b.1.length ≤ 1000) : ∀ q ∈ l ++ [(t, a, b)], q.2.1.1.length ≤ 1000 ∧ q.2.2.1.length ≤ 1000 := by
  intro q hq
  rcases List.mem_append.mp hq with hq | hq
  · exact h q hq
  · rw [List.mem_singleton.mp hq]; exact ⟨ha, hb⟩
theorem app_map (l : List Part) (t : Addr) (a b : Str × Tok) : l.map pref ++ [Value.ref t] = (l ++ [(t, a, b)]).map pref := by simp
theorem partsLen_app1 {l : List Part} {t : Addr} {s1 s2 : Str} {t1 t2 : Tok} : partsLen (l ++ [(t, (s1, t1), (s2, t2))]) = partsLen l + (s1.length + s2.length) := by rw [partsLen_append]; simp [partsLen]
local macro_rules | `(tactic| walk_at "call builtin:list.append") => `(tactic| (k_here; k_dflt (refine' append_acc ?k1 ?k2 ?k3 ?k4 ?k5 ?k6 ?z ?_; (case k1 | k2 | k3 => k_asm); (case k4 => walk_at "mine inst"); (case k5 => k_is); (case k6 => intro n'; walk_at "mine upd"); (case z => (rw [sizeLine_eq]; (try simp only [List.length_map]); omega)); k_whole); intro h' n' F' N'; (try k_sweep)))
local macro_rules | `(tactic| walk_at "call builtin:list.append") => `(tactic| (k_here; k_dflt (refine' append_acc ?k1 ?k2 ?k3 ?k4 ?k5 ?k6 ?z ?_; (case k1 | k2 | k3 => k_asm); (case k4 => walk_at "mine inst"); (case k5 => k_is); (case k6 => intro n'; rw [app_map l _ (Str.ofString " ", tf) (s2, ts)]; walk_at "mine upd"); (case z => (rw [sizeLine_eq]; (try simp only [List.length_map]); omega)); k_whole); intro h' n' F' N'; (try k_sweep)))
local macro_rules | `(tactic| walk_at "call ref") => `(tactic| (k_here; k_dflt (refine' str_ct ?k1 ?k2 ?k3 ?k4 ?k5 ?k6 ?k7 ?k8 ?k9 ?k10 ?k11 ?k12 ?k13 ?k14 ?k15 ?k16 ?k17 ?_; (walk_at "mine c0"); (case k9 | k10 => walk_at "mine mem"); (case k11 => first | assumption | apply_assumption (exfalso := false) | (refine' parts_app ?zpa ?zpb; (case zpa => (intro q hq; repeat (first | exact ht q hq | refine List.mem_cons_of_mem _ ?_))); (case zpb => walk_at "mine mem")) | (intro q hq; repeat (first | exact ht q hq | refine List.mem_cons_of_mem _ ?_))); (case k12 => first | assumption | (refine' lens_app ?zpa ?zpb ?zpc; (case zpa => assumption); (case zpb => first | assumption | exact Nat.le_of_ble_eq_true rfl | decide); (case zpc => first | assumption | exact Nat.le_of_ble_eq_true rfl | decide))); (walk_at "mine c3"); (case k16 => first | assumption | omega | (simp only [List.length_append, List.length_cons, List.length_nil]; omega)); (case k17 => walk_at "mine upds"); k_whole); intro h' g' tk t more F' N' htr' hgb'; (try k_sweep)))
local macro_rules | `(tactic| walk_at "call ref") => `(tactic| (k_here; k_dflt (refine' len_ct ?k1 ?k2 ?k3 ?k4 ?k5 ?k6 ?k7 ?k8 ?k9 ?k10 ?k11 ?k12 ?k13 ?k14 ?k15 ?k16 ?_; (walk_at "mine c0"); (case k9 | k10 => walk_at "mine mem"); (case k11 => first | assumption | apply_assumption (exfalso := false) | (refine' parts_app ?zpa ?zpb; (case zpa => (intro q hq; repeat (first | exact ht q hq | refine List.mem_cons_of_mem _ ?_))); (case zpb => walk_at "mine mem")) | (intro q hq; repeat (first | exact ht q hq | refine List.mem_cons_of_mem _ ?_))); (case k12 => first | assumption | apply_assumption (exfalso := false) | (refine' lens_app ?zpa ?zpb ?zpc; (case zpa => assumption); (case zpb => first | assumption | exact Nat.le_of_ble_eq_true rfl | decide); (case zpc => first | assumption | exact Nat.le_of_ble_eq_true rfl | decide))); (walk_at "mine c3"); (case k16 => walk_at "mine upds"); k_whole); intro h' g' tk t more F' N' htr' hgb'; (try k_sweep)))
local macro_rules | `(tactic| walk_at "call ref") => `(tactic| (k_here; k_dflt (refine' pop_part_ct ?k1 ?k2 ?k3 ?k4 ?k5 ?k6 ?k7 ?k8 ?k9 ?k10 ?k11 ?k12 ?_; (walk_at "mine c0"); (case k9 | k10 => walk_at "mine mem"); (case k11 => first | omega | (simp only [List.length_cons, List.length_nil]; omega)); (case k12 => intro n'; walk_at "mine upd"); k_whole); intro h' tk n' F' N'; (try k_sweep)))
local macro_rules | `(tactic| walk_at "getAttr ref") => `(tactic| (k_here; k_dflt (refine' get_acc_meth ?k1 ?k2 ?k3 ?k4 ?k5 ?k6 ?k7 ?k8 ?k9 ?k10 ?k11 ?k12 ?k13 ?k14 ?_; (case k1 | k2 | k3 => k_asm); (case k4 => walk_at "mine inst"); (case k5 | k6 | k7 | k8 | k9 | k10 | k11 | k12 => k_is); (case k13 => decide +kernel); (case k14 => first | rfl | k_get); k_whole); intro q' h' F' N' l1; (try k_lt l1); (try k_sweep)))
local macro_rules | `(tactic| walk_at "call ref") => `(tactic| (k_here; k_dflt (refine' is_onlyws_ct ?k1 ?k2 ?k3 ?k4 ?k5 ?k6 ?k7 ?k8 ?k9 ?k10 ?k11 ?k12 ?k13 ?k14 ?k15 ?k16 ?k17 ?k18 ?k19 ?k20 ?k21 ?k22 ?_; (walk_at "mine c0"); (case k9 | k10 => walk_at "mine mem"); (case k11 => (refine' parts_app ?zpa ?zpb; (case zpa => (intro q hq; repeat (first | exact ht q hq | refine List.mem_cons_of_mem _ ?_))); (case zpb => walk_at "mine mem"))); (case k12 => (refine' lens_app ?zpa ?zpb ?zpc; (case zpa => assumption); (case zpb => first | assumption | exact Nat.le_of_ble_eq_true rfl | decide); (case zpc => first | assumption | exact Nat.le_of_ble_eq_true rfl | decide))); (case k13 => walk_at "mine mem"); (case k14 => assumption); (case k15 => walk_at "mine mem"); (case k16 | k17 => assumption); (case k18 => (simp only [List.length_append, List.length_cons, List.length_nil]; omega)); (case k19 => (have e9 : 1 ≤ (Str.ofString " ").length := Nat.le_of_ble_eq_true rfl; rw [partsLen_app1]; omega)); (case k20 => exact hns _); (case k21 => intro more'; walk_at "mine upd"); (case k22 => intro more' more2'; walk_at "mine upd"); k_whole); intro h' g' tk more more2 F' N' htr1' htr2' hgb'; (try k_sweep)))
local macro_rules | `(tactic| walk_at "call ref") => `(tactic| (k_here; k_dflt (refine' reset_none_ct ?k1 ?k2 ?k3 ?k4 ?k5 ?k6 ?k7 ?k8 ?k9 ?k10 ?k12 ?k14 ?k15 ?k16 ?k17 ?_; (walk_at "mine c0"); (case k9 | k10 => walk_at "mine mem"); (case k12 => simp only [List.length_map, List.length_append, List.length_cons, List.length_nil]; omega); (case k14 => intro n'; walk_at "mine upd"); (case k15 | k16 => intro m'; walk_at "mine mem"); (case k17 => intro m' t'; walk_at "mine upd"); k_whole); intro h' tk n' tz F' N'; (try k_sweep)))
theorem rs_L27 : True := by
  have h : (1 : Nat) = 1 := by walk1
  w_top off; exact trivial
section
local macro_rules | `(tactic| walk_at "compareOp NotEq ref") => `(tactic| ((with_reducible show wpAny _ _ (compareOp .NotEq (.ref _) (.ref _)) _ _ _); refine halt ?_))
local macro_rules | `(tactic| walk_at "callWith ref") => `(tactic| ((with_reducible show wpAny _ _ (callWith _ _ [] (backTo _ _) _) _ _ _); refine halt ?_))
local macro_rules | `(tactic| walk_at "eval Call Attribute") => `(tactic| ((with_reducible show wpAny _ _ (eval (Expr.Call _ [Expr.Starred _ _] _ _) _) _ _ _); refine halt ?_))
section
variable {w : World} {p : Program} {loose : List Str} {mean : ExcName → Option Value} {mg mb : Str → Option Value} {dp un : Nat} {gd : Option (List Code)} {cn : Str} {cs : Scope} {a : Addr} {ccd : Value} {cl : List (Str × Addr)} {outer : List Env} {A₀ : Around} {base h₀ : Heap} {L : Addr} {m : Str → Option Value} {news : List (Addr × Obj)} {s : Shared} {Q E : Value → Shared → Prop}
set_option maxHeartbeats 2000000
theorem newline_ct {v dv x dx ll tp : Addr} {l : List Part} {lines : List Value} {n n' nv nl : Nat} {tk0 t0 k1 k2 k3 k4 k5 k6 tM tf ts t3 : Tok} {M : Int} {cwV clV : Value} {s2 : Str} {ps1 ps2 : Array Value} {rest : List (Addr × Obj)}
  (B : Below A₀ base outer h₀) (F : Fr h₀ L s.heap m) (X : (KF w.params).In h₀)
  (N : News h₀ L s.heap ((x, accO 205 dx ((l ++ [(tp, (Str.ofString " ", tf), (s2, ts))]).map pref) n) :: (dx, dictOf (isz w.params tk0 0 t0) n') :: (ll, listOf lines.toArray nl) :: (v, instObj 121 dv) :: (dv, dictOf (vfd w.params k1 k2 k3 k4 k5 k6 (.int M tM) cwV clV (.str (Str.ofString " ") t3) ll x) nv) :: (167, PySem.W.X.tableObj ps1) :: (174, PySem.W.X.tableObj ps2) :: rest))
  (T : Top p loose mean mg mb h₀) (hk : cs.kind = .function)
  (hdp : dp ≤ 860) (hun : un ≤ 4600)
  (ho : @LT.lt Nat _ 174 dv ∧ @LT.lt Nat _ dv v ∧ @LT.lt Nat _ v ll ∧ @LT.lt Nat _ ll dx ∧ @LT.lt Nat _ dx x)
  (r1 : ∀ p ∈ rest, p.1 ≠ x) (r2 : ∀ p ∈ rest, p.1 ≠ dx) (r3 : ∀ p ∈ rest, p.1 ≠ ll) (r4 : ∀ p ∈ rest, p.1 ≠ 167) (r5 : ∀ p ∈ rest, p.1 ≠ 174)
  (ht : ∀ q ∈ l, (q.1, pO q) ∈ rest) (htp : (tp, tupO [.str (Str.ofString " ") tf, .str s2 ts]) ∈ rest) (hz : ∀ q ∈ l, q.2.1.1.length ≤ 1000 ∧ q.2.2.1.length ≤ 1000)
  (hl : l.length ≤ 900) (h2 : s2.length ≤ 1000) (h20 : s2 ≠ Str.ofString "") (hok : PyData.strOk s2 = true) (hln : lines.length ≤ 900) (hns : ∀ t : Addr, Txt.isspace (partsText (l ++ [(t, (Str.ofString " ", tf), (s2, ts))])) = false)
  (htr1 : TriplesOk ps1.toList) (htr2 : TriplesOk ps2.toList) (hgb : AllBare s.gens)
  (hret : ∀ h' g' tk tq n1 n2 t1 t2 nl' (qs1 qs2 : Array Value), Fr h₀ L h' m → News h₀ L h' ((x, accO 205 dx [] n1) :: (dx, dictOf (isz w.params tk0 0 t1) n2) :: (ll, listOf (lines ++ [Value.str (partsText (l ++ [(tq, (Str.ofString " ", tf), (s2, ts))])) t2]).toArray nl') :: (v, instObj 121 dv) :: (dv, dictOf (vfd w.params k1 k2 k3 k4 k5 k6 (.int M tM) cwV clV (.str (Str.ofString " ") t3) ll x) nv) :: (167, PySem.W.X.tableObj qs1) :: (174, PySem.W.X.tableObj qs2) :: rest) →
    TriplesOk qs1.toList → TriplesOk qs2.toList → AllBare g' → Q .none ⟨h', g', s.drawn, tk, s.os⟩) :
  wpAny (model PySem.Challenge.rw_wc0034_01.row.prog w) (ktrTop dp un gd cn cs L a ccd cl outer) (call (.ref 83) [.ref v]) Q E s := by
  refine up hdp hun ?_
  refine ord7 ho ?_
  intros
  revert X; k_fill; intro X
  walk_at "mine enter"
  k_steps
  show wpAny _ _ _ _ _ _
  refine' ne_tup2 (s1 := Str.ofString " ") (t1 := tf) (s2 := s2) (t2 := ts) ?zn ?za ?zb ?zh ?zo1 ?zo2 ?zo3 ?zo4 ?zu ?_
  case zn => k_asm
  case za => walk_at "mine mem"
  case zb => walk_at "mine mem"
  (case zh => exact h20); (case zo1 => decide +kernel); (case zo2 => exact hok); (case zo3 => decide +kernel); (case zo4 => decide +kernel); (case zu => k_units)
  k_steps
  show wpAny _ _ _ _ _ _
  refine StarCall_ ?_
  k_steps
  show wpAny _ _ _ _ _ _
  refine' callWith_SM (K := KF w.params) (q := q') (g := 149) (self := .ref x) ?zf ?_
  case zf => k_is
  k_steps
  have hbl := partsLen_le hz (by omega)
  have e1 : (Str.ofString " ").length = 1 := rfl
  rw [partsLen_app1]
  refine ⟨⟨by omega, by omega⟩, ?_⟩
  dsimp only
  k_steps
  rename News h₀ L _ _ => kNx
  rw [List.push_toArray] at kNx
  refine' hret _ _ _ _ _ _ _ _ _ _ _ (by k_asm) (news_sub kNx ?sb) htr1' htr' (by assumption)
  case sb => walk_at "mine sub"
end
end
local macro_rules | `(tactic| walk_at "call builtin:list.append") => `(tactic| (k_here; k_dflt (refine' append_acc ?k1 ?k2 ?k3 ?k4 ?k5 ?k6 ?z ?_; (case k1 | k2 | k3 => k_asm); (case k4 => walk_at "mine inst"); (case k5 => k_is); (case k6 => intro n'; walk_at "mine upd"); (case z => (rw [sizeLine_eq]; (try simp only [List.length_map]); omega)); k_whole); intro h' n' F' N'; (try k_sweep)))
theorem rs_L28 : True := by
  have h : (1 : Nat) = 1 := by walk1
  w_top off; exact trivial
section
/-- the texts of a line's parts; each has ' ' ahead -/
noncomputable def CurAre (l : List Part) (ss : List Str) : Prop := l.map (fun q => (q.2.1.1, q.2.2.1)) = ss.map (fun s => (Str.ofString " ", s))
noncomputable def LinesAre : List Value → List Str → Prop
  | [], [] => True
  | v :: vs, s :: ss => (∃ t, v = Value.str s t) ∧ LinesAre vs ss
  | _, _ => False
noncomputable def rowText (ss : List Str) : Str := Txt.join (Str.ofString "") (ss.map fun s => Txt.join (Str.ofString "") [Str.ofString " ", s])
noncomputable def width (ss : List Str) : Nat := (ss.map fun s => 1 + s.length).sum
noncomputable def lay (M : Nat) (st : List Str × List Str) (s : Str) : List Str × List Str := if width st.1 + 1 + s.length ≤ M then (st.1 ++ [s], st.2) else ([s], st.2 ++ [rowText st.1])
theorem CurAre.text {l : List Part} {ss : List Str} (h : CurAre l ss) : partsText l = rowText ss := by
  unfold CurAre at h
  unfold partsText rowText
  congr 1
  have e : l.map partText = (l.map (fun q => (q.2.1.1, q.2.2.1))).map (fun p => Txt.join (Str.ofString "") [p.1, p.2]) := by rw [List.map_map]; rfl
  rw [e, h, List.map_map]
  rfl
theorem CurAre.width {l : List Part} {ss : List Str} (h : CurAre l ss) : partsLen l = width ss := by
  unfold CurAre at h
  unfold partsLen Mine.width
  have e : l.map (fun q => q.2.1.1.length + q.2.2.1.length) = (l.map (fun q => (q.2.1.1, q.2.2.1))).map (fun p => p.1.length + p.2.length) := by rw [List.map_map]; rfl
  rw [e, h, List.map_map]
  rfl
theorem CurAre.len {l : List Part} {ss : List Str} (h : CurAre l ss) : l.length = ss.length := by
  have := congrArg List.length h
  simpa using this
theorem CurAre.snoc {l : List Part} {ss : List Str} (h : CurAre l ss) (t : Addr) (tf ts : Tok) (s : Str) : CurAre (l ++ [(t, (Str.ofString " ", tf), (s, ts))]) (ss ++ [s]) := by
  unfold CurAre at h ⊢
  rw [List.map_append, List.map_append, h]
  rfl
theorem CurAre.short {l : List Part} {ss : List Str} (h : CurAre l ss) (hs : ∀ s ∈ ss, s.length ≤ 1000) : ∀ q ∈ l, q.2.1.1.length ≤ 1000 ∧ q.2.2.1.length ≤ 1000 := by
  intro q hq
  have h1 : (q.2.1.1, q.2.2.1) ∈ ss.map (fun s => (Str.ofString " ", s)) := by
    rw [← h]; exact List.mem_map_of_mem (f := fun q : Part => (q.2.1.1, q.2.2.1)) hq
  obtain ⟨s, hs', e⟩ := List.mem_map.mp h1
  have e1 := congrArg Prod.fst e
  have e2 := congrArg Prod.snd e
  simp only at e1 e2
  rw [← e1, ← e2]
  exact ⟨by decide, hs s hs'⟩
theorem LinesAre.snoc : ∀ {vs : List Value} {ss : List Str}, LinesAre vs ss → ∀ (s : Str) (t : Tok), LinesAre (vs ++ [Value.str s t]) (ss ++ [s])
  | [], [], _, s, t => ⟨⟨t, rfl⟩, trivial⟩
  | _ :: _, _ :: _, h, s, t => ⟨h.1, LinesAre.snoc h.2 s t⟩
theorem LinesAre.len : ∀ {vs : List Value} {ss : List Str}, LinesAre vs ss → vs.length = ss.length
  | [], [], _ => rfl
  | _ :: _, _ :: _, h => by simp [LinesAre.len h.2]
variable {w : World} {p : Program} {loose : List Str} {mean : ExcName → Option Value} {mg mb : Str → Option Value} {dp un : Nat} {gd : Option (List Code)} {cn : Str} {cs : Scope} {a : Addr} {ccd : Value} {cl : List (Str × Addr)} {outer : List Env} {A₀ : Around} {base h₀ : Heap} {L : Addr} {m : Str → Option Value} {news : List (Addr × Obj)} {s : Shared} {Q E : Value → Shared → Prop}
set_option maxHeartbeats 2000000
theorem chunk_ct {v dv x dx ll : Addr} {l : List Part} {lines : List Value} {cur ls : List Str} {n n' nv nl M : Nat} {tk0 t0 k1 k2 k3 k4 k5 k6 tM tf ts t3 : Tok} {cwV clV : Value} {s2 : Str} {ps1 ps2 : Array Value} {rest : List (Addr × Obj)}
  (B : Below A₀ base outer h₀) (F : Fr h₀ L s.heap m) (X : (KF w.params).In h₀)
  (N : News h₀ L s.heap ((x, accO 205 dx (l.map pref) n) :: (dx, dictOf (isz w.params tk0 0 t0) n') :: (ll, listOf lines.toArray nl) :: (v, instObj 121 dv) :: (dv, dictOf (vfd w.params k1 k2 k3 k4 k5 k6 (.int (M : Nat) tM) cwV clV (.str (Str.ofString " ") t3) ll x) nv) :: (167, PySem.W.X.tableObj ps1) :: (174, PySem.W.X.tableObj ps2) :: rest))
  (T : Top p loose mean mg mb h₀) (hk : cs.kind = .function)
  (hdp : dp ≤ 870) (hun : un ≤ 4700)
  (ho : @LT.lt Nat _ 174 dv ∧ @LT.lt Nat _ dv v ∧ @LT.lt Nat _ v ll ∧ @LT.lt Nat _ ll dx ∧ @LT.lt Nat _ dx x)
  (r1 : ∀ p ∈ rest, p.1 ≠ x) (r2 : ∀ p ∈ rest, p.1 ≠ dx) (r3 : ∀ p ∈ rest, p.1 ≠ ll) (r4 : ∀ p ∈ rest, p.1 ≠ 167) (r5 : ∀ p ∈ rest, p.1 ≠ 174)
  (ht : ∀ q ∈ l, (q.1, pO q) ∈ rest) (hc : CurAre l cur) (hl : LinesAre lines ls) (hs : ∀ s ∈ cur, s.length ≤ 1000)
  (hl1 : cur.length ≤ 900) (hl2 : ls.length ≤ 900) (h2 : s2.length ≤ 1000) (hM : 1 + s2.length ≤ M)
  (htr1 : TriplesOk ps1.toList) (htr2 : TriplesOk ps2.toList) (hgb : AllBare s.gens)
  (hret : ∀ h' g' tk tp l' lines' n1 n2 t1 nl' (qs1 qs2 : Array Value), Fr h₀ L h' m → News h₀ L h' ((x, accO 205 dx (l'.map pref) n1) :: (dx, dictOf (isz w.params tk0 0 t1) n2) :: (ll, listOf lines'.toArray nl') :: (v, instObj 121 dv) :: (dv, dictOf (vfd w.params k1 k2 k3 k4 k5 k6 (.int (M : Nat) tM) cwV clV (.str (Str.ofString " ") t3) ll x) nv) :: (167, PySem.W.X.tableObj qs1) :: (174, PySem.W.X.tableObj qs2) :: (tp, tupO [.str (Str.ofString " ") tf, .str s2 ts]) :: rest) →
    CurAre l' (lay M (cur, ls) s2).1 → LinesAre lines' (lay M (cur, ls) s2).2 → (∀ q ∈ l', (q.1, pO q) ∈ (tp, tupO [.str (Str.ofString " ") tf, .str s2 ts]) :: rest) →
    TriplesOk qs1.toList → TriplesOk qs2.toList → AllBare g' → (∀ p ∈ rest, p.1 < tp) → @LT.lt Nat _ x tp → Q .none ⟨h', g', s.drawn, tk, s.os⟩) :
  wpAny (model PySem.Challenge.rw_wc0034_01.row.prog w) (ktrTop dp un gd cn cs L a ccd cl outer) (call (.ref 118) [.ref v, .str (Str.ofString " ") tf, .str s2 ts]) Q E s := by
  have hz := hc.short hs
  have hw := hc.width
  have hln := hc.len
  have hll := hl.len
  have e1 : (Str.ofString " ").length = 1 := rfl
  by_cases hle : width cur + 1 + s2.length ≤ M
  · have hlay : lay M (cur, ls) s2 = (cur ++ [s2], ls) := if_pos hle
    rw [hlay] at hret
    refine' chunk_short_ct (l := l) (news1 := fun t m' => (x, accO 205 dx ((l ++ [(t, (Str.ofString " ", tf), (s2, ts))]).map pref) m') :: (dx, dictOf (isz w.params tk0 0 t0) n') :: (ll, listOf lines.toArray nl) :: (v, instObj 121 dv) :: (dv, dictOf (vfd w.params k1 k2 k3 k4 k5 k6 (.int (M : Nat) tM) cwV clV (.str (Str.ofString " ") t3) ll x) nv) :: (167, PySem.W.X.tableObj ps1) :: (174, PySem.W.X.tableObj ps2) :: rest) (news2 := fun t m' more => (t, tupO [.str (Str.ofString " ") tf, .str s2 ts]) :: (x, accO 205 dx ((l ++ [(t, (Str.ofString " ", tf), (s2, ts))]).map pref) m') :: (dx, dictOf (isz w.params tk0 0 t0) n') :: (ll, listOf lines.toArray nl) :: (v, instObj 121 dv) :: (dv, dictOf (vfd w.params k1 k2 k3 k4 k5 k6 (.int (M : Nat) tM) cwV clV (.str (Str.ofString " ") t3) ll x) nv) :: (167, PySem.W.X.tableObj (ps1 ++ more)) :: (174, PySem.W.X.tableObj ps2) :: rest) B F X N T hk hdp hun ?zv ?zdv ?zx ?zd ?ha hz (by omega) ?zs1 h2 ?zle ?zP htr1 hgb ?u1 ?u2 ?hr
    case zv => walk_at "mine mem"
    case zdv => walk_at "mine mem"
    case zx => walk_at "mine mem"
    case zd => walk_at "mine mem"
    case zP => walk_at "mine mem"
    case zs1 => rw [e1]; decide
    case zle => rw [hw, e1]; omega
    case ha => intro q hq; repeat (first | exact ht q hq | refine List.mem_cons_of_mem _ ?_)
    case u1 => intro t n'; walk_at "mine upd"
    case u2 =>
      intro t m' more hlt
      have l0 : @LT.lt Nat _ 167 t := hlt (167, _) (.tail _ (.tail _ (.tail _ (.tail _ (.tail _ (.head _))))))
      walk_at "mine upd"
    case hr =>
      intro h' g' tk tp n1 more F' N' tr' gb' lt'
      refine hret h' g' tk tp _ lines n1 n' t0 nl _ _ F' (news_sub N' ?sb) (hc.snoc tp tf ts s2) hl ?pa tr' htr2 gb' (fun p hp => lt' p ?_) (lt' (x, _) (.head _))
      case sb => walk_at "mine sub"
      case pa =>
        refine' parts_app ?zpa ?zpb
        case zpa => intro q hq; exact .tail _ (ht q hq)
        case zpb => exact .head _
      repeat (first | exact hp | refine List.mem_cons_of_mem _ ?_)
  · have hlay : lay M (cur, ls) s2 = ([s2], ls ++ [rowText cur]) := if_neg hle
    rw [hlay] at hret
    have hpos : 0 < l.length := by
      rcases Nat.eq_zero_or_pos l.length with e | e
      · have : cur = [] := List.length_eq_zero_iff.mp (by omega)
        subst this
        exact absurd (by simp [width]; omega) hle
      · exact e
    refine chunk_full_ct B F X N T hk hdp hun ho r1 r2 r3 r4 r5 ht hz (by omega) h2 (by omega) hpos (by omega) htr1 htr2 hgb ?_
    intro h' g' tk tp n1 n2 t1 t2 nl' more1 more2 F' N' tr1 tr2 gb' lt1 lt2
    rw [hc.text] at N'
    refine hret h' g' tk tp [(tp, (Str.ofString " ", tf), (s2, ts))] _ n1 n2 t1 nl' _ _ F' N' rfl (hl.snoc _ _) ?_ tr1 tr2 gb' lt1 lt2
    intro q hq
    rw [List.mem_singleton.mp hq]
    exact .head _
end
noncomputable def RingAre (l : List Part) (ss : List Str) : Prop := l.map (fun q => (q.2.1.1, q.2.2.1)) = ss.map (fun s => (Str.ofString "", s))
noncomputable abbrev pgList (P : Params) (v dv x dx ll xr dxr : Addr) (k1 k2 k3 k4 k5 k6 tM t3 : Tok) (cwV clV : Value) (M : Nat) (lc lr : List Part) (lines : List Value) (n1 n2 n3 n4 nl nv : Nat) (tk1 t1 tk2 t2 : Tok) (ps1 ps2 : Array Value) (rest : List (Addr × Obj)) : List (Addr × Obj) :=
  (x, accO 205 dx (lc.map pref) n1) :: (dx, dictOf (isz P tk1 0 t1) n2) :: (ll, listOf lines.toArray nl) :: (v, instObj 121 dv) :: (dv, dictOf (vfd P k1 k2 k3 k4 k5 k6 (.int (M : Nat) tM) cwV clV (.str (Str.ofString " ") t3) ll x) nv) :: (167, PySem.W.X.tableObj ps1) :: (174, PySem.W.X.tableObj ps2) :: (xr, accO 205 dxr (lr.map pref) n3) :: (dxr, dictOf (isz P tk2 0 t2) n4) :: rest
noncomputable def Off (rest : List (Addr × Obj)) (v dv x dx ll xr dxr : Addr) : Prop := ∀ p ∈ rest, p.1 ≠ x ∧ p.1 ≠ dx ∧ p.1 ≠ ll ∧ p.1 ≠ v ∧ p.1 ≠ dv ∧ p.1 ≠ 167 ∧ p.1 ≠ 174 ∧ p.1 ≠ xr ∧ p.1 ≠ dxr
inductive PgInv (P : Params) (base : List (Addr × Obj)) (v dv x dx ll xr dxr : Addr) (k1 k2 k3 k4 k5 k6 tM t3 : Tok) (cwV clV : Value) (M : Nat) (ringS cur ls : List Str) (c : Nat) (news : List (Addr × Obj)) : Prop
  | mk (lc lr : List Part) (lines : List Value) (n1 n2 n3 n4 nl nv : Nat) (tk1 t1 tk2 t2 : Tok) (ps1 ps2 : Array Value) (rest : List (Addr × Obj)) (e : news = pgList P v dv x dx ll xr dxr k1 k2 k3 k4 k5 k6 tM t3 cwV clV M lc lr lines n1 n2 n3 n4 nl nv tk1 t1 tk2 t2 ps1 ps2 rest)
    (a1 : CurAre lc cur) (a2 : RingAre lr ringS) (a3 : LinesAre lines ls) (a4 : ∀ q ∈ lc, (q.1, pO q) ∈ rest) (a5 : ∀ q ∈ lr, (q.1, pO q) ∈ rest) (a6 : ∀ p ∈ base, p ∈ rest) (a7 : Off rest v dv x dx ll xr dxr) (a8 : TriplesOk ps1.toList) (a9 : TriplesOk ps2.toList)
    (a10 : ∀ s ∈ cur, s.length ≤ 1000) (a11 : cur.length ≤ c) (a12 : ls.length ≤ c) : PgInv P base v dv x dx ll xr dxr k1 k2 k3 k4 k5 k6 tM t3 cwV clV M ringS cur ls c news
section
variable {P : Params} {base : List (Addr × Obj)} {v dv x dx ll xr dxr : Addr} {k1 k2 k3 k4 k5 k6 tM t3 : Tok} {cwV clV : Value} {M : Nat} {ringS cur ls : List Str} {c : Nat} {news : List (Addr × Obj)} {h₀ h : Heap} {L : Addr}
theorem PgInv.add (hI : PgInv P base v dv x dx ll xr dxr k1 k2 k3 k4 k5 k6 tM t3 cwV clV M ringS cur ls c news) {I : Addr} {it : Obj} (hn : ∀ p ∈ news, p.1 ≠ I) :
    ∃ news', PgInv P ((I, it) :: base) v dv x dx ll xr dxr k1 k2 k3 k4 k5 k6 tM t3 cwV clV M ringS cur ls c news' ∧ ∀ p ∈ news', p ∈ (I, it) :: news := by
  obtain ⟨lc, lr, lines, n1, n2, n3, n4, nl, nv, tk1, t1, tk2, t2, ps1, ps2, rest, rfl, a1, a2, a3, a4, a5, a6, a7, a8, a9, a10, a11, a12⟩ := hI
  have e : ∀ {a : Addr} {o : Obj}, (a, o) ∈ pgList P v dv x dx ll xr dxr k1 k2 k3 k4 k5 k6 tM t3 cwV clV M lc lr lines n1 n2 n3 n4 nl nv tk1 t1 tk2 t2 ps1 ps2 rest → I ≠ a := fun hm e => hn _ hm e.symm
  refine ⟨pgList P v dv x dx ll xr dxr k1 k2 k3 k4 k5 k6 tM t3 cwV clV M lc lr lines n1 n2 n3 n4 nl nv tk1 t1 tk2 t2 ps1 ps2 ((I, it) :: rest), ⟨lc, lr, lines, n1, n2, n3, n4, nl, nv, tk1, t1, tk2, t2, ps1, ps2, (I, it) :: rest, rfl, a1, a2, a3, fun q hq => .tail _ (a4 q hq), fun q hq => .tail _ (a5 q hq), fun p hp => ?_, fun p hp => ?_, a8, a9, a10, a11, a12⟩, fun p hp => ?_⟩
  · rcases List.mem_cons.mp hp with rfl | hp
    · exact .head _
    · exact .tail _ (a6 p hp)
  · rcases List.mem_cons.mp hp with rfl | hp
    · exact ⟨e (.head _), e (.tail _ (.head _)), e (.tail _ (.tail _ (.head _))), e (.tail _ (.tail _ (.tail _ (.head _)))), e (.tail _ (.tail _ (.tail _ (.tail _ (.head _))))), e (.tail _ (.tail _ (.tail _ (.tail _ (.tail _ (.head _)))))), e (.tail _ (.tail _ (.tail _ (.tail _ (.tail _ (.tail _ (.head _))))))), e (.tail _ (.tail _ (.tail _ (.tail _ (.tail _ (.tail _ (.tail _ (.head _)))))))), e (.tail _ (.tail _ (.tail _ (.tail _ (.tail _ (.tail _ (.tail _ (.tail _ (.head _)))))))))⟩
    · exact a7 p hp
  · exact sub_ix [1, 2, 3, 4, 5, 6, 7, 8, 9, 0] 10 10 (by rfl) (by rfl) p hp
theorem PgInv.drop {I : Addr} {it : Obj} (hI : PgInv P ((I, it) :: base) v dv x dx ll xr dxr k1 k2 k3 k4 k5 k6 tM t3 cwV clV M ringS cur ls c news) (N : News h₀ L h news) (hit : it.cls ≠ .type "tuple") (hb : ∀ p ∈ base, p.1 ≠ I) :
    ∃ news', PgInv P base v dv x dx ll xr dxr k1 k2 k3 k4 k5 k6 tM t3 cwV clV M ringS cur ls c news' ∧ News h₀ L h ((I, it) :: news') ∧ ∀ p ∈ news', p.1 ≠ I := by
  obtain ⟨lc, lr, lines, n1, n2, n3, n4, nl, nv, tk1, t1, tk2, t2, ps1, ps2, rest, rfl, a1, a2, a3, a4, a5, a6, a7, a8, a9, a10, a11, a12⟩ := hI
  have hI := a6 _ (.head _)
  have hIr : (I, it) ∈ pgList P v dv x dx ll xr dxr k1 k2 k3 k4 k5 k6 tM t3 cwV clV M lc lr lines n1 n2 n3 n4 nl nv tk1 t1 tk2 t2 ps1 ps2 rest := by simp [pgList, hI]
  have off := a7 _ hI
  have part : ∀ {a : Addr} {vs : List Value}, (a, tupO vs) ∈ rest → a ≠ I := fun {a vs} hm e => by
    have q1 := (N (a, tupO vs) (by simp [pgList, hm])).1
    rw [e, (N _ hIr).1] at q1
    have q2 : it = tupO vs := Option.some.inj q1
    exact hit (by rw [q2])
  let rest' := rest.filter fun p => p.1 != I
  have hr : ∀ p ∈ rest', p ∈ rest ∧ p.1 ≠ I := fun p hp => by
    have := List.mem_filter.mp hp
    exact ⟨this.1, by simpa using this.2⟩
  have hr' : ∀ p ∈ rest, p.1 ≠ I → p ∈ rest' := fun p hp hne => List.mem_filter.mpr ⟨hp, by simpa using hne⟩
  refine ⟨pgList P v dv x dx ll xr dxr k1 k2 k3 k4 k5 k6 tM t3 cwV clV M lc lr lines n1 n2 n3 n4 nl nv tk1 t1 tk2 t2 ps1 ps2 rest', ⟨lc, lr, lines, n1, n2, n3, n4, nl, nv, tk1, t1, tk2, t2, ps1, ps2, rest', rfl, a1, a2, a3, fun q hq => hr' _ (a4 q hq) (part (a4 q hq)), fun q hq => hr' _ (a5 q hq) (part (a5 q hq)), fun p hp => hr' _ (a6 p (.tail _ hp)) (hb p hp), fun p hp => a7 p (hr p hp).1, a8, a9, a10, a11, a12⟩, fun p hp => ?_, fun p hp => ?_⟩
  · rcases List.mem_cons.mp hp with rfl | hp
    · exact N _ hIr
    · refine N p ?_
      refine sub_ix2 [0, 1, 2, 3, 4, 5, 6, 7, 8] 9 ?_ ?_ p hp
      · rfl
      · exact fun p h => .tail _ (.tail _ (.tail _ (.tail _ (.tail _ (.tail _ (.tail _ (.tail _ (.tail _ (hr p h).1))))))))
  · obtain ⟨o1, o2, o3, o4, o5, o6, o7, o8, o9⟩ := off
    revert hp; revert p
    exact (List.forall_mem_cons.mpr ⟨fun e => o1 e.symm, (List.forall_mem_cons.mpr ⟨fun e => o2 e.symm, (List.forall_mem_cons.mpr ⟨fun e => o3 e.symm, (List.forall_mem_cons.mpr ⟨fun e => o4 e.symm, (List.forall_mem_cons.mpr ⟨fun e => o5 e.symm, (List.forall_mem_cons.mpr ⟨fun e => o6 e.symm, (List.forall_mem_cons.mpr ⟨fun e => o7 e.symm, (List.forall_mem_cons.mpr ⟨fun e => o8 e.symm, (List.forall_mem_cons.mpr ⟨fun e => o9 e.symm, fun p h => (hr p h).2⟩)⟩)⟩)⟩)⟩)⟩)⟩)⟩)⟩)
end
noncomputable abbrev pgMap (v xr pl : Addr) (sg : Str) (ts : Tok) (u : Str → Option Value) : Str → Option Value := fun y => if y = Str.ofString "page" then some (.ref v) else if y = Str.ofString "ring" then some (.ref xr) else if y = Str.ofString "pairs" then some (.ref pl) else if y = Str.ofString "signs" then some (.str sg ts) else u y
theorem pgMap_of {v xr pl : Addr} {sg : Str} {ts : Tok} {m : Str → Option Value} (h1 : m (Str.ofString "page") = some (.ref v)) (h2 : m (Str.ofString "ring") = some (.ref xr)) (h3 : m (Str.ofString "pairs") = some (.ref pl)) (h4 : m (Str.ofString "signs") = some (.str sg ts)) : m = pgMap v xr pl sg ts m := by
  funext y
  unfold pgMap
  split
  · next e => rw [e, h1]
  · split
    · next e => rw [e, h2]
    · split
      · next e => rw [e, h3]
      · split
        · next e => rw [e, h4]
        · rfl
local macro_rules | `(tactic| walk_at "call ref") => `(tactic| (k_here; k_dflt (refine' acc_new_ct ?k1 ?k2 ?k3 ?k4 ?k5 ?k6 ?k7 ?k8 ?_; (walk_at "mine c0"); k_whole); intro xr dxr h' tk tkr tr nr nr' F' N' lr1 lr2; (try k_lt lr1); (try k_lt2 lr2); (try k_sweep)))
local macro_rules | `(tactic| walk_at "call ref") => `(tactic| (k_here; k_dflt (refine' vf_new_ct ?k1 ?k2 ?k3 ?k4 ?k5 ?k6 ?k7 ?k8 ?_; (walk_at "mine c0"); k_whole); intro v dv ll x dx h' tk k1 k2 k3 k4 k5 k6 clV tkx tx nv nx nx' F' N' lv1 lv2 lv3 lv4 lv5; (try k_lt lv1); (try k_lt2 lv2); (try k_lt2 lv3); (try k_lt2 lv4); (try k_lt2 lv5); (try k_sweep)))
local macro_rules | `(tactic| walk_at "exec For") => `(tactic| ((with_reducible show wpAny _ _ (exec (Stmt.For _ _ _ _ _) _) _ _ _); refine halt ?_))
local macro_rules | `(tactic| walk_at "call ref") => `(tactic| ((with_reducible show wpAny _ _ (call (.ref 118) _) _ _ _); refine halt ?_))
theorem rs_L30 : True := by
  have h : (1 : Nat) = 1 := by walk1
  w_top off; exact trivial
noncomputable def forBody : Stmt → List Stmt | .For _ _ b _ _ => b | _ => []
noncomputable def rowBody : List Stmt := forBody ((fdB (stm 65))[3]!)
noncomputable def pairBody : List Stmt := forBody (rowBody[1]!)
noncomputable abbrev PairO (q : Addr × (Nat × Tok) × (Nat × Tok)) : Obj := tupO [.int (q.2.1.1 : Nat) q.2.1.2, .int (q.2.2.1 : Nat) q.2.2.2]
noncomputable abbrev pgEnv (L' : Addr) : Env := envOf (Str.ofString "_law_page") (fdS (stm 65)) L' 358 (Value.ref 357)
theorem RingAre.at {l : List Part} {ss : List Str} (h : RingAre l ss) {i : Nat} {s : Str} (hs : ss[i]? = some s) : ∃ q, l[i]? = some q ∧ q.2.1.1 = Str.ofString "" ∧ q.2.2.1 = s := by
  have e := congrArg (fun l => l[i]?) h
  simp only [List.getElem?_map, hs, Option.map_some] at e
  obtain ⟨q, hq, e⟩ := Option.map_eq_some_iff.mp e
  exact ⟨q, hq, congrArg Prod.fst e, congrArg Prod.snd e⟩
theorem at_of {l : List Part} {q : Part} {i : Nat} (h : l[i]? = some q) : (l.map pref)[((i : Nat) : Int).toNat]? = some (pref q) := by simp [h]
theorem lay_ok {M c : Nat} {cur ls : List Str} {s : Str} (h1 : ∀ s ∈ cur, s.length ≤ 1000) (h2 : cur.length ≤ c) (h3 : ls.length ≤ c) (hs : s.length ≤ 1000) : (∀ s' ∈ (lay M (cur, ls) s).1, s'.length ≤ 1000) ∧ (lay M (cur, ls) s).1.length ≤ c + 1 ∧ (lay M (cur, ls) s).2.length ≤ c + 1 := by
  unfold lay
  split
  · refine ⟨fun s' hs' => ?_, by simp; omega, by simp; omega⟩
    rcases List.mem_append.mp hs' with h | h
    · exact h1 _ h
    · rw [List.mem_singleton.mp h]; exact hs
  · refine ⟨fun s' hs' => ?_, by simp, by simp; omega⟩
    rw [List.mem_singleton.mp hs']; exact hs
theorem str_len_append (a b : Str) : (a ++ b).length = a.length + b.length := Array.size_append
theorem PgInv.next {P : Params} {base rest : List (Addr × Obj)} {v dv x dx ll xr dxr tp : Addr} {k1 k2 k3 k4 k5 k6 tM t3 tf ts tk1 t1 tk2 t2 : Tok} {cwV clV : Value} {M c n1 n2 n3 n4 nl nv : Nat} {ringS cur ls : List Str} {s2 : Str} {h₀ h : Heap} {L : Addr} {lc lr : List Part} {lines : List Value} {ps1 ps2 : Array Value}
    (N : News h₀ L h ((x, accO 205 dx (lc.map pref) n1) :: (dx, dictOf (isz P tk1 0 t1) n2) :: (ll, listOf lines.toArray nl) :: (v, instObj 121 dv) :: (dv, dictOf (vfd P k1 k2 k3 k4 k5 k6 (.int (M : Nat) tM) cwV clV (.str (Str.ofString " ") t3) ll x) nv) :: (167, PySem.W.X.tableObj ps1) :: (174, PySem.W.X.tableObj ps2) :: (tp, tupO [.str (Str.ofString " ") tf, .str s2 ts]) :: (xr, accO 205 dxr (lr.map pref) n3) :: (dxr, dictOf (isz P tk2 0 t2) n4) :: rest))
    (ho : @LT.lt Nat _ 174 dv ∧ @LT.lt Nat _ dv v ∧ @LT.lt Nat _ v ll ∧ @LT.lt Nat _ ll dx ∧ @LT.lt Nat _ dx x ∧ @LT.lt Nat _ x dxr ∧ @LT.lt Nat _ dxr xr)
    (b1 : CurAre lc cur) (a2 : RingAre lr ringS) (b2 : LinesAre lines ls) (b3 : ∀ q ∈ lc, (q.1, pO q) ∈ (tp, tupO [.str (Str.ofString " ") tf, .str s2 ts]) :: (xr, accO 205 dxr (lr.map pref) n3) :: (dxr, dictOf (isz P tk2 0 t2) n4) :: rest) (a5 : ∀ q ∈ lr, (q.1, pO q) ∈ rest)
    (a6 : ∀ p ∈ base, p ∈ rest) (a7 : Off rest v dv x dx ll xr dxr) (b4 : TriplesOk ps1.toList) (b5 : TriplesOk ps2.toList) (lx : @LT.lt Nat _ xr tp) (ok : (∀ s ∈ cur, s.length ≤ 1000) ∧ cur.length ≤ c ∧ ls.length ≤ c) :
    ∃ news', News h₀ L h news' ∧ PgInv P base v dv x dx ll xr dxr k1 k2 k3 k4 k5 k6 tM t3 cwV clV M ringS cur ls c news' := by
  refine ⟨pgList P v dv x dx ll xr dxr k1 k2 k3 k4 k5 k6 tM t3 cwV clV M lc lr lines n1 n2 n3 n4 nl nv tk1 t1 tk2 t2 ps1 ps2 ((tp, tupO [.str (Str.ofString " ") tf, .str s2 ts]) :: rest), news_sub N ?sb, lc, lr, lines, n1, n2, n3, n4, nl, nv, tk1, t1, tk2, t2, ps1, ps2, _, rfl, b1, a2, b2, ?pa, fun q hq => .tail _ (a5 q hq), fun p hp => .tail _ (a6 p hp), ?po, b4, b5, ok.1, ok.2.1, ok.2.2⟩
  case sb =>
    exact sub_ix [0, 1, 2, 3, 4, 5, 6, 8, 9, 7] 10 10 rfl rfl
  case pa =>
    intro q hq
    rcases List.mem_cons.mp (b3 q hq) with e | e
    · rw [e]; exact .head _
    · rcases List.mem_cons.mp e with e | e
      · exact absurd (congrArg Prod.snd e) (by intro e; cases e)
      · rcases List.mem_cons.mp e with e | e
        · exact absurd (Value.type.inj (congrArg (fun p : Addr × Obj => p.2.cls) e)) (by decide)
        · exact .tail _ e
  case po =>
    intro p hp
    rcases List.mem_cons.mp hp with rfl | hp
    · exact off_up ho lx
    · exact a7 p hp
section
variable {w : World} {p : Program} {loose : List Str} {mean : ExcName → Option Value} {mg mb : Str → Option Value} {dp un : Nat} {gd : Option (List Code)} {cn : Str} {cs : Scope} {a : Addr} {ccd : Value} {cl : List (Str × Addr)} {outer : List Env} {A₀ : Around} {baseH h₀ : Heap} {L : Addr} {m : Str → Option Value} {news : List (Addr × Obj)} {s : Shared} {Q E : Value → Shared → Prop}
set_option maxHeartbeats 2000000
theorem pair_turn {base : List (Addr × Obj)} {g : Heap} {L' v dv x dx ll xr dxr pl : Addr} {k1 k2 k3 k4 k5 k6 tM t3 ts : Tok} {cwV clV : Value} {M c : Nat} {ringS cur ls : List Str} {sg sa sb : Str} {u : Str → Option Value} {q : Addr × (Nat × Tok) × (Nat × Tok)} {Q : Flow → Shared → Prop} {z1 z2 z3 : Pos} {zx : Nat}
  (B' : Below (ktrTop 850 4500 gd cn cs L a ccd cl outer) baseH (envX cn cs L a ccd cl :: outer) g) (F' : Fr g L' s.heap (pgMap v xr pl sg ts u)) (X' : (KF w.params).In g) (N' : News g L' s.heap news) (T' : Top p loose mean mg mb g)
  (hI : PgInv w.params base v dv x dx ll xr dxr k1 k2 k3 k4 k5 k6 tM t3 cwV clV M ringS cur ls c news) (hq : (q.1, PairO q) ∈ base)
  (ho : @LT.lt Nat _ 174 dv ∧ @LT.lt Nat _ dv v ∧ @LT.lt Nat _ v ll ∧ @LT.lt Nat _ ll dx ∧ @LT.lt Nat _ dx x ∧ @LT.lt Nat _ x dxr ∧ @LT.lt Nat _ dxr xr)
  (ha : ringS[q.2.1.1]? = some sa) (hb : ringS[q.2.2.1]? = some sb) (hrl : ringS.length ≤ 100) (hla : sa.length = 1) (hlb : sb.length = 1) (hM : 3 ≤ M) (hc : c ≤ 800) (hgb : AllBare s.gens)
  (hret : ∀ h' g' tk news' m', Fr g L' h' m' → (∃ u', m' = pgMap v xr pl sg ts u') → News g L' h' news' → PgInv w.params base v dv x dx ll xr dxr k1 k2 k3 k4 k5 k6 tM t3 cwV clV M ringS (lay M (cur, ls) (sa ++ sb)).1 (lay M (cur, ls) (sa ++ sb)).2 (c + 1) news' → AllBare g' → Q .next ⟨h', g', s.drawn, tk, s.os⟩) :
  wpAny (model PySem.Challenge.rw_wc0034_01.row.prog w) ((ktrTop 850 4500 gd cn cs L a ccd cl outer).deeper (pgEnv L')) (assign (.Tuple [.Name (Str.ofString "one") z1, .Name (Str.ofString "two") z2] zx z3) (pgEnv L') (.ref q.1)) (fun _ s₃ => wpAny (model PySem.Challenge.rw_wc0034_01.row.prog w) ((ktrTop 850 4500 gd cn cs L a ccd cl outer).deeper (pgEnv L')) (execs pairBody (pgEnv L')) Q Nev s₃) Nev s := by
  have fa : q.2.1.1 < ringS.length := (List.getElem?_eq_some_iff.mp ha).1
  have fb : q.2.2.1 < ringS.length := (List.getElem?_eq_some_iff.mp hb).1
  obtain ⟨lc, lr, lines, n1, n2, n3, n4, nl, nv, tk1, t1, tk2, t2, ps1, ps2, rest, rfl, a1, a2, a3, a4, a5, a6, a7, a8, a9, a10, a11, a12⟩ := hI
  unfold pgList at N'
  refine ord9 ho ?_
  intros
  obtain ⟨qa, hqa, -, rfl⟩ := a2.at ha
  obtain ⟨qb, hqb, -, rfl⟩ := a2.at hb
  have mqa := a5 _ (List.mem_of_getElem? hqa)
  have mqb := a5 _ (List.mem_of_getElem? hqb)
  have mq := a6 _ hq
  have iqa := at_of hqa
  have iqb := at_of hqb
  have r1 : ∀ p ∈ rest, p.1 ≠ x := fun p hp => (a7 p hp).1
  have r2 : ∀ p ∈ rest, p.1 ≠ dx := fun p hp => (a7 p hp).2.1
  have r3 : ∀ p ∈ rest, p.1 ≠ ll := fun p hp => (a7 p hp).2.2.1
  have r4 : ∀ p ∈ rest, p.1 ≠ 167 := fun p hp => (a7 p hp).2.2.2.2.2.1
  have r5 : ∀ p ∈ rest, p.1 ≠ 174 := fun p hp => (a7 p hp).2.2.2.2.2.2.1
  revert X'; k_fill; intro X'
  k_steps
  show wpAny _ _ _ _ _ _
  have hl2 : (qa.2.2.1 ++ qb.2.2.1).length = 2 := by rw [str_len_append, hla, hlb]
  refine' chunk_ct (l := lc) (lines := lines) (cur := cur) (ls := ls) (M := M) ?k1 ?k2 ?k3 ?k4 ?k5 ?k6 ?k7 ?k8 ?k9 ?q1 ?q2 ?q3 ?q4 ?q5 ?k10 a1 a3 a10 ?k11 ?k12 ?k13 ?k14 a8 a9 ?k15 ?_
  case k1 => k_asm
  case k2 => k_asm
  case k3 => k_asm
  case k4 => k_asm
  case k5 => k_asm
  case k6 => rfl
  case k7 => exact Nat.le_of_ble_eq_true rfl
  case k8 => exact Nat.le_of_ble_eq_true rfl
  case k9 => exact ⟨ho.1, ho.2.1, ho.2.2.1, ho.2.2.2.1, ho.2.2.2.2.1⟩
  case q1 => walk_at "mine all"
  case q2 => walk_at "mine all"
  case q3 => walk_at "mine all"
  case q4 => walk_at "mine all"
  case q5 => walk_at "mine all"
  case k10 => intro q hq; repeat (first | exact a4 q hq | refine List.mem_cons_of_mem _ ?_)
  case k11 => omega
  case k12 => omega
  case k13 => omega
  case k14 => omega
  case k15 => assumption
  intro h' g' tk tp l' lines' m1 m2 u1 nl' qs1 qs2 F1 N1 b1 b2 b3 b4 b5 b6 b7 b8
  k_steps
  have lx : @LT.lt Nat _ xr tp := b7 (xr, accO 205 dxr (lr.map pref) n3) (.head _)
  have ok := lay_ok (M := M) a10 a11 a12 (s := qa.2.2.1 ++ qb.2.2.1) (by omega)
  obtain ⟨news', N2, I2⟩ := PgInv.next (base := base) N1 ho b1 a2 b2 b3 a5 a6 a7 b4 b5 lx ok
  exact hret h' g' tk news' _ (by k_asm) ⟨_, pgMap_of rfl rfl rfl rfl⟩ N2 I2 b6
end
theorem rs_L31 : True := by
  have h : (1 : Nat) = 1 := by walk1
  w_top off; exact trivial
noncomputable def pairStr (ring : List Str) (p : Nat × Nat) : Str := ring.getD p.1 ⟨#[]⟩ ++ ring.getD p.2 ⟨#[]⟩
noncomputable def pairsLay (M : Nat) (ring : List Str) (st : List Str × List Str) (ps : List (Nat × Nat)) : List Str × List Str := ps.foldl (fun st p => lay M st (pairStr ring p)) st
noncomputable def rowLay (M : Nat) (ring : List Str) (ps : List (Nat × Nat)) (st : List Str × List Str) : List Str × List Str := pairsLay M ring (lay M st (Str.ofString "@" ++ ring.getD 0 ⟨#[]⟩)) ps
noncomputable abbrev nums (q : Addr × (Nat × Tok) × (Nat × Tok)) : Nat × Nat := (q.2.1.1, q.2.2.1)
theorem PgInv.base_mem {P : Params} {base news : List (Addr × Obj)} {v dv x dx ll xr dxr : Addr} {k1 k2 k3 k4 k5 k6 tM t3 : Tok} {cwV clV : Value} {M c : Nat} {ringS cur ls : List Str} (hI : PgInv P base v dv x dx ll xr dxr k1 k2 k3 k4 k5 k6 tM t3 cwV clV M ringS cur ls c news) {p : Addr × Obj} (hp : p ∈ base) : p ∈ news := by
  obtain ⟨lc, lr, lines, n1, n2, n3, n4, nl, nv, tk1, t1, tk2, t2, ps1, ps2, rest, rfl, a1, a2, a3, a4, a5, a6, _⟩ := hI
  simp only [pgList, List.mem_cons]
  simp only [a6 p hp, or_true]
theorem pairsLay_succ {M : Nat} {ring : List Str} {st : List Str × List Str} {ps : List (Nat × Nat)} {i : Nat} {p : Nat × Nat} (h : ps[i]? = some p) : pairsLay M ring st (ps.take (i + 1)) = lay M (pairsLay M ring st (ps.take i)) (pairStr ring p) := by
  unfold pairsLay
  rw [List.take_add_one, h]
  simp
section
variable {w : World} {p : Program} {loose : List Str} {mean : ExcName → Option Value} {mg mb : Str → Option Value} {dp un : Nat} {gd : Option (List Code)} {cn : Str} {cs : Scope} {a : Addr} {ccd : Value} {cl : List (Str × Addr)} {outer : List Env} {A₀ : Around} {baseH h₀ : Heap} {L : Addr} {m : Str → Option Value} {news : List (Addr × Obj)} {s : Shared} {Q E : Value → Shared → Prop}
set_option maxHeartbeats 2000000
theorem pairs_loop {base : List (Addr × Obj)} {g : Heap} {L' v dv x dx ll xr dxr pl : Addr} {k1 k2 k3 k4 k5 k6 tM t3 ts : Tok} {cwV clV : Value} {M c np : Nat} {ringS cur ls : List Str} {sg : Str} {u : Str → Option Value} {prs : List (Addr × (Nat × Tok) × (Nat × Tok))} {Q : Flow → Shared → Prop} {z1 z2 z3 : Pos} {zx : Nat}
  (B' : Below (ktrTop 850 4500 gd cn cs L a ccd cl outer) baseH (envX cn cs L a ccd cl :: outer) g) (F' : Fr g L' s.heap (pgMap v xr pl sg ts u)) (X' : (KF w.params).In g) (N' : News g L' s.heap news) (T' : Top p loose mean mg mb g)
  (hI : PgInv w.params base v dv x dx ll xr dxr k1 k2 k3 k4 k5 k6 tM t3 cwV clV M ringS cur ls c news) (hpl : (pl, listOf (prs.map fun q => Value.ref q.1).toArray np) ∈ base) (hpr : ∀ q ∈ prs, (q.1, PairO q) ∈ base)
  (ho : @LT.lt Nat _ 174 dv ∧ @LT.lt Nat _ dv v ∧ @LT.lt Nat _ v ll ∧ @LT.lt Nat _ ll dx ∧ @LT.lt Nat _ dx x ∧ @LT.lt Nat _ x dxr ∧ @LT.lt Nat _ dxr xr)
  (hb : ∀ q ∈ prs, q.2.1.1 < ringS.length ∧ q.2.2.1 < ringS.length) (hrl : ringS.length ≤ 100) (hs1 : ∀ s ∈ ringS, s.length = 1) (hM : 3 ≤ M) (hc : c + prs.length ≤ 800) (hgb : AllBare s.gens)
  (hret : ∀ h' g' tk news' u', Fr g L' h' (pgMap v xr pl sg ts u') → News g L' h' news' → PgInv w.params base v dv x dx ll xr dxr k1 k2 k3 k4 k5 k6 tM t3 cwV clV M ringS (pairsLay M ringS (cur, ls) (prs.map nums)).1 (pairsLay M ringS (cur, ls) (prs.map nums)).2 (c + prs.length) news' → AllBare g' → Q .next ⟨h', g', s.drawn, tk, s.os⟩) :
  wpAny (model PySem.Challenge.rw_wc0034_01.row.prog w) ((ktrTop 850 4500 gd cn cs L a ccd cl outer).deeper (pgEnv L')) (pyIter (.ref pl)) (fun it s₂ => LoopG PySem.Challenge.rw_wc0034_01.row.prog w ((ktrTop 850 4500 gd cn cs L a ccd cl outer).deeper (pgEnv L')) (pgEnv L') (.Tuple [.Name (Str.ofString "one") z1, .Name (Str.ofString "two") z2] zx z3) pairBody Q it s₂) E s := by
  refine iter_listG (vs := prs.map fun q => Value.ref q.1) rfl F' N' (hI.base_mem hpl) rfl rfl (fun i g' m' n' => (∃ u, m' = pgMap v xr pl sg ts u) ∧ AllBare g' ∧ PgInv w.params base v dv x dx ll xr dxr k1 k2 k3 k4 k5 k6 tM t3 cwV clV M ringS (pairsLay M ringS (cur, ls) ((prs.map nums).take i)).1 (pairsLay M ringS (cur, ls) ((prs.map nums).take i)).2 (c + i) n') ⟨⟨u, rfl⟩, hgb, hI⟩ ?_ ?_
  · rintro I i vq g1 m1 news1 h1 tk1 it s' hv ⟨⟨u1, rfl⟩, hg1, hP⟩ hmem hn hd hos F1 N1 hit
    rw [List.getElem?_map] at hv
    obtain ⟨q, hq, rfl⟩ := Option.map_eq_some_iff.mp hv
    have hqm := List.mem_of_getElem? hq
    have hil : i < prs.length := (List.getElem?_eq_some_iff.mp hq).1
    obtain ⟨news2, hP2, hsub⟩ := hP.add (I := I) (it := it) hn
    have ha := List.getElem?_eq_getElem (hb q hqm).1
    have hb' := List.getElem?_eq_getElem (hb q hqm).2
    refine pair_turn (base := (I, it) :: base) (s := ⟨h1, g1, s'.drawn, tk1, s'.os⟩) B' F1 X' (news_sub N1 hsub) T' hP2 (.tail _ (hpr q hqm)) ho ha hb' hrl (hs1 _ (List.getElem_mem _)) (hs1 _ (List.getElem_mem _)) hM (by omega) hg1 ?_
    rintro h' g' tk news' m' F3 ⟨u', rfl⟩ N3 I3 hg3
    obtain ⟨news4, I4, N4, hn4⟩ := I3.drop N3 hit (fun p hp => hn p (hP.base_mem hp))
    have e : pairStr ringS (nums q) = ringS[q.2.1.1]'(hb q hqm).1 ++ ringS[q.2.2.1]'(hb q hqm).2 := by
      unfold pairStr
      rw [List.getD_eq_getElem?_getD, List.getD_eq_getElem?_getD, ha, hb']
      rfl
    have e2 : pairsLay M ringS (cur, ls) ((prs.map nums).take (i + 1)) = lay M (pairsLay M ringS (cur, ls) ((prs.map nums).take i)) (pairStr ringS (nums q)) := pairsLay_succ (by rw [List.getElem?_map, hq]; rfl)
    refine ⟨h', g', tk, _, news4, rfl, F3, N4, hn4, fun p hp => by rw [List.mem_singleton.mp hp]; exact I4.base_mem hpl, ⟨u', rfl⟩, hg3, ?_⟩
    rw [e2, e]
    exact I4
  · rintro h1 g1 tk1 m1 news1 ⟨⟨u1, rfl⟩, hg1, hP⟩ F1 N1
    rw [List.length_map, List.take_of_length_le (by simp)] at hP
    exact hret h1 g1 tk1 news1 u1 F1 N1 hP hg1
end
theorem Fr.pg {v xr pl : Addr} {sg : Str} {ts : Tok} {g h : Heap} {L' : Addr} {m : Str → Option Value} (F : Fr g L' h m) (h1 : m (Str.ofString "page") = some (.ref v)) (h2 : m (Str.ofString "ring") = some (.ref xr)) (h3 : m (Str.ofString "pairs") = some (.ref pl)) (h4 : m (Str.ofString "signs") = some (.str sg ts)) : ∃ u, Fr g L' h (pgMap v xr pl sg ts u) :=
  ⟨m, by rw [← pgMap_of h1 h2 h3 h4]; exact F⟩
theorem RingAre.cons {l : List Part} {s0 : Str} {ss : List Str} (h : RingAre l (s0 :: ss)) : ∃ q l', l = [q] ++ l' ∧ q.2.1.1 = Str.ofString "" ∧ q.2.2.1 = s0 ∧ RingAre l' ss := by
  cases l with
  | nil => exact absurd (congrArg List.length h) (by simp)
  | cons q l' =>
    unfold RingAre at h
    simp only [List.map_cons] at h
    injection h with h1 h2
    exact ⟨q, l', rfl, congrArg Prod.fst h1, congrArg Prod.snd h1, h2⟩
theorem RingAre.snoc {l : List Part} {ss : List Str} (h : RingAre l ss) {t : Addr} {a b : Str × Tok} {s : Str} (ha : a.1 = Str.ofString "") (hb : b.1 = s) : RingAre (l ++ [(t, a, b)]) (ss ++ [s]) := by
  unfold RingAre at h ⊢
  rw [List.map_append, List.map_append, h]
  simp [ha, hb]
section
variable {w : World} {p : Program} {loose : List Str} {mean : ExcName → Option Value} {mg mb : Str → Option Value} {dp un : Nat} {gd : Option (List Code)} {cn : Str} {cs : Scope} {a : Addr} {ccd : Value} {cl : List (Str × Addr)} {outer : List Env} {A₀ : Around} {base h₀ : Heap} {L : Addr} {m : Str → Option Value} {news : List (Addr × Obj)} {s : Shared} {Q E : Value → Shared → Prop}
set_option maxHeartbeats 2000000
theorem pop_from1_ct {x dx : Addr} {q : Part} {l2 : List Part} {n n' : Nat} {ti : Tok} {es : List DictEntry} {news' : Nat → List (Addr × Obj)}
  (B : Below A₀ base outer h₀) (F : Fr h₀ L s.heap m) (X : (KF w.params).In h₀) (N : News h₀ L s.heap news) (T : Top p loose mean mg mb h₀) (hk : cs.kind = .function)
  (hdp : dp ≤ 890) (hun : un ≤ 4900) (hx : (x, accO 205 dx (([q] ++ l2).map pref) n) ∈ news) (hd : (dx, dictOf es n') ∈ news) (hz : l2.length ≤ 900)
  (U : ∀ n', Upd x (accO 205 dx (([q] ++ l2).map pref) n) (accO 205 dx ([q].map pref) n') news (news' n'))
  (hret : ∀ h' tk n' l c, Fr h₀ L h' m → News h₀ L h' ((l, listOf (l2.map pref).toArray c) :: news' n') → (∀ p ∈ news, p.1 < l) → Q (.ref l) { s with heap := h', toks := tk }) :
  wpAny (model PySem.Challenge.rw_wc0034_01.row.prog w) (ktrTop dp un gd cn cs L a ccd cl outer) (call (.ref 157) [.ref x, .int 1 ti]) Q E s :=
  pop_from_part_ct (l1 := [q]) (news' := news') B F X N T hk hdp hun hx hd (by simp; omega) U hret
end
local macro_rules | `(tactic| walk_at "call ref") => `(tactic| (k_here; k_dflt (refine' pop_part_ct (l := []) ?k1 ?k2 ?k3 ?k4 ?k5 ?k6 ?k7 ?k8 ?k9 ?k10 ?k11 ?k12 ?_; (walk_at "mine c0"); (case k9 | k10 => walk_at "mine mem"); (case k11 => first | omega | (simp only [List.length_cons, List.length_nil]; omega)); (case k12 => intro n'; walk_at "mine upd"); k_whole); intro h' tk n' F' N'; (try k_sweep)))
local macro_rules | `(tactic| walk_at "call ref") => `(tactic| (k_here; k_dflt (refine' pop_from1_ct ?k1 ?k2 ?k3 ?k4 ?k5 ?k6 ?k7 ?k8 ?k9 ?k10 ?k11 ?k12 ?_; (walk_at "mine c0"); (case k9 | k10 => walk_at "mine mem"); (case k11 => omega); (case k12 => intro n'; walk_at "mine upd"); k_whole); intro h' tk n' lr c' F' N' l1; (try k_lt l1); (try k_sweep)))
theorem rs_L33 : True := by
  have h : (1 : Nat) = 1 := by walk1
  w_top off; exact trivial
section
variable {w : World} {p : Program} {loose : List Str} {mean : ExcName → Option Value} {mg mb : Str → Option Value} {dp un : Nat} {gd : Option (List Code)} {cn : Str} {cs : Scope} {a : Addr} {ccd : Value} {cl : List (Str × Addr)} {outer : List Env} {A₀ : Around} {baseH h₀ : Heap} {L : Addr} {m : Str → Option Value} {news : List (Addr × Obj)} {s : Shared} {Q E : Value → Shared → Prop}
set_option maxHeartbeats 2000000
theorem row_turn {base : List (Addr × Obj)} {g : Heap} {L' v dv x dx ll xr dxr pl : Addr} {k1 k2 k3 k4 k5 k6 tM t3 ts uu : Tok} {cwV clV : Value} {M c np : Nat} {ss cur ls : List Str} {sg s0 cc : Str} {u : Str → Option Value} {prs : List (Addr × (Nat × Tok) × (Nat × Tok))} {Q : Flow → Shared → Prop} {z1 : Pos}
  (B' : Below (ktrTop 850 4500 gd cn cs L a ccd cl outer) baseH (envX cn cs L a ccd cl :: outer) g) (F' : Fr g L' s.heap (pgMap v xr pl sg ts u)) (X' : (KF w.params).In g) (N' : News g L' s.heap news) (T' : Top p loose mean mg mb g)
  (hI : PgInv w.params base v dv x dx ll xr dxr k1 k2 k3 k4 k5 k6 tM t3 cwV clV M (s0 :: ss) cur ls c news) (hpl : (pl, listOf (prs.map fun q => Value.ref q.1).toArray np) ∈ base) (hpr : ∀ q ∈ prs, (q.1, PairO q) ∈ base)
  (ho : @LT.lt Nat _ 174 dv ∧ @LT.lt Nat _ dv v ∧ @LT.lt Nat _ v ll ∧ @LT.lt Nat _ ll dx ∧ @LT.lt Nat _ dx x ∧ @LT.lt Nat _ x dxr ∧ @LT.lt Nat _ dxr xr)
  (hb : ∀ q ∈ prs, q.2.1.1 < (s0 :: ss).length ∧ q.2.2.1 < (s0 :: ss).length) (hrl : (s0 :: ss).length ≤ 100) (hs1 : ∀ s ∈ s0 :: ss, s.length = 1) (hM : 3 ≤ M) (hc : c + 1 + prs.length ≤ 800) (hgb : AllBare s.gens)
  (hret : ∀ h' g' tk news' u', Fr g L' h' (pgMap v xr pl sg ts u') → News g L' h' news' → PgInv w.params base v dv x dx ll xr dxr k1 k2 k3 k4 k5 k6 tM t3 cwV clV M (ss ++ [s0]) (rowLay M (s0 :: ss) (prs.map nums) (cur, ls)).1 (rowLay M (s0 :: ss) (prs.map nums) (cur, ls)).2 (c + 1 + prs.length) news' → AllBare g' → Q .next ⟨h', g', s.drawn, tk, s.os⟩) :
  wpAny (model PySem.Challenge.rw_wc0034_01.row.prog w) ((ktrTop 850 4500 gd cn cs L a ccd cl outer).deeper (pgEnv L')) (assign (.Name (Str.ofString "_") z1) (pgEnv L') (.str cc uu)) (fun _ s₃ => wpAny (model PySem.Challenge.rw_wc0034_01.row.prog w) ((ktrTop 850 4500 gd cn cs L a ccd cl outer).deeper (pgEnv L')) (execs rowBody (pgEnv L')) Q Nev s₃) Nev s := by
  have X₀ := X'
  obtain ⟨lc, lr, lines, n1, n2, n3, n4, nl, nv, tk1, t1, tk2, t2, ps1, ps2, rest, rfl, a1, a2, a3, a4, a5, a6, a7, a8, a9, a10, a11, a12⟩ := hI
  obtain ⟨q0, lr', rfl, e1, e2, a2'⟩ := a2.cons
  have mq0 := a5 q0 (.head _)
  have r1 : ∀ p ∈ rest, p.1 ≠ x := fun p hp => (a7 p hp).1
  have r2 : ∀ p ∈ rest, p.1 ≠ dx := fun p hp => (a7 p hp).2.1
  have r3 : ∀ p ∈ rest, p.1 ≠ ll := fun p hp => (a7 p hp).2.2.1
  have r4 : ∀ p ∈ rest, p.1 ≠ 167 := fun p hp => (a7 p hp).2.2.2.2.2.1
  have r5 : ∀ p ∈ rest, p.1 ≠ 174 := fun p hp => (a7 p hp).2.2.2.2.2.2.1
  unfold pgList at N'
  refine ord9 ho ?_
  intros
  revert X'; k_fill; intro X'
  k_steps
  have hq0 : q0.2.2.1.length = 1 := by rw [e2]; exact hs1 _ (.head _)
  refine KXadd.add (K := 1) (L := 1) (Nat.le_of_ble_eq_true rfl) (Nat.le_of_eq hq0) (by decide) ?_
  intro _ _ _
  k_steps
  show wpAny _ _ _ _ _ _
  have hl2 : (Str.ofString "@" ++ q0.2.2.1).length = 2 := by rw [str_len_append, e2, hs1 _ (.head _)]; rfl
  refine' chunk_ct (l := lc) (lines := lines) (cur := cur) (ls := ls) (M := M) ?k1 ?k2 ?k3 ?k4 ?k5 ?k6 ?k7 ?k8 ?k9 ?q1 ?q2 ?q3 ?q4 ?q5 ?k10 a1 a3 a10 ?k11 ?k12 ?k13 ?k14 a8 a9 ?k15 ?_
  case k1 => k_asm
  case k2 => k_asm
  case k3 => k_asm
  case k4 => k_asm
  case k5 => k_asm
  case k6 => rfl
  case k7 => exact Nat.le_of_ble_eq_true rfl
  case k8 => exact Nat.le_of_ble_eq_true rfl
  case k9 => exact ⟨ho.1, ho.2.1, ho.2.2.1, ho.2.2.2.1, ho.2.2.2.2.1⟩
  case q1 => walk_at "mine all"
  case q2 => walk_at "mine all"
  case q3 => walk_at "mine all"
  case q4 => walk_at "mine all"
  case q5 => walk_at "mine all"
  case k10 => intro q hq; repeat (first | exact a4 q hq | refine List.mem_cons_of_mem _ ?_)
  case k11 => omega
  case k12 => omega
  case k13 => omega
  case k14 => omega
  case k15 => assumption
  intro h' g' tk tp l' lines' m1 m2 u1 nl' qs1 qs2 F1 N1 b1 b2 b3 b4 b5 b6 b7 b8
  k_steps
  show wpAny _ _ _ _ _ _
  have lx : @LT.lt Nat _ xr tp := b7 (xr, accO 205 dxr (([q0] ++ lr').map pref) n3) (.head _)
  have ok := lay_ok (M := M) a10 a11 a12 (s := Str.ofString "@" ++ q0.2.2.1) (by omega)
  obtain ⟨news2, N2, I2⟩ := PgInv.next (base := base) N1 ho b1 a2 b2 b3 a5 a6 a7 b4 b5 lx ok
  obtain ⟨u2, F2⟩ := Fr.pg (v := v) (xr := xr) (pl := pl) (sg := sg) (ts := ts) (by k_asm : Fr g L' h' _) rfl rfl rfl rfl
  clear N1 F1 b1 b2 b3 b4 b5 b7 b8
  rw [e2] at I2
  refine For_G ?_
  walk_at "mine step"
  refine pairs_loop (base := base) (c := c + 1) B' F2 X₀ N2 T' I2 hpl hpr ho hb hrl hs1 hM (by omega) b6 ?_
  clear F2 N2 I2
  intro h2 g2 tk2 news3 u3 F3 N3 I3 hg3
  obtain ⟨lc3, lr3, lines3, n13, n23, n33, n43, nl3, nv3, tk13, t13, tk23, t23, ps13, ps23, rest3, rfl, c1, c2, c3, c4, c5, c6, c7, c8, c9, c10, c11, c12⟩ := I3
  obtain ⟨q3, lr3', rfl, d1, d2, c2'⟩ := c2.cons
  have mq3 := c5 q3 (.head _)
  have hlr3 : lr3'.length = ss.length := by simpa using congrArg List.length c2'
  have hrl' : ss.length + 1 ≤ 100 := hrl
  have r1 : ∀ p ∈ rest3, p.1 ≠ xr := fun p hp => (c7 p hp).2.2.2.2.2.2.2.1
  have r2 : ∀ p ∈ rest3, p.1 ≠ dxr := fun p hp => (c7 p hp).2.2.2.2.2.2.2.2
  unfold pgList at N3
  dsimp only
  k_steps
  obtain ⟨u5, F5⟩ := Fr.pg (v := v) (xr := xr) (pl := pl) (sg := sg) (ts := ts) (by k_asm : Fr g L' h' _) rfl rfl rfl rfl
  refine hret h' _ _ (pgList w.params v dv x dx ll xr dxr k1 k2 k3 k4 k5 k6 tM t3 cwV clV M lc3 (lr3' ++ [(tp, (q3.2.1.1, q3.2.1.2), (q3.2.2.1, q3.2.2.2))]) lines3 n13 n23 n' n43 nl3 nv3 tk13 t13 tk23 tz ps13 ps23 ((tp, tupO [.str q3.2.1.1 q3.2.1.2, .str q3.2.2.1 q3.2.2.2]) :: rest3)) u5 F5 (news_sub N' ?sb) ⟨lc3, _, lines3, n13, n23, n', n43, nl3, nv3, tk13, t13, tk23, tz, ps13, ps23, _, rfl, c1, c2'.snoc d1 d2, c3, fun q hq => .tail _ (c4 q hq), ?pa, fun p hp => .tail _ (c6 p hp), ?po, c8, c9, c10, c11, c12⟩ hg3
  case sb => unfold pgList; walk_at "mine sub"
  case pa => exact parts_app (fun q hq => .tail _ (c5 q (.tail _ hq))) (.head _)
  case po =>
    intro p hp
    rcases List.mem_cons.mp hp with rfl | hp
    · exact off_up ho (by omega)
    · exact c7 p hp
end
theorem rs_L34 : True := by
  have h : (1 : Nat) = 1 := by walk1
  w_top off; exact trivial
noncomputable def rot : List Str → List Str | [] => [] | s :: ss => ss ++ [s]
noncomputable def rnd (M : Nat) (ps : List (Nat × Nat)) (ring : List Str) (st : List Str × List Str) : Nat → List Str × (List Str × List Str)
  | 0 => (ring, st)
  | i + 1 => (rot (rnd M ps ring st i).1, rowLay M (rnd M ps ring st i).1 ps (rnd M ps ring st i).2)
noncomputable def signsOf (sg : Str) : List Str := sg.cps.toList.map fun c => ⟨#[c]⟩
theorem rot_len (l : List Str) : (rot l).length = l.length := by cases l <;> simp [rot]
theorem rot_mem {l : List Str} {s : Str} (h : s ∈ rot l) : s ∈ l := by
  cases l with
  | nil => exact h
  | cons a l =>
    rcases List.mem_append.mp h with h | h
    · exact .tail _ h
    · rw [List.mem_singleton.mp h]; exact .head _
theorem rnd_len (M : Nat) (ps : List (Nat × Nat)) (ring : List Str) (st : List Str × List Str) (i : Nat) : (rnd M ps ring st i).1.length = ring.length := by
  induction i with
  | zero => rfl
  | succ i ih => rw [rnd, rot_len, ih]
theorem rnd_mem (M : Nat) (ps : List (Nat × Nat)) (ring : List Str) (st : List Str × List Str) (i : Nat) : ∀ s ∈ (rnd M ps ring st i).1, s ∈ ring := by
  induction i with
  | zero => exact fun s h => h
  | succ i ih => exact fun s h => ih s (rot_mem h)
section
variable {w : World} {p : Program} {loose : List Str} {mean : ExcName → Option Value} {mg mb : Str → Option Value} {dp un : Nat} {gd : Option (List Code)} {cn : Str} {cs : Scope} {a : Addr} {ccd : Value} {cl : List (Str × Addr)} {outer : List Env} {A₀ : Around} {baseH h₀ : Heap} {L : Addr} {m : Str → Option Value} {news : List (Addr × Obj)} {s : Shared} {Q E : Value → Shared → Prop}
set_option maxHeartbeats 2000000
theorem rows_loop {base : List (Addr × Obj)} {g : Heap} {L' v dv x dx ll xr dxr pl : Addr} {k1 k2 k3 k4 k5 k6 tM t3 ts t9 : Tok} {cwV clV : Value} {M c np : Nat} {ringS cur ls : List Str} {sg tx : Str} {u : Str → Option Value} {prs : List (Addr × (Nat × Tok) × (Nat × Tok))} {Q : Flow → Shared → Prop} {z1 : Pos}
  (B' : Below (ktrTop 850 4500 gd cn cs L a ccd cl outer) baseH (envX cn cs L a ccd cl :: outer) g) (F' : Fr g L' s.heap (pgMap v xr pl sg ts u)) (X' : (KF w.params).In g) (N' : News g L' s.heap news) (T' : Top p loose mean mg mb g)
  (hI : PgInv w.params base v dv x dx ll xr dxr k1 k2 k3 k4 k5 k6 tM t3 cwV clV M ringS cur ls c news) (hpl : (pl, listOf (prs.map fun q => Value.ref q.1).toArray np) ∈ base) (hpr : ∀ q ∈ prs, (q.1, PairO q) ∈ base)
  (ho : @LT.lt Nat _ 174 dv ∧ @LT.lt Nat _ dv v ∧ @LT.lt Nat _ v ll ∧ @LT.lt Nat _ ll dx ∧ @LT.lt Nat _ dx x ∧ @LT.lt Nat _ x dxr ∧ @LT.lt Nat _ dxr xr)
  (hb : ∀ q ∈ prs, q.2.1.1 < ringS.length ∧ q.2.2.1 < ringS.length) (hr0 : 0 < ringS.length) (hrl : ringS.length ≤ 100) (hs1 : ∀ s ∈ ringS, s.length = 1) (hM : 3 ≤ M) (hc : c + tx.cps.size * (1 + prs.length) ≤ 800) (hgb : AllBare s.gens)
  (hret : ∀ h' g' tk news' u', Fr g L' h' (pgMap v xr pl sg ts u') → News g L' h' news' → PgInv w.params base v dv x dx ll xr dxr k1 k2 k3 k4 k5 k6 tM t3 cwV clV M (rnd M (prs.map nums) ringS (cur, ls) tx.cps.size).1 (rnd M (prs.map nums) ringS (cur, ls) tx.cps.size).2.1 (rnd M (prs.map nums) ringS (cur, ls) tx.cps.size).2.2 (c + tx.cps.size * (1 + prs.length)) news' → AllBare g' → Q .next ⟨h', g', s.drawn, tk, s.os⟩) :
  wpAny (model PySem.Challenge.rw_wc0034_01.row.prog w) ((ktrTop 850 4500 gd cn cs L a ccd cl outer).deeper (pgEnv L')) (pyIter (.str tx t9)) (fun it s₂ => LoopG PySem.Challenge.rw_wc0034_01.row.prog w ((ktrTop 850 4500 gd cn cs L a ccd cl outer).deeper (pgEnv L')) (pgEnv L') (.Name (Str.ofString "_") z1) rowBody Q it s₂) E s := by
  refine iter_strG rfl F' N' (fun _ _ => rfl) (fun i g' m' n' => (∃ u, m' = pgMap v xr pl sg ts u) ∧ AllBare g' ∧ PgInv w.params base v dv x dx ll xr dxr k1 k2 k3 k4 k5 k6 tM t3 cwV clV M (rnd M (prs.map nums) ringS (cur, ls) i).1 (rnd M (prs.map nums) ringS (cur, ls) i).2.1 (rnd M (prs.map nums) ringS (cur, ls) i).2.2 (c + i * (1 + prs.length)) n') ⟨⟨u, rfl⟩, hgb, ?h0⟩ ?_ ?_
  case h0 => rw [Nat.zero_mul]; exact hI
  · rintro I i cc uu g1 m1 news1 h1 tk1 it s' hcc ⟨⟨u1, rfl⟩, hg1, hP⟩ hn hd hos F1 N1 hit
    have hil : i < tx.cps.size := (Array.getElem?_eq_some_iff.mp hcc).1
    obtain ⟨news2, hP2, hsub⟩ := hP.add (I := I) (it := it) hn
    have hlen := rnd_len M (prs.map nums) ringS (cur, ls) i
    have hmem := rnd_mem M (prs.map nums) ringS (cur, ls) i
    have hmul : (i + 1) * (1 + prs.length) ≤ tx.cps.size * (1 + prs.length) := Nat.mul_le_mul_right _ hil
    rw [Nat.succ_mul] at hmul
    obtain ⟨s0, ss, hring⟩ : ∃ s0 ss, (rnd M (prs.map nums) ringS (cur, ls) i).1 = s0 :: ss := by
      cases e : (rnd M (prs.map nums) ringS (cur, ls) i).1 with
      | nil => rw [e] at hlen; simp only [List.length_nil] at hlen; omega
      | cons s0 ss => exact ⟨s0, ss, rfl⟩
    have e2 : rnd M (prs.map nums) ringS (cur, ls) (i + 1) = (rot (rnd M (prs.map nums) ringS (cur, ls) i).1, rowLay M (rnd M (prs.map nums) ringS (cur, ls) i).1 (prs.map nums) (rnd M (prs.map nums) ringS (cur, ls) i).2) := rfl
    rw [hring] at hP2 hlen hmem e2
    refine row_turn (base := (I, it) :: base) (s := ⟨h1, g1, s'.drawn, tk1, s'.os⟩) B' F1 X' (news_sub N1 hsub) T' hP2 (.tail _ hpl) (fun q hq => .tail _ (hpr q hq)) ho (fun q hq => by rw [hlen]; exact hb q hq) (by omega) (fun s hs => hs1 s (hmem s hs)) hM (by omega) hg1 ?_
    intro h' g' tk news' u' F3 N3 I3 hg3
    obtain ⟨news4, I4, N4, hn4⟩ := I3.drop N3 hit (fun p hp => hn p (hP.base_mem hp))
    refine ⟨h', g', tk, _, news4, rfl, F3, N4, hn4, (fun p hp => absurd hp List.not_mem_nil), ⟨u', rfl⟩, hg3, ?_⟩
    rw [e2, show c + (i + 1) * (1 + prs.length) = c + i * (1 + prs.length) + 1 + prs.length from by rw [Nat.succ_mul]; omega]
    exact I4
  · rintro h1 g1 tk1 m1 news1 ⟨⟨u1, rfl⟩, hg1, hP⟩ F1 N1
    exact hret h1 g1 tk1 news1 u1 F1 N1 hP hg1
noncomputable def fillBody : List Stmt := forBody ((fdB (stm 65))[2]!)
theorem fill_turn {base : List (Addr × Obj)} {g : Heap} {L' v dv x dx ll xr dxr pl : Addr} {k1 k2 k3 k4 k5 k6 tM t3 ts uu : Tok} {cwV clV : Value} {M c : Nat} {ringS cur ls : List Str} {sg s0 : Str} {u : Str → Option Value} {Q : Flow → Shared → Prop} {z1 : Pos}
  (B' : Below (ktrTop 850 4500 gd cn cs L a ccd cl outer) baseH (envX cn cs L a ccd cl :: outer) g) (F' : Fr g L' s.heap (pgMap v xr pl sg ts u)) (X' : (KF w.params).In g) (N' : News g L' s.heap news) (T' : Top p loose mean mg mb g)
  (hI : PgInv w.params base v dv x dx ll xr dxr k1 k2 k3 k4 k5 k6 tM t3 cwV clV M ringS cur ls c news)
  (ho : @LT.lt Nat _ 174 dv ∧ @LT.lt Nat _ dv v ∧ @LT.lt Nat _ v ll ∧ @LT.lt Nat _ ll dx ∧ @LT.lt Nat _ dx x ∧ @LT.lt Nat _ x dxr ∧ @LT.lt Nat _ dxr xr)
  (hrl : ringS.length ≤ 100) (hgb : AllBare s.gens)
  (hret : ∀ h' tk news' u', Fr g L' h' (pgMap v xr pl sg ts u') → News g L' h' news' → PgInv w.params base v dv x dx ll xr dxr k1 k2 k3 k4 k5 k6 tM t3 cwV clV M (ringS ++ [s0]) cur ls c news' → Q .next ⟨h', s.gens, s.drawn, tk, s.os⟩) :
  wpAny (model PySem.Challenge.rw_wc0034_01.row.prog w) ((ktrTop 850 4500 gd cn cs L a ccd cl outer).deeper (pgEnv L')) (assign (.Name (Str.ofString "sign") z1) (pgEnv L') (.str s0 uu)) (fun _ s₃ => wpAny (model PySem.Challenge.rw_wc0034_01.row.prog w) ((ktrTop 850 4500 gd cn cs L a ccd cl outer).deeper (pgEnv L')) (execs fillBody (pgEnv L')) Q Nev s₃) Nev s := by
  obtain ⟨lc, lr, lines, n1, n2, n3, n4, nl, nv, tk1, t1, tk2, t2, ps1, ps2, rest, rfl, a1, a2, a3, a4, a5, a6, a7, a8, a9, a10, a11, a12⟩ := hI
  have hlr : lr.length = ringS.length := by simpa using congrArg List.length a2
  have r1 : ∀ p ∈ rest, p.1 ≠ xr := fun p hp => (a7 p hp).2.2.2.2.2.2.2.1
  have r2 : ∀ p ∈ rest, p.1 ≠ dxr := fun p hp => (a7 p hp).2.2.2.2.2.2.2.2
  unfold pgList at N'
  refine ord9 ho ?_
  intros
  revert X'; k_fill; intro X'
  k_steps
  obtain ⟨u5, F5⟩ := Fr.pg (v := v) (xr := xr) (pl := pl) (sg := sg) (ts := ts) (by k_asm : Fr g L' h' _) rfl rfl rfl rfl
  refine hret h' _ (pgList w.params v dv x dx ll xr dxr k1 k2 k3 k4 k5 k6 tM t3 cwV clV M lc (lr ++ [(tp, (Str.ofString "", s.toks + 1), (s0, uu))]) lines n1 n2 n' n4 nl nv tk1 t1 tk2 t2 ps1 ps2 ((tp, tupO [.str (Str.ofString "") (s.toks + 1), .str s0 uu]) :: rest)) u5 F5 (news_sub N' ?sb) ⟨lc, _, lines, n1, n2, n', n4, nl, nv, tk1, t1, tk2, t2, ps1, ps2, _, rfl, a1, a2.snoc rfl rfl, a3, fun q hq => .tail _ (a4 q hq), ?pa, fun p hp => .tail _ (a6 p hp), ?po, a8, a9, a10, a11, a12⟩
  case sb => unfold pgList; walk_at "mine sub"
  case pa => exact parts_app (fun q hq => .tail _ (a5 q hq)) (.head _)
  case po =>
    intro p hp
    rcases List.mem_cons.mp hp with rfl | hp
    · exact off_up ho (by omega)
    · exact a7 p hp
theorem fill_loop {base : List (Addr × Obj)} {g : Heap} {L' v dv x dx ll xr dxr pl : Addr} {k1 k2 k3 k4 k5 k6 tM t3 ts t9 : Tok} {cwV clV : Value} {M c : Nat} {cur ls : List Str} {sg tx : Str} {u : Str → Option Value} {Q : Flow → Shared → Prop} {z1 : Pos}
  (B' : Below (ktrTop 850 4500 gd cn cs L a ccd cl outer) baseH (envX cn cs L a ccd cl :: outer) g) (F' : Fr g L' s.heap (pgMap v xr pl sg ts u)) (X' : (KF w.params).In g) (N' : News g L' s.heap news) (T' : Top p loose mean mg mb g)
  (hI : PgInv w.params base v dv x dx ll xr dxr k1 k2 k3 k4 k5 k6 tM t3 cwV clV M [] cur ls c news)
  (ho : @LT.lt Nat _ 174 dv ∧ @LT.lt Nat _ dv v ∧ @LT.lt Nat _ v ll ∧ @LT.lt Nat _ ll dx ∧ @LT.lt Nat _ dx x ∧ @LT.lt Nat _ x dxr ∧ @LT.lt Nat _ dxr xr)
  (hrl : tx.cps.size ≤ 100) (hgb : AllBare s.gens)
  (hret : ∀ h' g' tk news' u', Fr g L' h' (pgMap v xr pl sg ts u') → News g L' h' news' → PgInv w.params base v dv x dx ll xr dxr k1 k2 k3 k4 k5 k6 tM t3 cwV clV M (signsOf tx) cur ls c news' → AllBare g' → Q .next ⟨h', g', s.drawn, tk, s.os⟩) :
  wpAny (model PySem.Challenge.rw_wc0034_01.row.prog w) ((ktrTop 850 4500 gd cn cs L a ccd cl outer).deeper (pgEnv L')) (pyIter (.str tx t9)) (fun it s₂ => LoopG PySem.Challenge.rw_wc0034_01.row.prog w ((ktrTop 850 4500 gd cn cs L a ccd cl outer).deeper (pgEnv L')) (pgEnv L') (.Name (Str.ofString "sign") z1) fillBody Q it s₂) E s := by
  refine iter_strG rfl F' N' (fun _ _ => rfl) (fun i g' m' n' => (∃ u, m' = pgMap v xr pl sg ts u) ∧ AllBare g' ∧ PgInv w.params base v dv x dx ll xr dxr k1 k2 k3 k4 k5 k6 tM t3 cwV clV M ((signsOf tx).take i) cur ls c n') ⟨⟨u, rfl⟩, hgb, hI⟩ ?_ ?_
  · rintro I i cc uu g1 m1 news1 h1 tk1 it s' hcc ⟨⟨u1, rfl⟩, hg1, hP⟩ hn hd hos F1 N1 hit
    have hil : i < tx.cps.size := (Array.getElem?_eq_some_iff.mp hcc).1
    obtain ⟨news2, hP2, hsub⟩ := hP.add (I := I) (it := it) hn
    have hsg : (signsOf tx)[i]? = some ⟨#[cc]⟩ := by
      unfold signsOf
      rw [List.getElem?_map, Array.getElem?_toList, hcc]
      rfl
    refine fill_turn (base := (I, it) :: base) (s := ⟨h1, g1, s'.drawn, tk1, s'.os⟩) B' F1 X' (news_sub N1 hsub) T' hP2 ho (by rw [List.length_take]; omega) hg1 ?_
    intro h' tk news' u' F3 N3 I3
    obtain ⟨news4, I4, N4, hn4⟩ := I3.drop N3 hit (fun p hp => hn p (hP.base_mem hp))
    refine ⟨h', g1, tk, _, news4, rfl, F3, N4, hn4, (fun p hp => absurd hp List.not_mem_nil), ⟨u', rfl⟩, hg1, ?_⟩
    rw [List.take_add_one, hsg]
    exact I4
  · rintro h1 g1 tk1 m1 news1 ⟨⟨u1, rfl⟩, hg1, hP⟩ F1 N1
    rw [List.take_of_length_le (by simp [signsOf])] at hP
    exact hret h1 g1 tk1 news1 u1 F1 N1 hP hg1
end
theorem rs_L35 : True := by
  have h : (1 : Nat) = 1 := by walk1
  w_top off; exact trivial
section
local macro_rules | `(tactic| walk_at "call ref") => `(tactic| ((with_reducible show wpAny _ _ (call (.ref 83) _) _ _ _); refine halt ?_))
local macro_rules | `(tactic| walk_at "call builtin:str.join") => `(tactic| ((with_reducible show wpAny _ _ (call (.builtin "str.join") _) _ _ _); refine halt ?_))
theorem LinesAre.strs : ∀ {vs : List Value} {ss : List Str}, LinesAre vs ss → StrsAre vs ss
  | [], [], _ => .nil
  | _ :: _, _ :: _, h => by
    obtain ⟨⟨t, rfl⟩, h⟩ := h
    exact .cons _ _ (LinesAre.strs h)
theorem CurAre.last {l : List Part} {ss : List Str} {s : Str} (h : CurAre l (ss ++ [s])) : ∃ l' tp tf ts, l = l' ++ [(tp, (Str.ofString " ", tf), (s, ts))] ∧ CurAre l' ss := by
  unfold CurAre at h ⊢
  rw [List.map_append, List.map_eq_append_iff] at h
  obtain ⟨l1, l2, rfl, h1, h2⟩ := h
  cases l2 with
  | nil => exact absurd h2 (by simp)
  | cons q l3 =>
    cases l3 with
    | cons _ _ => exact absurd (congrArg List.length h2) (by simp)
    | nil =>
      obtain ⟨a, ⟨b, b'⟩, ⟨c, c'⟩⟩ := q
      simp only [List.map_cons, List.map_nil, List.cons.injEq, and_true, Prod.mk.injEq] at h2
      obtain ⟨rfl, rfl⟩ := h2
      exact ⟨l1, a, b', c', rfl, h1⟩
section
variable {w : World} {p : Program} {loose : List Str} {mean : ExcName → Option Value} {mg mb : Str → Option Value} {dp un : Nat} {gd : Option (List Code)} {cn : Str} {cs : Scope} {a : Addr} {ccd : Value} {cl : List (Str × Addr)} {outer : List Env} {A₀ : Around} {base0 h₀ : Heap} {L : Addr} {m : Str → Option Value} {news : List (Addr × Obj)} {s : Shared} {Q E : Value → Shared → Prop}
set_option maxHeartbeats 2000000
theorem vfstr_ct {base : List (Addr × Obj)} {v dv x dx ll xr dxr : Addr} {k1 k2 k3 k4 k5 k6 tM t3 t9 : Tok} {cwV clV : Value} {M c : Nat} {ringS c0 ls : List Str} {s2 : Str}
  (B : Below A₀ base0 outer h₀) (F : Fr h₀ L s.heap m) (X : (KF w.params).In h₀) (N : News h₀ L s.heap news) (T : Top p loose mean mg mb h₀) (hk : cs.kind = .function)
  (hdp : dp ≤ 855) (hun : un ≤ 4550)
  (hI : PgInv w.params base v dv x dx ll xr dxr k1 k2 k3 k4 k5 k6 tM t3 cwV clV M ringS (c0 ++ [s2]) ls c news)
  (ho : @LT.lt Nat _ 174 dv ∧ @LT.lt Nat _ dv v ∧ @LT.lt Nat _ v ll ∧ @LT.lt Nat _ ll dx ∧ @LT.lt Nat _ dx x ∧ @LT.lt Nat _ x dxr ∧ @LT.lt Nat _ dxr xr)
  (hc : c ≤ 800) (h20 : s2 ≠ Str.ofString "") (hok : PyData.strOk s2 = true) (hns : Txt.isspace (rowText (c0 ++ [s2])) = false) (hgb : AllBare s.gens)
  (hfit : (((ls ++ [rowText (c0 ++ [s2])]) : List Str).map (·.length)).sum + (ls ++ [rowText (c0 ++ [s2])]).length * (Str.ofString "\n").length ≤ 16777216)
  (hret : ∀ h' g' tk tv (q1 q2 : Array Value), Fr h₀ L h' m → News h₀ L h' ((167, PySem.W.X.tableObj q1) :: (174, PySem.W.X.tableObj q2) :: base) → AllBare g' → Q (.str (Txt.join (Str.ofString "\n") (ls ++ [rowText (c0 ++ [s2])])) tv) ⟨h', g', s.drawn, tk, s.os⟩) :
  wpAny (model PySem.Challenge.rw_wc0034_01.row.prog w) (ktrTop dp un gd cn cs L a ccd cl outer) (call (.ref 69) [.ref v, .str (Str.ofString "\n") t9]) Q E s := by
  obtain ⟨lc, lr, lines, n1, n2, n3, n4, nl, nv, tk1, t1, tk2, t2, ps1, ps2, rest, rfl, a1, a2, a3, a4, a5, a6, a7, a8, a9, a10, a11, a12⟩ := hI
  obtain ⟨l, tp, tf, ts, rfl, b1⟩ := a1.last
  unfold pgList at N
  refine up hdp hun ?_
  revert X; k_fill; intro X
  walk_at "mine enter"
  k_steps
  show wpAny _ _ (call (.ref 83) [.ref v]) _ _ _
  have hlen : (l ++ [(tp, (Str.ofString " ", tf), (s2, ts))]).length = (c0 ++ [s2]).length := a1.len
  simp only [List.length_append, List.length_cons, List.length_nil] at hlen a11
  have hll := a3.len
  have hz := b1.short (fun s hs => a10 s (List.mem_append_left _ hs))
  have hs2 : s2.length ≤ 1000 := a10 s2 (List.mem_append_right _ (.head _))
  have r1 : ∀ p ∈ rest, p.1 ≠ x := fun p hp => (a7 p hp).1
  have r2 : ∀ p ∈ rest, p.1 ≠ dx := fun p hp => (a7 p hp).2.1
  have r3 : ∀ p ∈ rest, p.1 ≠ ll := fun p hp => (a7 p hp).2.2.1
  have r4 : ∀ p ∈ rest, p.1 ≠ 167 := fun p hp => (a7 p hp).2.2.2.2.2.1
  have r5 : ∀ p ∈ rest, p.1 ≠ 174 := fun p hp => (a7 p hp).2.2.2.2.2.2.1
  refine' newline_ct (l := l) (lines := lines) (tp := tp) (s2 := s2) (tf := tf) (ts := ts) ?k1 ?k2 ?k3 ?k4 ?k5 ?k6 ?k7 ?k8 ?k9 ?q1 ?q2 ?q3 ?q4 ?q5 ?k10 ?k11 hz ?k12 hs2 h20 hok ?k13 ?k14 a8 a9 hgb ?_
  case k1 => k_asm
  case k2 => k_asm
  case k3 => k_asm
  case k4 => k_asm
  case k5 => k_asm
  case k6 => rfl
  case k7 => exact Nat.le_of_ble_eq_true rfl
  case k8 => exact Nat.le_of_ble_eq_true rfl
  case k9 => exact ⟨ho.1, ho.2.1, ho.2.2.1, ho.2.2.2.1, ho.2.2.2.2.1⟩
  case q1 => walk_at "mine all"
  case q2 => walk_at "mine all"
  case q3 => walk_at "mine all"
  case q4 => walk_at "mine all"
  case q5 => walk_at "mine all"
  case k10 => intro q hq; exact .tail _ (.tail _ (a4 q (List.mem_append_left _ hq)))
  case k11 => exact .tail _ (.tail _ (a4 (tp, (Str.ofString " ", tf), (s2, ts)) (List.mem_append_right _ (.head _))))
  case k12 => omega
  case k13 => omega
  case k14 => intro t; rw [(b1.snoc t tf ts s2).text]; exact hns
  intro h1 g1 tk1' tq m1 m2 u1 u2 nl' qs1 qs2 F1 N1 tr1 tr2 hg1
  rw [(b1.snoc tq tf ts s2).text] at N1
  dsimp only
  k_steps
  show wpAny _ _ _ _ _ _
  refine join_list (ys := ls ++ [rowText (c0 ++ [s2])]) (News.isList (by k_asm : News g' L' _ _) (by walk_at "mine mem")) (LinesAre.snoc a3 _ _).strs hfit ?_
  intro t' k'
  k_steps
  refine hret _ _ _ _ qs1 qs2 (by k_asm) (news_sub (by k_asm) ?sb) hg1
  case sb =>
    intro p hp
    rcases List.mem_cons.mp hp with rfl | hp
    · walk_at "mine mem"
    rcases List.mem_cons.mp hp with rfl | hp
    · walk_at "mine mem"
    have := a6 p hp
    repeat (first | exact this | refine List.mem_cons_of_mem _ ?_)
end
end
section
open Builtin Builtin.Str
section
variable {prog : Program} {w : World} {A : Around} {E : Value → Shared → Prop} {s : Shared} {h₀ : Heap} {L : Addr} {m : Str → Option Value} {news : List (Addr × Obj)} {x : Str} {t : Tok} {Q : Value → Shared → Prop}
/-- what a call that makes one list of texts hands on -/
theorem made_strs (F : Fr h₀ L s.heap m) (N : News h₀ L s.heap news) {ys : List Str}
    (hq : ∀ D l h' tk, l.map (·.1) = ys → Fr h₀ L h' m → News h₀ L h' ((D, listOf (strValues l).toArray 0) :: news) → (∀ p ∈ news, p.1 < D) → Q (.ref D) { s with heap := h', toks := tk })
    (l : List (Str × Tok)) (hl : l.map (·.1) = ys) (k : Nat) : Q (.ref s.heap.objs.size) { s with heap := s.heap.push { cls := .type "list", data := .seq (strValues l).toArray }, toks := k } :=
  hq _ l _ k hl (F.push _) (N.push F _) fun p hp => Heap.lt_size (N p hp).1
theorem words_made (F : Fr h₀ L s.heap m) (N : News h₀ L s.heap news) (hsz : x.length ≤ sizeLine) (hsz2 : (spaceWords x (x.length + 1)).length ≤ sizeLine)
    (hq : ∀ D l h' tk, l.map (·.1) = Txt.words x → Fr h₀ L h' m → News h₀ L h' ((D, listOf (strValues l).toArray 0) :: news) → (∀ p ∈ news, p.1 < D) → Q (.ref D) { s with heap := h', toks := tk }) :
    wpAny (model prog w) A (call (.builtin "str.split") [.str x t]) Q E s := by
  have hq' := made_strs (s := s) F N hq
  refine call_meets PySem.F.slot_str_split (typeIs_str _ _ _) PySem.F.entry_str_split (PySem.F.args_str_split_1 _) (meets_str_split_space x t hsz hsz2) ?_
  cases hw : spaceWords x (x.length + 1) == [(0, x.length)]
  · simp only [Bool.false_eq_true, if_false]
    rw [strsFrom_eq]
    exact hq' (numbered s.toks (PySem.wordsOf x)) ((numbered_texts _ _).trans (if_neg (ne_true_of_eq_false hw)).symm) _
  · simp only [if_true]
    exact hq' [(x, t)] (if_pos hw).symm _
theorem split_made {y : Str} {u : Tok} (F : Fr h₀ L s.heap m) (N : News h₀ L s.heap news) (hy : (y.length == 0) = false) (hsz : x.length ≤ sizeLine) (hsz2 : (partsBetween x (occurrences x y 0 x.length (x.length + 1)) y.length).length ≤ sizeLine)
    (hq : ∀ D l h' tk, l.map (·.1) = Txt.split x y → Fr h₀ L h' m → News h₀ L h' ((D, listOf (strValues l).toArray 0) :: news) → (∀ p ∈ news, p.1 < D) → Q (.ref D) { s with heap := h', toks := tk }) :
    wpAny (model prog w) A (call (.builtin "str.split") [.str x t, .str y u]) Q E s := by
  have hq' := made_strs (s := s) F N hq
  cases h1 : (decide (x.length < y.length) || decide (strKind x < strKind y))
  · cases hf : (occurrences x y 0 x.length (x.length + 1)).isEmpty
    · refine call_meets PySem.F.slot_str_split (typeIs_str _ _ _) PySem.F.entry_str_split (PySem.F.args_str_split_2 _ _) (meets_str_split_sep x y t u h1 hy hf hsz hsz2) ?_
      show wants Q E _ { s with toks := _, heap := s.heap.push { cls := .type "list", data := .seq (strsFrom s.toks (partsBetween x (occurrences x y 0 x.length (x.length + 1)) y.length)).toArray } }
      rw [strsFrom_eq]
      exact hq' (numbered s.toks _) ((numbered_texts _ _).trans ((if_neg (ne_true_of_eq_false h1)).trans (if_neg (ne_true_of_eq_false hf))).symm) _
    · exact call_meets PySem.F.slot_str_split (typeIs_str _ _ _) PySem.F.entry_str_split (PySem.F.args_str_split_2 _ _) (meets_str_split_not_found x y t u h1 hy hf)
        (hq' [(x, t)] ((if_neg (ne_true_of_eq_false h1)).trans (if_pos hf)).symm _)
  · exact call_meets PySem.F.slot_str_split (typeIs_str _ _ _) PySem.F.entry_str_split (PySem.F.args_str_split_2 _ _) (meets_str_split_cannot_occur x y t u h1)
      (hq' [(x, t)] (if_pos h1).symm _)
end
end
section
open Builtin.Str
section
variable {prog : Program} {w : World} {A : Around} {E : Value → Shared → Prop} {s : Shared} {h₀ : Heap} {L : Addr} {m : Str → Option Value} {news : List (Addr × Obj)} {x : Str} {t : Tok} {Q : Value → Shared → Prop}
noncomputable abbrev Row := Addr × List (Str × Tok)
noncomputable abbrev rowO (r : Row) : Addr × Obj := (r.1, listOf (strValues r.2).toArray 0)
theorem words_elt {cenv : Env} {m₂ : Str → Option Value} {p1 p2 p3 : Pos} {pl : Sem Bool} (hk : cenv.scope.kind = .function) (hl : cenv.kindOf (Str.ofString "row") = some .local) (hN : s.heap.Ns cenv.locals m₂) (hv : m₂ (Str.ofString "row") = some (.str x t))
    (F : Fr h₀ L s.heap m) (N : News h₀ L s.heap news) (hsz : x.length ≤ sizeLine) (hsz2 : (spaceWords x (x.length + 1)).length ≤ sizeLine)
    (hq : ∀ D l h' tk, l.map (·.1) = Txt.words x → Fr h₀ L h' m → News h₀ L h' ((D, listOf (strValues l).toArray 0) :: news) → (∀ p ∈ news, p.1 < D) → Q (.ref D) { s with heap := h', toks := tk })
    (hev : eval (.Call (.Attribute (.Name (Str.ofString "row") p1) (Str.ofString "split") p2) [] [] p3) cenv = (do
      let ov ← eval (.Name (Str.ofString "row") p1) cenv
      standAt p2.atName
      let (f, first) ← holding [ov] (getMethod ov (Str.ofString "split") pl)
      callWith p3 f first (backTo p3 (starEach [] cenv)) [])) :
    wpAny (model prog w) A (eval (.Call (.Attribute (.Name (Str.ofString "row") p1) (Str.ofString "split") p2) [] [] p3) cenv) Q E s := by
  refine MethodCall_ (wpAny_Name (wpAny_loadName_local hk hl hN hv ?_) (by decide)) hev
  refine GM.split ?_
  refine callWith_builtin rfl (evalArgs_nil3 ?_)
  exact words_made F N hsz hsz2 hq
theorem comp_rows {env : Env} {scope : Scope} {cl : List (Str × Addr)} {p1 p2 p3 : Pos} {pl : Addr → Sem Bool} {ax : Addr} {l : List (Str × Tok)} {base : List (Addr × Obj)} {Fin : List Value → List (Addr × Obj) → Prop}
    (hk : scope.kind = .function) (hl : ∀ C, (compEnvC scope cl C env).kindOf (Str.ofString "row") = some .local)
    (hz : ∀ q ∈ l, q.1.length ≤ sizeLine ∧ (spaceWords q.1 (q.1.length + 1)).length ≤ sizeLine)
    (hev : ∀ C, eval (.Call (.Attribute (.Name (Str.ofString "row") p1) (Str.ofString "split") p2) [] [] p3) (compEnvC scope cl C env) = (do
      let ov ← eval (.Name (Str.ofString "row") p1) (compEnvC scope cl C env)
      standAt p2.atName
      let (f, first) ← holding [ov] (getMethod ov (Str.ofString "split") (pl C))
      callWith p3 f first (backTo p3 (starEach [] (compEnvC scope cl C env))) []))
    (hfin : ∀ done : List Row, done.map (fun r => r.2.map (·.1)) = l.map (fun q => Txt.words q.1) → Fin (done.map fun r => Value.ref r.1) (done.map rowO ++ (ax, listOf (strValues l).toArray 0) :: base)) :
    ∀ k i (done : List Row), i + k = l.length → done.map (fun r => r.2.map (·.1)) = (l.take i).map (fun q => Txt.words q.1) →
      LCg.CompRest prog w A h₀ L m env (.Call (.Attribute (.Name (Str.ofString "row") p1) (Str.ofString "split") p2) [] [] p3) (Str.ofString "row") scope cl s (LCg.SrcAt h₀ ax (strValues l).toArray) (fun i v => (strValues l).toArray[i]? = some v) Fin k i (done.map fun r => Value.ref r.1) (done.map rowO ++ (ax, listOf (strValues l).toArray 0) :: base) := by
  intro k
  induction k with
  | zero =>
    intro i done hi hd
    rw [List.take_of_length_le (by omega)] at hd
    exact hfin done hd
  | succ k ih =>
    intro i done hi hd
    refine LCg.CompRest.succ fun v I oI C oC D m₂ h tk E' hP hC hm F N off hne => ?_
    have hP' : (strValues l)[i]? = some v := by simpa using hP
    unfold strValues at hP'
    rw [List.getElem?_map] at hP'
    obtain ⟨q, hq, rfl⟩ := Option.map_eq_some_iff.mp hP'
    have hqm := List.mem_of_getElem? hq
    have hNs := hC.ns (N (C, oC) (.tail _ (.head _))).1
    refine words_elt (s := { s with heap := h, toks := tk }) (cenv := compEnvC scope cl C env) (by exact hk) (hl C) hNs hm F N (hz q hqm).1 (hz q hqm).2 ?_ (hev C)
    intro D2 l2 h' tk' hl2 F' N' lt'
    have hoff : LCg.Off3 I C D (done.map rowO ++ [rowO (D2, l2)] ++ (ax, listOf (strValues l).toArray 0) :: base) := by
      refine LCg.Off3.of fun p hp => ?_
      rcases List.mem_append.mp hp with hp | hp
      · rcases List.mem_append.mp hp with hp | hp
        · exact off.mem p (List.mem_append_left _ hp)
        · rw [List.mem_singleton.mp hp]
          exact ⟨Nat.ne_of_gt (lt' (I, oI) (.head _)), Nat.ne_of_gt (lt' (C, oC) (.tail _ (.head _))), Nat.ne_of_gt (lt' (D, _) (.tail _ (.tail _ (.head _))))⟩
      · exact off.mem p (List.mem_append_right _ hp)
    have e1 : (done.map fun r => Value.ref r.1) ++ [Value.ref D2] = (done ++ [(D2, l2)]).map fun r => Value.ref r.1 := by simp
    have e2 : done.map rowO ++ [rowO (D2, l2)] = (done ++ [(D2, l2)]).map rowO := by simp
    have step := ih (i + 1) (done ++ [(D2, l2)]) (by omega) (by
      rw [List.map_append, hd, List.take_add_one, hq]
      simp [hl2])
    rw [← e1, ← e2] at step
    refine LCg.CompEnd.intro F' N' (done.map rowO ++ [rowO (D2, l2)] ++ (ax, listOf (strValues l).toArray 0) :: base) (fun p hp => ?_) hoff (Or.inr ⟨_, List.mem_append_right _ (.head _), rfl, _, rfl⟩) step
    simp only [List.mem_cons, List.mem_append, List.not_mem_nil, or_false] at hp ⊢
    rcases hp with h | h | h | (h | h) | h | h <;> simp only [h, true_or, or_true]
end
end
theorem rs_L37 : True := by
  have h : (1 : Nat) = 1 := by walk1
  w_top off; exact trivial
section
local macro_rules | `(tactic| walk_at "call ref") => `(tactic| ((with_reducible show wpAny _ _ (call (.ref 83) _) _ _ _); refine halt ?_))
local macro_rules | `(tactic| walk_at "call builtin:str.join") => `(tactic| ((with_reducible show wpAny _ _ (call (.builtin "str.join") _) _ _ _); refine halt ?_))
local macro_rules | `(tactic| walk_at "call ref") => `(tactic| ((with_reducible show wpAny _ _ (call (.ref 69) _) _ _ _); refine halt ?_))
local macro_rules | `(tactic| walk_at "call builtin:str.split") => `(tactic| ((with_reducible show wpAny _ _ (call (.builtin "str.split") _) _ _ _); refine halt ?_))
local macro_rules | `(tactic| walk_at "eval ListComp") => `(tactic| ((with_reducible show wpAny _ _ (eval (Expr.ListComp _ _ _ _) _) _ _ _); refine halt ?_))
local macro_rules | `(tactic| walk_at "call builtin:len") => `(tactic| (k_here; (with_reducible show wpAny _ _ (call (Value.builtin "len") [Value.ref _]) _ _ _); k_dflt (refine' kun_lenL (k := prs.length) ?k1 ?k2 ?k3 ?_; (case k1 => exact News.isList (by k_asm) (by walk_at "mine mem")); (case k2 => simp); (case k3 => omega); k_whole)))
theorem PgInv.start {P : Params} {base : List (Addr × Obj)} {v dv x dx ll xr dxr : Addr} {k1 k2 k3 k4 k5 k6 tM t3 tk1 t1 tk2 t2 : Tok} {cwV clV : Value} {M n1 n2 n3 n4 nv : Nat} {M' : Int} {h₀ h : Heap} {L : Addr} {ps1 ps2 : Array Value}
    (N : News h₀ L h ((xr, accO 205 dxr [] n3) :: (dxr, dictOf (isz P tk2 0 t2) n4) :: (x, accO 205 dx [] n1) :: (dx, dictOf (isz P tk1 0 t1) n2) :: (ll, listOf #[] 0) :: (v, instObj 121 dv) :: (dv, dictOf (vfd P k1 k2 k3 k4 k5 k6 (.int M' tM) cwV clV (.str (Str.ofString " ") t3) ll x) nv) :: (167, PySem.W.X.tableObj ps1) :: (174, PySem.W.X.tableObj ps2) :: base))
    (hM : M' = ((M : Nat) : Int)) (hlt : ∀ p ∈ base, p.1 < dv) (h167 : ∀ p ∈ base, p.1 ≠ 167) (h174 : ∀ p ∈ base, p.1 ≠ 174)
    (ho : @LT.lt Nat _ 174 dv ∧ @LT.lt Nat _ dv v ∧ @LT.lt Nat _ v ll ∧ @LT.lt Nat _ ll dx ∧ @LT.lt Nat _ dx x ∧ @LT.lt Nat _ x dxr ∧ @LT.lt Nat _ dxr xr) (b4 : TriplesOk ps1.toList) (b5 : TriplesOk ps2.toList) :
    ∃ news', News h₀ L h news' ∧ PgInv P base v dv x dx ll xr dxr k1 k2 k3 k4 k5 k6 tM t3 cwV clV M [] [] [] 0 news' := by
  subst hM
  refine ⟨pgList P v dv x dx ll xr dxr k1 k2 k3 k4 k5 k6 tM t3 cwV clV M [] [] [] n1 n2 n3 n4 0 nv tk1 t1 tk2 t2 ps1 ps2 base, news_sub N ?sb, [], [], [], n1, n2, n3, n4, 0, nv, tk1, t1, tk2, t2, ps1, ps2, base, rfl, rfl, rfl, trivial, fun q hq => absurd hq List.not_mem_nil, fun q hq => absurd hq List.not_mem_nil, fun p hp => hp, ?po, b4, b5, fun s hs => absurd hs List.not_mem_nil, Nat.le_refl _, Nat.le_refl _⟩
  case sb =>
    exact sub_ix [2, 3, 4, 5, 6, 7, 8, 0, 1] 9 9 rfl rfl
  case po =>
    intro p hp
    exact off_dn ho (hlt p hp) (h167 p hp) (h174 p hp)
theorem PgInv.vf {P : Params} {base news : List (Addr × Obj)} {v dv x dx ll xr dxr : Addr} {k1 k2 k3 k4 k5 k6 tM t3 : Tok} {cwV clV : Value} {M c : Nat} {ringS cur ls : List Str} (hI : PgInv P base v dv x dx ll xr dxr k1 k2 k3 k4 k5 k6 tM t3 cwV clV M ringS cur ls c news) :
    (v, instObj 121 dv) ∈ news ∧ ∃ nv, (dv, dictOf (vfd P k1 k2 k3 k4 k5 k6 (.int (M : Nat) tM) cwV clV (.str (Str.ofString " ") t3) ll x) nv) ∈ news := by
  obtain ⟨lc, lr, lines, n1, n2, n3, n4, nl, nv, tk1, t1, tk2, t2, ps1, ps2, rest, rfl, _⟩ := hI
  exact ⟨.tail _ (.tail _ (.tail _ (.head _))), nv, .tail _ (.tail _ (.tail _ (.tail _ (.head _))))⟩
/-- the page's rows, as texts -/
noncomputable def pageEnd (sg : Str) (ps : List (Nat × Nat)) : List Str × List Str := (rnd (3 + 3 * ps.length) ps (signsOf sg) ([], []) sg.cps.size).2
noncomputable def pageText (sg : Str) (ps : List (Nat × Nat)) : Str := Txt.join (Str.ofString "\n") ((pageEnd sg ps).2 ++ [rowText (pageEnd sg ps).1])
section
variable {w : World} {p : Program} {loose : List Str} {mean : ExcName → Option Value} {mg mb : Str → Option Value} {dp un : Nat} {gd : Option (List Code)} {cn : Str} {cs : Scope} {a : Addr} {ccd : Value} {cl : List (Str × Addr)} {outer : List Env} {A₀ : Around} {base0 h₀ : Heap} {L : Addr} {m : Str → Option Value} {news : List (Addr × Obj)} {s : Shared} {Q E : Value → Shared → Prop}
set_option maxHeartbeats 2000000
theorem page_ct {pl : Addr} {prs : List (Addr × (Nat × Tok) × (Nat × Tok))} {sg : Str} {ts : Tok} {np : Nat} {ps1 ps2 : Array Value} {base : List (Addr × Obj)}
  (B : Below A₀ base0 outer h₀) (F : Fr h₀ L s.heap m) (X : (KF w.params).In h₀)
  (N : News h₀ L s.heap ((167, PySem.W.X.tableObj ps1) :: (174, PySem.W.X.tableObj ps2) :: base))
  (T : Top p loose mean mg mb h₀) (hk : cs.kind = .function)
  (hdp : dp ≤ 850) (hun : un ≤ 4500)
  (hpl : (pl, listOf (prs.map fun q => Value.ref q.1).toArray np) ∈ base) (hpr : ∀ q ∈ prs, (q.1, PairO q) ∈ base) (h167 : ∀ p ∈ base, p.1 ≠ 167) (h174 : ∀ p ∈ base, p.1 ≠ 174)
  (htr1 : TriplesOk ps1.toList) (htr2 : TriplesOk ps2.toList) (hgb : AllBare s.gens)
  (hb : ∀ q ∈ prs, q.2.1.1 < sg.cps.size ∧ q.2.2.1 < sg.cps.size) (hsg0 : 0 < sg.cps.size) (hsg : sg.cps.size ≤ 20) (hpz : prs.length ≤ 10)
  {c0 : List Str} {s2 : Str} (hcur : (pageEnd sg (prs.map nums)).1 = c0 ++ [s2]) (h20 : s2 ≠ Str.ofString "") (hok : PyData.strOk s2 = true) (hns : Txt.isspace (rowText (pageEnd sg (prs.map nums)).1) = false)
  (hfit : ((((pageEnd sg (prs.map nums)).2 ++ [rowText (pageEnd sg (prs.map nums)).1]) : List Str).map (·.length)).sum + ((pageEnd sg (prs.map nums)).2 ++ [rowText (pageEnd sg (prs.map nums)).1]).length * (Str.ofString "\n").length ≤ 16777216)
  (hz1 : (pageText sg (prs.map nums)).length ≤ sizeLine) (hz2 : (Builtin.Str.partsBetween (pageText sg (prs.map nums)) (Builtin.Str.occurrences (pageText sg (prs.map nums)) (Str.ofString "\n") 0 (pageText sg (prs.map nums)).length ((pageText sg (prs.map nums)).length + 1)) (Str.ofString "\n").length).length ≤ sizeLine)
  (hz3 : ∀ r ∈ Txt.split (pageText sg (prs.map nums)) (Str.ofString "\n"), r.length ≤ sizeLine ∧ (Builtin.Str.spaceWords r (r.length + 1)).length ≤ sizeLine) (hz4 : (Txt.split (pageText sg (prs.map nums)) (Str.ofString "\n")).length ≤ sizeLine)
  (hret : ∀ h' g' tk D (rows : List Row) n' (q1 q2 : Array Value), Fr h₀ L h' m → News h₀ L h' ((D, listOf (rows.map fun r => Value.ref r.1).toArray n') :: rows.map rowO ++ (167, PySem.W.X.tableObj q1) :: (174, PySem.W.X.tableObj q2) :: base) → rows.map (fun r => r.2.map (·.1)) = (Txt.split (pageText sg (prs.map nums)) (Str.ofString "\n")).map Txt.words → AllBare g' → Q (.ref D) ⟨h', g', s.drawn, tk, s.os⟩) :
  wpAny (model PySem.Challenge.rw_wc0034_01.row.prog w) (ktrTop dp un gd cn cs L a ccd cl outer) (call (.ref 358) [.str sg ts, .ref pl]) Q E s := by
  refine up hdp hun ?_
  have X₀ := X
  revert X; k_fill; intro X
  walk_at "mine enter"
  k_steps
  show wpAny _ _ _ _ _ _
  have ho : @LT.lt Nat _ 174 dv ∧ @LT.lt Nat _ dv v ∧ @LT.lt Nat _ v ll ∧ @LT.lt Nat _ ll dx ∧ @LT.lt Nat _ dx x ∧ @LT.lt Nat _ x dxr ∧ @LT.lt Nat _ dxr xr := ⟨lv1.2.1, lv2, lv3, lv4, lv5, lr1.1, lr2⟩
  obtain ⟨news1, N1, I1⟩ := PgInv.start (base := base) (M := 3 + 3 * prs.length) (by k_asm) (by omega) (allLt_mem lv1.2.2) h167 h174 ho htr1 htr2
  rename Fr g' L' _ _ => Fz
  obtain ⟨u1, F1⟩ := Fr.pg (v := v) (xr := xr) (pl := pl) (sg := sg) (ts := ts) Fz rfl rfl rfl rfl
  have XG : (KF w.params).In g' := X'
  refine For_G ?_
  walk_at "mine step"
  refine fill_loop (base := base) B' F1 XG N1 T' I1 ho (by omega) hgb ?_
  clear F1 N1 I1 Fz
  intro h2 g2 tk2 news2 u2 F2 N2 I2 hg2
  dsimp only
  k_steps
  show wpAny _ _ _ _ _ _
  refine For_G ?_
  walk_at "mine step"
  have hsl : (signsOf sg).length = sg.cps.size := by simp [signsOf]
  have hss : ∀ s ∈ signsOf sg, s.length = 1 := by
    intro s hs
    obtain ⟨c, _, rfl⟩ := List.mem_map.mp hs
    rfl
  have hmul : sg.cps.size * (1 + prs.length) ≤ 20 * 11 := Nat.mul_le_mul hsg (by omega)
  refine rows_loop (base := base) (c := 0) (prs := prs) B' F2 XG N2 T' I2 hpl hpr ho (fun q hq => by rw [hsl]; exact hb q hq) (by omega) (by omega) hss (by omega) (by omega) hg2 ?_
  clear F2 N2 I2
  intro h3 g3 tk3 news3 u3 F3 N3 I3 hg3
  dsimp only
  k_steps
  show wpAny _ _ _ _ _ _
  have ep : rnd (3 + 3 * prs.length) (prs.map nums) (signsOf sg) ([], []) sg.cps.size = ((rnd (3 + 3 * prs.length) (prs.map nums) (signsOf sg) ([], []) sg.cps.size).1, pageEnd sg (prs.map nums)) := by
    unfold pageEnd
    rw [List.length_map]
  rw [ep] at I3
  dsimp only at I3
  rw [hcur] at I3 hfit hns
  obtain ⟨mv, nv3, mdv⟩ := I3.vf
  refine LCg.ListComp_U F3 (by rfl) (by decide) (by rfl) (by decide) (by rfl) ?_
  k_steps
  show wpAny _ _ _ _ _ _
  have epT : Txt.join (Str.ofString "\n") ((pageEnd sg (prs.map nums)).2 ++ [rowText (c0 ++ [s2])]) = pageText sg (prs.map nums) := by
    unfold pageText
    rw [hcur]
  refine vfstr_ct (base := base) B' F3 XG N3 T' rfl (Nat.le_of_ble_eq_true rfl) (Nat.le_of_ble_eq_true rfl) I3 ho (by omega) h20 hok hns hg3 hfit ?_
  clear F3 N3 I3 mv mdv
  intro h4 g4 tk4 tv q1 q2 F4 N4 hg4
  rw [epT]
  k_steps
  show wpAny _ _ _ _ _ _
  refine split_made (by k_asm) (by k_asm) (by decide) hz1 hz2 ?_
  intro D1 l1 h5 tk5 hl5 F5 N5 lt5
  have hsz5 : (strValues l1).toArray.size = l1.length := by simp [strValues]
  have hll5 : l1.length = (Txt.split (pageText sg (prs.map nums)) (Str.ofString "\n")).length := by rw [← hl5, List.length_map]
  refine LCg.CompSrc.ledger rfl F5 N5 (.head _) (by rw [hsz5, hll5]; exact hz4) ?_
  intro gg
  rw [hsz5]
  refine comp_rows (l := l1) (base := (167, PySem.W.X.tableObj q1) :: (174, PySem.W.X.tableObj q2) :: base) rfl (fun _ => by rfl) (fun q hq => hz3 q.1 (by rw [← hl5]; exact List.mem_map_of_mem hq)) (fun C => by rfl) ?_ l1.length 0 [] (by omega) rfl
  intro done hdone
  unfold LCg.FinE
  intro D h6 tk6 F6 N6 off6
  dsimp only
  k_steps
  refine hret _ _ _ D done (done.map fun r => Value.ref r.1).length q1 q2 (by k_asm) (news_sub (by k_asm) ?sb) ?rw hg4
  case sb =>
    intro p hp
    simp only [List.mem_cons, List.mem_append, List.cons_append] at hp ⊢
    rcases hp with h | h | h | h | h <;> simp only [h, true_or, or_true]
  case rw => rw [← hl5, List.map_map]; exact hdone
end
end
section
open Builtin Builtin.Re
noncomputable def fails : Nat → Sre.M → Bool
  | 0, _ => false
  | k + 1, m => match (m.runFor 4).outcome with
    | some .failed => true
    | some _ => false
    | none => fails k (m.runFor 4)
section
variable {M : Model} {A : Around} {E : Value → Shared → Prop} {s : Shared}
theorem rules_skip {n : Nat} {c : Nat → Bool} {f : Nat → String} {Q : Shared → Prop} : ∀ (l : List Nat), Q s → wpAny M A (forIn l PUnit.unit fun i _ => (if c i = true then (do rule (f i); pure (ForInStep.yield PUnit.unit)) else pure (ForInStep.yield PUnit.unit) : Sem (ForInStep PUnit))) (fun _ => Q) E s
  | [], h => wpAny_pure h
  | a :: l, h => by
    rw [List.forIn_cons]
    refine wpAny_bind ?_
    by_cases hc : c a = true
    · rw [if_pos hc]
      exact wpAny_bind (wpAny_rule (wpAny_pure (rules_skip (n := n) l h)))
    · rw [if_neg hc]
      exact wpAny_pure (rules_skip (n := n) l h)
theorem drive_fails {Q : Sre.M → Shared → Prop} : ∀ (k turns : Nat) (m : Sre.M), k ≤ turns → fails k m = true → (∀ m' : Sre.M, m'.outcome = some .failed → Q m' s) → wpAny M A (reDrive turns m) Q E s
  | 0, _, _, _, hf, _ => by simp [fails] at hf
  | k + 1, 0, _, hk, _, _ => by omega
  | k + 1, turns + 1, m, hk, hf, h => by
    unfold reDrive
    unfold fails at hf
    show wpAny M A (if (m.runFor 4).outcome.isSome = true then pure (m.runFor 4) else do rule "sre.turn"; reDrive turns (m.runFor 4)) Q E s
    cases ho : (m.runFor 4).outcome with
    | none =>
      rw [ho] at hf
      rw [if_neg (by simp)]
      exact wpAny_bind (wpAny_rule (drive_fails k turns (m.runFor 4) (by omega) hf h))
    | some o =>
      rw [ho] at hf
      rw [if_pos (by simp)]
      cases o with
      | failed => exact wpAny_pure (h _ ho)
      | _ => simp at hf
theorem run_fails {m : Sre.M} {k : Nat} {Q : Option Sre.M → Shared → Prop} (hk : k ≤ 1000) (hf : fails k m = true) (h : Q none s) : wpAny M A (reRunToEnd m) Q E s := by
  unfold reRunToEnd
  refine wpAny_bind (drive_fails k (2 ^ 64) m (Nat.le_trans hk (by decide)) hf fun m' hm' => ?_)
  refine wpAny_bind (wpAny_mono (Q := fun _ s' => s' = s) (E := E) ?_ (fun _ s' e => ?_) fun _ _ z => z)
  · exact rules_skip (n := 0) (List.range Sre.names.size) rfl
  · subst e
    rw [hm']
    exact wpAny_pure h
theorem search_none {pat cd : Addr} {x : Str} {t : Tok} {p0 p1 n3 n4 : Value} {z2 z6 : Tok} {sl : Array (Option Value)} {oc : Obj} {items : Array Value} {nn k : Nat} {Q : Value → Shared → Prop}
    (hp : s.heap.get? pat = some ⟨.type "re.Pattern", none, .fields #[p0, p1, .int 0 z2, n3, n4, .ref cd, .int 0 z6], sl⟩) (hc : s.heap.get? cd = some oc) (hd : oc.data = .seq items nn)
    (hx : x.cps.size ≤ 1000) (hk : k ≤ 1000) (hf : fails k (Sre.forSearch ((items.map reRawOf).map (·.toNat)) x.cps 0 0 x.cps.size false) = true) (h : Q .none s) :
    wpAny M A (Builtin.«re.Pattern.search» ⟨[.ref pat, .str x t], []⟩) (fun fin s' => ∃ v', fin = .done (.ret v') ∧ Q v' s') E s := by
  unfold Builtin.«re.Pattern.search» reTarget
  have en : reNamed "re.Pattern.search" "search" ["string", "pos", "endpos"] 1 [.str x t] [] = pure [some (.str x t), none, none] := by rfl
  dsimp only
  rw [en]
  have et : reTextOf (.str x t) = pure (x.cps, 0) := rfl
  have ec : reNoCollectionInside (.str x t) 0 = pure () := rfl
  have e0 : Min.min (0 : Int).toNat x.cps.size = 0 := by simp
  have e1 : Min.min (2 ^ 63 - 1 : Int).toNat x.cps.size = x.cps.size := by
    have : ((2 ^ 63 - 1 : Int).toNat) = 9223372036854775807 := by decide
    rw [this]; omega
  refine wpAny_bind (wpAny_bind (wpAny_pure ?_))
  (try dsimp only)
  refine wpAny_bind (wpAny_pure ?_)
  (try dsimp only)
  refine wpAny_bind (wpAny_pure ?_)
  refine wpAny_bind (wpAny_fieldsOf hp rfl ?_)
  rw [et]
  refine wpAny_bind (wpAny_pure ?_)
  dsimp only
  have w6 : reRawNat (#[p0, p1, Value.int 0 z2, n3, n4, Value.ref cd, Value.int 0 z6].getD 6 Value.none) = 0 := rfl
  rw [w6, if_neg (by decide), if_neg (by decide), ec]
  refine wpAny_bind (wpAny_pure ?_)
  refine wpAny_bind (m := reRawItems (.ref cd)) ?_
  unfold reRawItems
  refine wpAny_bind (wpAny_seqItems hc hd (wpAny_pure ?_))
  refine wpAny_pure ?_
  unfold reAnswer
  dsimp only
  rw [e0, e1]
  exact wpAny_bind (run_fails hk hf (wpAny_pure ⟨_, rfl, h⟩))
end
theorem slot_re_search : Slot "re.Pattern" "search" "re.Pattern.search" := .of (owner := "re.Pattern") (n := "search") (by rw [typeLookup_type, builtinLookup_eq_fast]; kernel_rfl) (by decide +kernel) (by decide +kernel) (by decide +kernel) (.inr (by decide +kernel)) (by rw [isSubtype_type]; kernel_rfl)
theorem type_re_search : typeOf (.builtin "re.Pattern.search") = pure (.type "method_descriptor") := by show builtinType _ = _; rw [builtinType_eq_fast]; kernel_rfl
theorem entry_re_search : entryFor table "re.Pattern.search" = some Builtin.«re.Pattern.search» := entryFor_of_tree (by kernel_rfl)
theorem args_re_search (a b : Value) : argsOk "re.Pattern.search" ⟨[a, b], []⟩ := by unfold argsOk; kernel_rfl
theorem plain_re : PlainAttrs "re.Pattern" := ⟨⟨"object.__getattribute__", by rw [typeLookup_type, builtinLookup_eq_fast]; kernel_rfl, by decide +kernel⟩, by rw [typeLookup_type, builtinLookup_eq_fast]; kernel_rfl⟩
noncomputable def code1 : Array Nat := #[14, 10, 4, 1, 1, 22, 0, 31, 16, 127, 0, 13, 7, 22, 0, 31, 16, 127, 0, 1]
noncomputable def code2 : Array Nat := #[14, 14, 4, 1, 1, 9, 4294966783, 0, 0, 2147483648, 0, 0, 0, 0, 0, 13, 11, 9, 4294966783, 0, 0, 2147483648, 0, 0, 0, 0, 0, 1]
noncomputable def clean (x : Str) : Bool := decide (x.cps.size ≤ 1000) && (fails 100 (Sre.forSearch code1 x.cps 0 0 x.cps.size false) && fails 100 (Sre.forSearch code2 x.cps 0 0 x.cps.size false))
section
variable {prog : Program} {w : World} {A : Around} {E : Value → Shared → Prop} {s : Shared} {P : Params} {pat : Addr} {x : Str} {t : Tok}
theorem re_get {M : Model} {pl : Sem Bool} {Q : Value × List Value → Shared → Prop} (X : (KF P).In s.heap) (hp : pat = 214 ∨ pat = 219) (h : Q (.builtin "re.Pattern.search", [.ref pat]) s) : wpAny M A (getMethod (.ref pat) "search" pl) Q E s := by
  rcases hp with rfl | rfl
  · have e := X 214 (o214C61 P) (by kernel_rfl)
    exact getMethod_builtin ⟨_, e, rfl⟩ plain_re slot_re_search type_re_search (fun a q => by cases q; exact ⟨_, e, rfl⟩) h
  · have e := X 219 (o219C61 P) (by kernel_rfl)
    exact getMethod_builtin ⟨_, e, rfl⟩ plain_re slot_re_search type_re_search (fun a q => by cases q; exact ⟨_, e, rfl⟩) h
theorem re_call {Q : Value → Shared → Prop} (X : (KF P).In s.heap) (hp : pat = 214 ∨ pat = 219) (hc : clean x = true) (h : Q .none s) : wpAny (model prog w) A (call (.builtin "re.Pattern.search") [.ref pat, .str x t]) Q E s := by
  unfold clean at hc
  simp only [Bool.and_eq_true, decide_eq_true_eq] at hc
  obtain ⟨h0, h1, h2⟩ := hc
  rcases hp with rfl | rfl
  · have e := X 214 (o214C61 P) (by kernel_rfl)
    exact wpAny_call_entry slot_re_search ⟨_, e, rfl⟩ entry_re_search (search_none (k := 100) e (X 213 (o213C61 P) (by kernel_rfl)) rfl h0 (by decide) (Eq.trans (congrArg (fun c => fails 100 (Sre.forSearch c x.cps 0 0 x.cps.size false)) (by kernel_rfl : _ = code1)) h1) h) (args_re_search _ _)
  · have e := X 219 (o219C61 P) (by kernel_rfl)
    exact wpAny_call_entry slot_re_search ⟨_, e, rfl⟩ entry_re_search (search_none (k := 100) e (X 218 (o218C61 P) (by kernel_rfl)) rfl h0 (by decide) (Eq.trans (congrArg (fun c => fails 100 (Sre.forSearch c x.cps 0 0 x.cps.size false)) (by kernel_rfl : _ = code2)) h2) h) (args_re_search _ _)
end
end
local macro_rules | `(tactic| walk_at "getMethod ref") => `(tactic| (k_here; (with_reducible show wpAny _ _ (getMethod (Value.ref _) (PySem.Str.ofString "search") _) _ _ _); k_dflt (refine' re_get (P := w.params) ?k1 ?k2 ?_; (case k1 => k_in); (case k2 => first | exact .inl rfl | exact .inr rfl); k_whole)))
local macro_rules | `(tactic| walk_at "call builtin:re.Pattern.search") => `(tactic| (k_here; k_dflt (refine' re_call (P := w.params) ?k1 ?k2 ?k3 ?_; (case k1 => k_in); (case k2 => first | exact .inl rfl | exact .inr rfl); (case k3 => assumption); k_whole)))
theorem rs_L40 : True := by
  have h : (1 : Nat) = 1 := by walk1
  w_top off; exact trivial
section
variable {w : World} {p : Program} {loose : List Str} {mean : ExcName → Option Value} {mg mb : Str → Option Value} {dp un : Nat} {gd : Option (List Code)} {cn : Str} {cs : Scope} {a : Addr} {ccd : Value} {cl : List (Str × Addr)} {outer : List Env} {A₀ : Around} {base h₀ : Heap} {L : Addr} {m : Str → Option Value} {news : List (Addr × Obj)} {s : Shared} {Q E : Value → Shared → Prop}
set_option maxHeartbeats 2000000
theorem conv_name_ct {hx : Addr} {x : Str} {t : Tok}
  (B : Below A₀ base outer h₀) (F : Fr h₀ L s.heap m) (X : (KF w.params).In h₀) (N : News h₀ L s.heap news) (T : Top p loose mean mg mb h₀) (hk : cs.kind = .function)
  (hdp : dp ≤ 900) (hun : un ≤ 5000) (hc : clean x = true)
  (hret : ∀ h' tk, Fr h₀ L h' m → News h₀ L h' news → Q (.str x t) { s with heap := h', toks := tk }) :
  wpAny (model PySem.Challenge.rw_wc0034_01.row.prog w) (ktrTop dp un gd cn cs L a ccd cl outer) (call (.ref 241) [.ref hx, .str x t] [(Str.ofString "name", .bool true)]) Q E s := by
  refine up hdp hun ?_
  revert X; k_fill; intro X
  walk_at "mine enter"
  k_steps
  exact hret _ _ (by k_asm) (by k_asm)
theorem conv_value_ct {hx : Addr} {x : Str} {t : Tok}
  (B : Below A₀ base outer h₀) (F : Fr h₀ L s.heap m) (X : (KF w.params).In h₀) (N : News h₀ L s.heap news) (T : Top p loose mean mg mb h₀) (hk : cs.kind = .function)
  (hdp : dp ≤ 900) (hun : un ≤ 5000) (hc : clean x = true)
  (hret : ∀ h' tk, Fr h₀ L h' m → News h₀ L h' news → Q (.str x t) { s with heap := h', toks := tk }) :
  wpAny (model PySem.Challenge.rw_wc0034_01.row.prog w) (ktrTop dp un gd cn cs L a ccd cl outer) (call (.ref 241) [.ref hx, .str x t] [(Str.ofString "name", .bool false)]) Q E s := by
  refine up hdp hun ?_
  revert X; k_fill; intro X
  walk_at "mine enter"
  k_steps
  exact hret _ _ (by k_asm) (by k_asm)
theorem hdr_new_ct
  (B : Below A₀ base outer h₀) (F : Fr h₀ L s.heap m) (X : (KF w.params).In h₀) (N : News h₀ L s.heap news) (T : Top p loose mean mg mb h₀) (hk : cs.kind = .function)
  (hdp : dp ≤ 880) (hun : un ≤ 4800)
  (hret : ∀ v dv ll h' tk k1 nv, Fr h₀ L h' m → News h₀ L h' ((ll, listOf #[] 0) :: (v, instObj 342 dv) :: (dv, dictOf [ent w.params "_headers" k1 (.ref ll)] nv) :: news) → (∀ p ∈ news, p.1 < dv) → dv < v → v < ll → Q (.ref v) { s with heap := h', toks := tk }) :
  wpAny (model PySem.Challenge.rw_wc0034_01.row.prog w) (ktrTop dp un gd cn cs L a ccd cl outer) (call (.ref 342) []) Q E s := by
  refine up hdp hun ?_
  revert X; k_fill; intro X
  refine call_cls (K := KF w.params) (fI := 234) F X N (by k_is) (by k_is) (by k_is) ?_
  intro v dv h1 F1 N1 lv1 lv2
  clear F N; k_lt2 lv2
  walk_at "mine enter2"
  k_steps
  show wpAny _ _ _ _ _ _
  refine For_G ?_
  walk_at "mine step"
  rename Fr _ L' _ _ => Fz
  rename News _ L' _ _ => Nz
  rename _ < _ ∧ _ < _ ∧ AllLt _ news => lz
  refine iter_listG (vs := []) rfl Fz Nz (by walk_at "mine mem") rfl rfl (fun _ g m' n' => g = _ ∧ m' = _ ∧ n' = _) ⟨rfl, rfl, rfl⟩ (fun I i v g m₁ news₁ h tk it s' hv => absurd hv (by simp)) ?_
  rintro h9 g9 tk9 m9 n9 ⟨rfl, rfl, rfl⟩ F9 N9
  clear Fz Nz
  dsimp only
  k_steps
  exact hret _ _ _ _ _ _ _ (by k_asm) (by k_asm) lv1 lv2 lz.1
end
local macro_rules | `(tactic| walk_at "call ref") => `(tactic| (k_here; k_dflt (first | (refine' conv_name_ct ?k1 ?k2 ?k3 ?k4 ?k5 ?k6 ?k7 ?k8 ?k9 ?_; (walk_at "mine c0"); (case k9 => assumption); k_whole) | (refine' conv_value_ct ?k1 ?k2 ?k3 ?k4 ?k5 ?k6 ?k7 ?k8 ?k9 ?_; (walk_at "mine c0"); (case k9 => assumption); k_whole)); intro h' tk F' N'; (try k_sweep)))
theorem rs_L41 : True := by
  have h : (1 : Nat) = 1 := by walk1
  w_top off; exact trivial
noncomputable abbrev hdMap (x : Str) (tn : Tok) (u : Str → Option Value) : Str → Option Value := fun y => if y = Str.ofString "name" then some (.str x tn) else if y = Str.ofString "default" then some .none else u y
theorem Fr.hd {x : Str} {tn : Tok} {g h : Heap} {L' : Addr} {m : Str → Option Value} (F : Fr g L' h m) (h1 : m (Str.ofString "name") = some (.str x tn)) (h2 : m (Str.ofString "default") = some .none) : ∃ u, Fr g L' h (hdMap x tn u) :=
  ⟨m, by
    have e : m = hdMap x tn m := by
      funext y
      unfold hdMap
      split
      · next e => rw [e, h1]
      · split
        · next e => rw [e, h2]
        · rfl
    rw [← e]; exact F⟩
theorem low_K {prog : Program} {w : World} {A : Around} {E : Value → Shared → Prop} {s : Shared} {x : Str} {t : Tok} {Q : Value → Shared → Prop} (h1 : Txt.lower x = x) (h2 : x.length ≤ 1000) (h : ∀ t' k, Q (.str x t') { s with toks := k }) : wpAny (model prog w) A (call (.builtin "str.lower") [.str x t]) Q E s :=
  KXw.lower h1 (by rw [h1]; unfold Builtin.Str.tooLong; rw [sizeLine_eq]; exact decide_eq_false (by omega)) h
local macro_rules | `(tactic| walk_at "call builtin:str.lower") => `(tactic| (k_here; (show wpAny _ _ (call (Value.builtin "str.lower") [Value.str _ _]) _ _ _); refine' low_K ?k1 ?k2 ?_; (case k1 | k2 => assumption); intro t' k'))
section
variable {w : World} {p : Program} {loose : List Str} {mean : ExcName → Option Value} {mg mb : Str → Option Value} {dp un : Nat} {gd : Option (List Code)} {cn : Str} {cs : Scope} {a : Addr} {ccd : Value} {cl : List (Str × Addr)} {outer : List Env} {A₀ : Around} {base h₀ : Heap} {L : Addr} {m : Str → Option Value} {news : List (Addr × Obj)} {s : Shared} {Q E : Value → Shared → Prop}
set_option maxHeartbeats 2000000
/-- what get finds -/
noncomputable def found (l : List Part) (x : Str) : Value := match l.find? (fun q => q.2.1.1 == x) with | some q => .str q.2.2.1 q.2.2.2 | none => .none
theorem found_at {l : List Part} {x : Str} {i : Nat} {q : Part} (hq : l[i]? = some q) (hne : ∀ q ∈ l.take i, q.2.1.1 ≠ x) (he : q.2.1.1 = x) : found l x = .str q.2.2.1 q.2.2.2 := by
  induction l generalizing i with
  | nil => simp at hq
  | cons a l ih =>
    cases i with
    | zero =>
      simp only [List.getElem?_cons_zero, Option.some.injEq] at hq
      subst hq
      unfold found
      rw [List.find?_cons, beq_iff_eq.mpr he]
    | succ i =>
      have h1 : a.2.1.1 ≠ x := hne a (by simp)
      have h2 : found (a :: l) x = found l x := by
        unfold found
        rw [List.find?_cons, beq_eq_false_iff_ne.mpr h1]
      rw [h2]
      exact ih (by simpa using hq) (fun q hq => hne q (by simp [hq]))
theorem found_none {l : List Part} {x : Str} (hne : ∀ q ∈ l, q.2.1.1 ≠ x) : found l x = .none := by
  unfold found
  rw [List.find?_eq_none.mpr (fun q hq => by simpa using hne q hq)]
theorem get_ct {v dv ll : Addr} {l : List Part} {nl nv : Nat} {k1 t : Tok} {x : Str}
  (B : Below A₀ base outer h₀) (F : Fr h₀ L s.heap m) (X : (KF w.params).In h₀) (N : News h₀ L s.heap news) (T : Top p loose mean mg mb h₀) (hk : cs.kind = .function)
  (hdp : dp ≤ 890) (hun : un ≤ 4900) (hv : (v, instObj 342 dv) ∈ news) (hd : (dv, dictOf [ent w.params "_headers" k1 (.ref ll)] nv) ∈ news) (hl : (ll, listOf (l.map pref).toArray nl) ∈ news) (ht : ∀ q ∈ l, (q.1, pO q) ∈ news)
  (hc : clean x = true) (hlow : Txt.lower x = x) (hxl : x.length ≤ 1000) (hlows : ∀ q ∈ l, Txt.lower q.2.1.1 = q.2.1.1 ∧ q.2.1.1.length ≤ 1000)
  (hret : ∀ h' tk, Fr h₀ L h' m → News h₀ L h' news → Q (found l x) { s with heap := h', toks := tk }) :
  wpAny (model PySem.Challenge.rw_wc0034_01.row.prog w) (ktrTop dp un gd cn cs L a ccd cl outer) (call (.ref 289) [.ref v, .str x t]) Q E s := by
  refine up hdp hun ?_
  revert X; k_fill; intro X
  walk_at "mine enter"
  k_steps
  show wpAny _ _ _ _ _ _
  refine For_G ?_
  iterate 3 (walk_at "mine step")
  rename Fr g' L' _ _ => Fz
  rename News g' L' _ _ => Nz
  obtain ⟨u0, Fy⟩ := Fr.hd (x := x) Fz rfl rfl
  refine iter_listG (vs := l.map pref) rfl Fy Nz hl rfl rfl (fun i g m' n' => g = s.gens ∧ (∃ tn u, m' = hdMap x tn u) ∧ n' = news ∧ ∀ q ∈ l.take i, q.2.1.1 ≠ x) ⟨rfl, ⟨_, _, rfl⟩, rfl, fun q hq => absurd hq (by simp)⟩ ?_ ?_
  · rintro I i vq g1 m1 news1 h1 tk1 it s' hvi ⟨rfl, ⟨tn, u1, rfl⟩, rfl, hne⟩ hmem hn hd' hos F1 N1 hit
    rw [List.getElem?_map] at hvi
    obtain ⟨q, hq, rfl⟩ := Option.map_eq_some_iff.mp hvi
    have hqm := List.mem_of_getElem? hq
    have mq := ht q hqm
    have lq := (hlows q hqm).1
    have lq2 := (hlows q hqm).2
    clear Fz Nz Fy
    k_steps
    · dsimp only [PostG]
      k_steps
      rename (_ == x) = true => he
      have hr := hret _ k' (by k_asm) (news_sub (by k_asm : News h₀ L _ ((I, it) :: news1)) fun p hp => .tail _ hp)
      rw [found_at hq hne (beq_iff_eq.mp he)] at hr
      rw [hd', hos]
      exact hr
    · rename (_ == x) = false => he
      dsimp only [PostG]
      rename Fr g' _ _ _ => Fw
      rename News g' L' _ _ => Nw
      obtain ⟨u9, F9⟩ := Fr.hd (x := x) Fw rfl rfl
      refine ⟨_, _, _, _, news1, rfl, F9, Nw, hn, fun p hp => by rw [List.mem_singleton.mp hp]; exact hmem, rfl, ⟨_, _, rfl⟩, rfl, fun q' hq' => ?_⟩
      rw [List.take_add_one, hq] at hq'
      rcases List.mem_append.mp hq' with h | h
      · exact hne q' h
      · rw [List.mem_singleton.mp h]
        exact beq_eq_false_iff_ne.mp he
  · rintro h1 g1 tk1 m1 news1 ⟨rfl, ⟨tn, u1, rfl⟩, rfl, hne⟩ F1 N1
    rw [List.length_map, List.take_length] at hne
    dsimp only
    k_steps
    have hr := hret _ tk1 (by k_asm) (by k_asm)
    rw [found_none hne] at hr
    exact hr
end
local macro_rules | `(tactic| walk_at "call ref") => `(tactic| ((with_reducible show wpAny _ _ (call (.ref 289) _) _ _ _); refine halt ?_))
theorem rs_L42 : True := by
  have h : (1 : Nat) = 1 := by walk1
  w_top off; exact trivial
section
variable {w : World} {p : Program} {loose : List Str} {mean : ExcName → Option Value} {mg mb : Str → Option Value} {dp un : Nat} {gd : Option (List Code)} {cn : Str} {cs : Scope} {a : Addr} {ccd : Value} {cl : List (Str × Addr)} {outer : List Env} {A₀ : Around} {base h₀ : Heap} {L : Addr} {m : Str → Option Value} {news : List (Addr × Obj)} {s : Shared} {Q E : Value → Shared → Prop}
set_option maxHeartbeats 2000000
theorem found_cases (l : List Part) (x : Str) : (∃ z tz, found l x = .str z tz) ∨ found l x = .none := by
  unfold found
  cases l.find? (fun q => q.2.1.1 == x) with
  | some q => exact .inl ⟨_, _, rfl⟩
  | none => exact .inr rfl
theorem setdef_ct {v dv ll : Addr} {l : List Part} {nl nv : Nat} {k1 tx ty : Tok} {x y : Str} {news' : Addr → Nat → List (Addr × Obj)}
  (B : Below A₀ base outer h₀) (F : Fr h₀ L s.heap m) (X : (KF w.params).In h₀) (N : News h₀ L s.heap news) (T : Top p loose mean mg mb h₀) (hk : cs.kind = .function)
  (hdp : dp ≤ 880) (hun : un ≤ 4800) (hv : (v, instObj 342 dv) ∈ news) (hd : (dv, dictOf [ent w.params "_headers" k1 (.ref ll)] nv) ∈ news) (hl : (ll, listOf (l.map pref).toArray nl) ∈ news) (ht : ∀ q ∈ l, (q.1, pO q) ∈ news)
  (hc : clean x = true) (hc2 : clean y = true) (hlow : Txt.lower x = x) (hxl : x.length ≤ 1000) (hlows : ∀ q ∈ l, Txt.lower q.2.1.1 = q.2.1.1 ∧ q.2.1.1.length ≤ 1000) (hz : l.length ≤ 900)
  (U : ∀ t n', (∀ p ∈ news, p.1 < t) → Upd ll (listOf (l.map pref).toArray nl) (listOf ((l ++ [(t, (x, tx), (y, ty))]).map pref).toArray n') news (news' t n'))
  (hret1 : ∀ h' tk z tz, found l x = .str z tz → Fr h₀ L h' m → News h₀ L h' news → Q (.str z tz) { s with heap := h', toks := tk })
  (hret2 : ∀ h' tk t n', found l x = .none → Fr h₀ L h' m → News h₀ L h' ((t, tupO [.str x tx, .str y ty]) :: news' t n') → (∀ p ∈ news, p.1 < t) → Q (.str y ty) { s with heap := h', toks := tk }) :
  wpAny (model PySem.Challenge.rw_wc0034_01.row.prog w) (ktrTop dp un gd cn cs L a ccd cl outer) (call (.ref 332) [.ref v, .str x tx, .str y ty]) Q E s := by
  refine up hdp hun ?_
  revert X; k_fill; intro X
  walk_at "mine enter"
  k_steps
  show wpAny _ _ (call (.ref 289) [.ref v, .str x tx]) _ _ _
  refine' get_ct (l := l) ?k1 ?k2 ?k3 ?k4 ?k5 ?k6 ?k7 ?k8 hv hd hl ht hc hlow hxl hlows ?_
  case k1 => k_asm
  case k2 => k_asm
  case k3 => k_asm
  case k4 => k_asm
  case k5 => k_asm
  case k6 => rfl
  case k7 => exact Nat.le_of_ble_eq_true rfl
  case k8 => exact Nat.le_of_ble_eq_true rfl
  intro h1 tk1 F1 N1
  rcases found_cases l x with ⟨z, tz, hf⟩ | hf
  · rw [hf]
    k_steps
    exact hret1 _ _ z tz hf (by k_asm) (by k_asm)
  · rw [hf]
    k_steps
    rename ∀ p ∈ news, p.1 < _ => ltD
    have eA : ∀ tD : Addr, (l.map pref).toArray.push (Value.ref tD) = ((l ++ [(tD, (x, tx), (y, ty))]).map pref).toArray := fun tD => by simp
    refine' append_K ?k1 ?k2 ?k3 ?_ ?z
    case k1 => k_asm
    case k2 => k_asm
    case k3 =>
      rw [eA]
      exact Upd.tail (Nat.ne_of_gt (ltD _ hl)) (U _ _ ltD)
    case z => rw [List.size_toArray, List.length_map, sizeLine_eq]; omega
    intro h' F' N'
    k_steps
    exact hret2 _ _ _ _ hf (by k_asm) (by k_asm) ltD
end
noncomputable def alpha : List Nat := [40, 41, 91, 93, 58, 44, 59, 43, 45, 42, 47, 124, 38, 60, 62, 61, 46, 37, 123, 125]
/-- a sign's number in EXACT_TOKEN_TYPES -/
theorem figs (P : Params) : ∀ (i : Nat) (c : Nat), alpha[i]? = some c → ∃ tk, nsIn (KF P) 39 ⟨#[c]⟩ = some (some (.int ((7 + i : Nat) : Int) tk))
  | 0, _, h => by cases h; exact ⟨293, by kernel_rfl⟩
  | 1, _, h => by cases h; exact ⟨295, by kernel_rfl⟩
  | 2, _, h => by cases h; exact ⟨297, by kernel_rfl⟩
  | 3, _, h => by cases h; exact ⟨299, by kernel_rfl⟩
  | 4, _, h => by cases h; exact ⟨301, by kernel_rfl⟩
  | 5, _, h => by cases h; exact ⟨303, by kernel_rfl⟩
  | 6, _, h => by cases h; exact ⟨305, by kernel_rfl⟩
  | 7, _, h => by cases h; exact ⟨307, by kernel_rfl⟩
  | 8, _, h => by cases h; exact ⟨309, by kernel_rfl⟩
  | 9, _, h => by cases h; exact ⟨311, by kernel_rfl⟩
  | 10, _, h => by cases h; exact ⟨313, by kernel_rfl⟩
  | 11, _, h => by cases h; exact ⟨315, by kernel_rfl⟩
  | 12, _, h => by cases h; exact ⟨317, by kernel_rfl⟩
  | 13, _, h => by cases h; exact ⟨319, by kernel_rfl⟩
  | 14, _, h => by cases h; exact ⟨321, by kernel_rfl⟩
  | 15, _, h => by cases h; exact ⟨323, by kernel_rfl⟩
  | 16, _, h => by cases h; exact ⟨325, by kernel_rfl⟩
  | 17, _, h => by cases h; exact ⟨327, by kernel_rfl⟩
  | 18, _, h => by cases h; exact ⟨329, by kernel_rfl⟩
  | 19, _, h => by cases h; exact ⟨331, by kernel_rfl⟩
  | i + 20, c, h => by simp [alpha] at h
section
variable {prog : Program} {w : World} {A : Around} {E : Value → Shared → Prop} {s : Shared} {h₀ : Heap} {L : Addr} {m : Str → Option Value} {env : Env}
open LCg LCt
theorem str_st {T : String} {tx : Str} {t : Tok} {I : Addr} : ∀ i (h h' : Heap) (o : Obj) (nw : List (Addr × Obj)), h.IsStrIter I T tx t i → h.get? I = some o → h'.get? I = some o → (∀ b o, h₀.get? b = some o → h'.get? b = some o) → News h₀ L h' nw → True → h'.IsStrIter I T tx t i :=
  fun i h h' o nw st e e' _ _ _ => by obtain ⟨o', q, r⟩ := st; rw [e] at q; cases q; exact ⟨o, e', r⟩
noncomputable def SrcTS (prog : Program) (w : World) (A : Around) (h₀ : Heap) (L : Addr) (m : Str → Option Value) (env : Env) (ct elt : Expr) (x : Str) (scope : Scope) (cl : List (Str × Addr)) (Q : Value → Shared → Prop) (xv : Value) (s₁ : Shared) : Prop :=
  ∃ tx t news, xv = .str tx t ∧ A.handled = none ∧ Fr h₀ L s₁.heap m ∧ News h₀ L s₁.heap news ∧ tx.cps.size ≤ sizeLine ∧
      ∀ s₂ : Shared, (∃ h, s₂ = { s₁ with heap := h }) → CompRestT prog w A h₀ L m env ct elt x scope cl s₂ (fun _ => True) (SignAt tx) (FinE h₀ L m s₂ Q) tx.cps.size 0 [] news
/-- a comprehension with a test, over a text -/
theorem ListComp_TS {ct elt iter : Expr} {x : Str} {px : Pos} {scope : Scope} {cl : List (Str × Addr)} {pos : Pos} {Q : Value → Shared → Prop} (_F₀ : Fr h₀ L s.heap m)
    (hclos : closureFor scope env = pure cl) (hcell : ∀ y ∈ scope.names, y.2 ≠ .cell) (hkind : scope.kind = .function)
    (hnames : ∀ y ∈ scope.names, y.2 = .local → scope.names.lookup y.1 = some .local) (hx : scope.names.lookup x = some .local)
    (h : wpAny (model prog w) A (eval iter env) (SrcTS prog w A h₀ L m env ct elt x scope cl Q) E s)
    (hs : ∀ x, foldedSetIterable iter env x = pure x := by intro _; rfl) :
    wpAny (model prog w) A (eval (.ListComp elt [⟨.Name x px, iter, [ct], 0⟩] scope pos) env) Q E s := by
  rw [eval_ListComp]
  refine wpAny_comprehension_free (use := none) rfl hs hclos hkind hnames (wpAny_mono h (fun xv s₁ h₁ => ?_) fun _ _ e => e)
  obtain ⟨tx, t, news, rfl, hh, F, N, hsz, R⟩ := h₁
  cases ha : tx.cps.all (· < 128)
  · refine wpAny_pyIter_wide ha ?_
    refine block_T (Walks.strWide hh _ tx t) hsz (fun i h st => by obtain ⟨o, e, _⟩ := st; exact ⟨o, e⟩) str_st hcell hkind hx ⟨_, Heap.get?_push_size _ rfl, rfl, rfl⟩ (fun b hb => ?_)
      (F.keeps fun _ _ e => Heap.get?_push_of_some _ e) (N.grown fun _ _ e => Heap.get?_push_of_some _ e) (Nat.ne_of_lt F.ns.lt) (next_is_new F) (fun p hp => Nat.ne_of_lt (Heap.lt_size (N p hp).1)) trivial (R _ ⟨_, rfl⟩) ?_
    · rw [List.mem_singleton.mp hb]
      show s₁.heap.objs.size < (s₁.heap.push _).objs.size
      rw [Heap.size_push]; exact Nat.lt_succ_self _
    · intro D C h tk m' ys news' F' N' o1 hn hC₀ hD₀ hCL hDL hCD offC fin
      refine ⟨m', hn, fun h'' hs'' => fin D h'' tk (F'.change hs'' hCL hC₀) (fun p hp => ?_) o1⟩
      refine ⟨hs''.extBut _ _ ?_ (N' p hp).1, (N' p hp).2⟩
      rcases List.mem_cons.mp hp with rfl | hp
      · exact Ne.symm hCD
      · exact offC p hp
  · refine wpAny_pyIter_ascii ha ?_
    refine block_T (Walks.strAscii hh _ tx t) hsz (fun i h st => by obtain ⟨o, e, _⟩ := st; exact ⟨o, e⟩) str_st hcell hkind hx ⟨_, Heap.get?_push_size _ rfl, rfl, rfl⟩ (fun b hb => ?_)
      (F.keeps fun _ _ e => Heap.get?_push_of_some _ e) (N.grown fun _ _ e => Heap.get?_push_of_some _ e) (Nat.ne_of_lt F.ns.lt) (next_is_new F) (fun p hp => Nat.ne_of_lt (Heap.lt_size (N p hp).1)) trivial (R _ ⟨_, rfl⟩) ?_
    · rw [List.mem_singleton.mp hb]
      show s₁.heap.objs.size < (s₁.heap.push _).objs.size
      rw [Heap.size_push]; exact Nat.lt_succ_self _
    · intro D C h tk m' ys news' F' N' o1 hn hC₀ hD₀ hCL hDL hCD offC fin
      refine ⟨m', hn, fun h'' hs'' => fin D h'' tk (F'.change hs'' hCL hC₀) (fun p hp => ?_) o1⟩
      refine ⟨hs''.extBut _ _ ?_ (N' p hp).1, (N' p hp).2⟩
      rcases List.mem_cons.mp hp with rfl | hp
      · exact Ne.symm hCD
      · exact offC p hp
theorem compEnd_mono {s₁ s₂ : Shared} {I C D : Addr} {oI oC oD : Obj} {S : List (Addr × Obj) → Prop} {r1 r2 : Value → List (Addr × Obj) → Prop} {y : Value} (h : CompEnd h₀ L m s₁ I oI C oC D oD S r1 y s₂) (hr : ∀ n', r1 y n' → r2 y n') : CompEnd h₀ L m s₁ I oI C oC D oD S r2 y s₂ := by
  obtain ⟨h', tk, news', e, F, N, o, hS, r⟩ := h
  exact ⟨h', tk, news', e, F, N, o, hS, hr _ r⟩
/-- the turns of a comprehension with a test, by what holds between them -/
theorem compT_ind {ct elt : Expr} {x : Str} {scope : Scope} {cl : List (Str × Addr)} {S : List (Addr × Obj) → Prop} {P : Nat → Value → Prop} {Fin : List Value → List (Addr × Obj) → Prop} {news : List (Addr × Obj)} {n : Nat} (Inv : Nat → List Value → Prop) (h0 : Inv 0 [])
    (step : ∀ i ys, i < n → Inv i ys → ∀ v I oI C oC D m₂ h tk (E' : Value → Shared → Prop), P i v → NsObj oC m₂ → m₂ x = some v → Fr h₀ L h m → News h₀ L h ((I, oI) :: (C, oC) :: (D, lst ys) :: news) → Off3 I C D news → ((@Ne Nat I C) ∧ (@Ne Nat I D) ∧ (@Ne Nat C D)) →
      wpAny (model prog w) A (isTrue ct (compEnvC scope cl C env) (eval ct (compEnvC scope cl C env))) (fun ok s' => if ok = true then
        wpAny (model prog w) A (eval elt (compEnvC scope cl C env)) (CompEnd h₀ L m { s with heap := h, toks := tk } I oI C oC D (lst ys) S (fun y news' => news' = news ∧ Inv (i + 1) (ys ++ [y]))) E' s'
        else CompEnd h₀ L m { s with heap := h, toks := tk } I oI C oC D (lst ys) S (fun _ news' => news' = news ∧ Inv (i + 1) ys) Value.none s') E' { s with heap := h, toks := tk })
    (fin : ∀ ys, Inv n ys → Fin ys news) : CompRestT prog w A h₀ L m env ct elt x scope cl s S P Fin n 0 [] news := by
  have key : ∀ k i ys, i + k = n → Inv i ys → CompRestT prog w A h₀ L m env ct elt x scope cl s S P Fin k i ys news := by
    intro k
    induction k with
    | zero => intro i ys hi hv; exact fin ys (by rw [← hi]; exact hv)
    | succ k ih =>
      intro i ys hi hv
      refine CompRestT.succ fun v I oI C oC D m₂ h tk E' hP hC hx F N off ne => ?_
      refine wpAny_mono (step i ys (by omega) hv v I oI C oC D m₂ h tk E' hP hC hx F N off ne) (fun ok s' hok => ?_) fun _ _ e => e
      cases ok with
      | true =>
        rw [if_pos rfl] at hok ⊢
        exact wpAny_mono hok (fun y s'' hy => compEnd_mono hy fun n' hr => by obtain ⟨rfl, hr⟩ := hr; exact ih (i + 1) _ (by omega) hr) fun _ _ e => e
      | false =>
        rw [if_neg (by decide)] at hok ⊢
        exact compEnd_mono hok fun n' hr => by obtain ⟨rfl, hr⟩ := hr; exact ih (i + 1) ys (by omega) hr
  exact key n 0 [] (by omega) h0
end
local macro_rules | `(tactic| walk_at "subscriptTail") => `(tactic| (k_here; (with_reducible show wpAny _ _ (subscriptTail _ _ (Value.ref 39) (Value.str _ _)) _ _ _); k_dflt (refine' topItem_K ?F ?X ?l ?k ?e ?_; (case F | X => k_asm); (case l => k_is); (case k => k_keys); (case e => assumption))))
local macro_rules | `(tactic| walk_at "mine enterC") => `(tactic| (refine wpAny_call ?_; k_dflt (refine' code_defC ?k1 ?k2 ?k3 ?k4 ?k5 ?kA ?kF ?kK ?k6 ?k7 ?k8 ?k9 ?kB ?kD ?_ ?c2 ?c3 ?c4; (walk_at "mine c1"); (case k9 => first | exact BindsTo.of_eq rfl | exact binds_K (by k_in) rfl (by k_is) rfl rfl rfl); (case kB => exact rfl); (case kD => decide +kernel); (case c2 | c3 | c4 => exact rfl); k_whole; intro g' L' h' tk' cells' FG' F' N' Y' B' X' T' l1; (try k_lt l1); k_cells Y'; (try simp only [List.cons_append, List.nil_append] at N'); (try dsimp only); (try k_fold))))
local macro_rules | `(tactic| walk_at "call builtin:len") => `(tactic| (k_here; (show wpAny _ _ (call (Value.builtin "len") [Value.str _ _]) _ _ _); refine' len_str ?k1 ?_; (case k1 => omega)))
theorem rs_L44 : True := by
  have h : (1 : Nat) = 1 := by walk1
  w_top off; exact trivial
section
local macro_rules | `(tactic| walk_at "eval ListComp") => `(tactic| ((with_reducible show wpAny _ _ (eval (Expr.ListComp _ _ _ _) _) _ _ _); refine halt ?_))
section
variable {w : World} {p : Program} {loose : List Str} {mean : ExcName → Option Value} {mg mb : Str → Option Value} {dp un : Nat} {gd : Option (List Code)} {cn : Str} {cs : Scope} {a : Addr} {ccd : Value} {cl : List (Str × Addr)} {outer : List Env} {A₀ : Around} {base h₀ : Heap} {L : Addr} {m : Str → Option Value} {news : List (Addr × Obj)} {s : Shared} {Q E : Value → Shared → Prop}
set_option maxHeartbeats 2000000
noncomputable def Fig (P : Params) (c i : Nat) : Prop := ∃ tk, nsIn (KF P) 39 ⟨#[c]⟩ = some (some (.int ((7 + i : Nat) : Int) tk))
/-- is the sign at place j the one asked for -/
noncomputable def pick (n a b h j : Nat) : Bool := decide (((a : Int) + b - h - j) % n = 0)
noncomputable def picked (sg : Str) (a b h i : Nat) : List Str := ((List.range i).filter (pick sg.cps.size a b h)).map fun j => ⟨#[sg.cps.getD j 0]⟩
theorem picked_succ {sg : Str} {a b h i c : Nat} (hc : sg.cps[i]? = some c) : picked sg a b h (i + 1) = picked sg a b h i ++ (if pick sg.cps.size a b h i = true then [⟨#[c]⟩] else []) := by
  unfold picked
  rw [List.range_succ, List.filter_append, List.map_append]
  congr 1
  have hg : sg.cps.getD i 0 = c := by
    rw [Array.getD_eq_getD_getElem?, hc]; rfl
  by_cases hp : pick sg.cps.size a b h i = true
  · rw [List.filter_cons_of_pos hp, if_pos hp]
    simp only [List.filter_nil, List.map_cons, List.map_nil, hg]
  · rw [List.filter_cons_of_neg hp, if_neg hp]
    rfl
theorem pick_of {s0 i1 i2 i3 i n : Nat} : (((7 + (s0 + i1) : Nat) : Int) + ((7 + (s0 + i2) : Nat) : Int) - ((7 + (s0 + i3) : Nat) : Int) - ((7 + (s0 + i) : Nat) : Int)).fmod (n : Int) = 0 ↔ pick n i1 i2 i3 i = true := by
  unfold pick
  rw [Int.fmod_eq_emod_of_nonneg _ (Int.natCast_nonneg n), decide_eq_true_eq, show (((7 + (s0 + i1) : Nat) : Int) + ((7 + (s0 + i2) : Nat) : Int) - ((7 + (s0 + i3) : Nat) : Int) - ((7 + (s0 + i) : Nat) : Int)) = (i1 : Int) + i2 - i3 - i from by omega]
theorem col_ct {sg : Str} {c1 c2 c3 : Nat} {i1 i2 i3 s0 j0 : Nat} {ts th t2 : Tok}
  (B : Below A₀ base outer h₀) (F : Fr h₀ L s.heap m) (X : (KF w.params).In h₀) (N : News h₀ L s.heap news) (T : Top p loose mean mg mb h₀) (hk : cs.kind = .function)
  (hdp : dp ≤ 880) (hun : un ≤ 4800) (f1 : Fig w.params c1 (s0 + i1)) (f2 : Fig w.params c2 (s0 + i2)) (f3 : Fig w.params c3 (s0 + i3)) (hne : c1 ≠ 64) (hs0 : 0 < sg.length) (hs1 : sg.length ≤ 100)
  (hsg : ∀ j c, sg.cps[j]? = some c → Fig w.params c (s0 + j)) (hpk : (List.range sg.cps.size).filter (pick sg.cps.size i1 i2 i3) = [j0])
  (hret : ∀ h' tk t, Fr h₀ L h' m → News h₀ L h' news → Q (.str ⟨#[sg.cps.getD j0 0]⟩ t) { s with heap := h', toks := tk }) :
  wpAny (model PySem.Challenge.rw_wc0034_01.row.prog w) (ktrTop dp un gd cn cs L a ccd cl outer) (call (.ref 363) [.str sg ts, .str ⟨#[c3]⟩ th, .str ⟨#[c1, c2]⟩ t2]) Q E s := by
  refine up hdp hun ?_
  revert X; k_fill; intro X
  walk_at "mine enterC"
  obtain ⟨e1, f1⟩ := f1
  obtain ⟨e2, f2⟩ := f2
  obtain ⟨e3, f3⟩ := f3
  k_steps
  · rename (_ == _) = true => hq
    exact absurd (by have h := congrArg (fun s : Str => s.cps.toList) (beq_iff_eq.mp hq); exact (List.cons.inj h).1) hne
  · show wpAny _ _ _ _ _ _
    rename Fr g' L' _ _ => Fz
    refine ListComp_TS Fz (by rfl) (by decide) (by rfl) (by decide) (by rfl) ?_
    k_steps
    refine ⟨sg, ts, _, rfl, rfl, by k_asm, by k_asm, by rw [sizeLine_eq]; have : sg.cps.size ≤ 100 := hs1; omega, ?_⟩
    rintro s₂ ⟨hh, rfl⟩
    refine compT_ind (fun i ys => LinesAre ys (picked sg i1 i2 i3 i)) trivial ?_ ?_
    · intro i ys hi hys v' I' oI' C' oC' D' m' h' tk' E' hv' hC' hx' F' N' off' ne'
      obtain ⟨c9, t9', hc9, hv9'⟩ := hv'
      subst hv9'
      obtain ⟨e9, f9⟩ := hsg i c9 hc9
      k_steps
      · rename Int.fmod _ _ = 0 => hf
        refine LCg.CompEnd.intro (by assumption) (by assumption : News g' L' _ ((I', oI') :: (C', oC') :: (D', LCg.lst ys) :: _)) _ (fun p hp => hp) off' trivial ⟨rfl, ?_⟩
        have hpp : pick sg.cps.size i1 i2 i3 i = true := pick_of.mp hf
        rw [picked_succ hc9, if_pos hpp]
        exact hys.snoc _ _
      · rename ¬ Int.fmod _ _ = 0 => hf
        refine LCg.CompEnd.intro (by assumption) (by assumption : News g' L' _ ((I', oI') :: (C', oC') :: (D', LCg.lst ys) :: _)) _ (fun p hp => hp) off' trivial ⟨rfl, ?_⟩
        have hpp : ¬ pick sg.cps.size i1 i2 i3 i = true := fun e => hf (pick_of.mpr e)
        rw [picked_succ hc9, if_neg hpp, List.append_nil]
        exact hys
    · intro ys hys
      have hp1 : picked sg i1 i2 i3 sg.cps.size = [⟨#[sg.cps.getD j0 0]⟩] := by unfold picked; rw [hpk]; rfl
      rw [hp1] at hys
      obtain ⟨t, rfl⟩ : ∃ t, ys = [Value.str ⟨#[sg.cps.getD j0 0]⟩ t] := by
        match ys, hys with
        | [_], ⟨⟨t, rfl⟩, _⟩ => exact ⟨t, rfl⟩
      k_steps
      refine hret _ _ _ (by k_asm) (news_sub (by k_asm) ?sb)
      case sb => intro p hp; repeat (first | exact hp | refine List.mem_cons_of_mem _ ?_)
end
end
theorem rs_L46 : True := by
  have h : (1 : Nat) = 1 := by walk1
  w_top off; exact trivial
section
local macro_rules | `(tactic| walk_at "eval ListComp") => `(tactic| ((with_reducible show wpAny _ _ (eval (Expr.ListComp _ _ _ _) _) _ _ _); refine halt ?_))
local macro_rules | `(tactic| walk_at "exec Assign") => `(tactic| ((with_reducible show wpAny _ _ (exec (Stmt.Assign _ _ _) _) _ _ _); refine halt ?_))
section
variable {w : World} {p : Program} {loose : List Str} {mean : ExcName → Option Value} {mg mb : Str → Option Value} {dp un : Nat} {gd : Option (List Code)} {cn : Str} {cs : Scope} {a : Addr} {ccd : Value} {cl : List (Str × Addr)} {outer : List Env} {A₀ : Around} {base h₀ : Heap} {L : Addr} {m : Str → Option Value} {news : List (Addr × Obj)} {s : Shared} {Q E : Value → Shared → Prop}
set_option maxHeartbeats 2000000
theorem col_home_ct {sg home : Str} {c2 : Nat} {ts th t2 : Tok}
  (B : Below A₀ base outer h₀) (F : Fr h₀ L s.heap m) (X : (KF w.params).In h₀) (N : News h₀ L s.heap news) (T : Top p loose mean mg mb h₀) (hk : cs.kind = .function)
  (hdp : dp ≤ 880) (hun : un ≤ 4800)
  (hret : ∀ h' tk, Fr h₀ L h' m → News h₀ L h' news → Q (.str home th) { s with heap := h', toks := tk }) :
  wpAny (model PySem.Challenge.rw_wc0034_01.row.prog w) (ktrTop dp un gd cn cs L a ccd cl outer) (call (.ref 363) [.str sg ts, .str home th, .str ⟨#[64, c2]⟩ t2]) Q E s := by
  refine up hdp hun ?_
  revert X; k_fill; intro X
  walk_at "mine enterC"
  k_steps
  · refine hret _ _ (by k_asm) (news_sub (by k_asm) ?sb)
    case sb => intro p hp; repeat (first | exact hp | refine List.mem_cons_of_mem _ ?_)
  · rename (_ == _) = false => hq
    exact absurd hq (by
      have e : Txt.item ⟨#[64, c2]⟩ 0 = Str.ofString "@" := rfl
      rw [e]; simp)
end
end
section
variable {prog : Program} {w : World} {A : Around} {E : Value → Shared → Prop} {s : Shared} {h₀ : Heap} {L : Addr} {m : Str → Option Value} {env : Env}
open LCg
noncomputable def SrcUS (prog : Program) (w : World) (A : Around) (h₀ : Heap) (L : Addr) (m : Str → Option Value) (env : Env) (elt : Expr) (x : Str) (scope : Scope) (cl : List (Str × Addr)) (Q : Value → Shared → Prop) (xv : Value) (s₁ : Shared) : Prop :=
  ∃ tx t news, xv = .str tx t ∧ A.handled = none ∧ Fr h₀ L s₁.heap m ∧ News h₀ L s₁.heap news ∧ tx.cps.size ≤ sizeLine ∧
      ∀ s₂ : Shared, (∃ h, s₂ = { s₁ with heap := h }) → CompRest prog w A h₀ L m env elt x scope cl s₂ (fun _ => True) (SignAt tx) (FinE h₀ L m s₂ Q) tx.cps.size 0 [] news
/-- a comprehension without test, over a text -/
theorem ListComp_US {elt iter : Expr} {x : Str} {px : Pos} {scope : Scope} {cl : List (Str × Addr)} {pos : Pos} {Q : Value → Shared → Prop} (_F₀ : Fr h₀ L s.heap m)
    (hclos : closureFor scope env = pure cl) (hcell : ∀ y ∈ scope.names, y.2 ≠ .cell) (hkind : scope.kind = .function)
    (hnames : ∀ y ∈ scope.names, y.2 = .local → scope.names.lookup y.1 = some .local) (hx : scope.names.lookup x = some .local)
    (h : wpAny (model prog w) A (eval iter env) (SrcUS prog w A h₀ L m env elt x scope cl Q) E s)
    (hs : ∀ x, foldedSetIterable iter env x = pure x := by intro _; rfl) :
    wpAny (model prog w) A (eval (.ListComp elt [⟨.Name x px, iter, [], 0⟩] scope pos) env) Q E s := by
  rw [eval_ListComp]
  refine wpAny_comprehension_free (use := none) rfl hs hclos hkind hnames (wpAny_mono h (fun xv s₁ h₁ => ?_) fun _ _ e => e)
  obtain ⟨tx, t, news, rfl, hh, F, N, hsz, R⟩ := h₁
  cases ha : tx.cps.all (· < 128)
  · refine wpAny_pyIter_wide ha ?_
    refine block_U (Walks.strWide hh _ tx t) hsz (fun i h st => by obtain ⟨o, e, _⟩ := st; exact ⟨o, e⟩) str_st hcell hkind hx ⟨_, Heap.get?_push_size _ rfl, rfl, rfl⟩ (fun b hb => ?_)
      (F.keeps fun _ _ e => Heap.get?_push_of_some _ e) (N.grown fun _ _ e => Heap.get?_push_of_some _ e) (Nat.ne_of_lt F.ns.lt) (next_is_new F) (fun p hp => Nat.ne_of_lt (Heap.lt_size (N p hp).1)) trivial (R _ ⟨_, rfl⟩) ?_
    · rw [List.mem_singleton.mp hb]
      show s₁.heap.objs.size < (s₁.heap.push _).objs.size
      rw [Heap.size_push]; exact Nat.lt_succ_self _
    · intro D C h tk m' ys news' F' N' o1 hn hC₀ hD₀ hCL hDL hCD offC fin
      refine ⟨m', hn, fun h'' hs'' => fin D h'' tk (F'.change hs'' hCL hC₀) (fun p hp => ?_) o1⟩
      refine ⟨hs''.extBut _ _ ?_ (N' p hp).1, (N' p hp).2⟩
      rcases List.mem_cons.mp hp with rfl | hp
      · exact Ne.symm hCD
      · exact offC p hp
  · refine wpAny_pyIter_ascii ha ?_
    refine block_U (Walks.strAscii hh _ tx t) hsz (fun i h st => by obtain ⟨o, e, _⟩ := st; exact ⟨o, e⟩) str_st hcell hkind hx ⟨_, Heap.get?_push_size _ rfl, rfl, rfl⟩ (fun b hb => ?_)
      (F.keeps fun _ _ e => Heap.get?_push_of_some _ e) (N.grown fun _ _ e => Heap.get?_push_of_some _ e) (Nat.ne_of_lt F.ns.lt) (next_is_new F) (fun p hp => Nat.ne_of_lt (Heap.lt_size (N p hp).1)) trivial (R _ ⟨_, rfl⟩) ?_
    · rw [List.mem_singleton.mp hb]
      show s₁.heap.objs.size < (s₁.heap.push _).objs.size
      rw [Heap.size_push]; exact Nat.lt_succ_self _
    · intro D C h tk m' ys news' F' N' o1 hn hC₀ hD₀ hCL hDL hCD offC fin
      refine ⟨m', hn, fun h'' hs'' => fin D h'' tk (F'.change hs'' hCL hC₀) (fun p hp => ?_) o1⟩
      refine ⟨hs''.extBut _ _ ?_ (N' p hp).1, (N' p hp).2⟩
      rcases List.mem_cons.mp hp with rfl | hp
      · exact Ne.symm hCD
      · exact offC p hp
/-- its turns, by what holds between them -/
theorem compU_ind {elt : Expr} {x : Str} {scope : Scope} {cl : List (Str × Addr)} {S : List (Addr × Obj) → Prop} {P : Nat → Value → Prop} {Fin : List Value → List (Addr × Obj) → Prop} {news : List (Addr × Obj)} {n : Nat} (Inv : Nat → List Value → Prop) (h0 : Inv 0 [])
    (step : ∀ i ys, i < n → Inv i ys → ∀ v I oI C oC D m₂ h tk (E' : Value → Shared → Prop), P i v → NsObj oC m₂ → m₂ x = some v → Fr h₀ L h m → News h₀ L h ((I, oI) :: (C, oC) :: (D, lst ys) :: news) → Off3 I C D news → ((@Ne Nat I C) ∧ (@Ne Nat I D) ∧ (@Ne Nat C D)) →
      wpAny (model prog w) A (eval elt (compEnvC scope cl C env)) (CompEnd h₀ L m { s with heap := h, toks := tk } I oI C oC D (lst ys) S (fun y news' => news' = news ∧ Inv (i + 1) (ys ++ [y]))) E' { s with heap := h, toks := tk })
    (fin : ∀ ys, Inv n ys → Fin ys news) : CompRest prog w A h₀ L m env elt x scope cl s S P Fin n 0 [] news := by
  have key : ∀ k i ys, i + k = n → Inv i ys → CompRest prog w A h₀ L m env elt x scope cl s S P Fin k i ys news := by
    intro k
    induction k with
    | zero => intro i ys hi hv; exact fin ys (by rw [← hi]; exact hv)
    | succ k ih =>
      intro i ys hi hv
      refine CompRest.succ fun v I oI C oC D m₂ h tk E' hP hC hx F N off ne => ?_
      exact wpAny_mono (step i ys (by omega) hv v I oI C oC D m₂ h tk E' hP hC hx F N off ne) (fun y s'' hy => compEnd_mono hy fun n' hr => by obtain ⟨rfl, hr⟩ := hr; exact ih (i + 1) _ (by omega) hr) fun _ _ e => e
  exact key n 0 [] (by omega) h0
end
theorem rs_L49 : True := by
  have h : (1 : Nat) = 1 := by walk1
  w_top off; exact trivial
section
local macro_rules | `(tactic| walk_at "eval ListComp") => `(tactic| ((with_reducible show wpAny _ _ (eval (Expr.ListComp _ _ _ _) _) _ _ _); refine halt ?_))
/-- a number with its token, as a value -/
noncomputable abbrev iv (q : Nat × Tok) : Value := .int (q.1 : Nat) q.2
theorem kl_cut_at : ∀ {vs : List Value} {k : Nat} {y : Value}, vs[k]? = some y → kl_cut vs k = some (vs.take k, y, vs.drop (k + 1))
  | [], _, _, h => by simp at h
  | x :: r, 0, y, h => by simp at h; subst h; rfl
  | x :: r, k + 1, y, h => by
    have h' : r[k]? = some y := by simpa using h
    unfold kl_cut
    rw [kl_cut_at h']
    rfl
section
variable {prog : Program} {w : World} {A : Around} {E : Value → Shared → Prop} {s : Shared} {h₀ h : Heap} {L D : Addr} {m : Str → Option Value} {news news' : List (Addr × Obj)}
theorem popn {i : Int} {u : Tok} {k : Nat} {y : Value} {vs : List Value} {n : Nat} {Q : Value → Shared → Prop} (F : Fr h₀ L s.heap m) (N : News h₀ L s.heap news) (hi : i = (k : Nat)) (hy : vs[k]? = some y)
    (U : Upd D (listOf vs.toArray n) (listOf (vs.eraseIdx k).toArray (n + 1)) news news')
    (hz : vs.length ≤ 1000) (hr : ∀ h', Fr h₀ L h' m → News h₀ L h' news' → Q y { s with heap := h' }) : wpAny (model prog w) A (call (.builtin "list.pop") [.ref D, .int i u]) Q E s := by
  subst hi
  have hk : k < vs.length := (List.getElem?_eq_some_iff.mp hy).1
  rw [List.eraseIdx_eq_take_drop_succ] at U
  refine kl_popAt (its := vs.toArray) (n := n) F N ?_ ?_ (kl_cut_at hy) U ?_ hr
  · unfold Builtin.List.listFitsIndex
    simp only [Bool.and_eq_true, decide_eq_true_eq]
    omega
  · unfold seqIndex?
    rw [List.size_toArray]
    have : ¬ ((k : Int) < 0) := by omega
    simp
    omega
  · rw [sizeLine_eq]; simp; omega
theorem truthy_news {vs : List Value} {n : Nat} {Q : Bool → Shared → Prop} (N : News h₀ L s.heap news) (hm : (D, listOf vs.toArray n) ∈ news) (hz : vs.length ≤ 1000)
    (hr : Q (!vs.isEmpty) { s with toks := s.toks + 1 + 1 }) : wpAny (model prog w) A (truthy (.ref D)) Q E s := by
  refine wpAny_truthy_list (items := vs.toArray) ⟨_, (N _ hm).1, rfl, n, rfl⟩ (by rw [List.size_toArray]; omega) ?_
  rw [List.isEmpty_toArray]
  exact hr
theorem len_news {vs : List Value} {n : Nat} {Q : Value → Shared → Prop} (N : News h₀ L s.heap news) (hm : (D, listOf vs.toArray n) ∈ news) (hz : vs.length ≤ 1000)
    (hr : ∀ t tk, Q (.int (vs.length : Nat) t) { s with toks := tk }) : wpAny (model prog w) A (call (.builtin "len") [.ref D]) Q E s := by
  refine call_len_list (items := vs.toArray) ⟨_, (N _ hm).1, rfl, n, rfl⟩ (by rw [List.size_toArray]; omega) ?_
  rw [List.size_toArray]
  exact hr _ _
theorem range_news {r : Addr} {sz : Int} {t₀ u₀ v₀ : Tok} {Q : Value → Shared → Prop} (hh : A.handled = none) (F : Fr h₀ L s.heap m) (N : News h₀ L s.heap news) (hr : IsRange s.heap r 1 sz 1 t₀ u₀ v₀) {c : Nat} (hz : sz = (c : Nat) + 1) (hc : c ≤ 10)
    (h : ∀ D (us : List (Nat × Tok)) c' h' tk, Fr h₀ L h' m → News h₀ L h' ((D, listOf (us.map iv).toArray c') :: news) → (∀ p ∈ news, p.1 < D) → us.map (·.1) = (List.range c).map (· + 1) → Q (.ref D) { s with heap := h', toks := tk }) :
    wpAny (model prog w) A (call (.type "list") [.ref r]) Q E s := by
  subst hz
  refine kll_range (n := c) hh F N hr ?_ ?_ (by omega) ?_
  · exact small_one (by omega) (by omega) (by omega) (by omega)
  · unfold Builtin.Range.rangeSize
    simp
    omega
  · intro D us c' h' tk F' N' lt hi
    obtain ⟨us', rfl, e⟩ : ∃ us' : List (Nat × Tok), us = us'.map iv ∧ us'.map (·.1) = (List.range c).map (· + 1) := by
      have key : ∀ (c a : Nat) (us : List Value), IntsAre us (rangeKs ((a : Nat) + 1 : Int) c) → ∃ us' : List (Nat × Tok), us = us'.map iv ∧ us'.map (·.1) = (List.range c).map (· + (a + 1)) := by
        intro c
        induction c with
        | zero =>
          intro a us h
          cases h
          exact ⟨[], rfl, rfl⟩
        | succ c ih =>
          intro a us h
          rw [kll_cons] at h
          cases h with
          | @cons _ t _ _ h =>
            obtain ⟨us', rfl, e⟩ := ih (a + 1) _ (by simpa using h)
            refine ⟨(a + 1, t) :: us', by simp, ?_⟩
            rw [List.range_succ_eq_map, List.map_cons, e, List.map_cons, List.map_map]
            congr 1
            · simp
            · apply List.map_congr_left
              intro i _
              simp
              omega
      exact key c 0 us (by simpa using hi)
    exact h D us' c' h' tk F' N' lt e
end
section
variable {prog : Program} {w : World} {A : Around} {E : Value → Shared → Prop} {s : Shared} {h₀ h : Heap} {L D : Addr} {m : Str → Option Value} {news news' : List (Addr × Obj)}
theorem divmod_nat {k n : Nat} {t u : Tok} {Q : Value → Shared → Prop} (F : Fr h₀ L s.heap m) (N : News h₀ L s.heap news) (hn : 0 < n) (hn2 : n ≤ 1000) (hk : k ≤ 100000)
    (hr : ∀ D h' t1 t2 tk, Fr h₀ L h' m → News h₀ L h' ((D, tupO [.int (k / n : Nat) t1, .int (k % n : Nat) t2]) :: news) → (∀ p ∈ news, p.1 < D) → Q (.ref D) { s with toks := tk, heap := h' }) :
    wpAny (model prog w) A (call (.builtin "divmod") [.int (k : Nat) t, .int (n : Nat) u]) Q E s := by
  have hb : ((n : Nat) : Int) ≠ 0 := by omega
  refine divmod_N F N hb (fun h' F' N' => ?_) (Or.inl (PyProof.noPylong_small (by omega)))
  have e1 : ((k : Nat) : Int).fdiv ((n : Nat) : Int) = ((k / n : Nat) : Int) := by
    rw [Int.fdiv_eq_ediv_of_nonneg _ (Int.natCast_nonneg n)]; simp
  have e2 : ((k : Nat) : Int).fmod ((n : Nat) : Int) = ((k % n : Nat) : Int) := by
    rw [Int.fmod_eq_emod_of_nonneg _ (Int.natCast_nonneg n)]; simp
  rw [e1, e2] at N'
  exact hr _ _ _ _ _ F' N' (fun p hp => Heap.lt_size (N p hp).1)
end
local macro_rules | `(tactic| walk_at "call builtin:list.pop") => `(tactic| ((with_reducible show wpAny _ _ (call (Value.builtin "list.pop") [Value.ref _, Value.int _ _]) _ _ _); refine halt ?_))
local macro_rules | `(tactic| walk_at "call builtin:len") => `(tactic| ((with_reducible show wpAny _ _ (call (Value.builtin "len") [Value.ref _]) _ _ _); refine halt ?_))
local macro_rules | `(tactic| walk_at "call builtin:divmod") => `(tactic| (refine halt ?_))
local macro_rules | `(tactic| walk_at "call builtin:list.append") => `(tactic| ((with_reducible show wpAny _ _ (call (Value.builtin "list.append") [Value.ref _, Value.ref _]) _ _ _); refine halt ?_))
local macro_rules | `(tactic| walk_at "exec While") => `(tactic| (refine halt ?_))
local macro_rules | `(tactic| walk_at "truthy ref") => `(tactic| (refine halt ?_))
local macro_rules | `(tactic| walk_at "call type:list") => `(tactic| (refine halt ?_))
noncomputable def whBody : Stmt → List Stmt | .While _ b _ _ => b | _ => []
noncomputable def prBody : List Stmt := whBody ((fdB (stm 64))[2]!)
noncomputable abbrev prEnv (L' : Addr) : Env := envOf (Str.ofString "_law_pairs") (fdS (stm 64)) L' 353 (Value.ref 352)
noncomputable abbrev prMap (PL PA : Addr) (k : Nat) (tn : Tok) (u : Str → Option Value) : Str → Option Value := fun y => if y = Str.ofString "places" then some (.ref PL) else if y = Str.ofString "pairs" then some (.ref PA) else if y = Str.ofString "number" then some (.int (k : Nat) tn) else u y
theorem Fr.pr {PL PA : Addr} {k : Nat} {tn : Tok} {g h : Heap} {L' : Addr} {m : Str → Option Value} (F : Fr g L' h m) (h1 : m (Str.ofString "places") = some (.ref PL)) (h2 : m (Str.ofString "pairs") = some (.ref PA)) (h3 : m (Str.ofString "number") = some (.int (k : Nat) tn)) : ∃ u, Fr g L' h (prMap PL PA k tn u) :=
  ⟨m, by
    have e : m = prMap PL PA k tn m := by
      funext y
      unfold prMap
      split
      · next e => rw [e, h1]
      · split
        · next e => rw [e, h2]
        · split
          · next e => rw [e, h3]
          · rfl
    rw [← e]; exact F⟩
noncomputable abbrev prEntry (q : Addr × (Nat × Tok) × (Nat × Tok)) : Addr × Obj := (q.1, PairO q)
section
variable {w : World} {p : Program} {loose : List Str} {mean : ExcName → Option Value} {mg mb : Str → Option Value} {dp un : Nat} {gd : Option (List Code)} {cn : Str} {cs : Scope} {a : Addr} {ccd : Value} {cl : List (Str × Addr)} {outer : List Env} {A₀ : Around} {baseH h₀ : Heap} {L : Addr} {m : Str → Option Value} {news : List (Addr × Obj)} {s : Shared} {Q E : Value → Shared → Prop}
set_option maxHeartbeats 2000000
theorem pairs_turn {base : List (Addr × Obj)} {g : Heap} {L' PL PA : Addr} {x : Nat × Tok} {r : List (Nat × Tok)} {prs : List (Addr × (Nat × Tok) × (Nat × Tok))} {k c1 c2 : Nat} {tn : Tok} {u : Str → Option Value} {Q : Flow → Shared → Prop}
  (B' : Below (ktrTop 880 4800 gd cn cs L a ccd cl outer) baseH (envX cn cs L a ccd cl :: outer) g) (F' : Fr g L' s.heap (prMap PL PA k tn u)) (X' : (KF w.params).In g)
  (N' : News g L' s.heap ((PL, listOf ((x :: r).map iv).toArray c1) :: (PA, listOf (prs.map fun q => Value.ref q.1).toArray c2) :: (prs.map prEntry ++ base))) (T' : Top p loose mean mg mb g)
  (hb : ∀ p ∈ base, p.1 < PL) (hPP : PL < PA) (hpr : ∀ q ∈ prs, PA < q.1) (hr0 : 0 < r.length) (hr2 : r.length ≤ 6) (hk : k < 1000) (hp2 : prs.length ≤ 10)
  (hret : ∀ h' tk T y c1' c2' u' tn2, Fr g L' h' (prMap PL PA (k / r.length) tn2 u') → News g L' h' ((PL, listOf ((r.eraseIdx (k % r.length)).map iv).toArray c1') :: (PA, listOf ((prs ++ [(T, x, y)]).map fun q => Value.ref q.1).toArray c2') :: ((prs ++ [(T, x, y)]).map prEntry ++ base)) → PA < T → r[k % r.length]? = some y → Q .next { s with heap := h', toks := tk }) :
  wpAny (model PySem.Challenge.rw_wc0034_01.row.prog w) ((ktrTop 880 4800 gd cn cs L a ccd cl outer).deeper (prEnv L')) (execs prBody (prEnv L')) Q Nev s := by
  have e1 : ∀ p ∈ prs.map prEntry ++ base, p.1 ≠ PL := by
    intro p hp
    rcases List.mem_append.mp hp with hp | hp
    · obtain ⟨q, hq, rfl⟩ := List.mem_map.mp hp
      have := hpr q hq
      exact Nat.ne_of_gt (Nat.lt_trans hPP this)
    · exact Nat.ne_of_lt (hb p hp)
  have e2 : ∀ p ∈ prs.map prEntry ++ base, p.1 ≠ PA := by
    intro p hp
    rcases List.mem_append.mp hp with hp | hp
    · obtain ⟨q, hq, rfl⟩ := List.mem_map.mp hp
      have := hpr q hq
      exact Nat.ne_of_gt this
    · exact Nat.ne_of_lt (Nat.lt_trans (hb p hp) hPP)
  simp only [List.map_cons] at N'
  generalize hR : prs.map prEntry ++ base = R at N' e1 e2
  have e3 : PL ≠ PA := Nat.ne_of_lt hPP
  have e4 : ∀ p ∈ ((PA, listOf (prs.map fun q => Value.ref q.1).toArray c2) :: R : List (Addr × Obj)), p.1 ≠ PL := by
    intro p hp
    rcases List.mem_cons.mp hp with rfl | hp
    · exact Ne.symm e3
    · exact e1 p hp
  revert X'; k_fill; intro X'
  k_steps
  show wpAny _ _ _ _ _ _
  refine' popn (k := 0) (vs := iv x :: r.map iv) ?k1 ?k2 rfl rfl ?k3 ?k4 ?_
  case k1 => k_asm
  case k2 => k_asm
  case k3 => exact Upd.head e4
  case k4 => simp; omega
  intro h1 F1 N1
  simp only [List.eraseIdx_cons_zero] at N1
  k_steps
  show wpAny _ _ _ _ _ _
  refine' len_news (vs := r.map iv) ?k1 ?k2 ?k3 ?_
  case k1 => k_asm
  case k2 => walk_at "mine mem"
  case k3 => simp; omega
  intro t2 tk2
  rw [List.length_map]
  k_steps
  show wpAny _ _ _ _ _ _
  refine' divmod_nat ?k1 ?k2 hr0 (by omega) (by omega) ?_
  case k1 => k_asm
  case k2 => k_asm
  intro D3 h3 t3 u3 tk3 F3 N3 l3
  k_steps
  show wpAny _ _ _ _ _ _
  obtain ⟨y, hy⟩ : ∃ y, r[k % r.length]? = some y := ⟨_, List.getElem?_eq_getElem (Nat.mod_lt _ hr0)⟩
  have l4 : D3 ≠ PL := Nat.ne_of_gt (l3 _ (.head _))
  have l5 : D3 ≠ PA := Nat.ne_of_gt (l3 _ (.tail _ (.head _)))
  refine' popn (k := k % r.length) (vs := r.map iv) (y := iv y) ?k1 ?k2 rfl ?k5 ?k3 ?k4 ?_
  case k1 => k_asm
  case k2 => k_asm
  case k5 => rw [List.getElem?_map, hy]; rfl
  case k3 => exact Upd.tail l4 (Upd.head e4)
  case k4 => simp; omega
  intro h5 F5 N5
  rw [show (r.map iv).eraseIdx (k % r.length) = (r.eraseIdx (k % r.length)).map iv from by rw [List.eraseIdx_eq_take_drop_succ, List.eraseIdx_eq_take_drop_succ, List.map_append, List.map_take, List.map_drop]] at N5
  k_steps
  show wpAny _ _ _ _ _ _
  rename_i lz
  rename Fr g L' _ _ => F6
  rename News g L' _ _ => N6
  refine' append_K (its := (prs.map fun q => Value.ref q.1).toArray) (n := c2) F6 N6 (Upd.tail (Nat.ne_of_gt lz.2.2.1) (Upd.tail l5 (Upd.tail e3 (Upd.head e2)))) ?_ ?z
  case z => rw [sizeLine_eq, List.size_toArray, List.length_map]; omega
  intro h7 F7 N7
  k_steps
  obtain ⟨u7, F8⟩ := Fr.pr (PL := PL) (PA := PA) (k := k / r.length) (tn := t3) F7 rfl rfl rfl
  rw [List.push_toArray] at N7
  refine hret _ _ _ y (c1 + 1 + 1) (c2 + 1) u7 t3 F8 ?_ lz.2.2.1 hy
  refine news_sub N7 ?_
  subst hR
  intro p hp
  rw [List.map_append] at hp
  rcases List.mem_cons.mp hp with rfl | hp
  · exact .tail _ (.tail _ (.head _))
  rcases List.mem_cons.mp hp with rfl | hp
  · exact .tail _ (.tail _ (.tail _ (.head _)))
  rcases List.mem_append.mp hp with hp | hp
  · rw [List.map_append] at hp
    rcases List.mem_append.mp hp with hp | hp
    · exact .tail _ (.tail _ (.tail _ (.tail _ (List.mem_append.mpr (.inl hp)))))
    · rcases List.mem_singleton.mp hp with rfl
      exact .head _
  · exact .tail _ (.tail _ (.tail _ (.tail _ (List.mem_append.mpr (.inr hp)))))
/-- the pairs that the places give -/
noncomputable def pairsOf : Nat → List Nat → Nat → List (Nat × Nat)
  | 0, _, _ => []
  | _ + 1, [], _ => []
  | n + 1, x :: r, k => (x, r.getD (k % r.length) 0) :: pairsOf n (r.eraseIdx (k % r.length)) (k / r.length)
theorem places_loop {base : List (Addr × Obj)} {g : Heap} {L' PL PA : Addr} {Q : Flow → Shared → Prop} {z : Pos}
  (B' : Below (ktrTop 880 4800 gd cn cs L a ccd cl outer) baseH (envX cn cs L a ccd cl :: outer) g) (X' : (KF w.params).In g) (T' : Top p loose mean mg mb g)
  (hb : ∀ p ∈ base, p.1 < PL) (hPP : PL < PA) (n : Nat) : ∀ (q : List (Nat × Tok)) (prs : List (Addr × (Nat × Tok) × (Nat × Tok))) (k c1 c2 : Nat) (tn : Tok) (u : Str → Option Value) (s : Shared)
  (hq : q.length = 2 * n) (hn : n ≤ 3) (hpr : ∀ e ∈ prs, PA < e.1) (hp2 : prs.length + n ≤ 6) (hk : k < 1000)
  (F' : Fr g L' s.heap (prMap PL PA k tn u))
  (N' : News g L' s.heap ((PL, listOf (q.map iv).toArray c1) :: (PA, listOf (prs.map fun q => Value.ref q.1).toArray c2) :: (prs.map prEntry ++ base)))
  (hret : ∀ (h' : Heap) (tk : Nat) (c1' c2' k' : Nat) (u' : Str → Option Value) (tn2 : Tok) (prs' : List (Addr × (Nat × Tok) × (Nat × Tok))), Fr g L' h' (prMap PL PA k' tn2 u') → News g L' h' ((PL, listOf #[] c1') :: (PA, listOf (prs'.map fun q => Value.ref q.1).toArray c2') :: (prs'.map prEntry ++ base)) → (∀ e ∈ prs', PA < e.1) → prs'.map nums = prs.map nums ++ pairsOf n (q.map (·.1)) k → Q .next { s with heap := h', toks := tk }),
  WhlRest PySem.Challenge.rw_wc0034_01.row.prog w ((ktrTop 880 4800 gd cn cs L a ccd cl outer).deeper (prEnv L')) Nev (prEnv L') (.Name (Str.ofString "places") z) prBody [] Q 0 s := by
  induction n with
  | zero =>
    intro q prs k c1 c2 tn u s hq hn hpr hp2 hk F' N' hret
    obtain rfl : q = [] := List.length_eq_zero_iff.mp (by omega)
    refine whl_turn (k := 0) ?_ ?_
    · walk_at "PassesOwn"
    revert X'; k_fill; intro X'
    k_steps
    show wpAny _ _ _ _ _ _
    refine truthy_news (vs := []) N' (.head _) (by simp) ?_
    refine WhlIf.no rfl ?_
    k_steps
    refine hret _ _ c1 c2 k u tn prs F' N' hpr ?_
    simp [pairsOf]
  | succ n ih =>
    intro q prs k c1 c2 tn u s hq hn hpr hp2 hk F' N' hret
    obtain ⟨x, r, rfl⟩ : ∃ x r, q = x :: r := by
      cases q with
      | nil => simp at hq
      | cons x r => exact ⟨x, r, rfl⟩
    have hr1 : r.length = 2 * n + 1 := by simp at hq; omega
    have X₀ := X'
    refine whl_turn (k := 0) ?_ ?_
    · walk_at "PassesOwn"
    revert X'; k_fill; intro X'
    k_steps
    show wpAny _ _ _ _ _ _
    refine truthy_news (vs := (x :: r).map iv) N' (.head _) (by simp; omega) ?_
    refine WhlIf.yes rfl ?_
    refine pairs_turn (base := base) (x := x) (r := r) (prs := prs) (k := k) B' F' X₀ N' T' hb hPP hpr (by omega) (by omega) hk (by omega) ?_
    intro h' tk T y c1' c2' u' tn2 F2 N2 lT hy
    show WhlRest _ _ _ _ _ _ _ _ _ 0 _
    refine ih (r.eraseIdx (k % r.length)) (prs ++ [(T, x, y)]) (k / r.length) c1' c2' tn2 u' _ ?_ (by omega) ?_ (by simp; omega) (Nat.lt_of_le_of_lt (Nat.div_le_self _ _) hk) F2 N2 ?_
    · rw [List.length_eraseIdx, if_pos (Nat.mod_lt _ (by omega))]; omega
    · intro e he
      rcases List.mem_append.mp he with he | he
      · exact hpr e he
      · rcases List.mem_singleton.mp he with rfl
        exact lT
    · intro h2 tk2 c3 c4 k' u2 tn3 prs' F3 N3 hp3 e3
      refine hret h2 tk2 c3 c4 k' u2 tn3 prs' F3 N3 hp3 ?_
      rw [e3, List.map_append, List.append_assoc]
      congr 1
      simp only [List.map_cons, List.map_nil, pairsOf, List.length_map, List.cons_append, List.nil_append, nums]
      congr 1
      · rw [List.getD_eq_getElem?_getD, List.getElem?_map, hy]; rfl
      · rw [List.eraseIdx_eq_take_drop_succ, List.eraseIdx_eq_take_drop_succ, List.map_append, List.map_take, List.map_drop]
theorem pairs_ct {ts tn : Tok} {n k : Nat} (hn : n = 2 ∨ n = 3) (hkn : k < 1000)
  (B : Below A₀ baseH outer h₀) (F : Fr h₀ L s.heap m) (X : (KF w.params).In h₀) (N : News h₀ L s.heap news) (T : Top p loose mean mg mb h₀) (hk : cs.kind = .function)
  (hdp : dp ≤ 880) (hun : un ≤ 4800)
  (hret : ∀ h' tk PA c2 (prs : List (Addr × (Nat × Tok) × (Nat × Tok))), Fr h₀ L h' m → News h₀ L h' ((PA, listOf (prs.map fun q => Value.ref q.1).toArray c2) :: (prs.map prEntry ++ news)) → (∀ p ∈ news, p.1 < PA) → (∀ e ∈ prs, PA < e.1) → prs.map nums = pairsOf n ((List.range (2 * n)).map (· + 1)) k → Q (.ref PA) { s with heap := h', toks := tk }) :
  wpAny (model PySem.Challenge.rw_wc0034_01.row.prog w) (ktrTop dp un gd cn cs L a ccd cl outer) (call (.ref 353) [.int ((2 * n : Nat) + 1 : Int) ts, .int (k : Nat) tn]) Q E s := by
  refine up hdp hun ?_
  have X₀ := X
  revert X; k_fill; intro X
  walk_at "mine enter"
  k_steps
  show wpAny _ _ _ _ _ _
  rename IsRange _ _ _ _ _ _ _ _ => hR
  rename Fr _ _ _ _ => F1
  rename News _ _ _ _ => N1
  refine range_news (c := 2 * n) rfl F1 N1 hR (by simp) (by omega) ?_
  clear F1 N1
  intro PL us c1 h1 tk1 F1 N1 lP eus
  k_steps
  show wpAny _ _ _ _ _ _
  rename Fr g' L' _ _ => F2
  rename News g' L' _ _ => N2
  rename _ ∧ _ => lA
  refine no_err (whl_start 0 ?_)
  obtain ⟨u5, F5⟩ := Fr.pr (k := k) (tn := tn) F2 rfl rfl rfl
  refine places_loop (base := news) B' X' T' lP lA.1 n us [] k c1 0 tn u5 _ ?ql (by omega) (fun e he => absurd he List.not_mem_nil) ?qm hkn ?qf ?qn ?qr
  case ql =>
    have := congrArg List.length eus
    simpa using this
  case qm => simp; omega
  case qf => exact F5
  case qn => exact news_sub N2 (by walk_at "mine sub")
  case qr =>
    intro h' tk' c3 c4 k' u' tn2 prs' F7 N7 hp7 e7
    k_steps
    rename Fr h₀ L _ _ => F9
    rename News h₀ L _ _ => N9
    refine hret _ _ _ c4 prs' F9 (news_sub N9 fun p hp => .tail _ hp) (fun p hp => Nat.lt_trans (lP p hp) lA.1) hp7 ?_
    rw [e7, eus]
    rfl
end
end
theorem rs_L50 : True := by
  have h : (1 : Nat) = 1 := by walk1
  w_top off; exact trivial
section
local macro_rules | `(tactic| walk_at "CompEnd") => `(tactic| (refine LCg.CompEnd.intro (by assumption) (by assumption) _ (fun p hp => hp) (by assumption) (Or.inr ⟨_, (by walk_at "mine mem"), rfl, _, rfl⟩) ?_))
local macro_rules | `(tactic| walk_at "subscriptTail") => `(tactic| ((with_reducible show wpAny _ _ (subscriptTail (PySem.Expr.List _ _) (PySem.Expr.Slice _ _ _ _) (Value.ref _) (Value.ref _)) _ _ _); refine halt ?_))
local macro_rules | `(tactic| walk_at "last subscriptTail") => `(tactic| ((with_reducible show wpAny _ _ (subscriptTail (PySem.Expr.List _ _) (PySem.Expr.Slice _ _ _ _) (Value.ref _) (Value.ref _)) _ _ _); refine halt ?_))
local macro_rules | `(tactic| walk_at "subscriptTail List Slice ref ref") => `(tactic| ((with_reducible show wpAny _ _ (subscriptTail (PySem.Expr.List _ _) (PySem.Expr.Slice _ _ _ _) (Value.ref _) (Value.ref _)) _ _ _); refine halt ?_))
local macro_rules | `(tactic| walk_at "mine ltz") => `(tactic| (rename _ ∧ _ => lz9; first | exact allLt_mem lz9.2 | exact allLt_mem lz9.2.2 | exact allLt_mem lz9.2.2.2 | exact allLt_mem lz9.2.2.2.2 | exact allLt_mem lz9.2.2.2.2.2))
noncomputable abbrev lwTop (dp un : Nat) (gd : Option (List Code)) (outer : List Env) : Around := { handled := none, depth := dp, frames := some outer, guards := gd, units := un }
noncomputable abbrev lwEnv (L' : Addr) : Env := envOfC (Str.ofString "law") (fdS (stm 67)) L' 368 (Value.ref 367)
noncomputable def numD (i : Nat) : Int := [0, 11, 1].getD i 0
/-- the number that the script gives at place i -/
noncomputable def numOf (xs : List Int) (i : Nat) : Nat := ((xs.getD i (numD i)).fmod 210).toNat
theorem numOf_eq (x : Int) : x.fmod 210 = ((x.fmod 210).toNat : Nat) := (Int.toNat_of_nonneg (Int.fmod_nonneg_of_pos x (by decide))).symm
theorem numOf_lt (xs : List Int) (i : Nat) : numOf xs i < 210 := by
  unfold numOf
  have := Int.fmod_lt_of_pos (xs.getD i (numD i)) (b := 210) (by decide)
  omega
theorem picks_from (l : List Value) (k : Nat) : kms_pick l (some (k : Int)) none = l.drop k := by
  unfold kms_pick kms_lo kms_hi
  have h : ¬ ((k : Int) < 0) := by omega
  simp only [if_neg h, Int.toNat_natCast]
  rw [kmk_drop_min, List.take_of_length_le]
  rw [List.length_drop]
  omega
theorem news_hd {g hp : Heap} {L : Addr} {x : Addr × Obj} {l r : List (Addr × Obj)} (N : News g L hp (x :: l)) (sub : ∀ p ∈ r, p ∈ l) : News g L hp (x :: r) :=
  news_sub N fun p hp => by
    rcases List.mem_cons.mp hp with rfl | hp
    · exact .head _
    · exact .tail _ (sub p hp)
section
variable {w : World} {p : Program} {loose : List Str} {mean : ExcName → Option Value} {mg mb : Str → Option Value} {dp un : Nat} {gd : Option (List Code)} {cn : Str} {cs : Scope} {a : Addr} {ccd : Value} {cl : List (Str × Addr)} {outer : List Env} {A₀ : Around} {baseH h₀ : Heap} {L : Addr} {m : Str → Option Value} {news : List (Addr × Obj)} {s : Shared} {Q E : Value → Shared → Prop}
set_option maxHeartbeats 2000000
theorem isList_fr {g hp : Heap} {L la : Addr} {m : Str → Option Value} {its : Array Value} (F : Fr g L hp m) (hl : g.IsList la its) : hp.IsList la its := let ⟨o, e, r⟩ := hl; ⟨o, F.keep _ _ e, r⟩
theorem law_numbers3 {g : Heap} {L' la : Addr} {x y z : Int} {tx ty tz : Tok} {rest : List Value} {u : Str → Option Value} {Q : Flow → Shared → Prop}
  (B' : Below (lwTop 800 4000 gd outer) baseH (outer) g) (F' : Fr g L' s.heap (fun y => if y = Str.ofString "script" then some (.ref la) else u y)) (X' : (KF w.params).In g)
  (N' : News g L' s.heap news) (T' : Top p loose mean mg mb g) (hla : g.IsList la (.int x tx :: .int y ty :: .int z tz :: rest).toArray) (hz : rest.length ≤ 900)
  (hret : ∀ (h' : Heap) (tk : Nat) (nl : Addr) (c : Nat) (t0 t1 t2 : Tok) (u' : Str → Option Value), Fr g L' h' (fun y => if y = Str.ofString "numbers" then some (.ref nl) else u' y) → News g L' h' ((nl, listOf #[.int (x.fmod 210) t0, .int (y.fmod 210) t1, .int (z.fmod 210) t2] c) :: news) → (∀ p ∈ news, p.1 < nl) → Q .next { s with heap := h', toks := tk }) :
  wpAny (model PySem.Challenge.rw_wc0034_01.row.prog w) ((lwTop 800 4000 gd outer).deeper (lwEnv L')) (exec ((fdB (stm 67))[0]!) (lwEnv L')) Q Nev s := by
  revert X'; k_fill; intro X'
  show wpAny _ _ (exec (Stmt.Assign _ _ _) _) _ _ _
  k_steps
  refine call_len_list (items := (.int x tx :: .int y ty :: .int z tz :: rest).toArray) (isList_fr (by k_asm) hla) (by simp; omega) ?_
  k_steps
  show wpAny _ _ _ _ _ _
  refine kba_turn (value' := PySem.Expr.Name (PySem.Str.ofString "_") ⟨0, 0, 0, 0⟩) (fun _ => rfl) ?_
  refine' kms_slice_lit (zs := []) ?zpF ?zpN ?zpl ?zpp ?zpq ?zpe ?_ ?zps ?zpt ?zpz
  case zpF => k_asm
  case zpN => k_asm
  case zpl => exact News.isList (by k_asm) (.head _)
  case zpp => exact IsPart.int _ _
  case zpq => exact IsPart.none
  case zpe => rw [picks_from]; simp
  case zps => with_unfolding_all rfl
  case zpt => kmk_pure
  case zpz => exact Nat.le_of_ble_eq_true rfl
  intro D9 h9 F9 N9 l9
  k_steps
  rename Fr g L' _ _ => Fz
  rename News g L' _ _ => Nz
  refine' hret _ _ _ _ _ _ _ _ Fz (news_hd Nz ?zsub) ?zlt
  case zsub => walk_at "mine sub"
  case zlt =>
    walk_at "mine ltz"
theorem law_numbers0 {g : Heap} {L' la : Addr} {u : Str → Option Value} {Q : Flow → Shared → Prop}
  (B' : Below (lwTop 800 4000 gd outer) baseH (outer) g) (F' : Fr g L' s.heap (fun y => if y = Str.ofString "script" then some (.ref la) else u y)) (X' : (KF w.params).In g)
  (N' : News g L' s.heap news) (T' : Top p loose mean mg mb g) (hla : g.IsList la (([] : List Value)).toArray)
  (hret : ∀ (h' : Heap) (tk : Nat) (nl : Addr) (c : Nat) (t0 t1 t2 : Tok) (u' : Str → Option Value), Fr g L' h' (fun y => if y = Str.ofString "numbers" then some (.ref nl) else u' y) → News g L' h' ((nl, listOf #[.int (0) t0, .int (11) t1, .int (1) t2] c) :: news) → (∀ p ∈ news, p.1 < nl) → Q .next { s with heap := h', toks := tk }) :
  wpAny (model PySem.Challenge.rw_wc0034_01.row.prog w) ((lwTop 800 4000 gd outer).deeper (lwEnv L')) (exec ((fdB (stm 67))[0]!) (lwEnv L')) Q Nev s := by
  revert X'; k_fill; intro X'
  show wpAny _ _ (exec (Stmt.Assign _ _ _) _) _ _ _
  k_steps
  show wpAny _ _ _ _ _ _
  refine kba_turn (value' := PySem.Expr.Name (PySem.Str.ofString "_") ⟨0, 0, 0, 0⟩) (fun _ => rfl) ?_
  refine' kms_slice_lit (zs := [.int 0 _, .int 11 _, .int 1 _]) ?zpF ?zpN ?zpl ?zpp ?zpq ?zpe ?_ ?zps ?zpt ?zpz
  case zpF => k_asm
  case zpN => k_asm
  case zpl => exact News.isList (by k_asm) (.head _)
  case zpp => exact IsPart.int _ _
  case zpq => exact IsPart.none
  case zpe => rfl
  case zps => with_unfolding_all rfl
  case zpt => kmk_pure
  case zpz => exact Nat.le_of_ble_eq_true rfl
  intro D9 h9 F9 N9 l9
  k_steps
  rename Fr g L' _ _ => Fz
  rename News g L' _ _ => Nz
  refine' hret _ _ _ _ _ _ _ _ Fz (news_hd Nz ?zsub) ?zlt
  case zsub => walk_at "mine sub"
  case zlt => walk_at "mine ltz"
theorem law_numbers1 {g : Heap} {L' la : Addr} {x : Int} {tx : Tok} {u : Str → Option Value} {Q : Flow → Shared → Prop}
  (B' : Below (lwTop 800 4000 gd outer) baseH (outer) g) (F' : Fr g L' s.heap (fun y => if y = Str.ofString "script" then some (.ref la) else u y)) (X' : (KF w.params).In g)
  (N' : News g L' s.heap news) (T' : Top p loose mean mg mb g) (hla : g.IsList la (.int x tx :: ([] : List Value)).toArray)
  (hret : ∀ (h' : Heap) (tk : Nat) (nl : Addr) (c : Nat) (t0 t1 t2 : Tok) (u' : Str → Option Value), Fr g L' h' (fun y => if y = Str.ofString "numbers" then some (.ref nl) else u' y) → News g L' h' ((nl, listOf #[.int (x.fmod 210) t0, .int (11) t1, .int (1) t2] c) :: news) → (∀ p ∈ news, p.1 < nl) → Q .next { s with heap := h', toks := tk }) :
  wpAny (model PySem.Challenge.rw_wc0034_01.row.prog w) ((lwTop 800 4000 gd outer).deeper (lwEnv L')) (exec ((fdB (stm 67))[0]!) (lwEnv L')) Q Nev s := by
  revert X'; k_fill; intro X'
  show wpAny _ _ (exec (Stmt.Assign _ _ _) _) _ _ _
  k_steps
  show wpAny _ _ _ _ _ _
  refine kba_turn (value' := PySem.Expr.Name (PySem.Str.ofString "_") ⟨0, 0, 0, 0⟩) (fun _ => rfl) ?_
  refine' kms_slice_lit (zs := [.int 11 _, .int 1 _]) ?zpF ?zpN ?zpl ?zpp ?zpq ?zpe ?_ ?zps ?zpt ?zpz
  case zpF => k_asm
  case zpN => k_asm
  case zpl => exact News.isList (by k_asm) (.head _)
  case zpp => exact IsPart.int _ _
  case zpq => exact IsPart.none
  case zpe => rfl
  case zps => with_unfolding_all rfl
  case zpt => kmk_pure
  case zpz => exact Nat.le_of_ble_eq_true rfl
  intro D9 h9 F9 N9 l9
  k_steps
  rename Fr g L' _ _ => Fz
  rename News g L' _ _ => Nz
  refine' hret _ _ _ _ _ _ _ _ Fz (news_hd Nz ?zsub) ?zlt
  case zsub => walk_at "mine sub"
  case zlt => walk_at "mine ltz"
theorem law_numbers2 {g : Heap} {L' la : Addr} {x y : Int} {tx ty : Tok} {u : Str → Option Value} {Q : Flow → Shared → Prop}
  (B' : Below (lwTop 800 4000 gd outer) baseH (outer) g) (F' : Fr g L' s.heap (fun y => if y = Str.ofString "script" then some (.ref la) else u y)) (X' : (KF w.params).In g)
  (N' : News g L' s.heap news) (T' : Top p loose mean mg mb g) (hla : g.IsList la (.int x tx :: .int y ty :: ([] : List Value)).toArray)
  (hret : ∀ (h' : Heap) (tk : Nat) (nl : Addr) (c : Nat) (t0 t1 t2 : Tok) (u' : Str → Option Value), Fr g L' h' (fun y => if y = Str.ofString "numbers" then some (.ref nl) else u' y) → News g L' h' ((nl, listOf #[.int (x.fmod 210) t0, .int (y.fmod 210) t1, .int (1) t2] c) :: news) → (∀ p ∈ news, p.1 < nl) → Q .next { s with heap := h', toks := tk }) :
  wpAny (model PySem.Challenge.rw_wc0034_01.row.prog w) ((lwTop 800 4000 gd outer).deeper (lwEnv L')) (exec ((fdB (stm 67))[0]!) (lwEnv L')) Q Nev s := by
  revert X'; k_fill; intro X'
  show wpAny _ _ (exec (Stmt.Assign _ _ _) _) _ _ _
  k_steps
  show wpAny _ _ _ _ _ _
  refine kba_turn (value' := PySem.Expr.Name (PySem.Str.ofString "_") ⟨0, 0, 0, 0⟩) (fun _ => rfl) ?_
  refine' kms_slice_lit (zs := [.int 1 _]) ?zpF ?zpN ?zpl ?zpp ?zpq ?zpe ?_ ?zps ?zpt ?zpz
  case zpF => k_asm
  case zpN => k_asm
  case zpl => exact News.isList (by k_asm) (.head _)
  case zpp => exact IsPart.int _ _
  case zpq => exact IsPart.none
  case zpe => rfl
  case zps => with_unfolding_all rfl
  case zpt => kmk_pure
  case zpz => exact Nat.le_of_ble_eq_true rfl
  intro D9 h9 F9 N9 l9
  k_steps
  rename Fr g L' _ _ => Fz
  rename News g L' _ _ => Nz
  refine' hret _ _ _ _ _ _ _ _ Fz (news_hd Nz ?zsub) ?zlt
  case zsub => walk_at "mine sub"
  case zlt => walk_at "mine ltz"
theorem law_numbers {g : Heap} {L' la : Addr} {vs : List Value} {xs : List Int} {u : Str → Option Value} {Q : Flow → Shared → Prop}
  (B' : Below (lwTop 800 4000 gd outer) baseH (outer) g) (F' : Fr g L' s.heap (fun y => if y = Str.ofString "script" then some (.ref la) else u y)) (X' : (KF w.params).In g)
  (N' : News g L' s.heap news) (T' : Top p loose mean mg mb g) (hla : g.IsList la vs.toArray) (hI : IntsAre vs xs) (hz : vs.length ≤ 900)
  (hret : ∀ (h' : Heap) (tk : Nat) (nl : Addr) (c : Nat) (t0 t1 t2 : Tok) (u' : Str → Option Value), Fr g L' h' (fun y => if y = Str.ofString "numbers" then some (.ref nl) else u' y) → News g L' h' ((nl, listOf #[.int (numOf xs 0 : Nat) t0, .int (numOf xs 1 : Nat) t1, .int (numOf xs 2 : Nat) t2] c) :: news) → (∀ p ∈ news, p.1 < nl) → Q .next { s with heap := h', toks := tk }) :
  wpAny (model PySem.Challenge.rw_wc0034_01.row.prog w) ((lwTop 800 4000 gd outer).deeper (lwEnv L')) (exec ((fdB (stm 67))[0]!) (lwEnv L')) Q Nev s := by
  cases hI with
  | nil => exact law_numbers0 B' F' X' N' T' hla hret
  | @cons x tx vs1 xs1 hI =>
    cases hI with
    | nil =>
      refine law_numbers1 B' F' X' N' T' hla ?_
      rw [numOf_eq x]
      exact hret
    | @cons y ty vs2 xs2 hI =>
      cases hI with
      | nil =>
        refine law_numbers2 B' F' X' N' T' hla ?_
        rw [numOf_eq x, numOf_eq y]
        exact hret
      | @cons z tz vs3 xs3 hI =>
        refine law_numbers3 B' F' X' N' T' hla (by simp at hz; omega) ?_
        rw [numOf_eq x, numOf_eq y, numOf_eq z]
        exact hret
end
end
theorem rs_L51 : True := by
  have h : (1 : Nat) = 1 := by walk1
  w_top off; exact trivial
section
local macro_rules | `(tactic| walk_at "last subscriptTail") => `(tactic| ((with_reducible show wpAny _ _ (subscriptTail _ _ (Value.str (PySem.Txt.slice _ _ _) _) (Value.ref _)) _ _ _); refine halt ?_))
local macro_rules | `(tactic| walk_at "subscriptTail") => `(tactic| ((with_reducible show wpAny _ _ (subscriptTail _ _ (Value.str (PySem.Txt.slice _ _ _) _) (Value.ref _)) _ _ _); refine halt ?_))
noncomputable def signNums : List Nat := [40, 41, 91, 93, 58, 44, 59, 43, 45, 42, 47, 124, 38, 60, 62, 61, 46, 37, 123, 125]
noncomputable def sgOf (s0 sz : Nat) : Str := ⟨((signNums.drop s0).take sz).toArray⟩
noncomputable def szOf (n : Nat) : Nat := if n % 3 = 2 then 5 else 7
theorem sg5 : ∀ s0, s0 < 16 → Txt.slice (Txt.slice (Str.ofString "()[]:,;+-*/|&<>=.%{}") (some ((s0 : Nat) : Int)) none) none (some ((5 : Nat) : Int)) = sgOf s0 5 := by decide +kernel
theorem sg7 : ∀ s0, s0 < 14 → Txt.slice (Txt.slice (Str.ofString "()[]:,;+-*/|&<>=.%{}") (some ((s0 : Nat) : Int)) none) none (some ((7 : Nat) : Int)) = sgOf s0 7 := by decide +kernel
theorem sg_eq {n2 sz : Nat} (hsz : sz = 5 ∨ sz = 7) : Txt.slice (Txt.slice (Str.ofString "()[]:,;+-*/|&<>=.%{}") (some (((n2 : Nat) : Int).fmod (21 - ((sz : Nat) : Int)))) none) none (some ((sz : Nat) : Int)) = sgOf (n2 % (21 - sz)) sz := by
  have e : ((n2 : Nat) : Int).fmod (21 - ((sz : Nat) : Int)) = ((n2 % (21 - sz) : Nat) : Int) := by
    rw [Int.fmod_eq_emod_of_nonneg _ (by omega), show (21 - ((sz : Nat) : Int)) = ((21 - sz : Nat) : Int) from by omega]
    rfl
  rw [e]
  rcases hsz with rfl | rfl
  · exact sg5 _ (Nat.mod_lt _ (by decide))
  · exact sg7 _ (Nat.mod_lt _ (by decide))
theorem mod3 {n : Nat} (h : Int.fmod ((n : Nat) : Int) 3 = 2) : n % 3 = 2 := by
  rw [Int.fmod_eq_emod_of_nonneg _ (by decide)] at h; omega
theorem mod3' {n : Nat} (h : n % 3 = 2) : Int.fmod ((n : Nat) : Int) 3 = 2 := by
  rw [Int.fmod_eq_emod_of_nonneg _ (by decide)]; omega
section
variable {w : World} {p : Program} {loose : List Str} {mean : ExcName → Option Value} {mg mb : Str → Option Value} {dp un : Nat} {gd : Option (List Code)} {cn : Str} {cs : Scope} {a : Addr} {ccd : Value} {cl : List (Str × Addr)} {outer : List Env} {A₀ : Around} {baseH h₀ : Heap} {L : Addr} {m : Str → Option Value} {news : List (Addr × Obj)} {s : Shared} {Q E : Value → Shared → Prop}
set_option maxHeartbeats 2000000
theorem law_size {g : Heap} {L' nl : Addr} {oS : Obj} {n0 n1 n2 : Nat} {t0 t1 t2 : Tok} {R : List (Addr × Obj)} {c0 : Nat} {u : Str → Option Value} {Q : Flow → Shared → Prop}
  (B' : Below (lwTop 800 4000 gd outer) baseH (outer) g) (F' : Fr g L' s.heap (fun y => if y = Str.ofString "numbers" then some (.ref nl) else u y)) (X' : (KF w.params).In g)
  (N' : News g L' s.heap ((L' + 1, oS) :: (nl, listOf #[.int (n0 : Nat) t0, .int (n1 : Nat) t1, .int (n2 : Nat) t2] c0) :: R)) (T' : Top p loose mean mg mb g) (hS : oS.data = .cell none) (hR : ∀ p ∈ R, p.1 ≠ L' + 1) (hnl : nl ≠ L' + 1)
  (hret : ∀ (h' : Heap) (tk : Nat) (oS' : Obj) (t : Tok), Fr g L' h' (fun y => if y = Str.ofString "numbers" then some (.ref nl) else u y) → News g L' h' ((L' + 1, oS') :: (nl, listOf #[.int (n0 : Nat) t0, .int (n1 : Nat) t1, .int (n2 : Nat) t2] c0) :: R) → oS'.data = .cell (some (.int (szOf n0 : Nat) t)) → Q .next { s with heap := h', toks := tk }) :
  wpAny (model PySem.Challenge.rw_wc0034_01.row.prog w) ((lwTop 800 4000 gd outer).deeper (lwEnv L')) (exec ((fdB (stm 67))[1]!) (lwEnv L')) Q Nev s := by
  revert X'; k_fill; intro X'
  show wpAny _ _ (exec (Stmt.Assign _ _ _) _) _ _ _
  k_steps
  · rename Fr g L' _ _ => Fz
    rename News g L' _ _ => Nz
    rename Int.fmod _ _ = _ => hq
    rename Obj.data _ = Data.cell (some _) => hw
    exact hret _ _ _ _ Fz Nz (by rw [show szOf n0 = 5 from if_pos (mod3 hq)]; exact hw)
  · rename Fr g L' _ _ => Fz
    rename News g L' _ _ => Nz
    rename Int.fmod _ _ ≠ _ => hq
    rename Obj.data _ = Data.cell (some _) => hw
    exact hret _ _ _ _ Fz Nz (by rw [show szOf n0 = 7 from if_neg fun e => hq (mod3' e)]; exact hw)
theorem law_signs {g : Heap} {L' nl : Addr} {oS : Obj} {n0 n1 n2 : Nat} {sz : Nat} {ts t0 t1 t2 : Tok} {R : List (Addr × Obj)} {c0 : Nat} {u : Str → Option Value} {Q : Flow → Shared → Prop}
  (B' : Below (lwTop 800 4000 gd outer) baseH (outer) g) (F' : Fr g L' s.heap (fun y => if y = Str.ofString "numbers" then some (.ref nl) else u y)) (X' : (KF w.params).In g)
  (N' : News g L' s.heap ((L' + 1, oS) :: (nl, listOf #[.int (n0 : Nat) t0, .int (n1 : Nat) t1, .int (n2 : Nat) t2] c0) :: R)) (T' : Top p loose mean mg mb g) (hS : oS.data = .cell (some (.int (sz : Nat) ts))) (hR : ∀ p ∈ R, p.1 ≠ L' + 1) (hnl : nl ≠ L' + 1) (hsz : sz = 5 ∨ sz = 7)
  (hret : ∀ (h' : Heap) (tk : Nat) (t : Tok), Fr g L' h' (fun y => if y = Str.ofString "signs" then some (.str (sgOf (n2 % (21 - sz)) sz) t) else if y = Str.ofString "numbers" then some (.ref nl) else u y) → News g L' h' ((L' + 1, oS) :: (nl, listOf #[.int (n0 : Nat) t0, .int (n1 : Nat) t1, .int (n2 : Nat) t2] c0) :: R) → Q .next { s with heap := h', toks := tk }) :
  wpAny (model PySem.Challenge.rw_wc0034_01.row.prog w) ((lwTop 800 4000 gd outer).deeper (lwEnv L')) (exec ((fdB (stm 67))[2]!) (lwEnv L')) Q Nev s := by
  revert X'; k_fill; intro X'
  show wpAny _ _ (exec (Stmt.Assign _ _ _) _) _ _ _
  k_steps
  show wpAny _ _ _ _ _ _
  rename Fr g L' _ _ => Fz
  rename News g L' _ _ => Nz
  refine slice_strN_ns_len Fz Nz (fun h9 t9 k9 F9 N9 l9 => ?_) (by with_unfolding_all rfl) (by intro _; with_unfolding_all rfl) ?_
  · rw [show ([((n0 : Nat) : Int), ((n1 : Nat) : Int), ((n2 : Nat) : Int)].getD (Int.toNat 2) 0) = ((n2 : Nat) : Int) from rfl, sg_eq hsz]
    k_steps
    rename Fr g L' _ _ => Fy
    rename News g L' _ _ => Ny
    exact hret _ _ _ Fy Ny
  · exact Nat.le_trans (PyProof.Txt.length_slice_le _ _ _) (by rw [sizeLine_eq]; decide)
end
end
theorem rs_L52 : True := by
  have h : (1 : Nat) = 1 := by walk1
  w_top off; exact trivial
section
local macro_rules | `(tactic| walk_at "call ref") => `(tactic| ((with_reducible show wpAny _ _ (call (.ref 353) _) _ _ _); refine halt ?_))
local macro_rules | `(tactic| walk_at "call ref") => `(tactic| ((with_reducible show wpAny _ _ (call (.ref 342) _) _ _ _); refine halt ?_))
local macro_rules | `(tactic| walk_at "call ref") => `(tactic| ((with_reducible show wpAny _ _ (call (.ref 358) _) _ _ _); refine halt ?_))
theorem szOf_eq (n : Nat) : ∃ k, (k = 2 ∨ k = 3) ∧ szOf n = 2 * k + 1 := by
  unfold szOf
  split
  · exact ⟨2, .inl rfl, rfl⟩
  · exact ⟨3, .inr rfl, rfl⟩
section
variable {w : World} {p : Program} {loose : List Str} {mean : ExcName → Option Value} {mg mb : Str → Option Value} {dp un : Nat} {gd : Option (List Code)} {cn : Str} {cs : Scope} {a : Addr} {ccd : Value} {cl : List (Str × Addr)} {outer : List Env} {A₀ : Around} {baseH h₀ : Heap} {L : Addr} {m : Str → Option Value} {news : List (Addr × Obj)} {s : Shared} {Q E : Value → Shared → Prop}
set_option maxHeartbeats 2000000
theorem law_pairs {g : Heap} {L' nl : Addr} {oS : Obj} {n0 n1 n2 : Nat} {k : Nat} {sg : Str} {ts tg t0 t1 t2 : Tok} {R : List (Addr × Obj)} {c0 : Nat} {u : Str → Option Value} {Q : Flow → Shared → Prop}
  (B' : Below (lwTop 800 4000 gd outer) baseH (outer) g) (F' : Fr g L' s.heap (fun y => if y = Str.ofString "signs" then some (.str sg tg) else if y = Str.ofString "numbers" then some (.ref nl) else u y)) (X' : (KF w.params).In g)
  (N' : News g L' s.heap ((L' + 1, oS) :: (nl, listOf #[.int (n0 : Nat) t0, .int (n1 : Nat) t1, .int (n2 : Nat) t2] c0) :: R)) (T' : Top p loose mean mg mb g) (hS : oS.data = .cell (some (.int ((2 * k + 1 : Nat) : Int) ts))) (hk : k = 2 ∨ k = 3) (hn1 : n1 < 210)
  (hret : ∀ (h' : Heap) (tk : Nat) (PA : Addr) (c2 : Nat) (prs : List (Addr × (Nat × Tok) × (Nat × Tok))) (u' : Str → Option Value), Fr g L' h' (fun y => if y = Str.ofString "pairs" then some (.ref PA) else if y = Str.ofString "signs" then some (.str sg tg) else u' y) → News g L' h' ((PA, listOf (prs.map fun q => Value.ref q.1).toArray c2) :: (prs.map prEntry ++ (L' + 1, oS) :: R)) → (L' + 1 < PA ∧ ∀ p ∈ R, p.1 < PA) → (∀ e ∈ prs, PA < e.1) → prs.map nums = pairsOf k ((List.range (2 * k)).map (· + 1)) n1 → Q .next { s with heap := h', toks := tk }) :
  wpAny (model PySem.Challenge.rw_wc0034_01.row.prog w) ((lwTop 800 4000 gd outer).deeper (lwEnv L')) (exec ((fdB (stm 67))[3]!) (lwEnv L')) Q Nev s := by
  have X₀ := X'
  revert X'; k_fill; intro X'
  show wpAny _ _ (exec (Stmt.Assign _ _ _) _) _ _ _
  k_steps
  show wpAny _ _ _ _ _ _
  rw [show ([((n0 : Nat) : Int), ((n1 : Nat) : Int), ((n2 : Nat) : Int)].getD (Int.toNat 1) 0) = ((n1 : Nat) : Int) from rfl, show ((2 * k + 1 : Nat) : Int) = ((2 * k : Nat) : Int) + 1 from by omega]
  refine' pairs_ct (n := k) (k := n1) hk (by omega) ?zp1 ?zp2 ?zp3 ?zp4 ?zp5 ?zp6 ?zp7 ?zp8 ?_
  case zp1 => k_asm
  case zp2 => k_asm
  case zp3 => k_asm
  case zp4 => k_asm
  case zp5 => k_asm
  case zp6 => first | exact rfl | assumption
  case zp7 => exact Nat.le_of_ble_eq_true rfl
  case zp8 => exact Nat.le_of_ble_eq_true rfl
  intro h2 tk2 PA c2 prs F2 N2 lP lQ eq2
  k_steps
  rename Fr g L' _ _ => Fy
  rename News g L' _ _ => Ny
  refine hret _ _ PA c2 prs _ Fy (news_sub Ny ?_) ⟨lP _ (.head _), fun p hp => lP _ (.tail _ (.tail _ hp))⟩ lQ eq2
  intro p hp
  rcases List.mem_cons.mp hp with rfl | hp
  · exact .head _
  rcases List.mem_append.mp hp with hp | hp
  · exact .tail _ (List.mem_append_left _ hp)
  rcases List.mem_cons.mp hp with rfl | hp
  · exact .tail _ (List.mem_append_right _ (.head _))
  · exact .tail _ (List.mem_append_right _ (.tail _ (.tail _ hp)))
theorem law_met {g : Heap} {L' : Addr} {R : List (Addr × Obj)} {c0 : Nat} {u : Str → Option Value} {Q : Flow → Shared → Prop}
  (B' : Below (lwTop 800 4000 gd outer) baseH (outer) g) (F' : Fr g L' s.heap u) (X' : (KF w.params).In g)
  (N' : News g L' s.heap R) (T' : Top p loose mean mg mb g)
  (hret : ∀ (h' : Heap) (tk : Nat) (v dv ll : Addr) (k1 : Tok) (nv : Nat), Fr g L' h' (fun y => if y = Str.ofString "met" then some (.ref v) else u y) → News g L' h' ((ll, listOf #[] 0) :: (v, instObj 342 dv) :: (dv, dictOf [ent w.params "_headers" k1 (.ref ll)] nv) :: R) → (∀ p ∈ R, p.1 < dv) → dv < v → v < ll → Q .next { s with heap := h', toks := tk }) :
  wpAny (model PySem.Challenge.rw_wc0034_01.row.prog w) ((lwTop 800 4000 gd outer).deeper (lwEnv L')) (exec ((fdB (stm 67))[4]!) (lwEnv L')) Q Nev s := by
  have X₀ := X'
  revert X'; k_fill; intro X'
  show wpAny _ _ (exec (Stmt.Assign _ _ _) _) _ _ _
  k_steps
  show wpAny _ _ _ _ _ _
  refine' hdr_new_ct ?zp1 ?zp2 ?zp3 ?zp4 ?zp5 ?zp6 ?zp7 ?zp8 ?_
  case zp1 => k_asm
  case zp2 => k_asm
  case zp3 => k_asm
  case zp4 => k_asm
  case zp5 => k_asm
  case zp6 => first | exact rfl | assumption
  case zp7 => exact Nat.le_of_ble_eq_true rfl
  case zp8 => exact Nat.le_of_ble_eq_true rfl
  intro v dv ll h2 tk2 k1 nv F2 N2 l2 l3 l4
  k_steps
  rename Fr g L' _ _ => Fy
  rename News g L' _ _ => Ny
  exact hret _ _ v dv ll k1 nv Fy Ny l2 l3 l4
theorem law_once {g : Heap} {L' : Addr} {R : List (Addr × Obj)} {c0 : Nat} {u : Str → Option Value} {Q : Flow → Shared → Prop}
  (B' : Below (lwTop 800 4000 gd outer) baseH (outer) g) (F' : Fr g L' s.heap u) (X' : (KF w.params).In g)
  (N' : News g L' s.heap R) (T' : Top p loose mean mg mb g)
  (hret : ∀ (h' : Heap) (tk : Nat), Fr g L' h' (fun y => if y = Str.ofString "alone" then some (.bool true) else if y = Str.ofString "once" then some (.bool true) else u y) → News g L' h' R → Q .next { s with heap := h', toks := tk }) :
  wpAny (model PySem.Challenge.rw_wc0034_01.row.prog w) ((lwTop 800 4000 gd outer).deeper (lwEnv L')) (exec ((fdB (stm 67))[5]!) (lwEnv L')) Q Nev s := by
  have X₀ := X'
  revert X'; k_fill; intro X'
  show wpAny _ _ (exec (Stmt.Assign _ _ _) _) _ _ _
  k_steps
  rename Fr g L' _ _ => Fy
  rename News g L' _ _ => Ny
  exact hret _ _ Fy (news_sub Ny fun p hp => .tail _ hp)
end
end
theorem rs_L53 : True := by
  have h : (1 : Nat) = 1 := by walk1
  w_top off; exact trivial
section
local macro_rules | `(tactic| walk_at "call ref") => `(tactic| ((with_reducible show wpAny _ _ (call (.ref 353) _) _ _ _); refine halt ?_))
local macro_rules | `(tactic| walk_at "call ref") => `(tactic| ((with_reducible show wpAny _ _ (call (.ref 342) _) _ _ _); refine halt ?_))
local macro_rules | `(tactic| walk_at "call ref") => `(tactic| ((with_reducible show wpAny _ _ (call (.ref 358) _) _ _ _); refine halt ?_))
structure PageOk (sg : Str) (ps : List (Nat × Nat)) (rows : List (List Str)) : Prop where
  hb : ∀ q ∈ ps, q.1 < sg.cps.size ∧ q.2 < sg.cps.size
  hsg0 : 0 < sg.cps.size
  hsg : sg.cps.size ≤ 20
  hpz : ps.length ≤ 10
  hcur : ∃ c0 s2, (pageEnd sg ps).1 = c0 ++ [s2] ∧ s2 ≠ Str.ofString "" ∧ PyData.strOk s2 = true
  hns : Txt.isspace (rowText (pageEnd sg ps).1) = false
  hfit : ((((pageEnd sg ps).2 ++ [rowText (pageEnd sg ps).1]) : List Str).map (·.length)).sum + ((pageEnd sg ps).2 ++ [rowText (pageEnd sg ps).1]).length * (Str.ofString "\n").length ≤ 16777216
  hz1 : (pageText sg ps).length ≤ sizeLine
  hz2 : (Builtin.Str.partsBetween (pageText sg ps) (Builtin.Str.occurrences (pageText sg ps) (Str.ofString "\n") 0 (pageText sg ps).length ((pageText sg ps).length + 1)) (Str.ofString "\n").length).length ≤ sizeLine
  hz3 : ∀ r ∈ Txt.split (pageText sg ps) (Str.ofString "\n"), r.length ≤ sizeLine ∧ (Builtin.Str.spaceWords r (r.length + 1)).length ≤ sizeLine
  hz4 : (Txt.split (pageText sg ps) (Str.ofString "\n")).length ≤ sizeLine
  hrows : (Txt.split (pageText sg ps) (Str.ofString "\n")).map Txt.words = rows
section
variable {w : World} {p : Program} {loose : List Str} {mean : ExcName → Option Value} {mg mb : Str → Option Value} {dp un : Nat} {gd : Option (List Code)} {cn : Str} {cs : Scope} {a : Addr} {ccd : Value} {cl : List (Str × Addr)} {outer : List Env} {A₀ : Around} {baseH h₀ : Heap} {L : Addr} {m : Str → Option Value} {news : List (Addr × Obj)} {s : Shared} {Q E : Value → Shared → Prop}
set_option maxHeartbeats 2000000
theorem law_page {g : Heap} {L' PA : Addr} {sg : Str} {tg : Tok} {R : List (Addr × Obj)} {c2 : Nat} {u : Str → Option Value} {v1 v2 v3 : Value} {rows : List (List Str)} {prs : List (Addr × (Nat × Tok) × (Nat × Tok))} {ps1 ps2 : Array Value} {Q : Flow → Shared → Prop}
  (B' : Below (lwTop 800 4000 gd outer) baseH (outer) g) (F' : Fr g L' s.heap (fun y => if y = Str.ofString "alone" then some v1 else if y = Str.ofString "once" then some v2 else if y = Str.ofString "met" then some v3 else if y = Str.ofString "pairs" then some (.ref PA) else if y = Str.ofString "signs" then some (.str sg tg) else u y)) (X' : (KF w.params).In g)
  (N' : News g L' s.heap ((167, PySem.W.X.tableObj ps1) :: (174, PySem.W.X.tableObj ps2) :: R)) (T' : Top p loose mean mg mb g)
  (hpl : (PA, listOf (prs.map fun q => Value.ref q.1).toArray c2) ∈ R) (hpr : ∀ q ∈ prs, (q.1, PairO q) ∈ R) (h167 : ∀ p ∈ R, p.1 ≠ 167) (h174 : ∀ p ∈ R, p.1 ≠ 174)
  (htr1 : TriplesOk ps1.toList) (htr2 : TriplesOk ps2.toList) (hgb : AllBare s.gens) (P : PageOk sg (prs.map nums) rows)
  (hret : ∀ (h' : Heap) (g' : Array GenState) (tk : Nat) (D : Addr) (rws : List Row) (n' : Nat) (q1 q2 : Array Value), Fr g L' h' (fun y => if y = Str.ofString "page" then some (.ref D) else if y = Str.ofString "alone" then some v1 else if y = Str.ofString "once" then some v2 else if y = Str.ofString "met" then some v3 else if y = Str.ofString "pairs" then some (.ref PA) else if y = Str.ofString "signs" then some (.str sg tg) else u y) → News g L' h' ((D, listOf (rws.map fun r => Value.ref r.1).toArray n') :: rws.map rowO ++ (167, PySem.W.X.tableObj q1) :: (174, PySem.W.X.tableObj q2) :: R) → rws.map (fun r => r.2.map (·.1)) = rows → AllBare g' → Q .next ⟨h', g', s.drawn, tk, s.os⟩) :
  wpAny (model PySem.Challenge.rw_wc0034_01.row.prog w) ((lwTop 800 4000 gd outer).deeper (lwEnv L')) (exec ((fdB (stm 67))[6]!) (lwEnv L')) Q Nev s := by
  have X₀ := X'
  revert X'; k_fill; intro X'
  show wpAny _ _ (exec (Stmt.Assign _ _ _) _) _ _ _
  k_steps
  show wpAny _ _ _ _ _ _
  obtain ⟨c0, s2, e1, e2, e3⟩ := P.hcur
  refine' page_ct (prs := prs) (base := R) ?zp1 ?zp2 ?zp3 ?zp4 ?zp5 ?zp6 ?zp7 ?zp8 hpl hpr h167 h174 htr1 htr2 hgb ?zp9 P.hsg0 P.hsg ?zpa e1 e2 e3 P.hns P.hfit P.hz1 P.hz2 P.hz3 P.hz4 ?_
  case zp1 => k_asm
  case zp2 => k_asm
  case zp3 => k_asm
  case zp4 => k_asm
  case zp5 => k_asm
  case zp6 => first | exact rfl | assumption
  case zp7 => exact Nat.le_of_ble_eq_true rfl
  case zp8 => exact Nat.le_of_ble_eq_true rfl
  case zp9 => exact fun q hq => P.hb _ (List.mem_map_of_mem hq)
  case zpa => have := P.hpz; rwa [List.length_map] at this
  intro h2 g2 tk2 D rws n' q1 q2 F2 N2 er gb
  have er' := er.trans P.hrows
  clear er
  k_steps
  rename Fr g L' _ _ => Fy
  rename News g L' _ _ => Ny
  exact hret _ g2 _ D rws n' q1 q2 Fy Ny er' gb
end
end
theorem rs_L54 : True := by
  have h : (1 : Nat) = 1 := by walk1
  w_top off; exact trivial
section
local macro_rules | `(tactic| walk_at "eval ListComp") => `(tactic| ((with_reducible show wpAny _ _ (eval (Expr.ListComp _ _ _ _) _) _ _ _); refine halt ?_))
section
variable {prog : Program} {w : World} {A : Around} {E : Value → Shared → Prop} {s : Shared} {h₀ h : Heap} {L D : Addr} {m : Str → Option Value} {news news' : List (Addr × Obj)}
theorem item_news {value slice : PySem.Expr} {i : Int} {u : Tok} {k : Nat} {y : Value} {vs : List Value} {n : Nat} {Q : Value → Shared → Prop} (N : News h₀ L s.heap news) (hm : (D, listOf vs.toArray n) ∈ news) (hi : i = (k : Nat)) (hk : k ≤ 1000) (hy : vs[k]? = some y) (hr : Q y s)
    (hs : subscripted slice false (.ref D) (.int i u) = operate [.ref D, .int i u] (getItem (.ref D) (.int i u)) := by with_unfolding_all rfl) : wpAny (model prog w) A (subscriptTail value slice (.ref D) (.int i u)) Q E s := by
  have hl : s.heap.IsList D vs.toArray := ⟨_, (N _ hm).1, rfl, n, rfl⟩
  subst hi
  exact tail_any hl.typeIs slot_list_getitem.lookup (wpAny_getItem_list hl (Int.natCast_nonneg k) (by omega) (by simpa using hy) hr) hs
end
local macro_rules | `(tactic| walk_at "subscriptTail") => `(tactic| ((with_reducible show wpAny _ _ (subscriptTail _ _ (Value.ref _) (Value.int _ _)) _ _ _); refine halt ?_))
theorem carried_strs : ∀ qs : List (Str × Tok), CarriedAll (strValues qs) ((qs.map (·.1)).map PyData.str)
  | [] => .nil
  | q :: r => .cons (.str q.1 q.2) (carried_strs r)
theorem flatten_reps {α : Type} (n : Nat) (x : α) : (List.replicate n [x]).flatten = List.replicate n x := by
  induction n with
  | zero => rfl
  | succ n ih => rw [List.replicate_succ, List.flatten_cons, ih]; rfl
section
variable {w : World} {p : Program} {loose : List Str} {mean : ExcName → Option Value} {mg mb : Str → Option Value} {dp un : Nat} {gd : Option (List Code)} {cn : Str} {cs : Scope} {a : Addr} {ccd : Value} {cl : List (Str × Addr)} {outer : List Env} {A₀ : Around} {baseH h₀ : Heap} {L : Addr} {m : Str → Option Value} {news : List (Addr × Obj)} {s : Shared} {Q E : Value → Shared → Prop}
set_option maxHeartbeats 2000000
theorem law_guard {g : Heap} {L' D : Addr} {oS : Obj} {sz n' : Nat} {ts : Tok} {rws : List Row} {R : List (Addr × Obj)} {u : Str → Option Value} {Q : Flow → Shared → Prop}
  (B' : Below (lwTop 800 4000 gd outer) baseH (outer) g) (F' : Fr g L' s.heap (fun y => if y = Str.ofString "page" then some (.ref D) else u y)) (X' : (KF w.params).In g)
  (N' : News g L' s.heap R) (T' : Top p loose mean mg mb g) (hS : oS.data = .cell (some (.int (sz : Nat) ts))) (hmS : (L' + 1, oS) ∈ R)
  (hD : (D, listOf (rws.map fun r => Value.ref r.1).toArray n') ∈ R) (hrw : ∀ r ∈ rws, rowO r ∈ R) (hsz : sz = 5 ∨ sz = 7) (hlen : rws.length = sz) (hrows : ∀ r ∈ rws, ∃ c t q, r.2 = (⟨#[64, c]⟩, t) :: q)
  (hret : ∀ (h' : Heap) (tk : Nat), Fr g L' h' (fun y => if y = Str.ofString "page" then some (.ref D) else u y) → News g L' h' R → Q .next { s with heap := h', toks := tk }) :
  wpAny (model PySem.Challenge.rw_wc0034_01.row.prog w) ((lwTop 800 4000 gd outer).deeper (lwEnv L')) (exec ((fdB (stm 67))[7]!) (lwEnv L')) Q Nev s := by
  have X₀ := X'
  revert X'; k_fill; intro X'
  show wpAny _ _ (exec (Stmt.If _ _ _ _) _) _ _ _
  k_steps
  show wpAny _ _ _ _ _ _
  refine LCg.ListComp_U F' (by rfl) (by decide) (by rfl) (by decide) (by rfl) ?_
  k_steps
  show LCg.CompSrc _ _ _ _ _ _ _ _ _ _ _ _ _ _
  refine LCg.CompSrc.ledger rfl (by k_asm) (by k_asm) hD (by rw [sizeLine_eq]; simp; omega) ?_
  intro gg
  refine compU_ind (fun i ys => ∃ qs : List (Str × Tok), ys = strValues qs ∧ qs.map (·.1) = List.replicate i ⟨#[64]⟩) ⟨[], rfl, rfl⟩ ?_ ?_
  · rintro i ys hi ⟨qs, rfl, hqs⟩ v' I' oI' C' oC' D' m' h' tk' E' hv' hC' hx' F' N' off' ne'
    have hv2 : (rws.map fun r => Value.ref r.1)[i]? = some v' := by simpa using hv'
    rw [List.getElem?_map] at hv2
    obtain ⟨r, hr, rfl⟩ := Option.map_eq_some_iff.mp hv2
    have hrm := List.mem_of_getElem? hr
    obtain ⟨c, t, q, hrq⟩ := hrows r hrm
    have hm := hrw r hrm
    unfold rowO at hm
    rw [hrq] at hm
    k_steps
    show wpAny _ _ _ _ _ _
    refine item_news (k := 0) (by assumption : News g L' _ ((I', oI') :: _)) (.tail _ (.tail _ (.tail _ hm))) rfl (by omega) (by rfl) ?_
    k_steps
    refine LCg.CompEnd.intro (by assumption) (by assumption : News g L' _ ((I', oI') :: (C', oC') :: (D', LCg.lst _) :: R)) _ (fun p hp => hp) (by assumption) (Or.inr ⟨_, hD, rfl, _, rfl⟩) ⟨rfl, qs ++ [(⟨#[64]⟩, _)], by unfold strValues; rw [List.map_append]; rfl, by rw [List.map_append, hqs, List.replicate_succ']; rfl⟩
  · rintro ys ⟨qs, rfl, hqs⟩
    unfold LCg.FinE
    intro D6 h6 tk6 F6 N6 off6
    dsimp only
    k_steps
    show wpAny _ _ _ _ _ _
    rename CarriedAll _ _ => hC2
    rename Heap.IsList _ _ _ => hL2
    rename News g L' _ _ => Nz
    have hl1 := News.isList (items := (strValues qs).toArray) (a := D6) (d := none) (sl := #[]) Nz (by first | exact .head _ | exact .tail _ (.head _))
    have hq2 : CarriedAll (strValues qs) (List.replicate sz (PyData.str ⟨#[64]⟩)) := by
      have := carried_strs qs
      rwa [hqs, List.map_replicate, List.size_toArray, List.length_map, hlen] at this
    have hq3 : CarriedAll (List.replicate (↑sz : Int).toNat #[Value.str (Str.ofString "@") tk6].toList).flatten (List.replicate sz (PyData.str ⟨#[64]⟩)) := by
      have e : (List.replicate (↑sz : Int).toNat [PyData.str (Str.ofString "@")]).flatten = List.replicate sz (PyData.str ⟨#[64]⟩) := by
        rw [Int.toNat_natCast]
        exact flatten_reps _ _
      rwa [e] at hC2
    refine ne_dataH (da := .list (List.replicate sz (PyData.str ⟨#[64]⟩))) (db := .list (List.replicate sz (PyData.str ⟨#[64]⟩))) (reads_newData hl1 hq2) (reads_newData hL2 hq3) ?zsh ?zsh2 ?zhu ?_
    case zsh => rcases hsz with rfl | rfl <;> decide +kernel
    case zsh2 => rcases hsz with rfl | rfl <;> decide +kernel
    case zhu => ke_room
    rw [show (!PyData.eqv (.list (List.replicate sz (PyData.str ⟨#[64]⟩))) (.list (List.replicate sz (PyData.str ⟨#[64]⟩)))) = false from by rcases hsz with rfl | rfl <;> decide +kernel]
    k_steps
    rename Fr g L' _ _ => Fy
    exact hret _ _ Fy (news_sub Nz fun p hp => by first | exact .tail _ (.tail _ hp) | exact .tail _ hp)
end
end
theorem rs_L55 : True := by
  have h : (1 : Nat) = 1 := by walk1
  w_top off; exact trivial
section
variable {prog : Program} {w : World} {A : Around} {E : Value → Shared → Prop} {s : Shared} {h₀ h : Heap} {L D : Addr} {m : Str → Option Value} {news news' : List (Addr × Obj)}
theorem two_of {c1 c2 : Nat} {acc : Array Value} (h : ItemsOf (SignAt ⟨#[c1, c2]⟩) acc 2) : ∃ t1 t2, acc.toList = [.str ⟨#[c1]⟩ t1, .str ⟨#[c2]⟩ t2] := by
  obtain ⟨hs, hv⟩ := h
  obtain ⟨l⟩ := acc
  match l, hs with
  | [a, b], _ =>
    obtain ⟨c, t1, hc, rfl⟩ := hv 0 a rfl
    obtain ⟨d, t2, hd, rfl⟩ := hv 1 b rfl
    simp at hc hd
    subst hc hd
    exact ⟨t1, t2, rfl⟩
theorem sorted_pair {c1 c2 : Nat} {ss : List Str} (hp : ss.Perm [⟨#[c1]⟩, ⟨#[c2]⟩]) (hs : sortedS ss = true) : ss = [⟨#[min c1 c2]⟩, ⟨#[max c1 c2]⟩] := by
  have hl := hp.length_eq
  match ss, hl with
  | [a, b], _ =>
    have hxy : ∀ x y : Nat, sortedS [⟨#[x]⟩, ⟨#[y]⟩] = true → x ≤ y := by
      intro x y h
      simp [sortedS, risingS, Spec.ltCps] at h
      exact h
    have ha : a ∈ ([⟨#[c1]⟩, ⟨#[c2]⟩] : List Str) := hp.mem_iff.mp (by simp)
    have hb : b ∈ ([⟨#[c1]⟩, ⟨#[c2]⟩] : List Str) := hp.mem_iff.mp (by simp)
    have h1 : (⟨#[c1]⟩ : Str) ∈ [a, b] := hp.mem_iff.mpr (by simp)
    have h2 : (⟨#[c2]⟩ : Str) ∈ [a, b] := hp.mem_iff.mpr (by simp)
    simp only [List.mem_cons, List.not_mem_nil, or_false] at ha hb h1 h2
    rcases ha with rfl | rfl <;> rcases hb with rfl | rfl
    · have e : c2 = c1 := by
        rcases h2 with h | h <;> (have := congrArg (fun s : Str => s.cps.toList) h; simpa using this)
      subst e
      simp
    · have := hxy _ _ hs
      rw [Nat.min_eq_left this, Nat.max_eq_right this]
    · have := hxy _ _ hs
      rw [Nat.min_eq_right this, Nat.max_eq_left this]
    · have e : c1 = c2 := by
        rcases h1 with h | h <;> (have := congrArg (fun s : Str => s.cps.toList) h; simpa using this)
      subst e
      simp
theorem sorted_two {c1 c2 : Nat} {t : Tok} {Q : Value → Shared → Prop} (hh : A.handled = none) (F : Fr h₀ L s.heap m) (N : News h₀ L s.heap news)
    (hr : ∀ h' tk D t1 t2 c, Fr h₀ L h' m → News h₀ L h' ((D, listOf #[.str ⟨#[min c1 c2]⟩ t1, .str ⟨#[max c1 c2]⟩ t2] c) :: news) → (∀ p ∈ news, p.1 < D) → Q (.ref D) { s with heap := h', toks := tk }) :
    wpAny (model prog w) A (call (.builtin "sorted") [.str ⟨#[c1, c2]⟩ t]) Q E s := by
  refine Calls.call_function_entry kind_sorted plain_sorted entry_sorted (args_sorted1 _) ?_
  unfold Builtin.«sorted»
  refine wpAny_bind (m := checkCount "sorted" 1 1 _) (wpAny_pure ?_)
  refine wpAny_bind (wpAny_collect_str (by simp [hh]) _ _ (fun s' acc hk hg hd ho hI => ?_) (by rw [sizeLine_eq]; exact Nat.le_of_ble_eq_true rfl))
  obtain ⟨h1, g1, d1, tk1, os1⟩ := s'
  subst hg hd ho
  obtain ⟨t1, t2, e⟩ := two_of hI
  rw [e]
  refine wpAny_bind (wpAny_newList ?_)
  have hoL : (h1.push (seqObj "list" [Value.str ⟨#[c1]⟩ t1, Value.str ⟨#[c2]⟩ t2].toArray 0)).get? h1.objs.size = some (seqObj "list" [Value.str ⟨#[c1]⟩ t1, Value.str ⟨#[c2]⟩ t2].toArray 0) := Heap.get?_push_size _ rfl
  have hS : StrsAre [Value.str ⟨#[c1]⟩ t1, Value.str ⟨#[c2]⟩ t2] [⟨#[c1]⟩, ⟨#[c2]⟩] := .cons _ _ (.cons _ _ .nil)
  refine wpAny_bind (wpAny_holding (wpAny_call_entry slot_list_sort ⟨_, hoL, rfl⟩ entry_list_sort (list_sort_treeK strKind_oneLt hoL hS.keysOf (fun v₁ v₂ rest e => keyKind_strs (by rw [← e]; exact hS)) (Nat.lt_of_sub_pos (Nat.zero_lt_succ 61)) fun st' a1 a2 => ⟨_, rfl, ?_⟩) (args_list_sort _)))
  obtain ⟨ss', b1, b2, b3⟩ := sorted_out_str hS a1 a2
  have b4 := sorted_pair b2 b3
  subst b4
  obtain ⟨u1, u2, e5⟩ : ∃ u1 u2, ((arrOf st').map (·.2)) = #[.str ⟨#[min c1 c2]⟩ u1, .str ⟨#[max c1 c2]⟩ u2] := by
    generalize ((arrOf st').map (·.2)) = arr at b1
    obtain ⟨l⟩ := arr
    cases b1 with
    | @cons _ t1 _ _ b1 =>
      cases b1 with
      | @cons _ t2 _ _ b1 =>
        cases b1
        exact ⟨t1, t2, rfl⟩
  rw [e5]
  obtain ⟨e6, he6⟩ := sortedHeap_at (out := #[.str ⟨#[min c1 c2]⟩ u1, .str ⟨#[max c1 c2]⟩ u2]) hoL
  have old : ∀ b o, s.heap.get? b = some o → (sortedHeap (h1.push (seqObj "list" [Value.str ⟨#[c1]⟩ t1, Value.str ⟨#[c2]⟩ t2].toArray 0)) h1.objs.size [Value.str ⟨#[c1]⟩ t1, Value.str ⟨#[c2]⟩ t2] #[.str ⟨#[min c1 c2]⟩ u1, .str ⟨#[max c1 c2]⟩ u2]).get? b = some o := by
    intro b o hb
    have hb1 := hk b o hb
    have hlt := Heap.lt_size hb1
    rw [sortedHeap_old (Nat.ne_of_lt hlt) (by rw [size_push']; exact Nat.lt_succ_of_lt hlt), Heap.get?_push_ne _ _ _ (Nat.ne_of_lt hlt)]
    exact hb1
  have fresh : ∀ b o, s.heap.get? b = some o → b < h1.objs.size := fun b o hb => Heap.lt_size (hk b o hb)
  refine wpAny_pure ⟨_, rfl, ?_⟩
  refine hr _ tk1 h1.objs.size u1 u2 e6 (F.kept old) ?_ ?_
  · obtain ⟨oL, _, _, hL, _⟩ := F.ns
    intro p hp
    rcases List.mem_cons.mp hp with rfl | hp
    · refine ⟨he6, Nat.ne_of_gt (fresh _ _ hL), ?_⟩
      cases hq : h₀.get? h1.objs.size with
      | none => rfl
      | some o' => exact absurd (fresh _ _ (F.keep _ _ hq)) (Nat.lt_irrefl _)
    · exact ⟨old _ _ (N p hp).1, (N p hp).2⟩
  · intro p hp
    exact Heap.lt_size (hk _ _ (N p hp).1)
end
theorem rs_L56 : True := by
  have h : (1 : Nat) = 1 := by walk1
  w_top off; exact trivial
section
local macro_rules | `(tactic| walk_at "call ref") => `(tactic| ((with_reducible show wpAny _ _ (call (.ref 363) _) _ _ _); refine halt ?_))
local macro_rules | `(tactic| walk_at "call ref") => `(tactic| ((with_reducible show wpAny _ _ (call (.ref 332) _) _ _ _); refine halt ?_))
local macro_rules | `(tactic| walk_at "call builtin:sorted") => `(tactic| (refine halt ?_))
noncomputable def lrBody : List Stmt := forBody ((fdB (stm 67))[8]!)
noncomputable def twBody : List Stmt := forBody (lrBody[2]!)
/-- which sign's column the pair of texts x goes to -/
noncomputable def ColOk (P : Params) (sg : Str) (s0 c3 i3 : Nat) (x : Str) (cc : Nat) : Prop :=
  (∃ c2, x = ⟨#[64, c2]⟩ ∧ cc = c3) ∨ (∃ c1 c2 i1 i2 j0, x = ⟨#[c1, c2]⟩ ∧ c1 ≠ 64 ∧ Fig P c1 (s0 + i1) ∧ Fig P c2 (s0 + i2) ∧ (List.range sg.cps.size).filter (pick sg.cps.size i1 i2 i3) = [j0] ∧ cc = sg.cps.getD j0 0)
section
variable {w : World} {p : Program} {loose : List Str} {mean : ExcName → Option Value} {mg mb : Str → Option Value} {dp un : Nat} {gd : Option (List Code)} {cn : Str} {cs : Scope} {a : Addr} {ccd : Value} {cl : List (Str × Addr)} {outer : List Env} {A₀ : Around} {baseH h₀ : Heap} {L : Addr} {m : Str → Option Value} {news : List (Addr × Obj)} {s : Shared} {Q E : Value → Shared → Prop}
set_option maxHeartbeats 2000000
theorem two_cell {g : Heap} {L' : Addr} {sg x : Str} {s0 c3 i3 cc : Nat} {tg th tx : Tok} {R : List (Addr × Obj)} {u : Str → Option Value} {Q : Flow → Shared → Prop}
  (B' : Below (lwTop 800 4000 gd outer) baseH (outer) g) (F' : Fr g L' s.heap (fun y => if y = Str.ofString "two" then some (.str x tx) else if y = Str.ofString "home" then some (.str ⟨#[c3]⟩ th) else if y = Str.ofString "signs" then some (.str sg tg) else u y)) (X' : (KF w.params).In g)
  (N' : News g L' s.heap R) (T' : Top p loose mean mg mb g) (f3 : Fig w.params c3 (s0 + i3)) (hs0 : 0 < sg.length) (hs1 : sg.length ≤ 100) (hsg : ∀ j c, sg.cps[j]? = some c → Fig w.params c (s0 + j)) (hc : ColOk w.params sg s0 c3 i3 x cc)
  (hret : ∀ (h' : Heap) (tk : Nat) (t : Tok) , Fr g L' h' (fun y => if y = Str.ofString "cell" then some (.str ⟨#[c3, cc]⟩ t) else if y = Str.ofString "two" then some (.str x tx) else if y = Str.ofString "home" then some (.str ⟨#[c3]⟩ th) else if y = Str.ofString "signs" then some (.str sg tg) else u y) → News g L' h' R → Q .next { s with heap := h', toks := tk }) :
  wpAny (model PySem.Challenge.rw_wc0034_01.row.prog w) ((lwTop 800 4000 gd outer).deeper (lwEnv L')) (exec (twBody[0]!) (lwEnv L')) Q Nev s := by
  have X₀ := X'
  revert X'; k_fill; intro X'
  show wpAny _ _ (exec (Stmt.Assign _ _ _) _) _ _ _
  rcases hc with ⟨c2, rfl, rfl⟩ | ⟨c1, c2, i1, i2, j0, rfl, hne, f1, f2, hpk, rfl⟩
  · k_steps
    show wpAny _ _ _ _ _ _
    refine' col_home_ct ?zp1 ?zp2 ?zp3 ?zp4 ?zp5 ?zp6 ?zp7 ?zp8 ?_
    case zp1 => k_asm
    case zp2 => k_asm
    case zp3 => k_asm
    case zp4 => k_asm
    case zp5 => k_asm
    case zp6 => first | exact rfl | assumption
    case zp7 => exact Nat.le_of_ble_eq_true rfl
    case zp8 => exact Nat.le_of_ble_eq_true rfl
    intro h2 tk2 F2 N2
    k_steps
    rename Fr g L' _ _ => Fy
    rename News g L' _ _ => Ny
    exact hret _ _ _ Fy Ny
  · k_steps
    show wpAny _ _ _ _ _ _
    refine' col_ct (s0 := s0) (i1 := i1) (i2 := i2) (i3 := i3) ?zp1 ?zp2 ?zp3 ?zp4 ?zp5 ?zp6 ?zp7 ?zp8 f1 f2 f3 hne hs0 hs1 hsg hpk ?_
    case zp1 => k_asm
    case zp2 => k_asm
    case zp3 => k_asm
    case zp4 => k_asm
    case zp5 => k_asm
    case zp6 => first | exact rfl | assumption
    case zp7 => exact Nat.le_of_ble_eq_true rfl
    case zp8 => exact Nat.le_of_ble_eq_true rfl
    intro h2 tk2 t2 F2 N2
    k_steps
    rename Fr g L' _ _ => Fy
    rename News g L' _ _ => Ny
    exact hret _ _ _ Fy Ny
theorem two_pair {g : Heap} {L' : Addr} {c1 c2 : Nat} {tx : Tok} {v1 : Value} {R : List (Addr × Obj)} {u : Str → Option Value} {Q : Flow → Shared → Prop}
  (B' : Below (lwTop 800 4000 gd outer) baseH (outer) g) (F' : Fr g L' s.heap (fun y => if y = Str.ofString "cell" then some v1 else if y = Str.ofString "two" then some (.str ⟨#[c1, c2]⟩ tx) else u y)) (X' : (KF w.params).In g)
  (N' : News g L' s.heap R) (T' : Top p loose mean mg mb g)
  (hret : ∀ (h' : Heap) (tk : Nat) (t : Tok) , Fr g L' h' (fun y => if y = Str.ofString "pair" then some (.str ⟨#[min c1 c2, max c1 c2]⟩ t) else if y = Str.ofString "cell" then some v1 else if y = Str.ofString "two" then some (.str ⟨#[c1, c2]⟩ tx) else u y) → News g L' h' R → Q .next { s with heap := h', toks := tk }) :
  wpAny (model PySem.Challenge.rw_wc0034_01.row.prog w) ((lwTop 800 4000 gd outer).deeper (lwEnv L')) (exec (twBody[1]!) (lwEnv L')) Q Nev s := by
  have X₀ := X'
  revert X'; k_fill; intro X'
  show wpAny _ _ (exec (Stmt.Assign _ _ _) _) _ _ _
  k_steps
  show wpAny _ _ _ _ _ _
  refine' sorted_two ?zp1 ?zp2 ?zp3 ?_
  case zp1 => rfl
  case zp2 => k_asm
  case zp3 => k_asm
  intro h2 tk2 D2 t1 t2 c9 F2 N2 l2
  k_steps
  show wpAny _ _ _ _ _ _
  refine' PyProof.Rows.join_listC (items := #[Value.str ⟨#[min c1 c2]⟩ t1, Value.str ⟨#[max c1 c2]⟩ t2]) (ys := [⟨#[min c1 c2]⟩, ⟨#[max c1 c2]⟩]) ?zp1 ?zp2 ?zp3 ?zp4 ?_
  case zp1 => exact News.isList N2 (.head _)
  case zp2 => exact .cons _ _ (.cons _ _ .nil)
  case zp3 => decide
  case zp4 => exact Nat.le_of_ble_eq_true rfl
  intro t' k'
  rw [show Txt.join (Str.ofString "") [⟨#[min c1 c2]⟩, ⟨#[max c1 c2]⟩] = ⟨#[min c1 c2, max c1 c2]⟩ from rfl]
  k_steps
  rename Fr g L' _ _ => Fy
  rename News g L' _ _ => Ny
  exact hret _ _ _ Fy (news_sub Ny fun p hp => .tail _ hp)
theorem two_once {g : Heap} {L' v dv ll : Addr} {b1 : Bool} {l : List Part} {nl nv : Nat} {k1 tx ty : Tok} {x y : Str} {R : List (Addr × Obj)} {u : Str → Option Value} {Q : Flow → Shared → Prop}
  (B' : Below (lwTop 800 4000 gd outer) baseH (outer) g) (F' : Fr g L' s.heap (fun z => if z = Str.ofString "pair" then some (.str x tx) else if z = Str.ofString "cell" then some (.str y ty) else if z = Str.ofString "once" then some (.bool b1) else if z = Str.ofString "met" then some (.ref v) else u z)) (X' : (KF w.params).In g)
  (N' : News g L' s.heap ((ll, listOf (l.map pref).toArray nl) :: R)) (T' : Top p loose mean mg mb g) (hv : (v, instObj 342 dv) ∈ R) (hd : (dv, dictOf [ent w.params "_headers" k1 (.ref ll)] nv) ∈ R) (ht : ∀ q ∈ l, (q.1, pO q) ∈ R) (hR : ∀ p ∈ R, p.1 ≠ ll)
  (hc : clean x = true) (hc2 : clean y = true) (hlow : Txt.lower x = x) (hxl : x.length ≤ 1000) (hlows : ∀ q ∈ l, Txt.lower q.2.1.1 = q.2.1.1 ∧ q.2.1.1.length ≤ 1000) (hz : l.length ≤ 900)
  (hret1 : ∀ (h' : Heap) (tk : Nat) (b : Bool), (b1 = false ∧ b = false) ∨ (b1 = true ∧ ∃ z tz, found l x = .str z tz ∧ b = (z == y)) → Fr g L' h' (fun z => if z = Str.ofString "once" then some (.bool b) else if z = Str.ofString "pair" then some (.str x tx) else if z = Str.ofString "cell" then some (.str y ty) else if z = Str.ofString "once" then some (.bool b1) else if z = Str.ofString "met" then some (.ref v) else u z) → News g L' h' ((ll, listOf (l.map pref).toArray nl) :: R) → Q .next { s with heap := h', toks := tk })
  (hret2 : ∀ (h' : Heap) (tk : Nat) (t : Addr) (n' : Nat), b1 = true → found l x = .none → Fr g L' h' (fun z => if z = Str.ofString "once" then some (.bool true) else if z = Str.ofString "pair" then some (.str x tx) else if z = Str.ofString "cell" then some (.str y ty) else if z = Str.ofString "once" then some (.bool b1) else if z = Str.ofString "met" then some (.ref v) else u z) → News g L' h' ((ll, listOf ((l ++ [(t, (x, tx), (y, ty))]).map pref).toArray n') :: (t, tupO [.str x tx, .str y ty]) :: R) → (∀ p ∈ (ll, listOf (l.map pref).toArray nl) :: R, p.1 < t) → Q .next { s with heap := h', toks := tk }) :
  wpAny (model PySem.Challenge.rw_wc0034_01.row.prog w) ((lwTop 800 4000 gd outer).deeper (lwEnv L')) (exec (twBody[2]!) (lwEnv L')) Q Nev s := by
  have X₀ := X'
  revert X'; k_fill; intro X'
  show wpAny _ _ (exec (Stmt.Assign _ _ _) _) _ _ _
  cases b1 with
  | false =>
    k_steps
    rename Fr g L' _ _ => Fy
    rename News g L' _ _ => Ny
    exact hret1 _ _ false (.inl ⟨rfl, rfl⟩) Fy Ny
  | true =>
    k_steps
    show wpAny _ _ _ _ _ _
    refine' setdef_ct (l := l) (ll := ll) (dv := dv) (k1 := k1) (nv := nv) (nl := nl) (news' := fun t n' => (ll, listOf ((l ++ [(t, (x, tx), (y, ty))]).map pref).toArray n') :: R) ?zp1 ?zp2 ?zp3 ?zp4 ?zp5 ?zp6 ?zp7 ?zp8 (.tail _ hv) (.tail _ hd) (.head _) (fun q hq => .tail _ (ht q hq)) hc hc2 hlow hxl hlows hz (fun t n' ht => Upd.head hR) ?_ ?_
    case zp1 => k_asm
    case zp2 => k_asm
    case zp3 => k_asm
    case zp4 => k_asm
    case zp5 => k_asm
    case zp6 => first | exact rfl | assumption
    case zp7 => exact Nat.le_of_ble_eq_true rfl
    case zp8 => exact Nat.le_of_ble_eq_true rfl
    · intro h2 tk2 z tz hf F2 N2
      k_steps
      rename Fr g L' _ _ => Fy
      rename News g L' _ _ => Ny
      exact hret1 _ _ (z == y) (.inr ⟨rfl, z, tz, hf, rfl⟩) Fy Ny
    · intro h2 tk2 t n' hf F2 N2 lt2
      k_steps
      rename Fr g L' _ _ => Fy
      rename News g L' _ _ => Ny
      rw [beq_self_eq_true] at Fy
      refine hret2 _ _ t n' rfl hf Fy (news_sub Ny ?_) lt2
      intro p hp
      rcases List.mem_cons.mp hp with rfl | hp
      · exact .tail _ (.head _)
      rcases List.mem_cons.mp hp with rfl | hp
      · exact .head _
      · exact .tail _ (.tail _ hp)
theorem two_alone {g : Heap} {L' v dv ll : Addr} {b1 : Bool} {l : List Part} {nl nv : Nat} {k1 tx ty : Tok} {x y : Str} {R : List (Addr × Obj)} {u : Str → Option Value} {Q : Flow → Shared → Prop}
  (B' : Below (lwTop 800 4000 gd outer) baseH (outer) g) (F' : Fr g L' s.heap (fun z => if z = Str.ofString "pair" then some (.str y ty) else if z = Str.ofString "cell" then some (.str x tx) else if z = Str.ofString "alone" then some (.bool b1) else if z = Str.ofString "cells" then some (.ref v) else u z)) (X' : (KF w.params).In g)
  (N' : News g L' s.heap ((ll, listOf (l.map pref).toArray nl) :: R)) (T' : Top p loose mean mg mb g) (hv : (v, instObj 342 dv) ∈ R) (hd : (dv, dictOf [ent w.params "_headers" k1 (.ref ll)] nv) ∈ R) (ht : ∀ q ∈ l, (q.1, pO q) ∈ R) (hR : ∀ p ∈ R, p.1 ≠ ll)
  (hc : clean x = true) (hc2 : clean y = true) (hlow : Txt.lower x = x) (hxl : x.length ≤ 1000) (hlows : ∀ q ∈ l, Txt.lower q.2.1.1 = q.2.1.1 ∧ q.2.1.1.length ≤ 1000) (hz : l.length ≤ 900)
  (hret1 : ∀ (h' : Heap) (tk : Nat) (b : Bool), (b1 = false ∧ b = false) ∨ (b1 = true ∧ ∃ z tz, found l x = .str z tz ∧ b = (z == y)) → Fr g L' h' (fun z => if z = Str.ofString "alone" then some (.bool b) else if z = Str.ofString "pair" then some (.str y ty) else if z = Str.ofString "cell" then some (.str x tx) else if z = Str.ofString "alone" then some (.bool b1) else if z = Str.ofString "cells" then some (.ref v) else u z) → News g L' h' ((ll, listOf (l.map pref).toArray nl) :: R) → Q .next { s with heap := h', toks := tk })
  (hret2 : ∀ (h' : Heap) (tk : Nat) (t : Addr) (n' : Nat), b1 = true → found l x = .none → Fr g L' h' (fun z => if z = Str.ofString "alone" then some (.bool true) else if z = Str.ofString "pair" then some (.str y ty) else if z = Str.ofString "cell" then some (.str x tx) else if z = Str.ofString "alone" then some (.bool b1) else if z = Str.ofString "cells" then some (.ref v) else u z) → News g L' h' ((ll, listOf ((l ++ [(t, (x, tx), (y, ty))]).map pref).toArray n') :: (t, tupO [.str x tx, .str y ty]) :: R) → (∀ p ∈ (ll, listOf (l.map pref).toArray nl) :: R, p.1 < t) → Q .next { s with heap := h', toks := tk }) :
  wpAny (model PySem.Challenge.rw_wc0034_01.row.prog w) ((lwTop 800 4000 gd outer).deeper (lwEnv L')) (exec (twBody[3]!) (lwEnv L')) Q Nev s := by
  have X₀ := X'
  revert X'; k_fill; intro X'
  show wpAny _ _ (exec (Stmt.Assign _ _ _) _) _ _ _
  cases b1 with
  | false =>
    k_steps
    rename Fr g L' _ _ => Fy
    rename News g L' _ _ => Ny
    exact hret1 _ _ false (.inl ⟨rfl, rfl⟩) Fy Ny
  | true =>
    k_steps
    show wpAny _ _ _ _ _ _
    refine' setdef_ct (l := l) (ll := ll) (dv := dv) (k1 := k1) (nv := nv) (nl := nl) (news' := fun t n' => (ll, listOf ((l ++ [(t, (x, tx), (y, ty))]).map pref).toArray n') :: R) ?zp1 ?zp2 ?zp3 ?zp4 ?zp5 ?zp6 ?zp7 ?zp8 (.tail _ hv) (.tail _ hd) (.head _) (fun q hq => .tail _ (ht q hq)) hc hc2 hlow hxl hlows hz (fun t n' ht => Upd.head hR) ?_ ?_
    case zp1 => k_asm
    case zp2 => k_asm
    case zp3 => k_asm
    case zp4 => k_asm
    case zp5 => k_asm
    case zp6 => first | exact rfl | assumption
    case zp7 => exact Nat.le_of_ble_eq_true rfl
    case zp8 => exact Nat.le_of_ble_eq_true rfl
    · intro h2 tk2 z tz hf F2 N2
      k_steps
      rename Fr g L' _ _ => Fy
      rename News g L' _ _ => Ny
      exact hret1 _ _ (z == y) (.inr ⟨rfl, z, tz, hf, rfl⟩) Fy Ny
    · intro h2 tk2 t n' hf F2 N2 lt2
      k_steps
      rename Fr g L' _ _ => Fy
      rename News g L' _ _ => Ny
      rw [beq_self_eq_true] at Fy
      refine hret2 _ _ t n' rfl hf Fy (news_sub Ny ?_) lt2
      intro p hp
      rcases List.mem_cons.mp hp with rfl | hp
      · exact .tail _ (.head _)
      rcases List.mem_cons.mp hp with rfl | hp
      · exact .head _
      · exact .tail _ (.tail _ hp)
end
end
theorem rs_L57 : True := by
  have h : (1 : Nat) = 1 := by walk1
  w_top off; exact trivial
section
local macro_rules | `(tactic| walk_at "exec Assign") => `(tactic| ((with_reducible show wpAny _ _ (exec (Stmt.Assign _ _ _) _) _ _ _); refine halt ?_))
theorem Fr.n2 {g h : Heap} {L : Addr} {m : Str → Option Value} (F : Fr g L h m) (a b : Str) {x y : Value} (h1 : m a = some x) (h2 : m b = some y) : Fr g L h (fun z => if z = a then some x else if z = b then some y else m z) := by
  have e : m = fun z => if z = a then some x else if z = b then some y else m z := by
    funext z
    split
    · next e => rw [e, h1]
    · split
      · next e => rw [e, h2]
      · rfl
  rw [← e]; exact F
theorem Fr.n3 {g h : Heap} {L : Addr} {m : Str → Option Value} (F : Fr g L h m) (a b c : Str) {x y z : Value} (h1 : m a = some x) (h2 : m b = some y) (h3 : m c = some z) : Fr g L h (fun k => if k = a then some x else if k = b then some y else if k = c then some z else m k) := by
  have e : m = fun k => if k = a then some x else if k = b then some y else if k = c then some z else m k := by
    funext k
    split
    · next e => rw [e, h1]
    · split
      · next e => rw [e, h2]
      · split
        · next e => rw [e, h3]
        · rfl
  rw [← e]; exact F
theorem Fr.n4 {g h : Heap} {L : Addr} {m : Str → Option Value} (F : Fr g L h m) (a b c d : Str) {x y z v : Value} (h1 : m a = some x) (h2 : m b = some y) (h3 : m c = some z) (h4 : m d = some v) : Fr g L h (fun k => if k = a then some x else if k = b then some y else if k = c then some z else if k = d then some v else m k) := by
  have e : m = fun k => if k = a then some x else if k = b then some y else if k = c then some z else if k = d then some v else m k := by
    funext k
    split
    · next e => rw [e, h1]
    · split
      · next e => rw [e, h2]
      · split
        · next e => rw [e, h3]
        · split
          · next e => rw [e, h4]
          · rfl
  rw [← e]; exact F
noncomputable abbrev lwMap (b1 b2 : Bool) (v v2 : Addr) (hm sg : Str) (th tg : Tok) (u : Str → Option Value) : Str → Option Value := fun k => if k = Str.ofString "once" then some (.bool b1) else if k = Str.ofString "alone" then some (.bool b2) else if k = Str.ofString "met" then some (.ref v) else if k = Str.ofString "cells" then some (.ref v2) else if k = Str.ofString "home" then some (.str hm th) else if k = Str.ofString "signs" then some (.str sg tg) else u k
theorem Fr.lw {b1 b2 : Bool} {v v2 : Addr} {hm sg : Str} {th tg : Tok} {g h : Heap} {L : Addr} {m : Str → Option Value} (F : Fr g L h m) (h1 : m (Str.ofString "once") = some (.bool b1)) (h2 : m (Str.ofString "alone") = some (.bool b2)) (h3 : m (Str.ofString "met") = some (.ref v)) (h4 : m (Str.ofString "cells") = some (.ref v2)) (h5 : m (Str.ofString "home") = some (.str hm th)) (h6 : m (Str.ofString "signs") = some (.str sg tg)) : Fr g L h (lwMap b1 b2 v v2 hm sg th tg m) := by
  have e : m = lwMap b1 b2 v v2 hm sg th tg m := by
    funext k
    unfold lwMap
    split
    · next e => rw [e, h1]
    · split
      · next e => rw [e, h2]
      · split
        · next e => rw [e, h3]
        · split
          · next e => rw [e, h4]
          · split
            · next e => rw [e, h5]
            · split
              · next e => rw [e, h6]
              · rfl
  rw [← e]; exact F
noncomputable abbrev pEnt (q : Part) : Addr × Obj := (q.1, pO q)
noncomputable abbrev lwNews (ll ll2 : Addr) (l1 l2 : List Part) (n1 n2 : Nat) (base : List (Addr × Obj)) : List (Addr × Obj) := (ll, listOf (l1.map pref).toArray n1) :: (ll2, listOf (l2.map pref).toArray n2) :: (l1.map pEnt ++ (l2.map pEnt ++ base))
noncomputable def texts (l : List Part) : List (Str × Str) := l.map fun q => (q.2.1.1, q.2.2.1)
/-- what a Headers gives for a name -/
noncomputable def lk (t : List (Str × Str)) (x : Str) : Option Str := (t.find? (fun q => q.1 == x)).map (·.2)
/-- once and met.setdefault(x, y) == y -/
noncomputable def andd (b : Bool) (t : List (Str × Str)) (x y : Str) : Bool × List (Str × Str) := match b, lk t x with
  | false, _ => (false, t)
  | true, some z => (z == y, t)
  | true, none => (true, t ++ [(x, y)])
theorem found_lk (l : List Part) (x : Str) : (∃ z tz, found l x = .str z tz ∧ lk (texts l) x = some z) ∨ (found l x = .none ∧ lk (texts l) x = none) := by
  unfold found lk texts
  induction l with
  | nil => exact .inr ⟨rfl, rfl⟩
  | cons q l ih =>
    simp only [List.map_cons, List.find?_cons]
    cases h : (q.2.1.1 == x) with
    | true => exact .inl ⟨_, _, rfl, rfl⟩
    | false => exact ih
theorem news_ne {g h : Heap} {L a b : Addr} {o o' : Obj} {news : List (Addr × Obj)} (N : News g L h news) (h1 : (a, o) ∈ news) (h2 : (b, o') ∈ news) (hne : o.cls ≠ o'.cls) : a ≠ b := by
  intro e
  subst e
  have q1 := (N _ h1).1
  have q2 := (N _ h2).1
  rw [q1] at q2
  exact hne (congrArg Obj.cls (Option.some.inj q2))
noncomputable def Good (x : Str) : Prop := clean x = true ∧ Txt.lower x = x ∧ x.length ≤ 1000
theorem Good.of_texts {l : List Part} (h : ∀ e ∈ texts l, Good e.1) : ∀ q ∈ l, Txt.lower q.2.1.1 = q.2.1.1 ∧ q.2.1.1.length ≤ 1000 := fun q hq => (h _ (List.mem_map_of_mem (f := fun q : Part => (q.2.1.1, q.2.2.1)) hq)).2
section
variable {w : World} {p : Program} {loose : List Str} {mean : ExcName → Option Value} {mg mb : Str → Option Value} {dp un : Nat} {gd : Option (List Code)} {cn : Str} {cs : Scope} {a : Addr} {ccd : Value} {cl : List (Str × Addr)} {outer : List Env} {A₀ : Around} {baseH h₀ : Heap} {L : Addr} {m : Str → Option Value} {news : List (Addr × Obj)} {s : Shared} {Q E : Value → Shared → Prop}
set_option maxHeartbeats 2000000
theorem two_tail {base : List (Addr × Obj)} {g : Heap} {L' v ll v2 dv2 ll2 : Addr} {l1 l2 : List Part} {n1 n2 nv2 : Nat} {b1 b2 : Bool} {k2 tg th tp tc : Tok} {sg hm pr cell : Str} {mm : Str → Option Value} {Q : Flow → Shared → Prop}
  (B' : Below (lwTop 800 4000 gd outer) baseH (outer) g) (F' : Fr g L' s.heap mm) (X' : (KF w.params).In g) (N' : News g L' s.heap (lwNews ll ll2 l1 l2 n1 n2 base)) (T' : Top p loose mean mg mb g)
  (e1 : mm (Str.ofString "pair") = some (.str pr tp)) (e2 : mm (Str.ofString "cell") = some (.str cell tc)) (e3 : mm (Str.ofString "once") = some (.bool b1)) (e4 : mm (Str.ofString "alone") = some (.bool b2)) (e5 : mm (Str.ofString "met") = some (.ref v)) (e6 : mm (Str.ofString "cells") = some (.ref v2)) (e7 : mm (Str.ofString "home") = some (.str hm th)) (e8 : mm (Str.ofString "signs") = some (.str sg tg))
  (hb : ∀ p ∈ base, p.1 ≠ ll ∧ p.1 ≠ ll2) (hne : ll ≠ ll2) (hv2 : (v2, instObj 342 dv2) ∈ base) (hd2 : (dv2, dictOf [ent w.params "_headers" k2 (.ref ll2)] nv2) ∈ base)
  (g1 : Good cell) (g2 : Good pr) (q2 : ∀ e ∈ texts l2, Good e.1) (hz2 : l2.length ≤ 800)
  (hret : ∀ (h' : Heap) (tk : Nat) (l2' : List Part) (n2' : Nat) (u' : Str → Option Value), Fr g L' h' (lwMap b1 (andd b2 (texts l2) cell pr).1 v v2 hm sg th tg u') → News g L' h' (lwNews ll ll2 l1 l2' n1 n2' base) → texts l2' = (andd b2 (texts l2) cell pr).2 → u' (Str.ofString "pairs") = mm (Str.ofString "pairs") → Q .next { s with heap := h', toks := tk }) :
  wpAny (model PySem.Challenge.rw_wc0034_01.row.prog w) ((lwTop 800 4000 gd outer).deeper (lwEnv L')) (exec (twBody[3]!) (lwEnv L')) Q Nev s := by
  have N1 : News g L' s.heap ((ll2, listOf (l2.map pref).toArray n2) :: (ll, listOf (l1.map pref).toArray n1) :: (l1.map pEnt ++ (l2.map pEnt ++ base))) := news_sub N' (by
    intro p hp
    rcases List.mem_cons.mp hp with rfl | hp
    · exact .tail _ (.head _)
    rcases List.mem_cons.mp hp with rfl | hp
    · exact .head _
    · exact .tail _ (.tail _ hp))
  have hR : ∀ p ∈ ((ll, listOf (l1.map pref).toArray n1) :: (l1.map pEnt ++ (l2.map pEnt ++ base)) : List (Addr × Obj)), p.1 ≠ ll2 := by
    intro p hp
    rcases List.mem_cons.mp hp with rfl | hp'
    · exact hne
    have hp2 := hp'
    rcases List.mem_append.mp hp' with hp' | hp'
    · obtain ⟨q, hq, rfl⟩ := List.mem_map.mp hp'
      exact news_ne N1 (.tail _ (.tail _ hp2)) (.head _) (by show Value.type "tuple" ≠ Value.type "list"; decide)
    rcases List.mem_append.mp hp' with hp' | hp'
    · obtain ⟨q, hq, rfl⟩ := List.mem_map.mp hp'
      exact news_ne N1 (.tail _ (.tail _ hp2)) (.head _) (by show Value.type "tuple" ≠ Value.type "list"; decide)
    · exact (hb p hp').2
  have inB : ∀ {e}, e ∈ base → e ∈ ((ll, listOf (l1.map pref).toArray n1) :: (l1.map pEnt ++ (l2.map pEnt ++ base)) : List (Addr × Obj)) := fun h => .tail _ (List.mem_append_right _ (List.mem_append_right _ h))
  refine two_alone (l := l2) (ll := ll2) (v := v2) (dv := dv2) (x := cell) (y := pr) (b1 := b2) B' (Fr.n4 F' _ _ _ _ e1 e2 e4 e6) X' N1 T' (inB hv2) (inB hd2) (fun q hq => .tail _ (List.mem_append_right _ (List.mem_append_left _ (List.mem_map_of_mem (f := pEnt) hq)))) hR g1.1 g2.1 g1.2.1 g1.2.2 (Good.of_texts q2) (by omega) ?_ ?_
  · intro h2 tk2 b hcase F2 N2
    have eb : andd b2 (texts l2) cell pr = (b, texts l2) := by
      rcases hcase with ⟨rfl, rfl⟩ | ⟨rfl, z, tz, hf, rfl⟩
      · rfl
      · rcases found_lk l2 cell with ⟨z', tz', hf', hl⟩ | ⟨hf', _⟩
        · rw [hf] at hf'
          injection hf' with e _
          subst e
          unfold andd
          rw [hl]
        · rw [hf] at hf'; cases hf'
    refine hret h2 tk2 l2 n2 _ (Fr.lw (b2 := (andd b2 (texts l2) cell pr).1) F2 e3 (Eq.trans (rfl : _ = some (Value.bool b)) (by rw [eb])) e5 rfl e7 e8) (news_sub N2 ?_) (by rw [eb]) rfl
    · intro p hp
      rcases List.mem_cons.mp hp with rfl | hp
      · exact .tail _ (.head _)
      rcases List.mem_cons.mp hp with rfl | hp
      · exact .head _
      · exact .tail _ (.tail _ hp)
  · intro h2 tk2 t n' hb2 hf F2 N2 lt2
    subst hb2
    have eb : andd true (texts l2) cell pr = (true, texts l2 ++ [(cell, pr)]) := by
      rcases found_lk l2 cell with ⟨z', tz', hf', hl⟩ | ⟨hf', hl⟩
      · rw [hf] at hf'; cases hf'
      · unfold andd
        rw [hl]
    refine hret h2 tk2 (l2 ++ [(t, (cell, tc), (pr, tp))]) n' _ (Fr.lw (b2 := (andd true (texts l2) cell pr).1) F2 e3 (Eq.trans (rfl : _ = some (Value.bool true)) (by rw [eb])) e5 rfl e7 e8) (news_sub N2 ?_) (by rw [eb]; unfold texts; rw [List.map_append]; rfl) rfl
    · intro p hp
      rcases List.mem_cons.mp hp with rfl | hp
      · exact .tail _ (.tail _ (.head _))
      rcases List.mem_cons.mp hp with rfl | hp
      · exact .head _
      rcases List.mem_append.mp hp with hp | hp
      · exact .tail _ (.tail _ (.tail _ (List.mem_append_left _ hp)))
      rcases List.mem_append.mp hp with hp | hp
      · rw [List.map_append] at hp
        rcases List.mem_append.mp hp with hp | hp
        · exact .tail _ (.tail _ (.tail _ (List.mem_append_right _ (List.mem_append_left _ hp))))
        · rcases List.mem_singleton.mp hp with rfl
          exact .tail _ (.head _)
      · exact .tail _ (.tail _ (.tail _ (List.mem_append_right _ (List.mem_append_right _ hp))))
theorem two_turn {base : List (Addr × Obj)} {g : Heap} {L' v dv ll v2 dv2 ll2 : Addr} {l1 l2 : List Part} {n1 n2 nv nv2 : Nat} {b1 b2 : Bool} {k1 k2 tg th tx : Tok} {sg : Str} {s0 c1 c2 c3 i3 cc : Nat} {u : Str → Option Value} {Q : Flow → Shared → Prop} {z1 : Pos}
  (B' : Below (lwTop 800 4000 gd outer) baseH (outer) g) (F' : Fr g L' s.heap (lwMap b1 b2 v v2 ⟨#[c3]⟩ sg th tg u)) (X' : (KF w.params).In g) (N' : News g L' s.heap (lwNews ll ll2 l1 l2 n1 n2 base)) (T' : Top p loose mean mg mb g)
  (hb : ∀ p ∈ base, p.1 ≠ ll ∧ p.1 ≠ ll2) (hne : ll ≠ ll2) (hv : (v, instObj 342 dv) ∈ base) (hd : (dv, dictOf [ent w.params "_headers" k1 (.ref ll)] nv) ∈ base) (hv2 : (v2, instObj 342 dv2) ∈ base) (hd2 : (dv2, dictOf [ent w.params "_headers" k2 (.ref ll2)] nv2) ∈ base)
  (f3 : Fig w.params c3 (s0 + i3)) (hs0 : 0 < sg.length) (hs1 : sg.length ≤ 100) (hsg : ∀ j c, sg.cps[j]? = some c → Fig w.params c (s0 + j)) (hc : ColOk w.params sg s0 c3 i3 ⟨#[c1, c2]⟩ cc)
  (g1 : Good ⟨#[c3, cc]⟩) (g2 : Good ⟨#[min c1 c2, max c1 c2]⟩) (q1 : ∀ e ∈ texts l1, Good e.1) (q2 : ∀ e ∈ texts l2, Good e.1) (hz1 : l1.length ≤ 800) (hz2 : l2.length ≤ 800)
  (hret : ∀ (h' : Heap) (tk : Nat) (l1' l2' : List Part) (n1' n2' : Nat) (u' : Str → Option Value), Fr g L' h' (lwMap (andd b1 (texts l1) ⟨#[min c1 c2, max c1 c2]⟩ ⟨#[c3, cc]⟩).1 (andd b2 (texts l2) ⟨#[c3, cc]⟩ ⟨#[min c1 c2, max c1 c2]⟩).1 v v2 ⟨#[c3]⟩ sg th tg u') → News g L' h' (lwNews ll ll2 l1' l2' n1' n2' base) → texts l1' = (andd b1 (texts l1) ⟨#[min c1 c2, max c1 c2]⟩ ⟨#[c3, cc]⟩).2 → texts l2' = (andd b2 (texts l2) ⟨#[c3, cc]⟩ ⟨#[min c1 c2, max c1 c2]⟩).2 → u' (Str.ofString "pairs") = u (Str.ofString "pairs") → Q .next { s with heap := h', toks := tk }) :
  wpAny (model PySem.Challenge.rw_wc0034_01.row.prog w) ((lwTop 800 4000 gd outer).deeper (lwEnv L')) (assign (.Name (Str.ofString "two") z1) (lwEnv L') (.str ⟨#[c1, c2]⟩ tx)) (fun _ s₃ => wpAny (model PySem.Challenge.rw_wc0034_01.row.prog w) ((lwTop 800 4000 gd outer).deeper (lwEnv L')) (execs twBody (lwEnv L')) Q Nev s₃) Nev s := by
  have X₀ := X'
  revert X'; k_fill; intro X'
  k_steps
  show wpAny _ _ _ _ _ _
  rename Fr g L' _ _ => F1
  rename News g L' _ _ => N1
  refine two_cell (sg := sg) (s0 := s0) (c3 := c3) (i3 := i3) B' (Fr.n3 F1 (Str.ofString "two") (Str.ofString "home") (Str.ofString "signs") rfl rfl rfl) X₀ N1 T' f3 hs0 hs1 hsg hc ?_
  clear F1 N1
  intro h2 tk2 t2 F2 N2
  dsimp only
  k_steps
  show wpAny _ _ _ _ _ _
  refine two_pair B' (Fr.n2 F2 (Str.ofString "cell") (Str.ofString "two") rfl rfl) X₀ N2 T' ?_
  clear F2 N2
  intro h3 tk3 t3 F3 N3
  dsimp only
  k_steps
  show wpAny _ _ _ _ _ _
  have inB : ∀ {e}, e ∈ base → e ∈ ((ll2, listOf (l2.map pref).toArray n2) :: (l1.map pEnt ++ (l2.map pEnt ++ base)) : List (Addr × Obj)) := fun h => .tail _ (List.mem_append_right _ (List.mem_append_right _ h))
  have hR : ∀ p ∈ ((ll2, listOf (l2.map pref).toArray n2) :: (l1.map pEnt ++ (l2.map pEnt ++ base)) : List (Addr × Obj)), p.1 ≠ ll := by
    intro p hp
    rcases List.mem_cons.mp hp with rfl | hp'
    · exact Ne.symm hne
    have hp2 := hp'
    rcases List.mem_append.mp hp' with hp' | hp'
    · obtain ⟨q, hq, rfl⟩ := List.mem_map.mp hp'
      exact news_ne N3 (.tail _ (.tail _ hp2)) (.head _) (by show Value.type "tuple" ≠ Value.type "list"; decide)
    rcases List.mem_append.mp hp' with hp' | hp'
    · obtain ⟨q, hq, rfl⟩ := List.mem_map.mp hp'
      exact news_ne N3 (.tail _ (.tail _ hp2)) (.head _) (by show Value.type "tuple" ≠ Value.type "list"; decide)
    · exact (hb p hp').1
  refine two_once (l := l1) (ll := ll) (v := v) (dv := dv) (x := ⟨#[min c1 c2, max c1 c2]⟩) (y := ⟨#[c3, cc]⟩) (b1 := b1) B' (Fr.n4 F3 (Str.ofString "pair") (Str.ofString "cell") (Str.ofString "once") (Str.ofString "met") rfl rfl rfl rfl) X₀ N3 T' (inB hv) (inB hd) (fun q hq => .tail _ (List.mem_append_left _ (List.mem_map_of_mem (f := pEnt) hq))) hR g2.1 g1.1 g2.2.1 g2.2.2 (Good.of_texts q1) (by omega) ?_ ?_
  · intro h4 tk4 b hcase F4 N4
    have eb : andd b1 (texts l1) ⟨#[min c1 c2, max c1 c2]⟩ ⟨#[c3, cc]⟩ = (b, texts l1) := by
      rcases hcase with ⟨rfl, rfl⟩ | ⟨rfl, z, tz, hf, rfl⟩
      · rfl
      · rcases found_lk l1 ⟨#[min c1 c2, max c1 c2]⟩ with ⟨z', tz', hf', hl⟩ | ⟨hf', _⟩
        · rw [hf] at hf'
          injection hf' with e _
          subst e
          unfold andd
          rw [hl]
        · rw [hf] at hf'; cases hf'
    dsimp only
    k_steps
    show wpAny _ _ _ _ _ _
    refine two_tail (l1 := l1) (l2 := l2) (b1 := b) (b2 := b2) B' F4 X₀ N4 T' rfl rfl rfl rfl rfl rfl rfl rfl hb hne hv2 hd2 g1 g2 q2 hz2 ?_
    intro h5 tk5 l2' n2' u5 F5 N5 e5 eu
    dsimp only
    k_steps
    rename Fr g L' _ _ => F6
    exact hret _ _ l1 l2' n1 n2' u5 (by rw [eb]; exact F6) N5 (by rw [eb]) e5 eu
  · intro h4 tk4 t n' hb2 hf F4 N4 lt2
    subst hb2
    have eb : andd true (texts l1) ⟨#[min c1 c2, max c1 c2]⟩ ⟨#[c3, cc]⟩ = (true, texts l1 ++ [(⟨#[min c1 c2, max c1 c2]⟩, ⟨#[c3, cc]⟩)]) := by
      rcases found_lk l1 ⟨#[min c1 c2, max c1 c2]⟩ with ⟨z', tz', hf', hl⟩ | ⟨hf', hl⟩
      · rw [hf] at hf'; cases hf'
      · unfold andd
        rw [hl]
    have N5 : News g L' h4 (lwNews ll ll2 (l1 ++ [(t, (⟨#[min c1 c2, max c1 c2]⟩, t3), (⟨#[c3, cc]⟩, t2))]) l2 n' n2 base) := by
      refine news_sub N4 ?_
      intro p hp
      rcases List.mem_cons.mp hp with rfl | hp
      · exact .head _
      rcases List.mem_cons.mp hp with rfl | hp
      · exact .tail _ (.tail _ (.head _))
      rcases List.mem_append.mp hp with hp | hp
      · rw [List.map_append] at hp
        rcases List.mem_append.mp hp with hp | hp
        · exact .tail _ (.tail _ (.tail _ (List.mem_append_left _ hp)))
        · rcases List.mem_singleton.mp hp with rfl
          exact .tail _ (.head _)
      · exact .tail _ (.tail _ (.tail _ (List.mem_append_right _ hp)))
    dsimp only
    k_steps
    show wpAny _ _ _ _ _ _
    refine two_tail (l1 := l1 ++ [(t, (⟨#[min c1 c2, max c1 c2]⟩, t3), (⟨#[c3, cc]⟩, t2))]) (l2 := l2) (b1 := true) (b2 := b2) B' F4 X₀ N5 T' rfl rfl rfl rfl rfl rfl rfl rfl hb hne hv2 hd2 g1 g2 q2 hz2 ?_
    intro h5 tk5 l2' n2' u5 F5 N6 e5 eu
    dsimp only
    k_steps
    rename Fr g L' _ _ => F6
    exact hret _ _ _ l2' n' n2' u5 (by rw [eb]; exact F6) N6 (by rw [eb]; unfold texts; rw [List.map_append]; rfl) e5 eu
end
end
theorem rs_L58 : True := by
  have h : (1 : Nat) = 1 := by walk1
  w_top off; exact trivial
noncomputable abbrev prT (e : Nat × Nat × Nat) : Str := ⟨#[min e.1 e.2.1, max e.1 e.2.1]⟩
noncomputable abbrev ceT (c3 : Nat) (e : Nat × Nat × Nat) : Str := ⟨#[c3, e.2.2]⟩
noncomputable abbrev St := (Bool × List (Str × Str)) × (Bool × List (Str × Str))
noncomputable def stepT (c3 : Nat) (st : St) (e : Nat × Nat × Nat) : St := (andd st.1.1 st.1.2 (prT e) (ceT c3 e), andd st.2.1 st.2.2 (ceT c3 e) (prT e))
noncomputable def RowOk (P : Params) (sg : Str) (s0 c3 i3 : Nat) (its : List (Nat × Nat × Nat)) : Prop := ∀ e ∈ its, ColOk P sg s0 c3 i3 ⟨#[e.1, e.2.1]⟩ e.2.2 ∧ Good (ceT c3 e) ∧ Good (prT e)
theorem andd_len (b : Bool) (t : List (Str × Str)) (x y : Str) : (andd b t x y).2.length ≤ t.length + 1 := by
  unfold andd
  split <;> simp
theorem andd_good {b : Bool} {t : List (Str × Str)} {x y : Str} (h : ∀ e ∈ t, Good e.1) (hx : Good x) : ∀ e ∈ (andd b t x y).2, Good e.1 := by
  unfold andd
  split
  · exact h
  · exact h
  · intro e he
    rcases List.mem_append.mp he with he | he
    · exact h e he
    · rw [List.mem_singleton.mp he]; exact hx
theorem texts_len {l : List Part} {t : List (Str × Str)} (h : texts l = t) : l.length = t.length := by rw [← h]; simp [texts]
section
variable {w : World} {p : Program} {loose : List Str} {mean : ExcName → Option Value} {mg mb : Str → Option Value} {dp un : Nat} {gd : Option (List Code)} {cn : Str} {cs : Scope} {a : Addr} {ccd : Value} {cl : List (Str × Addr)} {outer : List Env} {A₀ : Around} {baseH h₀ : Heap} {L : Addr} {m : Str → Option Value} {news : List (Addr × Obj)} {s : Shared} {Q E : Value → Shared → Prop}
set_option maxHeartbeats 2000000
theorem two_loop {base : List (Addr × Obj)} {g : Heap} {L' v dv ll v2 dv2 ll2 ra : Addr} {l1 l2 : List Part} {n1 n2 nv nv2 : Nat} {k1 k2 tg th : Tok} {sg : Str} {s0 c3 i3 : Nat} {st : St} {q : List (Str × Tok)} {its : List (Nat × Nat × Nat)} {u : Str → Option Value} {Q : Flow → Shared → Prop} {z1 : Pos}
  (B' : Below (lwTop 800 4000 gd outer) baseH (outer) g) (F' : Fr g L' s.heap (lwMap st.1.1 st.2.1 v v2 ⟨#[c3]⟩ sg th tg u)) (X' : (KF w.params).In g) (N' : News g L' s.heap (lwNews ll ll2 l1 l2 n1 n2 base)) (T' : Top p loose mean mg mb g)
  (ht1 : texts l1 = st.1.2) (ht2 : texts l2 = st.2.2)
  (hb : ∀ p ∈ base, p.1 ≠ ll ∧ p.1 ≠ ll2) (hne : ll ≠ ll2) (hv : (v, instObj 342 dv) ∈ base) (hd : (dv, dictOf [ent w.params "_headers" k1 (.ref ll)] nv) ∈ base) (hv2 : (v2, instObj 342 dv2) ∈ base) (hd2 : (dv2, dictOf [ent w.params "_headers" k2 (.ref ll2)] nv2) ∈ base)
  (hra : (ra, listOf (strValues q).toArray 0) ∈ base) (hq : q.map (·.1) = its.map fun e => ⟨#[e.1, e.2.1]⟩) (hro : RowOk w.params sg s0 c3 i3 its)
  (f3 : Fig w.params c3 (s0 + i3)) (hs0 : 0 < sg.length) (hs1 : sg.length ≤ 100) (hsg : ∀ j c, sg.cps[j]? = some c → Fig w.params c (s0 + j))
  (q1 : ∀ e ∈ st.1.2, Good e.1) (q2 : ∀ e ∈ st.2.2, Good e.1) (hz1 : st.1.2.length + its.length ≤ 700) (hz2 : st.2.2.length + its.length ≤ 700)
  (hret : ∀ (h' : Heap) (tk : Nat) (l1' l2' : List Part) (n1' n2' : Nat) (u' : Str → Option Value), Fr g L' h' (lwMap (its.foldl (stepT c3) st).1.1 (its.foldl (stepT c3) st).2.1 v v2 ⟨#[c3]⟩ sg th tg u') → News g L' h' (lwNews ll ll2 l1' l2' n1' n2' base) → texts l1' = (its.foldl (stepT c3) st).1.2 → texts l2' = (its.foldl (stepT c3) st).2.2 → (∀ e ∈ (its.foldl (stepT c3) st).1.2, Good e.1) → (its.foldl (stepT c3) st).1.2.length ≤ st.1.2.length + its.length → u' (Str.ofString "pairs") = u (Str.ofString "pairs") → Q .next { s with heap := h', toks := tk }) :
  wpAny (model PySem.Challenge.rw_wc0034_01.row.prog w) ((lwTop 800 4000 gd outer).deeper (lwEnv L')) (pyIter (.ref ra)) (fun it s₂ => LoopG PySem.Challenge.rw_wc0034_01.row.prog w ((lwTop 800 4000 gd outer).deeper (lwEnv L')) (lwEnv L') (.Name (Str.ofString "two") z1) twBody Q it s₂) E s := by
  have inB : ∀ {l1 l2 : List Part} {n1 n2 : Nat} {e}, e ∈ base → e ∈ lwNews ll ll2 l1 l2 n1 n2 base := fun h => .tail _ (.tail _ (List.mem_append_right _ (List.mem_append_right _ h)))
  have hlen : q.length = its.length := by simpa using congrArg List.length hq
  refine iter_listG (vs := strValues q) rfl F' N' (inB hra) rfl rfl (fun i g' m' n' => g' = s.gens ∧ ∃ l1 l2 n1 n2 u1, m' = lwMap ((its.take i).foldl (stepT c3) st).1.1 ((its.take i).foldl (stepT c3) st).2.1 v v2 ⟨#[c3]⟩ sg th tg u1 ∧ n' = lwNews ll ll2 l1 l2 n1 n2 base ∧ texts l1 = ((its.take i).foldl (stepT c3) st).1.2 ∧ texts l2 = ((its.take i).foldl (stepT c3) st).2.2 ∧ (∀ e ∈ texts l1, Good e.1) ∧ (∀ e ∈ texts l2, Good e.1) ∧ l1.length ≤ st.1.2.length + i ∧ l2.length ≤ st.2.2.length + i ∧ u1 (Str.ofString "pairs") = u (Str.ofString "pairs")) ⟨rfl, l1, l2, n1, n2, u, rfl, rfl, ht1, ht2, by rw [ht1]; exact q1, by rw [ht2]; exact q2, by rw [texts_len ht1]; omega, by rw [texts_len ht2]; omega, rfl⟩ ?_ ?_
  · rintro I i vq g1 m1 news1 h1 tk1 it s' hvq ⟨rfl, l1, l2, n1, n2, u1, rfl, rfl, e1, e2, e3, e4, e5, e6, eu⟩ hmem hn hd' hos F1 N1 hit
    have hvq2 : (q.map fun q => Value.str q.1 q.2)[i]? = some vq := hvq
    rw [List.getElem?_map] at hvq2
    obtain ⟨qi, hqi, rfl⟩ := Option.map_eq_some_iff.mp hvq2
    have hil : i < q.length := (List.getElem?_eq_some_iff.mp hqi).1
    obtain ⟨e, he⟩ : ∃ e, its[i]? = some e := ⟨_, List.getElem?_eq_getElem (by omega)⟩
    have hx : qi.1 = ⟨#[e.1, e.2.1]⟩ := by
      have h := congrArg (fun l => l[i]?) hq
      simp only [List.getElem?_map, hqi, he, Option.map_some] at h
      exact Option.some.inj h
    obtain ⟨r1, r2, r3⟩ := hro e (List.mem_of_getElem? he)
    have hst : (its.take (i + 1)).foldl (stepT c3) st = stepT c3 ((its.take i).foldl (stepT c3) st) e := by
      rw [List.take_add_one, he, List.foldl_append]; rfl
    obtain ⟨qx, qt⟩ := qi
    dsimp only at hx
    subst hx
    refine two_turn (base := (I, it) :: base) (s := ⟨h1, s.gens, s'.drawn, tk1, s'.os⟩) (l1 := l1) (l2 := l2) (n1 := n1) (n2 := n2) (c3 := c3) (cc := e.2.2) (s0 := s0) (i3 := i3) B' F1 X' (news_sub N1 ?_) T' ?_ hne (.tail _ hv) (.tail _ hd) (.tail _ hv2) (.tail _ hd2) f3 hs0 hs1 hsg r1 r2 r3 e3 e4 (by omega) (by omega) ?_
    · intro p hp
      rcases List.mem_cons.mp hp with rfl | hp
      · exact .tail _ (.head _)
      rcases List.mem_cons.mp hp with rfl | hp
      · exact .tail _ (.tail _ (.head _))
      rcases List.mem_append.mp hp with hp | hp
      · exact .tail _ (.tail _ (.tail _ (List.mem_append_left _ hp)))
      rcases List.mem_append.mp hp with hp | hp
      · exact .tail _ (.tail _ (.tail _ (List.mem_append_right _ (List.mem_append_left _ hp))))
      rcases List.mem_cons.mp hp with rfl | hp
      · exact .head _
      · exact .tail _ (inB hp)
    · intro p hp
      rcases List.mem_cons.mp hp with rfl | hp
      · exact ⟨Ne.symm (hn _ (.head _)), Ne.symm (hn _ (.tail _ (.head _)))⟩
      · exact hb p hp
    · intro h' tk l1' l2' n1' n2' u' F3 N3 t1 t2 eu'
      refine ⟨h', s.gens, tk, _, lwNews ll ll2 l1' l2' n1' n2' base, rfl, F3, news_sub N3 ?_, ?_, ?_, rfl, l1', l2', n1', n2', u', ?_, rfl, ?_, ?_, ?_, ?_, ?_, ?_, eu'.trans eu⟩
      · intro p hp
        rcases List.mem_cons.mp hp with rfl | hp
        · exact .tail _ (.tail _ (List.mem_append_right _ (List.mem_append_right _ (.head _))))
        rcases List.mem_cons.mp hp with rfl | hp
        · exact .head _
        rcases List.mem_cons.mp hp with rfl | hp
        · exact .tail _ (.head _)
        rcases List.mem_append.mp hp with hp | hp
        · exact .tail _ (.tail _ (List.mem_append_left _ hp))
        rcases List.mem_append.mp hp with hp | hp
        · exact .tail _ (.tail _ (List.mem_append_right _ (List.mem_append_left _ hp)))
        · exact .tail _ (.tail _ (List.mem_append_right _ (List.mem_append_right _ (.tail _ hp))))
      · have hIm : (I, it) ∈ lwNews ll ll2 l1' l2' n1' n2' ((I, it) :: base) := .tail _ (.tail _ (List.mem_append_right _ (List.mem_append_right _ (.head _))))
        have hn1 : ll ≠ I := hn _ (.head _)
        have hn2 : ll2 ≠ I := hn _ (.tail _ (.head _))
        intro p hp
        rcases List.mem_cons.mp hp with rfl | hp
        · exact hn1
        rcases List.mem_cons.mp hp with rfl | hp
        · exact hn2
        rcases List.mem_append.mp hp with hp | hp
        · obtain ⟨x, hx, rfl⟩ := List.mem_map.mp hp
          exact news_ne N3 (.tail _ (.tail _ (List.mem_append_left _ (List.mem_map_of_mem (f := pEnt) hx)))) hIm (Ne.symm hit)
        rcases List.mem_append.mp hp with hp | hp
        · obtain ⟨x, hx, rfl⟩ := List.mem_map.mp hp
          exact news_ne N3 (.tail _ (.tail _ (List.mem_append_right _ (List.mem_append_left _ (List.mem_map_of_mem (f := pEnt) hx))))) hIm (Ne.symm hit)
        · exact hn _ (inB hp)
      · intro p hp
        rw [List.mem_singleton.mp hp]
        exact inB hra
      · rw [hst, e1, e2]; rfl
      · rw [hst, t1, e1]; rfl
      · rw [hst, t2, e2]; rfl
      · rw [t1]; exact andd_good e3 r3
      · rw [t2]; exact andd_good e4 r2
      · rw [texts_len t1]
        have := andd_len ((its.take i).foldl (stepT c3) st).1.1 (texts l1) (prT e) (ceT c3 e)
        have h2 : (texts l1).length = l1.length := by simp [texts]
        exact Nat.le_trans this (by omega)
      · rw [texts_len t2]
        have := andd_len ((its.take i).foldl (stepT c3) st).2.1 (texts l2) (ceT c3 e) (prT e)
        have h2 : (texts l2).length = l2.length := by simp [texts]
        exact Nat.le_trans this (by omega)
  · rintro h1 g1 tk1 m1 news1 ⟨rfl, l1, l2, n1, n2, u1, rfl, rfl, e1, e2, e3, e4, e5, e6, eu⟩ F1 N1
    have hl : (strValues q).length = its.length := by unfold strValues; rw [List.length_map, hlen]
    rw [hl, List.take_length] at e1 e2 F1
    refine hret h1 tk1 l1 l2 n1 n2 u1 F1 N1 e1 e2 (by rw [← e1]; exact e3) ?_ eu
    rw [← e1]
    have h2 : (texts l1).length = l1.length := by simp [texts]
    omega
end
theorem rs_L59 : True := by
  have h : (1 : Nat) = 1 := by walk1
  w_top off; exact trivial
section
local macro_rules | `(tactic| walk_at "call ref") => `(tactic| ((with_reducible show wpAny _ _ (call (.ref 342) _) _ _ _); refine halt ?_))
local macro_rules | `(tactic| walk_at "subscriptTail") => `(tactic| ((with_reducible show wpAny _ _ (subscriptTail _ _ (Value.ref _) (Value.int _ _)) _ _ _); refine halt ?_))
noncomputable abbrev owMap (b1 b2 : Bool) (v : Addr) (sg : Str) (tg : Tok) (u : Str → Option Value) : Str → Option Value := fun k => if k = Str.ofString "once" then some (.bool b1) else if k = Str.ofString "alone" then some (.bool b2) else if k = Str.ofString "met" then some (.ref v) else if k = Str.ofString "signs" then some (.str sg tg) else u k
noncomputable abbrev olNews (ll : Addr) (l1 : List Part) (n1 : Nat) (base : List (Addr × Obj)) : List (Addr × Obj) := (ll, listOf (l1.map pref).toArray n1) :: (l1.map pEnt ++ base)
noncomputable abbrev RowD := Nat × Nat × List (Nat × Nat × Nat)
noncomputable abbrev SR := (Bool × List (Str × Str)) × Bool
noncomputable def rowStep (st : SR) (r : RowD) : SR := ((r.2.2.foldl (stepT r.1) (st.1, (st.2, []))).1, (r.2.2.foldl (stepT r.1) (st.1, (st.2, []))).2.1)
noncomputable def RowDOk (P : Params) (sg : Str) (s0 : Nat) (r : RowD) : Prop := (∃ rest, r.2.2 = (64, r.1, r.1) :: rest) ∧ RowOk P sg s0 r.1 r.2.1 r.2.2 ∧ Fig P r.1 (s0 + r.2.1) ∧ r.2.2.length ≤ 10
section
variable {w : World} {p : Program} {loose : List Str} {mean : ExcName → Option Value} {mg mb : Str → Option Value} {dp un : Nat} {gd : Option (List Code)} {cn : Str} {cs : Scope} {a : Addr} {ccd : Value} {cl : List (Str × Addr)} {outer : List Env} {A₀ : Around} {baseH h₀ : Heap} {L : Addr} {m : Str → Option Value} {news : List (Addr × Obj)} {s : Shared} {Q E : Value → Shared → Prop}
set_option maxHeartbeats 2000000
theorem law_row {base : List (Addr × Obj)} {g : Heap} {L' v dv ll ra : Addr} {l1 : List Part} {n1 nv : Nat} {k1 tg : Tok} {sg : Str} {s0 : Nat} {st : SR} {q : List (Str × Tok)} {r : RowD} {u : Str → Option Value} {Q : Flow → Shared → Prop} {z1 : Pos}
  (B' : Below (lwTop 800 4000 gd outer) baseH (outer) g) (F' : Fr g L' s.heap (owMap st.1.1 st.2 v sg tg u)) (X' : (KF w.params).In g) (N' : News g L' s.heap (olNews ll l1 n1 base)) (T' : Top p loose mean mg mb g)
  (ht1 : texts l1 = st.1.2) (hb : ∀ p ∈ base, p.1 ≠ ll) (hv : (v, instObj 342 dv) ∈ base) (hd : (dv, dictOf [ent w.params "_headers" k1 (.ref ll)] nv) ∈ base)
  (hra : (ra, listOf (strValues q).toArray 0) ∈ base) (hq : q.map (·.1) = r.2.2.map fun e => ⟨#[e.1, e.2.1]⟩) (hro : RowDOk w.params sg s0 r)
  (hs0 : 0 < sg.length) (hs1 : sg.length ≤ 100) (hsg : ∀ j c, sg.cps[j]? = some c → Fig w.params c (s0 + j))
  (q1 : ∀ e ∈ st.1.2, Good e.1) (hz1 : st.1.2.length ≤ 600)
  (hret : ∀ (h' : Heap) (tk : Nat) (l1' : List Part) (n1' : Nat) (u' : Str → Option Value), Fr g L' h' (owMap (rowStep st r).1.1 (rowStep st r).2 v sg tg u') → News g L' h' (olNews ll l1' n1' base) → texts l1' = (rowStep st r).1.2 → (∀ e ∈ (rowStep st r).1.2, Good e.1) → (rowStep st r).1.2.length ≤ st.1.2.length + 10 → u' (Str.ofString "pairs") = u (Str.ofString "pairs") → Q .next { s with heap := h', toks := tk }) :
  wpAny (model PySem.Challenge.rw_wc0034_01.row.prog w) ((lwTop 800 4000 gd outer).deeper (lwEnv L')) (assign (.Name (Str.ofString "row") z1) (lwEnv L') (.ref ra)) (fun _ s₃ => wpAny (model PySem.Challenge.rw_wc0034_01.row.prog w) ((lwTop 800 4000 gd outer).deeper (lwEnv L')) (execs lrBody (lwEnv L')) Q Nev s₃) Nev s := by
  have X₀ := X'
  obtain ⟨⟨rest, hr0⟩, hro1, hfig, hr10⟩ := hro
  obtain ⟨t0, q', rfl⟩ : ∃ t0 q', q = (⟨#[64, r.1]⟩, t0) :: q' := by
    rw [hr0] at hq
    cases q with
    | nil => simp at hq
    | cons x q' =>
      obtain ⟨x1, t0⟩ := x
      simp only [List.map_cons] at hq
      injection hq with h1 h2
      exact ⟨t0, q', by rw [show x1 = _ from h1]⟩
  revert X'; k_fill; intro X'
  k_steps
  show wpAny _ _ _ _ _ _
  refine' hdr_new_ct ?zp1 ?zp2 ?zp3 ?zp4 ?zp5 ?zp6 ?zp7 ?zp8 ?_
  case zp1 => k_asm
  case zp2 => k_asm
  case zp3 => k_asm
  case zp4 => k_asm
  case zp5 => k_asm
  case zp6 => first | exact rfl | assumption
  case zp7 => exact Nat.le_of_ble_eq_true rfl
  case zp8 => exact Nat.le_of_ble_eq_true rfl
  intro v2 dv2 ll2 h2 tk2 k2 nv2 F2 N2 f2 f3 f4
  k_steps
  show wpAny _ _ _ _ _ _
  rename News g L' _ _ => N3
  refine item_news (k := 0) N3 (.tail _ (.tail _ (.tail _ (.tail _ (List.mem_append_right _ hra))))) rfl (by omega) (by rfl) ?_
  k_steps
  show wpAny _ _ _ _ _ _
  rename Fr g L' _ _ => F4
  rename News g L' _ _ => N4
  have F5 := Fr.lw (b1 := st.1.1) (b2 := st.2) (v := v) (v2 := v2) (hm := ⟨#[r.1]⟩) (sg := sg) (tg := tg) F4 rfl rfl rfl rfl rfl rfl
  have hlt : ll < dv2 := f2 _ (.head _)
  have hbl : ∀ p ∈ base, p.1 < dv2 := fun p hp => f2 _ (.tail _ (List.mem_append_right _ hp))
  refine For_G ?_
  walk_at "mine step"
  refine two_loop (base := (v2, instObj 342 dv2) :: (dv2, dictOf [ent w.params "_headers" k2 (.ref ll2)] nv2) :: base) (st := (st.1, (st.2, []))) (its := r.2.2) (s0 := s0) (i3 := r.2.1) (l1 := l1) (l2 := []) (ll := ll) (ll2 := ll2) (n1 := n1) (n2 := 0) B' F5 X₀ (news_sub N4 ?_) T' ht1 rfl ?_ (Nat.ne_of_lt (Nat.lt_trans hlt (Nat.lt_trans f3 f4))) (.tail _ (.tail _ hv)) (.tail _ (.tail _ hd)) (.head _) (.tail _ (.head _)) (.tail _ (.tail _ hra)) hq hro1 hfig hs0 hs1 hsg q1 (fun e he => absurd he List.not_mem_nil) (by dsimp only; omega) (by simp; omega) ?_
  · intro p hp
    rcases List.mem_cons.mp hp with rfl | hp
    · exact .tail _ (.tail _ (.tail _ (.head _)))
    rcases List.mem_cons.mp hp with rfl | hp
    · exact .head _
    rcases List.mem_append.mp hp with hp | hp
    · exact .tail _ (.tail _ (.tail _ (.tail _ (List.mem_append_left _ hp))))
    rcases List.mem_cons.mp hp with rfl | hp
    · exact .tail _ (.head _)
    rcases List.mem_cons.mp hp with rfl | hp
    · exact .tail _ (.tail _ (.head _))
    · exact .tail _ (.tail _ (.tail _ (.tail _ (List.mem_append_right _ hp))))
  · intro p hp
    rcases List.mem_cons.mp hp with rfl | hp
    · exact ⟨Nat.ne_of_gt (Nat.lt_trans hlt f3), Nat.ne_of_lt f4⟩
    rcases List.mem_cons.mp hp with rfl | hp
    · exact ⟨Nat.ne_of_gt hlt, Nat.ne_of_lt (Nat.lt_trans f3 f4)⟩
    · exact ⟨hb p hp, Nat.ne_of_lt (Nat.lt_trans (hbl p hp) (Nat.lt_trans f3 f4))⟩
  · clear F4 N4 F5
    intro h6 tk6 l1' l2' n1' n2' u6 F6 N6 e1 e2 e3 e4 eu
    dsimp only
    k_steps
    rename Fr g L' _ _ => F7
    refine hret _ _ l1' n1' _ (Fr.n4 F7 (Str.ofString "once") (Str.ofString "alone") (Str.ofString "met") (Str.ofString "signs") rfl rfl rfl rfl) (news_sub N6 ?_) e1 e3 (Nat.le_trans e4 (by dsimp only; omega)) eu
    intro p hp
    rcases List.mem_cons.mp hp with rfl | hp
    · exact .head _
    rcases List.mem_append.mp hp with hp | hp
    · exact .tail _ (.tail _ (List.mem_append_left _ hp))
    · exact .tail _ (.tail _ (List.mem_append_right _ (List.mem_append_right _ (.tail _ (.tail _ hp)))))
end
end
theorem rs_L60 : True := by
  have h : (1 : Nat) = 1 := by walk1
  w_top off; exact trivial
section
local macro_rules | `(tactic| walk_at "call ref") => `(tactic| ((with_reducible show wpAny _ _ (call (.ref 342) _) _ _ _); refine halt ?_))
local macro_rules | `(tactic| walk_at "subscriptTail") => `(tactic| ((with_reducible show wpAny _ _ (subscriptTail _ _ (Value.ref _) (Value.int _ _)) _ _ _); refine halt ?_))
section
variable {w : World} {p : Program} {loose : List Str} {mean : ExcName → Option Value} {mg mb : Str → Option Value} {dp un : Nat} {gd : Option (List Code)} {cn : Str} {cs : Scope} {a : Addr} {ccd : Value} {cl : List (Str × Addr)} {outer : List Env} {A₀ : Around} {baseH h₀ : Heap} {L : Addr} {m : Str → Option Value} {news : List (Addr × Obj)} {s : Shared} {Q E : Value → Shared → Prop}
set_option maxHeartbeats 2000000
theorem law_loop {base : List (Addr × Obj)} {g : Heap} {L' v dv ll D PA : Addr} {n' nv : Nat} {k1 tg : Tok} {sg : Str} {s0 : Nat} {rws : List Row} {rd : List RowD} {u : Str → Option Value} {Q : Flow → Shared → Prop}
  (B' : Below (lwTop 800 4000 gd outer) baseH (outer) g)
  (F' : Fr g L' s.heap (fun y => if y = Str.ofString "page" then some (.ref D) else if y = Str.ofString "alone" then some (.bool true) else if y = Str.ofString "once" then some (.bool true) else if y = Str.ofString "met" then some (.ref v) else if y = Str.ofString "pairs" then some (.ref PA) else if y = Str.ofString "signs" then some (.str sg tg) else u y))
  (X' : (KF w.params).In g) (N' : News g L' s.heap ((ll, listOf #[] 0) :: base)) (T' : Top p loose mean mg mb g)
  (hb : ∀ p ∈ base, p.1 ≠ ll) (hv : (v, instObj 342 dv) ∈ base) (hd : (dv, dictOf [ent w.params "_headers" k1 (.ref ll)] nv) ∈ base)
  (hD : (D, listOf (rws.map fun r => Value.ref r.1).toArray n') ∈ base) (hrw : ∀ r ∈ rws, rowO r ∈ base) (hrd : rws.map (fun r => r.2.map (·.1)) = rd.map fun r => r.2.2.map fun e => (⟨#[e.1, e.2.1]⟩ : Str)) (hok : ∀ r ∈ rd, RowDOk w.params sg s0 r) (hlen : rd.length ≤ 10)
  (hs0 : 0 < sg.length) (hs1 : sg.length ≤ 100) (hsg : ∀ j c, sg.cps[j]? = some c → Fig w.params c (s0 + j))
  (hret : ∀ (h' : Heap) (tk : Nat) (u' : Str → Option Value), Fr g L' h' (fun k => if k = Str.ofString "pairs" then some (.ref PA) else if k = Str.ofString "signs" then some (.str sg tg) else if k = Str.ofString "once" then some (.bool (rd.foldl rowStep ((true, []), true)).1.1) else if k = Str.ofString "alone" then some (.bool (rd.foldl rowStep ((true, []), true)).2) else u' k) → News g L' h' base → Q .next { s with heap := h', toks := tk }) :
  wpAny (model PySem.Challenge.rw_wc0034_01.row.prog w) ((lwTop 800 4000 gd outer).deeper (lwEnv L')) (exec ((fdB (stm 67))[8]!) (lwEnv L')) Q Nev s := by
  have X₀ := X'
  have inB : ∀ {l1 : List Part} {n1 : Nat} {e}, e ∈ base → e ∈ olNews ll l1 n1 base := fun h => .tail _ (List.mem_append_right _ h)
  have hl2 : rws.length = rd.length := by simpa using congrArg List.length hrd
  revert X'; k_fill; intro X'
  show wpAny _ _ (exec (Stmt.For _ _ _ _ _) _) _ _ _
  refine For_G ?_
  walk_at "mine step"
  have F1 := Fr.n4 F' (Str.ofString "once") (Str.ofString "alone") (Str.ofString "met") (Str.ofString "signs") rfl rfl rfl rfl
  refine iter_listG (vs := rws.map fun r => Value.ref r.1) rfl F1 N' (.tail _ hD) rfl rfl (fun i g' m' n' => g' = s.gens ∧ ∃ l1 n1 u1, m' = owMap ((rd.take i).foldl rowStep ((true, []), true)).1.1 ((rd.take i).foldl rowStep ((true, []), true)).2 v sg tg u1 ∧ n' = olNews ll l1 n1 base ∧ texts l1 = ((rd.take i).foldl rowStep ((true, []), true)).1.2 ∧ (∀ e ∈ ((rd.take i).foldl rowStep ((true, []), true)).1.2, Good e.1) ∧ ((rd.take i).foldl rowStep ((true, []), true)).1.2.length ≤ 10 * i ∧ u1 (Str.ofString "pairs") = some (.ref PA)) ⟨rfl, [], 0, _, rfl, rfl, rfl, fun e he => absurd he List.not_mem_nil, Nat.le_refl _, rfl⟩ ?_ ?_
  · rintro I i vq g1 m1 news1 h1 tk1 it s' hvq ⟨rfl, l1, n1, u1, rfl, rfl, e1, e3, e5, eu⟩ hmem hn hd' hos F1 N1 hit
    rw [List.getElem?_map] at hvq
    obtain ⟨r, hr, rfl⟩ := Option.map_eq_some_iff.mp hvq
    have hil : i < rws.length := (List.getElem?_eq_some_iff.mp hr).1
    obtain ⟨d, hdi⟩ : ∃ d, rd[i]? = some d := ⟨_, List.getElem?_eq_getElem (by omega)⟩
    have hx : r.2.map (·.1) = d.2.2.map fun e => (⟨#[e.1, e.2.1]⟩ : Str) := by
      have h := congrArg (fun l => l[i]?) hrd
      simp only [List.getElem?_map, hr, hdi, Option.map_some] at h
      exact Option.some.inj h
    have hst : (rd.take (i + 1)).foldl rowStep ((true, []), true) = rowStep ((rd.take i).foldl rowStep ((true, []), true)) d := by
      rw [List.take_add_one, hdi, List.foldl_append]; rfl
    have hrm := hrw r (List.mem_of_getElem? hr)
    refine law_row (base := (I, it) :: base) (s := ⟨h1, s.gens, s'.drawn, tk1, s'.os⟩) (st := (rd.take i).foldl rowStep ((true, []), true)) (q := r.2) (r := d) (s0 := s0) (l1 := l1) (n1 := n1) B' F1 X₀ (news_sub N1 ?_) T' e1 ?_ (.tail _ hv) (.tail _ hd) (.tail _ hrm) hx (hok d (List.mem_of_getElem? hdi)) hs0 hs1 hsg e3 (by omega) ?_
    · intro p hp
      rcases List.mem_cons.mp hp with rfl | hp
      · exact .tail _ (.head _)
      rcases List.mem_append.mp hp with hp | hp
      · exact .tail _ (.tail _ (List.mem_append_left _ hp))
      rcases List.mem_cons.mp hp with rfl | hp
      · exact .head _
      · exact .tail _ (inB hp)
    · intro p hp
      rcases List.mem_cons.mp hp with rfl | hp
      · exact Ne.symm (hn _ (.head _))
      · exact hb p hp
    · intro h' tk l1' n1' u' F3 N3 t1 t2 t3 eu'
      refine ⟨h', s.gens, tk, _, olNews ll l1' n1' base, rfl, F3, news_sub N3 ?_, ?_, ?_, rfl, l1', n1', u', by rw [hst], rfl, by rw [hst]; exact t1, by rw [hst]; exact t2, ?_, eu'.trans eu⟩
      · intro p hp
        rcases List.mem_cons.mp hp with rfl | hp
        · exact .tail _ (List.mem_append_right _ (.head _))
        rcases List.mem_cons.mp hp with rfl | hp
        · exact .head _
        rcases List.mem_append.mp hp with hp | hp
        · exact .tail _ (List.mem_append_left _ hp)
        · exact .tail _ (List.mem_append_right _ (.tail _ hp))
      · have hIm : (I, it) ∈ olNews ll l1' n1' ((I, it) :: base) := .tail _ (List.mem_append_right _ (.head _))
        have hn1 : ll ≠ I := hn _ (.head _)
        intro p hp
        rcases List.mem_cons.mp hp with rfl | hp
        · exact hn1
        rcases List.mem_append.mp hp with hp | hp
        · obtain ⟨x, hx, rfl⟩ := List.mem_map.mp hp
          exact news_ne N3 (.tail _ (List.mem_append_left _ (List.mem_map_of_mem (f := pEnt) hx))) hIm (Ne.symm hit)
        · exact hn _ (inB hp)
      · intro p hp
        rw [List.mem_singleton.mp hp]
        exact inB hD
      · rw [hst]; exact Nat.le_trans t3 (by omega)
  · rintro h1 g1 tk1 m1 news1 ⟨rfl, l1, n1, u1, rfl, rfl, e1, e3, e5, eu⟩ F1 N1
    rw [List.length_map, hl2, List.take_length] at F1
    exact hret h1 tk1 _ (Fr.n4 F1 (Str.ofString "pairs") (Str.ofString "signs") (Str.ofString "once") (Str.ofString "alone") eu rfl rfl rfl) (news_sub N1 fun p hp => inB hp)
end
end
theorem rs_L61 : True := by
  have h : (1 : Nat) = 1 := by walk1
  w_top off; exact trivial
section
local macro_rules | `(tactic| walk_at "eval ListComp") => `(tactic| ((with_reducible show wpAny _ _ (eval (Expr.ListComp _ _ _ _) _) _ _ _); refine halt ?_))
section
variable {w : World} {p : Program} {loose : List Str} {mean : ExcName → Option Value} {mg mb : Str → Option Value} {dp un : Nat} {gd : Option (List Code)} {cn : Str} {cs : Scope} {a : Addr} {ccd : Value} {cl : List (Str × Addr)} {outer : List Env} {A₀ : Around} {baseH h₀ : Heap} {L : Addr} {m : Str → Option Value} {news : List (Addr × Obj)} {s : Shared} {Q E : Value → Shared → Prop}
set_option maxHeartbeats 2000000
theorem law_figures {g : Heap} {L' : Addr} {oF : Obj} {sg : Str} {s0 : Nat} {tg : Tok} {vp : Value} {R : List (Addr × Obj)} {u : Str → Option Value} {Q : Flow → Shared → Prop}
  (B' : Below (lwTop 800 4000 gd outer) baseH (outer) g) (F' : Fr g L' s.heap (fun k => if k = Str.ofString "pairs" then some vp else if k = Str.ofString "signs" then some (.str sg tg) else u k)) (X' : (KF w.params).In g)
  (N' : News g L' s.heap ((L' + 1 + 1, oF) :: R)) (T' : Top p loose mean mg mb g) (hF : oF.data = .cell none) (hR : ∀ p ∈ R, p.1 ≠ L' + 1 + 1) (hs1 : sg.cps.size ≤ 100) (hsg : ∀ j c, sg.cps[j]? = some c → Fig w.params c (s0 + j))
  (hret : ∀ (h' : Heap) (tk : Nat) (oF' : Obj) (FL : Addr) (qs : List (Nat × Tok)), Fr g L' h' (fun k => if k = Str.ofString "pairs" then some vp else if k = Str.ofString "signs" then some (.str sg tg) else u k) → News g L' h' ((L' + 1 + 1, oF') :: (FL, listOf (qs.map iv).toArray sg.cps.size) :: R) → oF'.data = .cell (some (.ref FL)) → qs.map (·.1) = (List.range sg.cps.size).map (fun j => 7 + (s0 + j)) → Q .next { s with heap := h', toks := tk }) :
  wpAny (model PySem.Challenge.rw_wc0034_01.row.prog w) ((lwTop 800 4000 gd outer).deeper (lwEnv L')) (exec ((fdB (stm 67))[9]!) (lwEnv L')) Q Nev s := by
  have X₀ := X'
  revert X'; k_fill; intro X'
  show wpAny _ _ (exec (Stmt.Assign _ _ _) _) _ _ _
  k_steps
  show wpAny _ _ _ _ _ _
  rename Fr g L' _ _ => Fz
  refine ListComp_US Fz (by rfl) (by decide) (by rfl) (by decide) (by rfl) ?_
  k_steps
  show SrcUS _ _ _ _ _ _ _ _ _ _ _ _ _ _
  refine ⟨sg, tg, _, rfl, rfl, by k_asm, by k_asm, by rw [sizeLine_eq]; omega, ?_⟩
  rintro s₂ ⟨hh, rfl⟩
  refine compU_ind (fun i ys => ∃ qs : List (Nat × Tok), ys = qs.map iv ∧ qs.map (·.1) = (List.range i).map (fun j => 7 + (s0 + j))) ⟨[], rfl, rfl⟩ ?_ ?_
  · rintro i ys hi ⟨qs, rfl, hqs⟩ v' I' oI' C' oC' D' m' h' tk' E' hv' hC' hx' F' N' off' ne'
    obtain ⟨c9, t9', hc9, hv9'⟩ := hv'
    subst hv9'
    obtain ⟨e9, f9⟩ := hsg i c9 hc9
    k_steps
    refine LCg.CompEnd.intro (by assumption) (by assumption : News g L' _ ((I', oI') :: (C', oC') :: (D', LCg.lst _) :: (L' + 1 + 1, oF) :: R)) _ (fun p hp => hp) (by assumption) trivial ⟨rfl, qs ++ [(7 + (s0 + i), e9)], by rw [List.map_append]; rfl, by rw [List.map_append, hqs, List.range_succ, List.map_append]; rfl⟩
  · rintro ys ⟨qs, rfl, hqs⟩
    unfold LCg.FinE
    intro D6 h6 tk6 F6 N6 off6
    dsimp only
    have hl6 : (qs.map iv).length = sg.cps.size := by simpa using congrArg List.length hqs
    have hD6 : D6 ≠ L' + 1 + 1 := Ne.symm off6.1
    have N7 : News g L' h6 ((L' + 1 + 1, oF) :: (D6, listOf (qs.map iv).toArray (qs.map iv).length) :: R) := news_sub N6 (by
      intro p hp
      rcases List.mem_cons.mp hp with rfl | hp
      · exact .tail _ (.head _)
      rcases List.mem_cons.mp hp with rfl | hp
      · exact .head _
      · exact .tail _ (.tail _ hp))
    rw [hl6] at N7
    clear N6
    k_steps
    rename Fr g L' _ _ => Fy
    rename News g L' _ _ => Ny
    rename Obj.data _ = Data.cell (some _) => hw
    exact hret _ _ _ D6 qs Fy Ny hw hqs
end
end
theorem rs_L62 : True := by
  have h : (1 : Nat) = 1 := by walk1
  w_top off; exact trivial
section
local macro_rules | `(tactic| walk_at "eval ListComp") => `(tactic| ((with_reducible show wpAny _ _ (eval (Expr.ListComp _ _ _ _) _) _ _ _); refine halt ?_))
local macro_rules | `(tactic| walk_at "subscriptTail") => `(tactic| ((with_reducible show wpAny _ _ (subscriptTail _ _ (Value.ref _) (Value.int _ _)) _ _ _); refine halt ?_))
local macro_rules | `(tactic| walk_at "binaryOp Add ref ref") => `(tactic| ((with_reducible show wpAny _ _ (binaryOp _ (Value.ref _) (Value.ref _)) _ _ _); refine halt ?_))
noncomputable abbrev ii (z : Int × Tok) : Value := .int z.1 z.2
noncomputable def figI (s0 x : Nat) : Int := ((7 + (s0 + x) : Nat) : Int)
noncomputable def sumT (s0 sz : Nat) (q : Nat × Nat) : Int := (figI s0 q.1 + figI s0 q.2).fmod (sz : Nat)
section
variable {prog : Program} {w : World} {A : Around} {E : Value → Shared → Prop} {s : Shared} {h₀ : Heap} {L : Addr} {m : Str → Option Value} {env : Env}
open LCg LCp
theorem compP_ind {elt : PySem.Expr} {x x₂ : Str} {scope : Scope} {cl : List (Str × Addr)} {S : List (Addr × Obj) → Prop} {P : Nat → Value → Prop} {Fin : List Value → List (Addr × Obj) → Prop} {news : List (Addr × Obj)} {n : Nat} (Inv : Nat → List Value → Prop) (h0 : Inv 0 [])
    (step : ∀ i ys v, i < n → Inv i ys → P i v → ∃ (t : Addr) (ot : Obj) (v₁ v₂ : Value) (nt : Nat), v = .ref t ∧ (t, ot) ∈ news ∧ ot.cls = .type "tuple" ∧ ot.data = .seq #[v₁, v₂] nt ∧
      ∀ I oI C oC D m₂ h tk (E' : Value → Shared → Prop), NsObj oC m₂ → m₂ x = some v₁ → m₂ x₂ = some v₂ → Fr h₀ L h m → News h₀ L h ((I, oI) :: (C, oC) :: (D, lst ys) :: news) → Off3 I C D news → ((@Ne Nat I C) ∧ (@Ne Nat I D) ∧ (@Ne Nat C D)) →
      wpAny (model prog w) A (eval elt (compEnvC scope cl C env)) (CompEnd h₀ L m { s with heap := h, toks := tk } I oI C oC D (lst ys) S (fun y news' => news' = news ∧ Inv (i + 1) (ys ++ [y]))) E' { s with heap := h, toks := tk })
    (fin : ∀ ys, Inv n ys → Fin ys news) : CompRestP prog w A h₀ L m env elt x x₂ scope cl s S P Fin n 0 [] news := by
  have key : ∀ k i ys, i + k = n → Inv i ys → CompRestP prog w A h₀ L m env elt x x₂ scope cl s S P Fin k i ys news := by
    intro k
    induction k with
    | zero => intro i ys hi hv; exact fin ys (by rw [← hi]; exact hv)
    | succ k ih =>
      intro i ys hi hv
      refine CompRestP.succ fun v hP => ?_
      obtain ⟨t, ot, v₁, v₂, nt, e1, e2, e3, e4, go⟩ := step i ys v (by omega) hv hP
      refine ⟨t, ot, v₁, v₂, nt, e1, e2, e3, e4, fun I oI C oC D m₂ h tk E' hC hx hx₂ F N off ne => ?_⟩
      exact wpAny_mono (go I oI C oC D m₂ h tk E' hC hx hx₂ F N off ne) (fun y s'' hy => compEnd_mono hy fun n' hr => by obtain ⟨rfl, hr⟩ := hr; exact ih (i + 1) _ (by omega) hr) fun _ _ e => e
  exact key n 0 [] (by omega) h0
end
section
variable {w : World} {p : Program} {loose : List Str} {mean : ExcName → Option Value} {mg mb : Str → Option Value} {dp un : Nat} {gd : Option (List Code)} {cn : Str} {cs : Scope} {a : Addr} {ccd : Value} {cl : List (Str × Addr)} {outer : List Env} {A₀ : Around} {baseH h₀ : Heap} {L : Addr} {m : Str → Option Value} {news : List (Addr × Obj)} {s : Shared} {Q E : Value → Shared → Prop}
set_option maxHeartbeats 2000000
theorem law_sums {g : Heap} {L' FL PA : Addr} {oS oF : Obj} {s0 sz c1 c2 : Nat} {ts : Tok} {qs : List (Nat × Tok)} {prs : List (Addr × (Nat × Tok) × (Nat × Tok))} {R : List (Addr × Obj)} {u : Str → Option Value} {Q : Flow → Shared → Prop}
  (B' : Below (lwTop 800 4000 gd outer) baseH (outer) g) (F' : Fr g L' s.heap (fun k => if k = Str.ofString "pairs" then some (.ref PA) else u k)) (X' : (KF w.params).In g)
  (N' : News g L' s.heap R) (T' : Top p loose mean mg mb g) (hmS : (L' + 1, oS) ∈ R) (hS : oS.data = .cell (some (.int (sz : Nat) ts))) (hmF : (L' + 1 + 1, oF) ∈ R) (hF : oF.data = .cell (some (.ref FL)))
  (hFL : (FL, listOf (qs.map iv).toArray c1) ∈ R) (hqs : qs.map (·.1) = (List.range sz).map (fun j => 7 + (s0 + j))) (hPA : (PA, listOf (prs.map fun q => Value.ref q.1).toArray c2) ∈ R) (hpr : ∀ q ∈ prs, (q.1, PairO q) ∈ R) (hb : ∀ q ∈ prs, q.2.1.1 < sz ∧ q.2.2.1 < sz) (hsz : 0 < sz) (hz : sz ≤ 100) (hpz : prs.length ≤ 100)
  (hret : ∀ (h' : Heap) (tk : Nat) (SL : Addr) (zs : List (Int × Tok)) (c : Nat), Fr g L' h' (fun k => if k = Str.ofString "sums" then some (.ref SL) else if k = Str.ofString "pairs" then some (.ref PA) else u k) → News g L' h' ((SL, listOf (zs.map ii).toArray c) :: R) → (∀ p ∈ R, p.1 < SL) → zs.map (·.1) = (prs.map nums).map (sumT s0 sz) ++ [(2 * figI s0 0).fmod (sz : Nat)] → Q .next { s with heap := h', toks := tk }) :
  wpAny (model PySem.Challenge.rw_wc0034_01.row.prog w) ((lwTop 800 4000 gd outer).deeper (lwEnv L')) (exec ((fdB (stm 67))[11]!) (lwEnv L')) Q Nev s := by
  have X₀ := X'
  have fig : ∀ x, x < sz → ∃ t, (qs.map iv)[x]? = some (Value.int (figI s0 x) t) := by
    intro x hx
    have h := congrArg (fun l => l[x]?) hqs
    simp only [List.getElem?_map, List.getElem?_range hx, Option.map_some] at h
    obtain ⟨e, he, he2⟩ := Option.map_eq_some_iff.mp h
    refine ⟨e.2, ?_⟩
    rw [List.getElem?_map, he]
    show some (Value.int ((e.1 : Nat) : Int) e.2) = _
    rw [he2]; rfl
  revert X'; k_fill; intro X'
  show wpAny _ _ (exec (Stmt.Assign _ _ _) _) _ _ _
  k_steps
  show wpAny _ _ _ _ _ _
  refine LCp.ListComp_P F' (by rfl) (by decide) (by rfl) (by decide) (by rfl) (by rfl) (by decide) ?_
  k_steps
  refine LCp.SrcLP.ledger rfl (by k_asm) (by k_asm) hPA (by rw [sizeLine_eq]; simp; omega) ?_
  intro gg
  refine compP_ind (fun i ys => ∃ zs : List (Int × Tok), ys = zs.map ii ∧ zs.map (·.1) = ((prs.take i).map nums).map (sumT s0 sz)) ⟨[], rfl, rfl⟩ ?_ ?_
  · rintro i ys v hi ⟨zs, rfl, hzs⟩ hv
    have hv2 : (prs.map fun q => Value.ref q.1)[i]? = some v := by simpa using hv
    rw [List.getElem?_map] at hv2
    obtain ⟨q, hq, rfl⟩ := Option.map_eq_some_iff.mp hv2
    have hqm := List.mem_of_getElem? hq
    obtain ⟨b1, b2⟩ := hb q hqm
    obtain ⟨u1, fig1⟩ := fig _ b1
    obtain ⟨u2, fig2⟩ := fig _ b2
    refine ⟨q.1, PairO q, .int (q.2.1.1 : Nat) q.2.1.2, .int (q.2.2.1 : Nat) q.2.2.2, 0, rfl, hpr q hqm, rfl, rfl, ?_⟩
    intro I' oI' C' oC' D' m' h' tk' E' hC' hx' hx₂' F' N' off' ne'
    k_steps
    show wpAny _ _ _ _ _ _
    refine item_news (k := q.2.1.1) (by assumption : News g L' _ ((I', oI') :: _)) (.tail _ (.tail _ (.tail _ hFL))) rfl (by omega) fig1 ?_
    k_steps
    show wpAny _ _ _ _ _ _
    refine item_news (k := q.2.2.1) (by assumption : News g L' _ ((I', oI') :: _)) (.tail _ (.tail _ (.tail _ hFL))) rfl (by omega) fig2 ?_
    k_steps
    refine LCg.CompEnd.intro (by assumption) (by assumption : News g L' _ ((I', oI') :: (C', oC') :: (D', LCg.lst _) :: R)) _ (fun p hp => hp) (by assumption) (Or.inr ⟨_, hPA, rfl, _, rfl⟩) ⟨rfl, zs ++ [((figI s0 q.2.1.1 + figI s0 q.2.2.1).fmod (sz : Nat), _)], by rw [List.map_append]; rfl, by rw [List.map_append, hzs, List.take_add_one, hq, Option.toList_some, List.map_append, List.map_append]; rfl⟩
  · rintro ys ⟨zs, rfl, hzs⟩
    unfold LCg.FinE
    intro D6 h6 tk6 F6 N6 off6
    dsimp only
    obtain ⟨u0, fig0⟩ := fig 0 hsz
    k_steps
    show wpAny _ _ _ _ _ _
    refine item_news (k := 0) N6 (.tail _ hFL) rfl (by omega) fig0 ?_
    k_steps
    show wpAny _ _ _ _ _ _
    rename Fr g L' _ _ => F7
    rename News g L' _ _ => N7
    have hls : zs.length = prs.length := by
      have := congrArg List.length hzs
      simpa using this
    refine kmk_add_lit (zs := (zs ++ [((2 * figI s0 0).fmod (sz : Nat), tk6 + 1 + 1 + 1)]).map ii) F7 N7 (News.isList N7 (.tail _ (.head _))) (News.isList N7 (.head _)) (by rw [List.map_append]; rfl) ?_ (by rw [sizeLine_eq]; simp; omega)
    intro SL h8 F8 N8 l8
    k_steps
    rename Fr g L' _ _ => Fy
    rename News g L' _ _ => Ny
    refine hret _ _ SL _ 0 Fy (news_hd Ny fun p hp => .tail _ (.tail _ hp)) (fun p hp => l8 p (.tail _ (.tail _ hp))) ?_
    rw [List.map_append, hzs, List.size_toArray, List.length_map, List.take_length]
    rfl
end
end
theorem rs_L63 : True := by
  have h : (1 : Nat) = 1 := by walk1
  w_top off; exact trivial
section
local macro_rules | `(tactic| walk_at "eval ListComp") => `(tactic| ((with_reducible show wpAny _ _ (eval (Expr.ListComp _ _ _ _) _) _ _ _); refine halt ?_))
namespace PP
open LCg LCp
noncomputable abbrev cE (elt t0 i0 t1 i1 : PySem.Expr) (scope : Scope) (pos : Pos) : PySem.Expr := .ListComp elt [⟨t0, i0, [], 0⟩, ⟨t1, i1, [], 0⟩] scope pos
section
variable {prog : Program} {w : World} {A : Around} {E : Value → Shared → Prop} {R : Result → Shared → Prop} {s : Shared} {h₀ : Heap} {L : Addr} {m : Str → Option Value} {env : Env} {elt t0 i0 t1 i1 : PySem.Expr} {scope : Scope} {pos : Pos} {it acc : Value}
theorem compTurn1 : compTurn (cE elt t0 i0 t1 i1 scope pos) 1 it acc env = (standAt i1.pos >>= fun _ => pyNext it >>= fun r => match r with
      | none => pure (.done .next)
      | some v => letOwnedTupleGo t1 it v >>= fun _ => assign t1 env v >>= fun _ =>
        (eval elt env >>= fun x => call (.builtin "list.append") [acc, x] >>= fun _ => pure ()) >>= fun _ =>
          again (.compLoop (cE elt t0 i0 t1 i1 scope pos) 1 it acc env)) := by rfl
theorem compTurn0 : compTurn (cE elt t0 i0 t1 i1 scope pos) 0 it acc env = (standAt i0.pos >>= fun _ => pyNext it >>= fun r => match r with
      | none => pure (.done .next)
      | some v => letOwnedTupleGo t0 it v >>= fun _ => assign t0 env v >>= fun _ =>
        eval i1 env >>= fun x => standAt i1.pos >>= fun _ => foldedSetIterable i1 env x >>= fun x => holding [x] (pyIter x) >>= fun it1 => runOwn (.compStart (cE elt t0 i0 t1 i1 scope pos) 1 it1 acc env) env >>= fun _ =>
          again (.compLoop (cE elt t0 i0 t1 i1 scope pos) 0 it acc env)) := by rfl
theorem compStart1 (h0 : codeAny (model prog w) A (.compLoop (cE elt t0 i0 t1 i1 scope pos) 1 it acc env) R s)
    (h : wpAny (model prog w) A (pyIter it) (fun it' s' => codeAny (model prog w) A (.compLoop (cE elt t0 i0 t1 i1 scope pos) 1 it' acc env) R s') (notedBy (model prog w) A env fun x s' => R (.error x) s') s) :
    codeAny (model prog w) A (.compStart (cE elt t0 i0 t1 i1 scope pos) 1 it acc env) R s := by
  refine codeAny_of_tree ?_
  show wpAny _ _ ((compStart (cE elt t0 i0 t1 i1 scope pos) 1 it acc env).onRaise (fun x => do noteFrame x env; standAt theWindowsPlace)) _ _ s
  refine wpAny_notedAt ?_
  unfold compStart
  show wpAny _ _ (ask >>= _) _ _ s
  refine wpAny_bind (wpAny_askSetting (wpAny_ite ?_))
  split
  · first
      | exact wpAny_bind (wpAny_pure (wpAny_pure (And.intro rfl h0)))
      | exact wpAny_pure (And.intro rfl h0)
  · first
      | exact wpAny_bind (wpAny_rule (wpAny_bind (wpAny_standAt (wpAny_bind (wpAny_mono h (fun it' s' h' => wpAny_pure (And.intro rfl h')) fun _ _ x => x)))))
      | (refine wpAny_bind (wpAny_rule ?_); show wpAny _ _ (standAt i1.pos >>= _) _ _ s; exact wpAny_bind (wpAny_standAt (wpAny_bind (wpAny_mono h (fun it' s' h' => wpAny_pure (And.intro rfl h')) fun _ _ x => x))))
theorem compLoop1 (I : Nat → Shared → Prop)
    (turn : ∀ n s, I n s → wpAny (model prog w) A (pyNext it) (fun r s₁ => match r with
      | none => R (.ok .next) s₁
      | some v => wpAny (model prog w) A (letOwnedTupleGo t1 it v) (fun _ s₁' => wpAny (model prog w) A (assign t1 env v) (fun _ s₂ =>
          wpAny (model prog w) A (eval elt env) (fun x s₄ => wpAny (model prog w) A (call (.builtin "list.append") [acc, x]) (fun _ s₅ => ∃ m, m < n ∧ I m s₅) Nev s₄) Nev s₂) Nev s₁') Nev s₁) Nev s)
    (n : Nat) (h : I n s) : codeAny (model prog w) A (.compLoop (cE elt t0 i0 t1 i1 scope pos) 1 it acc env) R s := by
  refine codeAny_loop rfl I (fun n s hI => ?_) n h
  show wpAny _ A ((compTurn (cE elt t0 i0 t1 i1 scope pos) 1 it acc env).onRaise (fun x => do noteFrame x env; theTreesLotGoes x)) _ _ s
  refine wpAny_noted ?_
  rw [compTurn1]
  refine wpAny_bind (wpAny_standAt (wpAny_bind (wpAny_mono (turn n s hI) (fun r s₁ h₁ => ?_) fun _ _ x => x.elim)))
  cases r with
  | none => exact wpAny_pure h₁
  | some v =>
    exact wpAny_bind (wpAny_mono h₁ (fun _ s₁' h₁' => wpAny_bind (wpAny_mono h₁' (fun _ s₂ h₂ => wpAny_bind (wpAny_bind (wpAny_mono h₂ (fun x s₄ h₄ => wpAny_bind (wpAny_mono h₄ (fun _ s₅ h₅ => wpAny_pure (wpAny_pure ⟨rfl, h₅⟩)) fun _ _ x => x.elim)) fun _ _ x => x.elim))) fun _ _ x => x.elim)) fun _ _ x => x.elim)
theorem compLoop0 (I : Nat → Shared → Prop) (hs : ∀ x, foldedSetIterable i1 env x = pure x)
    (turn : ∀ n s, I n s → wpAny (model prog w) A (pyNext it) (fun r s₁ => match r with
      | none => R (.ok .next) s₁
      | some v => wpAny (model prog w) A (letOwnedTupleGo t0 it v) (fun _ s₁' => wpAny (model prog w) A (assign t0 env v) (fun _ s₂ =>
          wpAny (model prog w) A (eval i1 env) (fun x s₃ => wpAny (model prog w) A (pyIter x) (fun it1 s₄ => codeAny (model prog w) A (.compStart (cE elt t0 i0 t1 i1 scope pos) 1 it1 acc env) (fun r s₅ => r = .ok .next ∧ ∃ m, m < n ∧ I m s₅) s₄) Nev s₃) Nev s₂) Nev s₁') Nev s₁) Nev s)
    (n : Nat) (h : I n s) : codeAny (model prog w) A (.compLoop (cE elt t0 i0 t1 i1 scope pos) 0 it acc env) R s := by
  refine codeAny_loop rfl I (fun n s hI => ?_) n h
  show wpAny _ A ((compTurn (cE elt t0 i0 t1 i1 scope pos) 0 it acc env).onRaise (fun x => do noteFrame x env; theTreesLotGoes x)) _ _ s
  refine wpAny_noted ?_
  rw [compTurn0]
  refine wpAny_bind (wpAny_standAt (wpAny_bind (wpAny_mono (turn n s hI) (fun r s₁ h₁ => ?_) fun _ _ x => x.elim)))
  cases r with
  | none => exact wpAny_pure h₁
  | some v =>
    refine wpAny_bind (wpAny_mono h₁ (fun _ s₁' h₁' => wpAny_bind (wpAny_mono h₁' (fun _ s₂ h₂ => ?_) fun _ _ x => x.elim)) fun _ _ x => x.elim)
    refine wpAny_bind (wpAny_mono h₂ (fun x s₃ h₃ => wpAny_bind (wpAny_standAt ?_)) fun _ _ x => x.elim)
    rw [hs]
    refine wpAny_bind (wpAny_pure (wpAny_bind (wpAny_holding (wpAny_mono h₃ (fun it1 s₄ h₄ => ?_) fun _ _ x => x.elim))))
    refine wpAny_bind (wpAny_runOwn (codeAny_mono h₄ fun r s₅ h₅ => ?_))
    obtain ⟨rfl, h₅⟩ := h₅
    exact wpAny_pure ⟨rfl, h₅⟩
/-- a tuple of two to two names of the comprehension -/
theorem assign_two {cl : List (Str × Addr)} {C T : Addr} {x y : Str} {px py tp : Pos} {tk} {v₁ v₂ : Value} {m' : Str → Option Value} {Q : Unit → Shared → Prop} (hh : A.handled = none) (hkind : scope.kind = .function) (hx : scope.names.lookup x = some .local) (hy : scope.names.lookup y = some .local)
    (ht : IsTup s.heap T #[v₁, v₂]) (hn : s.heap.Ns C m')
    (h : ∀ h₃ tk₃, h₃.Ns C (fun z => if z = y then some v₂ else if z = x then some v₁ else m' z) → (∀ b o, b ≠ C → s.heap.get? b = some o → h₃.get? b = some o) → Q () { s with heap := h₃, toks := tk₃ }) :
    wpAny (model prog w) A (assign (.Tuple [.Name x px, .Name y py] tk tp) (compEnvC scope cl C env) (.ref T)) Q E s := by
  refine assign_Tuple_tuple hh ht rfl rfl fun h₅ he => ?_
  have he' : ∀ b o, s.heap.get? b = some o → h₅.get? b = some o := fun b o e => he b o (Nat.ne_of_lt (Heap.lt_size e)) e
  refine assignInOrder_cons (wpAny_assign_Name (wpAny_storeName_local (lookup_relabel_local hx) (hn.at' fun o e => he' _ o e) (fun h₆ hn₆ hs₆ => ?_) (by simp [compEnvC, relabel, hkind])))
  refine assignInOrder_cons (wpAny_assign_Name (wpAny_storeName_local (lookup_relabel_local hy) hn₆ (fun h₃ hn₃ hs₃ => ?_) (by simp [compEnvC, relabel, hkind])))
  refine assignInOrder_nil ?_
  exact h h₃ _ hn₃ fun b o hb e => hs₃.extBut b o hb (hs₆.extBut b o hb (he' b o e))
end
end PP
end
theorem rs_L64 : True := by
  have h : (1 : Nat) = 1 := by walk1
  w_top off; exact trivial
section
local macro_rules | `(tactic| walk_at "eval ListComp") => `(tactic| ((with_reducible show wpAny _ _ (eval (Expr.ListComp _ _ _ _) _) _ _ _); refine halt ?_))
namespace PP
open LCg LCp
section
variable {prog : Program} {w : World} {A : Around} {E : Value → Shared → Prop} {R : Result → Shared → Prop} {s : Shared} {h₀ : Heap} {L : Addr} {m : Str → Option Value} {env : Env} {elt t0 i0 i1 : PySem.Expr} {scope : Scope} {pos : Pos}
theorem fr_butC {h h' : Heap} {C : Addr} (F : Fr h₀ L h m) (hk : ∀ b o, b ≠ C → h.get? b = some o → h'.get? b = some o) (hL : C ≠ L) (hC : h₀.get? C = none) : Fr h₀ L h' m :=
  LCg.fr_but F (fun b o hb e => hk b o (by simpa using hb) e) (Ne.symm hL) hC
theorem news_butC {h h' : Heap} {C : Addr} {news : List (Addr × Obj)} (N : News h₀ L h news) (hk : ∀ b o, b ≠ C → h.get? b = some o → h'.get? b = some o) (off : ∀ p ∈ news, p.1 ≠ C) : News h₀ L h' news :=
  LCg.news_but N (fun b o hb e => hk b o (by simpa using hb) e) off
theorem inner_two {cl : List (Str × Addr)} {C D J l T1 T2 : Addr} {i j : Str} {pi pj tp : Pos} {tk0 c : Nat} {q1 q2 : Nat × Tok} {m' : Str → Option Value} {zs : List (Int × Tok)} {RR : List (Addr × Obj)} {G : Nat → Nat → Int}
    (hh : A.handled = none) (hkind : scope.kind = .function) (hi : scope.names.lookup i = some .local) (hj : scope.names.lookup j = some .local) (hij : i ≠ j)
    (F : Fr h₀ L s.heap m) (hn : s.heap.Ns C m') (N : News h₀ L s.heap ((D, lst (zs.map ii)) :: RR)) (hl : (l, listOf #[.ref T1, .ref T2] c) ∈ RR) (hT1 : (T1, tupO [iv q1, iv q2]) ∈ RR) (hT2 : (T2, tupO [iv q2, iv q1]) ∈ RR)
    (hIt : s.heap.IsListIter J l 0) (hJ0 : h₀.get? J = none) (hJL : L ≠ J) (hDJ : D ≠ J) (offJ : ∀ p ∈ RR, p.1 ≠ J) (hJC : J ≠ C) (hC : h₀.get? C = none) (hCL : C ≠ L) (hDC : D ≠ C) (offC : ∀ p ∈ RR, p.1 ≠ C) (offD : ∀ p ∈ RR, p.1 ≠ D) (hz : zs.length ≤ 1000)
    (helt : ∀ a b, (a = q1 ∧ b = q2) ∨ (a = q2 ∧ b = q1) → ∀ oC m₂ (s' : Shared), NsObj oC m₂ → m₂ i = some (iv a) → m₂ j = some (iv b) → Fr h₀ L s'.heap m → News h₀ L s'.heap ((C, oC) :: RR) →
      wpAny (model prog w) A (eval elt (compEnvC scope cl C env)) (fun y s'' => ∃ t tk, y = .int (G a.1 b.1) t ∧ s'' = { s' with toks := tk }) Nev s')
    (hret : ∀ (h' : Heap) (tk : Nat) (m'' : Str → Option Value) (zs' : List (Int × Tok)), Fr h₀ L h' m → h'.Ns C m'' → News h₀ L h' ((D, lst (zs'.map ii)) :: RR) → zs'.map (·.1) = zs.map (·.1) ++ [G q1.1 q2.1, G q2.1 q1.1] → R (.ok .next) { s with heap := h', toks := tk }) :
    codeAny (model prog w) A (.compLoop (cE elt t0 i0 (.Tuple [.Name i pi, .Name j pj] tk0 tp) i1 scope pos) 1 (.ref J) (.ref D) (compEnvC scope cl C env)) R s := by
  have hJl : l ≠ J := offJ _ hl
  have W := Walks.list (prog := prog) (w := w) (A := A) hh J l hJl #[.ref T1, .ref T2]
  refine compLoop1 (fun n s' => ∃ h' tk k zs' m', s' = { s with heap := h', toks := tk } ∧ k ≤ 2 ∧ n = 3 - k ∧ h'.IsListIter J l k ∧ Fr h₀ L h' m ∧ h'.Ns C m' ∧ News h₀ L h' ((D, lst (zs'.map ii)) :: RR) ∧ zs'.map (·.1) = zs.map (·.1) ++ ([G q1.1 q2.1, G q2.1 q1.1].take k) ∧ zs'.length = zs.length + k) ?_ 3
    ⟨s.heap, s.toks, 0, zs, m', rfl, by omega, rfl, hIt, F, hn, N, by simp, rfl⟩
  rintro n s' ⟨h', tk, k, zs', m', rfl, hk, rfl, hIt', F', hn', N', hzs, hzl⟩
  have offJ' : ∀ p ∈ ((D, lst (zs'.map ii)) :: RR : List (Addr × Obj)), p.1 ≠ J := by
    intro p hp
    rcases List.mem_cons.mp hp with rfl | hp
    · exact hDJ
    · exact offJ p hp
  have offC' : ∀ p ∈ ((D, lst (zs'.map ii)) :: RR : List (Addr × Obj)), p.1 ≠ C := by
    intro p hp
    rcases List.mem_cons.mp hp with rfl | hp
    · exact hDC
    · exact offC p hp
  have hli : h'.IsList l #[.ref T1, .ref T2] := ⟨_, (N' _ (.tail _ hl)).1, rfl, c, rfl⟩
  by_cases hlt : k < 2
  · refine W.item k _ _ _ hlt ⟨hIt', hli⟩ fun v h₂ tk₂ hPv hst₂ hk₂ => ?_
    obtain ⟨a, b, T, hab, rfl, hT⟩ : ∃ a b T, ((a = q1 ∧ b = q2 ∧ G a.1 b.1 = ([G q1.1 q2.1, G q2.1 q1.1].getD k 0)) ∨ (a = q2 ∧ b = q1 ∧ G a.1 b.1 = ([G q1.1 q2.1, G q2.1 q1.1].getD k 0))) ∧ v = .ref T ∧ (T, tupO [iv a, iv b]) ∈ RR := by
      match k, hPv with
      | 0, h => simp at h; subst h; exact ⟨q1, q2, T1, .inl ⟨rfl, rfl, rfl⟩, rfl, hT1⟩
      | 1, h => simp at h; subst h; exact ⟨q2, q1, T2, .inr ⟨rfl, rfl, rfl⟩, rfl, hT2⟩
      | k + 2, _ => omega
    have hG : G a.1 b.1 = [G q1.1 q2.1, G q2.1 q1.1].getD k 0 := by rcases hab with ⟨_, _, h⟩ | ⟨_, _, h⟩ <;> exact h
    have hab' : (a = q1 ∧ b = q2) ∨ (a = q2 ∧ b = q1) := by rcases hab with ⟨h1, h2, _⟩ | ⟨h1, h2, _⟩ <;> simp [h1, h2]
    have F₂ := LCg.fr_but F' hk₂ hJL hJ0
    have N₂ := LCg.news_but N' hk₂ offJ'
    refine wpAny_letOwnedTupleGo_listiter hst₂.1 ?_
    refine assign_two hh hkind hi hj ⟨_, (N₂ _ (.tail _ hT)).1, rfl, 0, rfl⟩ (hn'.at' fun o e => hk₂ _ o (by simpa using Ne.symm hJC) e) fun h₃ tk₃ hn₃ hk₃ => ?_
    obtain ⟨oC, heC, hoC⟩ := ns_obj hn₃
    have F₃ := fr_butC F₂ hk₃ hCL hC
    have N₃ := news_butC N₂ hk₃ offC'
    have N₃' : News h₀ L h₃ ((C, oC) :: RR) := by
      intro p hp
      rcases List.mem_cons.mp hp with rfl | hp
      · exact ⟨heC, hCL, hC⟩
      · exact N₃ p (.tail _ hp)
    refine wpAny_mono (helt a b hab' oC _ { s with heap := h₃, toks := tk₃ } hoC (by simp [hij]) (by simp) F₃ N₃') (fun y s₄ h₄ => ?_) fun _ _ e => e
    obtain ⟨t, tk₄, rfl, rfl⟩ := h₄
    have zD := (N₃ _ (.head _)).1
    have hD0 := (N₃ _ (.head _)).2.2
    have hDL := (N₃ _ (.head _)).2.1
    refine append_at (its := (zs'.map ii).toArray) (n := (zs'.map ii).length) (hsz := by rw [List.size_toArray, List.length_map, sizeLine_eq]; omega) zD fun h₅ hs₅ hD₅ => ?_
    refine ⟨3 - (k + 1), by omega, h₅, tk₄, k + 1, zs' ++ [(G a.1 b.1, t)], _, rfl, hlt, rfl, ?_, F₃.change hs₅ hDL hD0, (hoC.ns heC).sameBut hs₅ (Ne.symm hDC), fun p hp => ?_, ?_, by simp; omega⟩
    · obtain ⟨oJ, e1, e2⟩ := hst₂.1
      exact ⟨oJ, hs₅.extBut _ _ (Ne.symm hDJ) (hk₃ _ _ hJC e1), e2⟩
    · rcases List.mem_cons.mp hp with rfl | hp
      · refine ⟨hD₅.trans (congrArg some ?_), hDL, hD0⟩
        rw [List.map_append]
        exact lst_snoc (zs'.map ii) _
      · exact ⟨hs₅.extBut _ _ (offD p hp) (N₃ p (.tail _ hp)).1, (N₃ p (.tail _ hp)).2⟩
    · rw [List.map_append, hzs, List.append_assoc]
      congr 1
      match k, hlt, hG with
      | 0, _, hG => simp [hG]
      | 1, _, hG => simp [hG]
      | k + 2, h, _ => exact absurd h (by omega)
  · obtain rfl : k = 2 := by omega
    refine W.done _ _ _ ⟨hIt', hli⟩ fun h₂ tk₂ hk₂ => ?_
    exact hret h₂ tk₂ m' zs' (LCg.fr_but F' hk₂ hJL hJ0) (hn'.at' fun o e => hk₂ _ o (by simpa using Ne.symm hJC) e) (LCg.news_but N' hk₂ offJ') (by rw [hzs]; rfl)
end
end PP
end
theorem rs_L65 : True := by
  have h : (1 : Nat) = 1 := by walk1
  w_top off; exact trivial
section
local macro_rules | `(tactic| walk_at "eval ListComp") => `(tactic| ((with_reducible show wpAny _ _ (eval (Expr.ListComp _ _ _ _) _) _ _ _); refine halt ?_))
namespace PP
open LCg LCp
section
variable {prog : Program} {w : World} {A : Around} {E : Value → Shared → Prop} {R : Result → Shared → Prop} {s : Shared} {h₀ : Heap} {L : Addr} {m : Str → Option Value} {env : Env} {elt i0 i1 : PySem.Expr} {scope : Scope} {pos : Pos}
/-- what the inner for's list must be: the two, either way round -/
noncomputable def InnerOk (h₀ : Heap) (L : Addr) (m : Str → Option Value) (q1 q2 : Nat × Tok) (s' : Shared) (NN : List (Addr × Obj)) (xv : Value) (s'' : Shared) : Prop :=
  ∃ l T1 T2 c h'' tk'', xv = .ref l ∧ s'' = { s' with heap := h'', toks := tk'' } ∧ Fr h₀ L h'' m ∧ News h₀ L h'' ((l, listOf #[.ref T1, .ref T2] c) :: (T2, tupO [iv q2, iv q1]) :: (T1, tupO [iv q1, iv q2]) :: NN) ∧ (∀ p ∈ NN, p.1 < T1) ∧ T1 < T2 ∧ T2 < l
theorem outer_loop {cl : List (Str × Addr)} {C D I ax : Addr} {x y i j : Str} {px py tp0 pi pj tp : Pos} {tk1 tk0 na : Nat} {m' : Str → Option Value} {prs : List (Addr × (Nat × Tok) × (Nat × Tok))} {news : List (Addr × Obj)} {G : Nat → Nat → Int}
    (hh : A.handled = none) (hkind : scope.kind = .function) (hx : scope.names.lookup x = some .local) (hy : scope.names.lookup y = some .local) (hxy : x ≠ y) (hi : scope.names.lookup i = some .local) (hj : scope.names.lookup j = some .local) (hij : i ≠ j)
    (hs : ∀ x, foldedSetIterable i1 (compEnvC scope cl C env) x = pure x)
    (F : Fr h₀ L s.heap m) (hn : s.heap.Ns C m') (N : News h₀ L s.heap ((D, lst []) :: news)) (hax : (ax, listOf (prs.map fun q => Value.ref q.1).toArray na) ∈ news) (hpr : ∀ q ∈ prs, (q.1, PairO q) ∈ news)
    (hIt : s.heap.IsListIter I ax 0) (hI0 : h₀.get? I = none) (hIL : L ≠ I) (hDI : D ≠ I) (offI : ∀ p ∈ news, p.1 ≠ I) (hIC : I ≠ C) (hC : h₀.get? C = none) (hCL : C ≠ L) (hDC : D ≠ C) (offC : ∀ p ∈ news, p.1 ≠ C) (offD : ∀ p ∈ news, p.1 ≠ D) (hz : prs.length ≤ 400)
    (hiter : ∀ q ∈ prs, ∀ oC m₂ (s' : Shared) NN, NsObj oC m₂ → m₂ x = some (iv q.2.1) → m₂ y = some (iv q.2.2) → Fr h₀ L s'.heap m → News h₀ L s'.heap ((C, oC) :: NN) → (∀ p ∈ news, p ∈ NN) →
      wpAny (model prog w) A (eval i1 (compEnvC scope cl C env)) (InnerOk h₀ L m q.2.1 q.2.2 s' ((C, oC) :: NN)) Nev s')
    (helt : ∀ q ∈ prs, ∀ a b, (a = q.2.1 ∧ b = q.2.2) ∨ (a = q.2.2 ∧ b = q.2.1) → ∀ oC m₂ (s' : Shared) NN, NsObj oC m₂ → m₂ i = some (iv a) → m₂ j = some (iv b) → Fr h₀ L s'.heap m → News h₀ L s'.heap ((C, oC) :: NN) → (∀ p ∈ news, p ∈ NN) →
      wpAny (model prog w) A (eval elt (compEnvC scope cl C env)) (fun y s'' => ∃ t tk, y = .int (G a.1 b.1) t ∧ s'' = { s' with toks := tk }) Nev s')
    (hret : ∀ (h' : Heap) (tk : Nat) (m'' : Str → Option Value) (zs : List (Int × Tok)), Fr h₀ L h' m → h'.Ns C m'' → News h₀ L h' ((D, lst (zs.map ii)) :: news) → zs.map (·.1) = prs.flatMap (fun q => [G q.2.1.1 q.2.2.1, G q.2.2.1 q.2.1.1]) → R (.ok .next) { s with heap := h', toks := tk }) :
    codeAny (model prog w) A (.compLoop (cE elt (.Tuple [.Name x px, .Name y py] tk1 tp0) i0 (.Tuple [.Name i pi, .Name j pj] tk0 tp) i1 scope pos) 0 (.ref I) (.ref D) (compEnvC scope cl C env)) R s := by
  have hIax : ax ≠ I := offI _ hax
  have W := Walks.list (prog := prog) (w := w) (A := A) hh I ax hIax (prs.map fun q => Value.ref q.1).toArray
  refine compLoop0 (fun n s' => ∃ (h' : Heap) (tk k : Nat) (zs : List (Int × Tok)) (m' : Str → Option Value), s' = { s with heap := h', toks := tk } ∧ k ≤ prs.length ∧ n = prs.length + 1 - k ∧ h'.IsListIter I ax k ∧ Fr h₀ L h' m ∧ h'.Ns C m' ∧ News h₀ L h' ((D, lst (zs.map ii)) :: news) ∧ zs.map (·.1) = (prs.take k).flatMap (fun q => [G q.2.1.1 q.2.2.1, G q.2.2.1 q.2.1.1]) ∧ zs.length = 2 * k) hs ?_ (prs.length + 1)
    ⟨s.heap, s.toks, 0, [], m', rfl, Nat.zero_le _, rfl, hIt, F, hn, N, rfl, rfl⟩
  rintro n s' ⟨h', tk, k, zs, m', rfl, hk, rfl, hIt', F', hn', N', hzs, hzl⟩
  have offI' : ∀ p ∈ ((D, lst (zs.map ii)) :: news : List (Addr × Obj)), p.1 ≠ I := by
    intro p hp
    rcases List.mem_cons.mp hp with rfl | hp
    · exact hDI
    · exact offI p hp
  have offC' : ∀ p ∈ ((D, lst (zs.map ii)) :: news : List (Addr × Obj)), p.1 ≠ C := by
    intro p hp
    rcases List.mem_cons.mp hp with rfl | hp
    · exact hDC
    · exact offC p hp
  have hli : h'.IsList ax (prs.map fun q => Value.ref q.1).toArray := ⟨_, (N' _ (.tail _ hax)).1, rfl, na, rfl⟩
  by_cases hlt : k < prs.length
  · refine W.item k _ _ _ (by simpa using hlt) ⟨hIt', hli⟩ fun v h₂ tk₂ hPv hst₂ hk₂ => ?_
    obtain ⟨q, hq⟩ : ∃ q, prs[k]? = some q := ⟨_, List.getElem?_eq_getElem hlt⟩
    obtain rfl : v = .ref q.1 := by
      have h : (prs.map fun q => Value.ref q.1)[k]? = some v := by simpa using hPv
      rw [List.getElem?_map, hq] at h
      exact (Option.some.inj h).symm
    have hqm := List.mem_of_getElem? hq
    have F₂ := LCg.fr_but F' hk₂ hIL hI0
    have N₂ := LCg.news_but N' hk₂ offI'
    refine wpAny_letOwnedTupleGo_listiter hst₂.1 ?_
    refine assign_two hh hkind hx hy ⟨_, (N₂ _ (.tail _ (hpr q hqm))).1, rfl, 0, rfl⟩ (hn'.at' fun o e => hk₂ _ o (by simpa using Ne.symm hIC) e) fun h₃ tk₃ hn₃ hk₃ => ?_
    obtain ⟨oC, heC, hoC⟩ := ns_obj hn₃
    have F₃ := fr_butC F₂ hk₃ hCL hC
    have N₃ := news_butC N₂ hk₃ offC'
    obtain ⟨oI, heI, hoI⟩ := hst₂.1
    have heI₃ : h₃.get? I = some oI := hk₃ _ _ hIC heI
    have N₃' : News h₀ L h₃ ((C, oC) :: (I, oI) :: (D, lst (zs.map ii)) :: news) := by
      intro p hp
      rcases List.mem_cons.mp hp with rfl | hp
      · exact ⟨heC, hCL, hC⟩
      rcases List.mem_cons.mp hp with rfl | hp
      · exact ⟨heI₃, Ne.symm hIL, hI0⟩
      · exact N₃ p hp
    refine wpAny_mono (hiter q hqm oC _ { s with heap := h₃, toks := tk₃ } ((I, oI) :: (D, lst (zs.map ii)) :: news) hoC (by simp [hxy]) (by simp) F₃ N₃' (fun p hp => .tail _ (.tail _ hp))) (fun xv s₄ h₄ => ?_) fun _ _ e => e
    obtain ⟨l, T1, T2, c, h4, tk4, rfl, rfl, F₄, N₄, lt1, lt2, lt3⟩ := h₄
    have ltl : ∀ p ∈ ((C, oC) :: (I, oI) :: (D, lst (zs.map ii)) :: news : List (Addr × Obj)), p.1 < l := fun p hp => Nat.lt_trans (lt1 p hp) (Nat.lt_trans lt2 lt3)
    have lt2' : ∀ p ∈ ((C, oC) :: (I, oI) :: (D, lst (zs.map ii)) :: news : List (Addr × Obj)), p.1 < T2 := fun p hp => Nat.lt_trans (lt1 p hp) lt2
    have inN : ∀ {p : Addr × Obj}, p ∈ news → p ∈ ((C, oC) :: (I, oI) :: (D, lst (zs.map ii)) :: news : List (Addr × Obj)) := fun h => .tail _ (.tail _ (.tail _ h))
    have hl4 : h4.IsList l #[.ref T1, .ref T2] := ⟨_, (N₄ _ (.head _)).1, rfl, c, rfl⟩
    refine wpAny_pyIter_list hl4 ?_
    have up : ∀ b o, h4.get? b = some o → (h4.push { cls := .type "list_iterator", data := .fields #[.ref l, .int 0 0] }).get? b = some o := fun b o e => Heap.get?_push_of_some _ e
    have F₅ := F₄.keeps up
    have N₅ : News h₀ L (h4.push { cls := .type "list_iterator", data := .fields #[.ref l, .int 0 0] }) ((l, listOf #[.ref T1, .ref T2] c) :: (T2, tupO [iv q.2.2, iv q.2.1]) :: (T1, tupO [iv q.2.1, iv q.2.2]) :: (C, oC) :: (I, oI) :: (D, lst (zs.map ii)) :: news) := N₄.grown up
    have hJ : ∀ p ∈ ((l, listOf #[.ref T1, .ref T2] c) :: (T2, tupO [iv q.2.2, iv q.2.1]) :: (T1, tupO [iv q.2.1, iv q.2.2]) :: (C, oC) :: (I, oI) :: (D, lst (zs.map ii)) :: news : List (Addr × Obj)), p.1 ≠ h4.objs.size := fun p hp => Nat.ne_of_lt (Heap.lt_size (N₄ p hp).1)
    have hJ0 : h₀.get? h4.objs.size = none := next_is_new F₄
    have hJL : L ≠ h4.objs.size := Nat.ne_of_lt F₄.ns.lt
    have hIt5 : (h4.push { cls := .type "list_iterator", data := .fields #[.ref l, .int 0 0] }).IsListIter h4.objs.size l 0 := ⟨_, Heap.get?_push_size _ rfl, rfl, rfl⟩
    have hn5 : (h4.push { cls := .type "list_iterator", data := .fields #[.ref l, .int 0 0] }).Ns C _ := hoC.ns (N₅ _ (.tail _ (.tail _ (.tail _ (.head _))))).1
    have sub : ∀ p ∈ ((D, lst (zs.map ii)) :: (l, listOf #[.ref T1, .ref T2] c) :: (T2, tupO [iv q.2.2, iv q.2.1]) :: (T1, tupO [iv q.2.1, iv q.2.2]) :: (I, oI) :: news : List (Addr × Obj)), p ∈ ((l, listOf #[.ref T1, .ref T2] c) :: (T2, tupO [iv q.2.2, iv q.2.1]) :: (T1, tupO [iv q.2.1, iv q.2.2]) :: (C, oC) :: (I, oI) :: (D, lst (zs.map ii)) :: news : List (Addr × Obj)) := by
      exact sub_ix [5, 0, 1, 2, 4] 5 6 rfl rfl
    have offD' : ∀ p ∈ ((l, listOf #[.ref T1, .ref T2] c) :: (T2, tupO [iv q.2.2, iv q.2.1]) :: (T1, tupO [iv q.2.1, iv q.2.2]) :: (I, oI) :: news : List (Addr × Obj)), p.1 ≠ D := by
      intro p hp
      rcases List.mem_cons.mp hp with rfl | hp
      · exact Nat.ne_of_gt (ltl (D, lst (zs.map ii)) (.tail _ (.tail _ (.head _))))
      rcases List.mem_cons.mp hp with rfl | hp
      · exact Nat.ne_of_gt (lt2' (D, lst (zs.map ii)) (.tail _ (.tail _ (.head _))))
      rcases List.mem_cons.mp hp with rfl | hp
      · exact Nat.ne_of_gt (lt1 (D, lst (zs.map ii)) (.tail _ (.tail _ (.head _))))
      rcases List.mem_cons.mp hp with rfl | hp
      · exact Ne.symm hDI
      · exact offD p hp
    have offC5 : ∀ p ∈ ((l, listOf #[.ref T1, .ref T2] c) :: (T2, tupO [iv q.2.2, iv q.2.1]) :: (T1, tupO [iv q.2.1, iv q.2.2]) :: (I, oI) :: news : List (Addr × Obj)), p.1 ≠ C := by
      intro p hp
      rcases List.mem_cons.mp hp with rfl | hp
      · exact Nat.ne_of_gt (ltl (C, oC) (.head _))
      rcases List.mem_cons.mp hp with rfl | hp
      · exact Nat.ne_of_gt (lt2' (C, oC) (.head _))
      rcases List.mem_cons.mp hp with rfl | hp
      · exact Nat.ne_of_gt (lt1 (C, oC) (.head _))
      rcases List.mem_cons.mp hp with rfl | hp
      · exact hIC
      · exact offC p hp
    have inner : codeAny (model prog w) A (.compLoop (cE elt (.Tuple [.Name x px, .Name y py] tk1 tp0) i0 (.Tuple [.Name i pi, .Name j pj] tk0 tp) i1 scope pos) 1 (.ref h4.objs.size) (.ref D) (compEnvC scope cl C env)) (fun r s₅ => r = .ok .next ∧ ∃ m_1, m_1 < prs.length + 1 - k ∧ ∃ (h' : Heap) (tk k : Nat) (zs : List (Int × Tok)) (m' : Str → Option Value), s₅ = { s with heap := h', toks := tk } ∧ k ≤ prs.length ∧ m_1 = prs.length + 1 - k ∧ h'.IsListIter I ax k ∧ Fr h₀ L h' m ∧ h'.Ns C m' ∧ News h₀ L h' ((D, lst (zs.map ii)) :: news) ∧ zs.map (·.1) = (prs.take k).flatMap (fun q => [G q.2.1.1 q.2.2.1, G q.2.2.1 q.2.1.1]) ∧ zs.length = 2 * k) { s with heap := h4.push { cls := .type "list_iterator", data := .fields #[.ref l, .int 0 0] }, toks := tk4 } := by
      refine inner_two (l := l) (T1 := T1) (T2 := T2) (q1 := q.2.1) (q2 := q.2.2) (zs := zs) (G := G) (RR := (l, listOf #[.ref T1, .ref T2] c) :: (T2, tupO [iv q.2.2, iv q.2.1]) :: (T1, tupO [iv q.2.1, iv q.2.2]) :: (I, oI) :: news) hh hkind hi hj hij F₅ hn5 (news_sub N₅ sub) (.head _) (.tail _ (.tail _ (.head _))) (.tail _ (.head _)) hIt5 hJ0 hJL (hJ _ (sub _ (.head _))) (fun p hp => hJ _ (sub _ (.tail _ hp))) (Ne.symm (hJ _ (.tail _ (.tail _ (.tail _ (.head _)))))) hC hCL hDC offC5 offD' (by omega) ?_ ?_
      · intro a b hab oC2 m₂ s' c1 c2 c3 c4 c5
        exact helt q hqm a b hab oC2 m₂ s' _ c1 c2 c3 c4 c5 (fun p hp => .tail _ (.tail _ (.tail _ (.tail _ hp))))
      · intro h6 tk6 m6 zs6 F6 n6 N6 e6
        refine ⟨rfl, prs.length + 1 - (k + 1), by omega, h6, tk6, k + 1, zs6, m6, rfl, hlt, rfl, ?_, F6, n6, ?_, ?_, ?_⟩
        · obtain ⟨o1, o2⟩ := N6 (I, oI) (.tail _ (.tail _ (.tail _ (.tail _ (.head _)))))
          exact ⟨oI, o1, hoI⟩
        · refine news_sub N6 fun p hp => ?_
          rcases List.mem_cons.mp hp with rfl | hp
          · exact .head _
          · exact .tail _ (.tail _ (.tail _ (.tail _ (.tail _ hp))))
        · rw [e6, hzs, List.take_add_one, hq, Option.toList_some, List.flatMap_append]
          simp
        · have h1 := congrArg List.length e6
          simp at h1
          omega
    refine compStart1 inner ?_
    refine wpAny_pyIter_listiter hIt5 ?_
    exact inner
  · obtain rfl : k = prs.length := by omega
    refine W.done _ _ _ ⟨by simpa using hIt', hli⟩ fun h₂ tk₂ hk₂ => ?_
    rw [List.take_length] at hzs
    exact hret h₂ tk₂ m' zs (LCg.fr_but F' hk₂ hIL hI0) (hn'.at' fun o e => hk₂ _ o (by simpa using Ne.symm hIC) e) (LCg.news_but N' hk₂ offI') hzs
end
end PP
end
theorem rs_L66 : True := by
  have h : (1 : Nat) = 1 := by walk1
  w_top off; exact trivial
section
local macro_rules | `(tactic| walk_at "eval ListComp") => `(tactic| ((with_reducible show wpAny _ _ (eval (Expr.ListComp _ _ _ _) _) _ _ _); refine halt ?_))
local macro_rules | `(tactic| walk_at "subscriptTail") => `(tactic| ((with_reducible show wpAny _ _ (subscriptTail _ _ (Value.ref _) (Value.int _ _)) _ _ _); refine halt ?_))
local macro_rules | `(tactic| walk_at "binaryOp Add ref ref") => `(tactic| ((with_reducible show wpAny _ _ (binaryOp _ (Value.ref _) (Value.ref _)) _ _ _); refine halt ?_))
namespace PP
open LCg LCp
section
variable {prog : Program} {w : World} {A : Around} {E : Value → Shared → Prop} {s : Shared} {h₀ : Heap} {L : Addr} {m : Str → Option Value} {env : Env} {elt i0 i1 : PySem.Expr} {scope : Scope} {pos : Pos}
theorem Assign_PP {cl : List (Str × Addr)} {x y i j z : Str} {px py tp0 pi pj tp pz : Pos} {spos : Pos} {tk1 tk0 na : Nat} {prs : List (Addr × (Nat × Tok) × (Nat × Tok))} {news : List (Addr × Obj)} {G : Nat → Nat → Int} {ax : Addr} {Q : Flow → Shared → Prop} (hLe : env.locals = L)
    (hsw : swapsWith (cE elt (.Tuple [.Name x px, .Name y py] tk1 tp0) i0 (.Tuple [.Name i pi, .Name j pj] tk0 tp) i1 scope pos) (some (.Name z pz)) spos.line env = pure true)
    (hclos : closureFor scope env = pure cl) (hcell : ∀ z ∈ scope.names, z.2 ≠ .cell) (hkind : scope.kind = .function)
    (hnames : ∀ z ∈ scope.names, z.2 = .local → scope.names.lookup z.1 = some .local)
    (hx : scope.names.lookup x = some .local) (hy : scope.names.lookup y = some .local) (hxy : x ≠ y) (hi : scope.names.lookup i = some .local) (hj : scope.names.lookup j = some .local) (hij : i ≠ j)
    (hzl : env.kindOf z = some .local) (hp : (env.scope.kind == .class || (env.scope.kind == .module && env.locals != env.globals)) = false)
    (hh : A.handled = none) (hev : ∀ Q' : Value → Shared → Prop, Q' (.ref ax) s → wpAny (model prog w) A (eval i0 env) Q' E s)
    (hs0 : ∀ x, foldedSetIterable i0 env x = pure x) (hs : ∀ C x, foldedSetIterable i1 (compEnvC scope cl C env) x = pure x)
    (F : Fr h₀ L s.heap m) (N : News h₀ L s.heap news) (hax : (ax, listOf (prs.map fun q => Value.ref q.1).toArray na) ∈ news) (hpr : ∀ q ∈ prs, (q.1, PairO q) ∈ news) (hz : prs.length ≤ 400)
    (hiter : ∀ C, ∀ q ∈ prs, ∀ oC m₂ (s' : Shared) NN, NsObj oC m₂ → m₂ x = some (iv q.2.1) → m₂ y = some (iv q.2.2) → Fr h₀ L s'.heap m → News h₀ L s'.heap ((C, oC) :: NN) → (∀ p ∈ news, p ∈ NN) →
      wpAny (model prog w) A (eval i1 (compEnvC scope cl C env)) (InnerOk h₀ L m q.2.1 q.2.2 s' ((C, oC) :: NN)) Nev s')
    (helt : ∀ C, ∀ q ∈ prs, ∀ a b, (a = q.2.1 ∧ b = q.2.2) ∨ (a = q.2.2 ∧ b = q.2.1) → ∀ oC m₂ (s' : Shared) NN, NsObj oC m₂ → m₂ i = some (iv a) → m₂ j = some (iv b) → Fr h₀ L s'.heap m → News h₀ L s'.heap ((C, oC) :: NN) → (∀ p ∈ news, p ∈ NN) →
      wpAny (model prog w) A (eval elt (compEnvC scope cl C env)) (fun y s'' => ∃ t tk, y = .int (G a.1 b.1) t ∧ s'' = { s' with toks := tk }) Nev s')
    (hret : ∀ (h' : Heap) (tk : Nat) (D : Addr) (zs : List (Int × Tok)), Fr h₀ L h' (fun k => if k = z then some (.ref D) else m k) → News h₀ L h' ((D, lst (zs.map ii)) :: news) → (∀ p ∈ news, p.1 < D) → zs.map (·.1) = prs.flatMap (fun q => [G q.2.1.1 q.2.2.1, G q.2.2.1 q.2.1.1]) → Q .next { s with heap := h', toks := tk }) :
    wpAny (model prog w) A (exec (.Assign [.Name z pz] (cE elt (.Tuple [.Name x px, .Name y py] tk1 tp0) i0 (.Tuple [.Name i pi, .Name j pj] tk0 tp) i1 scope pos) spos) env) Q E s := by
  subst hLe
  rw [exec_Assign_Name_used _ _ _ _ hsw]
  refine wpAny_bind (wpAny_standAt (wpAny_bind ?_))
  show wpAny _ A (do let _ ← comprehension (cE elt (.Tuple [.Name x px, .Name y py] tk1 tp0) i0 (.Tuple [.Name i pi, .Name j pj] tk0 tp) i1 scope pos) scope env _ (newList []) false (eval i0 env) (some (assign (.Name z pz) env))) _ _ s
  refine wpAny_bind (wpAny_mono (wpAny_comprehension_free (use := some (assign (.Name z pz) env)) (Q := fun _ s' => Q .next s') rfl hs0 hclos hkind hnames
    (hev _ ?_)) (fun _ s' hq => wpAny_pure (wpAny_pure hq)) fun _ _ e => e)
  have hl : s.heap.IsList ax (prs.map fun q => Value.ref q.1).toArray := ⟨_, (N _ hax).1, rfl, na, rfl⟩
  refine wpAny_pyIter_list hl ?_
  have up1 : ∀ b o, s.heap.get? b = some o → (s.heap.push { cls := .type "list_iterator", data := .fields #[.ref ax, .int 0 0] }).get? b = some o := fun b o e => Heap.get?_push_of_some _ e
  have hI1 : (s.heap.push { cls := .type "list_iterator", data := .fields #[.ref ax, .int 0 0] }).get? s.heap.objs.size = some { cls := .type "list_iterator", data := .fields #[.ref ax, .int 0 0] } := Heap.get?_push_size _ rfl
  have hz1 : (s.heap.push { cls := .type "list_iterator", data := .fields #[.ref ax, .int 0 0] }).objs.size = s.heap.objs.size + 1 := Heap.size_push _ _
  generalize s.heap.push { cls := .type "list_iterator", data := .fields #[.ref ax, .int 0 0] } = H1 at up1 hI1 hz1 ⊢
  refine wpAny_newObj_type (wpAny_newFunctionEnv hcell (by intro y hy; simp at hy) (fun h₁ hns₁ hsb₁ => ?_) hkind)
  dsimp only at hns₁ hsb₁ ⊢
  generalize hH2 : H1.push { cls := .type "list", dict := none, data := .seq ([] : List Value).toArray } = H2 at hns₁ hsb₁ ⊢
  have hC : H2.objs.size = H1.objs.size + 1 := by rw [← hH2, Heap.size_push]
  have hDC : H1.objs.size ≠ H2.objs.size := by rw [hC]; exact Nat.ne_of_lt (Nat.lt_succ_self _)
  have old1 : ∀ b o, H1.get? b = some o → h₁.get? b = some o := fun b o e => hsb₁.extBut b o (by rw [hC]; exact Nat.ne_of_lt (Nat.lt_succ_of_lt (Heap.lt_size e))) (Heap.get?_push_of_some _ (hH2 ▸ Heap.get?_push_of_some _ e))
  have old : ∀ b o, s.heap.get? b = some o → h₁.get? b = some o := fun b o e => old1 b o (up1 b o e)
  have hacc : h₁.get? H1.objs.size = some (lst []) := hsb₁.extBut _ _ hDC (Heap.get?_push_of_some _ (hH2 ▸ Heap.get?_push_size _ rfl))
  have hItA : h₁.IsListIter s.heap.objs.size ax 0 := ⟨_, old1 _ _ hI1, rfl, rfl⟩
  have fresh₀ : ∀ a, s.heap.objs.size ≤ a → h₀.get? a = none := fun a ha => by
    cases e : h₀.get? a with
    | none => rfl
    | some o' => exact absurd (Heap.lt_size (F.keep a o' e)) (Nat.not_lt.mpr ha)
  have hLlt : env.locals < s.heap.objs.size := F.ns.lt
  have hID : s.heap.objs.size < H1.objs.size := by rw [hz1]; exact Nat.lt_succ_self _
  have hDC' : H1.objs.size < H2.objs.size := by rw [hC]; exact Nat.lt_succ_self _
  have hnl : ∀ p ∈ news, p.1 < s.heap.objs.size := fun p hp => Heap.lt_size (N p hp).1
  have N₁ : News h₀ env.locals h₁ ((H1.objs.size, lst []) :: news) := by
    intro p hp
    rcases List.mem_cons.mp hp with rfl | hp
    · exact ⟨hacc, Nat.ne_of_gt (Nat.lt_trans hLlt hID), fresh₀ _ (Nat.le_of_lt hID)⟩
    · exact ⟨old _ _ (N p hp).1, (N p hp).2⟩
  have hCL : H2.objs.size ≠ env.locals := Nat.ne_of_gt (Nat.lt_trans hLlt (Nat.lt_trans hID hDC'))
  have hC0 : h₀.get? H2.objs.size = none := fresh₀ _ (Nat.le_of_lt (Nat.lt_trans hID hDC'))
  have loop : codeAny (model prog w) A (.compLoop (cE elt (.Tuple [.Name x px, .Name y py] tk1 tp0) i0 (.Tuple [.Name i pi, .Name j pj] tk0 tp) i1 scope pos) 0 (.ref s.heap.objs.size) (.ref H1.objs.size) (compEnvC scope cl H2.objs.size env))
      (compPost (model prog w) A E (some (assign (.Name z pz) env)) (fun _ s' => Q .next s') (.ref H1.objs.size) H2.objs.size) { s with heap := h₁, toks := s.toks + ([] : List (Str × Value)).length } := by
    refine outer_loop (C := H2.objs.size) (D := H1.objs.size) (G := G) hh hkind hx hy hxy hi hj hij (hs _) (F.keeps old) hns₁ N₁ hax hpr hItA (fresh₀ _ (Nat.le_refl _)) (Nat.ne_of_lt hLlt) (Nat.ne_of_gt hID) (fun p hp => Nat.ne_of_lt (hnl p hp)) (Nat.ne_of_lt (Nat.lt_trans hID hDC')) hC0 hCL hDC (fun p hp => Nat.ne_of_lt (Nat.lt_trans (hnl p hp) (Nat.lt_trans hID hDC'))) (fun p hp => Nat.ne_of_lt (Nat.lt_trans (hnl p hp) hID)) hz (hiter _) (helt _) ?_
    intro h' tk m'' zs F' hn' N' ez
    show wpAny _ A (assign (.Name z pz) env (.ref H1.objs.size)) _ _ _
    refine wpAny_assign_Name (wpAny_storeName_local hzl F'.ns (fun h₂ hn₂ hs₂ => ?_) hp)
    have hL₀ : h₀.get? env.locals = none := Heap.get?_none_of_le F'.above
    have F₂ : Fr h₀ env.locals h₂ (fun k => if k = z then some (.ref H1.objs.size) else m k) := ⟨hn₂, fun b o e => hs₂.extBut b o (fun q => by rw [q, hL₀] at e; cases e) (F'.keep b o e), F'.above⟩
    refine ⟨m'', hn'.sameBut hs₂ hCL, fun h'' hs'' => hret h'' _ H1.objs.size zs (F₂.change hs'' hCL hC0) (fun p hp => ?_) (fun p hp => Nat.lt_trans (hnl p hp) hID) ez⟩
    have zz : h₂.get? p.1 = some p.2 := hs₂.extBut _ _ (N' p hp).2.1 (N' p hp).1
    refine ⟨hs''.extBut _ _ ?_ zz, (N' p hp).2⟩
    rcases List.mem_cons.mp hp with rfl | hp
    · exact hDC
    · exact Nat.ne_of_lt (Nat.lt_trans (hnl p hp) (Nat.lt_trans hID hDC'))
  exact codeAny_compStart_list loop (wpAny_pyIter_listiter hItA loop)
end
end PP
section
variable {w : World} {p : Program} {loose : List Str} {mean : ExcName → Option Value} {mg mb : Str → Option Value} {dp un : Nat} {gd : Option (List Code)} {cn : Str} {cs : Scope} {a : Addr} {ccd : Value} {cl : List (Str × Addr)} {outer : List Env} {A₀ : Around} {baseH h₀ : Heap} {L : Addr} {m : Str → Option Value} {news : List (Addr × Obj)} {s : Shared} {Q E : Value → Shared → Prop}
set_option maxHeartbeats 2000000
noncomputable def gapT (s0 sz x y : Nat) : Int := (figI s0 x - figI s0 y).fmod (sz : Nat)
theorem law_gaps {g : Heap} {L' FL PA : Addr} {oS oF : Obj} {s0 sz c1 c2 : Nat} {ts : Tok} {qs : List (Nat × Tok)} {prs : List (Addr × (Nat × Tok) × (Nat × Tok))} {R : List (Addr × Obj)} {u : Str → Option Value} {Q : Flow → Shared → Prop}
  (B' : Below (lwTop 800 4000 gd outer) baseH (outer) g) (F' : Fr g L' s.heap (fun k => if k = Str.ofString "pairs" then some (.ref PA) else u k)) (X' : (KF w.params).In g)
  (N' : News g L' s.heap R) (T' : Top p loose mean mg mb g) (hmS : (L' + 1, oS) ∈ R) (hS : oS.data = .cell (some (.int (sz : Nat) ts))) (hmF : (L' + 1 + 1, oF) ∈ R) (hF : oF.data = .cell (some (.ref FL)))
  (hFL : (FL, listOf (qs.map iv).toArray c1) ∈ R) (hqs : qs.map (·.1) = (List.range sz).map (fun j => 7 + (s0 + j))) (hPA : (PA, listOf (prs.map fun q => Value.ref q.1).toArray c2) ∈ R) (hpr : ∀ q ∈ prs, (q.1, PairO q) ∈ R) (hb : ∀ q ∈ prs, q.2.1.1 < sz ∧ q.2.2.1 < sz) (hsz : 0 < sz) (hz : sz ≤ 100) (hpz : prs.length ≤ 100)
  (hret : ∀ (h' : Heap) (tk : Nat) (SL : Addr) (zs : List (Int × Tok)) (c : Nat), Fr g L' h' (fun k => if k = Str.ofString "gaps" then some (.ref SL) else if k = Str.ofString "pairs" then some (.ref PA) else u k) → News g L' h' ((SL, listOf (zs.map ii).toArray c) :: R) → (∀ p ∈ R, p.1 < SL) → zs.map (·.1) = (prs.map nums).flatMap (fun q => [gapT s0 sz q.1 q.2, gapT s0 sz q.2 q.1]) → Q .next { s with heap := h', toks := tk }) :
  wpAny (model PySem.Challenge.rw_wc0034_01.row.prog w) ((lwTop 800 4000 gd outer).deeper (lwEnv L')) (exec ((fdB (stm 67))[10]!) (lwEnv L')) Q Nev s := by
  have X₀ := X'
  have fig : ∀ x, x < sz → ∃ t, (qs.map iv)[x]? = some (Value.int (figI s0 x) t) := by
    intro x hx
    have h := congrArg (fun l => l[x]?) hqs
    simp only [List.getElem?_map, List.getElem?_range hx, Option.map_some] at h
    obtain ⟨e, he, he2⟩ := Option.map_eq_some_iff.mp h
    refine ⟨e.2, ?_⟩
    rw [List.getElem?_map, he]
    show some (Value.int ((e.1 : Nat) : Int) e.2) = _
    rw [he2]; rfl
  revert X'; k_fill; intro X'
  show wpAny _ _ (exec (Stmt.Assign _ (PySem.Expr.ListComp _ [⟨_, _, [], 0⟩, ⟨_, _, [], 0⟩] _ _) _) _) _ _ _
  refine PP.Assign_PP (prs := prs) (ax := PA) (G := gapT s0 sz) rfl (by rfl) (by rfl) (by decide) (by rfl) (by decide) (by rfl) (by rfl) (by decide) (by rfl) (by rfl) (by decide) (by rfl) (by rfl) rfl ?_ (fun _ => rfl) (fun _ _ => rfl) F' N' hPA hpr (by omega) ?_ ?_ ?_
  · intro Q' hQ'
    k_steps
    exact hQ'
  · intro C q hq oC m₂ s' NN hC' hx' hx₂' F9 N9 sub
    k_steps
    rename Fr g _ _ _ => Fy
    rename News g _ _ _ => Ny
    rename_i za zb zc zd ze zf zg zh zi
    refine ⟨_, _, _, 0, _, _, rfl, rfl, Fy, Ny, ?_, zf.1, zi.1⟩
    intro p hp
    rcases List.mem_cons.mp hp with rfl | hp
    · exact zc.1
    · exact allLt_mem zc.2 p hp
  · intro C q hq x y hab oC m₂ s' NN hC' hx' hx₂' F9 N9 sub
    have hb1 : x.1 < sz ∧ y.1 < sz := by
      obtain ⟨b1, b2⟩ := hb q hq
      rcases hab with ⟨rfl, rfl⟩ | ⟨rfl, rfl⟩
      · exact ⟨b1, b2⟩
      · exact ⟨b2, b1⟩
    obtain ⟨u1, fig1⟩ := fig _ hb1.1
    obtain ⟨u2, fig2⟩ := fig _ hb1.2
    have m1 := sub _ hmF
    have m2 := sub _ hmS
    have m3 := sub _ hFL
    have F8 : Fr g L' s'.heap _ := F9
    have N8 : News g L' s'.heap _ := N9
    clear F9 N9 F' N' hmF hmS hFL hPA hpr sub
    k_steps
    show wpAny _ _ _ _ _ _
    refine item_news (k := x.1) N8 (.tail _ m3) rfl (by omega) fig1 ?_
    k_steps
    show wpAny _ _ _ _ _ _
    refine item_news (k := y.1) N8 (.tail _ m3) rfl (by omega) fig2 ?_
    k_steps
  · intro h' tk D zs F9 N9 l9 e9
    exact hret h' tk D zs _ F9 N9 l9 (by rw [e9, List.flatMap_map])
end
end
theorem rs_L67 : True := by
  have h : (1 : Nat) = 1 := by walk1
  w_top off; exact trivial
section
local macro_rules | `(tactic| walk_at "eval ListComp") => `(tactic| ((with_reducible show wpAny _ _ (eval (Expr.ListComp _ _ _ _) _) _ _ _); refine halt ?_))
local macro_rules | `(tactic| walk_at "call type:set") => `(tactic| (refine halt ?_))
local macro_rules | `(tactic| walk_at "call builtin:len") => `(tactic| ((with_reducible show wpAny _ _ (call (Value.builtin "len") [Value.ref _]) _ _ _); refine halt ?_))
local macro_rules | `(tactic| walk_at "compareOp Eq ref ref") => `(tactic| (refine halt ?_))
noncomputable def distN (ns : List Int) : Nat := (PyProof.Rows.firstMet (fun i => ns.getD i 0) ns.length).length
section
variable {prog : Program} {w : World} {A : Around} {E : Value → Shared → Prop} {s : Shared} {h₀ : Heap} {L D : Addr} {m : Str → Option Value} {news : List (Addr × Obj)}
theorem ints_of : ∀ zs : List (Int × Tok), IntsAre (zs.map ii) (zs.map (·.1))
  | [] => .nil
  | z :: r => .cons _ _ (ints_of r)
theorem set_news {zs : List (Int × Tok)} {c : Nat} {Q : Value → Shared → Prop} (hh : A.handled = none) (F : Fr h₀ L s.heap m) (N : News h₀ L s.heap news) (hm : (D, listOf (zs.map ii).toArray c) ∈ news) (hz : zs.length ≤ 1000)
    (hr : ∀ (h' : Heap) (tk : Nat) (S : Addr) (P : Int → Bool), Fr h₀ L h' m → News h₀ L h' news → h'.SetOf (intKind prog w) S P (distN (zs.map (·.1))) → Q (.ref S) { s with heap := h', toks := tk }) :
    wpAny (model prog w) A (call (.type "set") [.ref D]) Q E s := by
  refine call_set_list (items := (zs.map ii).toArray) (ns := zs.map (·.1)) hh (News.isList N hm) (ints_of zs) (by unfold scanBound; rw [List.size_toArray, List.length_map]; omega) fun h' tk hS hk => ?_
  have hk' : ∀ b o, s.heap.get? b = some o → h'.get? b = some o := fun b o e => hk b o (Heap.lt_size e) e
  have e : (PyProof.Rows.firstMet (fun i => (zs.map (·.1)).getD i 0) (zs.map ii).toArray.size).length = distN (zs.map (·.1)) := by
    unfold distN
    rw [List.size_toArray, List.length_map, List.length_map]
  rw [e] at hS
  exact hr h' tk _ _ (F.keeps hk') (N.grown hk') hS
theorem len_set {S : Addr} {P : Int → Bool} {n : Nat} {Q : Value → Shared → Prop} (hS : s.heap.SetOf (intKind prog w) S P n) (hr : ∀ t tk, Q (.int (n : Nat) t) { s with toks := tk }) :
    wpAny (model prog w) A (call (.builtin "len") [.ref S]) Q E s := by
  obtain ⟨o, es, ep, t, ho, hex, hd, _, _, hb, hf, hn⟩ := hS
  subst hn
  exact call_len_set ho hex hd hf (by unfold scanBound at hb; omega) (hr _ _)
end
noncomputable def distOk (ns : List Int) : Bool := decide (distN ns = ns.length)
section
variable {w : World} {p : Program} {loose : List Str} {mean : ExcName → Option Value} {mg mb : Str → Option Value} {dp un : Nat} {gd : Option (List Code)} {cn : Str} {cs : Scope} {a : Addr} {ccd : Value} {cl : List (Str × Addr)} {outer : List Env} {A₀ : Around} {baseH h₀ : Heap} {L : Addr} {m : Str → Option Value} {news : List (Addr × Obj)} {s : Shared} {Q E : Value → Shared → Prop}
set_option maxHeartbeats 2000000
theorem law_return {g : Heap} {L' GL SL : Addr} {b1 b2 : Bool} {c1 c2 : Nat} {gs ss : List (Int × Tok)} {R : List (Addr × Obj)} {u : Str → Option Value} {Q : Flow → Shared → Prop}
  (B' : Below (lwTop 800 4000 gd outer) baseH (outer) g) (F' : Fr g L' s.heap (fun k => if k = Str.ofString "sums" then some (.ref SL) else if k = Str.ofString "gaps" then some (.ref GL) else if k = Str.ofString "once" then some (.bool b1) else if k = Str.ofString "alone" then some (.bool b2) else u k)) (X' : (KF w.params).In g)
  (N' : News g L' s.heap R) (T' : Top p loose mean mg mb g) (hG : (GL, listOf (gs.map ii).toArray c1) ∈ R) (hS : (SL, listOf (ss.map ii).toArray c2) ∈ R) (hzg : gs.length ≤ 1000) (hzs : ss.length ≤ 1000) (e1 : b1 = distOk (gs.map (·.1))) (e2 : b2 = distOk (ss.map (·.1)))
  (hret : ∀ (h' : Heap) (tk : Nat), Fr g L' h' (fun k => if k = Str.ofString "sums" then some (.ref SL) else if k = Str.ofString "gaps" then some (.ref GL) else if k = Str.ofString "once" then some (.bool b1) else if k = Str.ofString "alone" then some (.bool b2) else u k) → News g L' h' R → Q (.ret (.bool true)) { s with heap := h', toks := tk }) :
  wpAny (model PySem.Challenge.rw_wc0034_01.row.prog w) ((lwTop 800 4000 gd outer).deeper (lwEnv L')) (exec ((fdB (stm 67))[12]!) (lwEnv L')) Q Nev s := by
  have X₀ := X'
  revert X'; k_fill; intro X'
  show wpAny _ _ (exec (Stmt.Return _ _) _) _ _ _
  k_steps
  show wpAny _ _ _ _ _ _
  refine set_news (zs := gs) rfl (by k_asm) (by k_asm) (by walk_at "mine mem") hzg ?_
  intro h2 tk2 S1 P1 F2 N2 hS1
  k_steps
  show wpAny _ _ _ _ _ _
  refine len_set hS1 ?_
  intro t3 tk3
  k_steps
  show wpAny _ _ _ _ _ _
  refine len_news (vs := gs.map ii) N2 (by walk_at "mine mem") (by rw [List.length_map]; exact hzg) ?_
  intro t4 tk4
  k_steps
  show wpAny _ _ _ _ _ _
  refine set_news (zs := ss) rfl (by k_asm) (by k_asm) (by walk_at "mine mem") hzs ?_
  intro h5 tk5 S2 P2 F5 N5 hS2
  k_steps
  show wpAny _ _ _ _ _ _
  refine len_set hS2 ?_
  intro t6 tk6
  k_steps
  show wpAny _ _ _ _ _ _
  refine len_news (vs := ss.map ii) N5 (by walk_at "mine mem") (by rw [List.length_map]; exact hzs) ?_
  intro t7 tk7
  k_steps
  show wpAny _ _ _ _ _ _
  rename Fr g L' _ _ => Fy
  rename News g L' _ _ => Ny
  have q1 : (((distN (gs.map (·.1)) : Nat) : Int) == (((gs.map ii).length : Nat) : Int)) = b1 := by
    rw [e1]; unfold distOk
    rw [List.length_map, List.length_map, Bool.eq_iff_iff, beq_iff_eq, decide_eq_true_eq]
    omega
  have q2 : (((distN (ss.map (·.1)) : Nat) : Int) == (((ss.map ii).length : Nat) : Int)) = b2 := by
    rw [e2]; unfold distOk
    rw [List.length_map, List.length_map, Bool.eq_iff_iff, beq_iff_eq, decide_eq_true_eq]
    omega
  rw [q1, q2] at Ny
  have hc : CarriedAll [Value.bool b1, Value.bool b2] [PyData.bool b1, PyData.bool b2] := .cons (.bool _) (.cons (.bool _) .nil)
  refine eq_dataH (da := .list [.bool b1, .bool b2]) (db := .list [.bool b1, .bool b2]) (reads_newData (News.isList Ny (.tail _ (.head _))) hc) (reads_newData (News.isList Ny (.head _)) hc) ?zsh ?zsh2 ?zhu ?_
  case zsh => cases b1 <;> cases b2 <;> decide +kernel
  case zsh2 => cases b1 <;> cases b2 <;> decide +kernel
  case zhu => ke_room
  rw [show PyData.eqv (.list [.bool b1, .bool b2]) (.list [.bool b1, .bool b2]) = true from by cases b1 <;> cases b2 <;> decide +kernel]
  exact hret _ _ Fy (news_sub Ny fun p hp => .tail _ (.tail _ hp))
end
end
theorem rs_L68 : True := by
  have h : (1 : Nat) = 1 := by walk1
  w_top off; exact trivial
section
local macro_rules | `(tactic| walk_at "eval ListComp") => `(tactic| ((with_reducible show wpAny _ _ (eval (Expr.ListComp _ _ _ _) _) _ _ _); refine halt ?_))
theorem news_neO {g h : Heap} {L a b : Addr} {o o' : Obj} {news : List (Addr × Obj)} (N : News g L h news) (h1 : (a, o) ∈ news) (h2 : (b, o') ∈ news) (hne : o.data ≠ o'.data) : a ≠ b := by
  intro e
  subst e
  have q1 := (N _ h1).1
  have q2 := (N _ h2).1
  rw [q1] at q2
  exact hne (congrArg Obj.data (Option.some.inj q2))
theorem flat2_len {α β : Type} (f g : α → β) : ∀ l : List α, (l.flatMap fun q => [f q, g q]).length = 2 * l.length
  | [] => rfl
  | a :: l => by
    rw [List.flatMap_cons, List.length_append, flat2_len f g l]
    simp
    omega
theorem law_split : fdB (stm 67) = [(fdB (stm 67))[0]!, (fdB (stm 67))[1]!, (fdB (stm 67))[2]!, (fdB (stm 67))[3]!, (fdB (stm 67))[4]!, (fdB (stm 67))[5]!, (fdB (stm 67))[6]!, (fdB (stm 67))[7]!, (fdB (stm 67))[8]!, (fdB (stm 67))[9]!, (fdB (stm 67))[10]!, (fdB (stm 67))[11]!, (fdB (stm 67))[12]!] := rfl
noncomputable def prOf (k n1 : Nat) : List (Nat × Nat) := pairsOf k ((List.range (2 * k)).map (· + 1)) n1
structure LawOk (P : Params) (k s0 n1 : Nat) : Prop where
  ex : ∃ rd : List RowD, PageOk (sgOf s0 (2 * k + 1)) (prOf k n1) (rd.map fun r => r.2.2.map fun e => (⟨#[e.1, e.2.1]⟩ : Str)) ∧ (∀ r ∈ rd, RowDOk P (sgOf s0 (2 * k + 1)) s0 r) ∧ rd.length = 2 * k + 1 ∧
    (rd.foldl rowStep ((true, []), true)).1.1 = distOk ((prOf k n1).flatMap fun q => [gapT s0 (2 * k + 1) q.1 q.2, gapT s0 (2 * k + 1) q.2 q.1]) ∧
    (rd.foldl rowStep ((true, []), true)).2 = distOk ((prOf k n1).map (sumT s0 (2 * k + 1)) ++ [(2 * figI s0 0).fmod ((2 * k + 1 : Nat) : Int)])
  sg : ∀ j c, (sgOf s0 (2 * k + 1)).cps[j]? = some c → Fig P c (s0 + j)
  size : (sgOf s0 (2 * k + 1)).cps.size = 2 * k + 1
theorem size_or {k : Nat} (hk : k = 2 ∨ k = 3) : 2 * k + 1 = 5 ∨ 2 * k + 1 = 7 := by omega
section
variable {w : World} {p : Program} {loose : List Str} {mean : ExcName → Option Value} {mg mb : Str → Option Value} {dp un : Nat} {gd : Option (List Code)} {cn : Str} {cs : Scope} {a : Addr} {ccd : Value} {cl : List (Str × Addr)} {outer : List Env} {A₀ : Around} {baseH h₀ : Heap} {L : Addr} {m : Str → Option Value} {news : List (Addr × Obj)} {s : Shared} {Q E : Value → Shared → Prop}
set_option maxHeartbeats 2000000
theorem law_body {g : Heap} {L' la : Addr} {oS oF : Obj} {vs : List Value} {xs : List Int} {u : Str → Option Value} {ps1 ps2 : Array Value} {Q : Flow → Shared → Prop}
  (B' : Below (lwTop 800 4000 gd outer) baseH (outer) g) (F' : Fr g L' s.heap (fun y => if y = Str.ofString "script" then some (.ref la) else u y)) (X' : (KF w.params).In g)
  (N' : News g L' s.heap ((L' + 1, oS) :: (L' + 1 + 1, oF) :: (167, PySem.W.X.tableObj ps1) :: (174, PySem.W.X.tableObj ps2) :: [])) (T' : Top p loose mean mg mb g) (hS : oS.data = .cell none) (hF : oF.data = .cell none) (hL : @LT.lt Nat _ 174 L')
  (hla : g.IsList la vs.toArray) (hI : IntsAre vs xs) (hz : vs.length ≤ 900) (htr1 : TriplesOk ps1.toList) (htr2 : TriplesOk ps2.toList) (hgb : AllBare s.gens)
  (hok : ∀ k, szOf (numOf xs 0) = 2 * k + 1 → LawOk w.params k (numOf xs 2 % (21 - (2 * k + 1))) (numOf xs 1))
  (hret : ∀ (h' : Heap) (g' : Array GenState) (tk : Nat) (m' : Str → Option Value) (news' : List (Addr × Obj)) (q1 q2 : Array Value), Fr g L' h' m' → News g L' h' news' → (167, PySem.W.X.tableObj q1) ∈ news' → (174, PySem.W.X.tableObj q2) ∈ news' → AllBare g' → Q (.ret (.bool true)) ⟨h', g', s.drawn, tk, s.os⟩) :
  wpAny (model PySem.Challenge.rw_wc0034_01.row.prog w) ((lwTop 800 4000 gd outer).deeper (lwEnv L')) (execs (fdB (stm 67)) (lwEnv L')) Q Nev s := by
  rw [law_split]
  refine wpAny_execs_cons ?_
  refine law_numbers B' F' X' N' T' hla hI hz ?_
  clear F'
  intro h1 tk1 nl c1 t0 t1 t2 u1 F1 N1 l1
  dsimp only
  refine wpAny_execs_cons ?_
  have d1 : ∀ p ∈ ((L' + 1 + 1, oF) :: (167, PySem.W.X.tableObj ps1) :: (174, PySem.W.X.tableObj ps2) :: [] : List (Addr × Obj)), p.1 ≠ L' + 1 := by
    intro p hp
    simp only [List.mem_cons, List.not_mem_nil, or_false] at hp
    rcases hp with rfl | rfl | rfl
    · exact Nat.ne_of_gt (Nat.lt_succ_self _)
    · exact Nat.ne_of_lt (show @LT.lt Nat _ 167 (L' + 1) by omega)
    · exact Nat.ne_of_lt (show @LT.lt Nat _ 174 (L' + 1) by omega)
  have d2 : nl ≠ L' + 1 := Nat.ne_of_gt (l1 _ (.head _))
  refine law_size (oS := oS) (nl := nl) (n0 := numOf xs 0) (n1 := numOf xs 1) (n2 := numOf xs 2) (t0 := t0) (t1 := t1) (t2 := t2) (c0 := c1) (R := (L' + 1 + 1, oF) :: (167, PySem.W.X.tableObj ps1) :: (174, PySem.W.X.tableObj ps2) :: []) B' F1 X' (news_sub N1 ?_) T' hS d1 d2 ?_
  · walk_at "mine sub"
  clear F1 N1
  intro h2 tk2 oS2 ts F2 N2 hS2
  dsimp only
  obtain ⟨k, hk, hsz⟩ := szOf_eq (numOf xs 0)
  obtain ⟨⟨rd, hpage, hrd, hrl, honce, halone⟩, hsg, hsgz⟩ := hok k hsz
  rw [hsz] at hS2
  refine wpAny_execs_cons ?_
  refine law_signs (sz := 2 * k + 1) B' F2 X' N2 T' hS2 d1 d2 (size_or hk) ?_
  clear F2 N2
  intro h3 tk3 tg F3 N3
  dsimp only
  generalize hs0 : numOf xs 2 % (21 - (2 * k + 1)) = s0 at *
  generalize hgg : sgOf s0 (2 * k + 1) = sg at *
  refine wpAny_execs_cons ?_
  refine law_pairs (k := k) B' F3 X' N3 T' hS2 hk (numOf_lt _ _) ?_
  clear F3 N3
  intro h4 tk4 PA c2 prs u4 F4 N4 l4 l5 epr
  dsimp only
  refine wpAny_execs_cons ?_
  refine law_met (c0 := 0) B' F4 X' N4 T' ?_
  clear F4 N4
  intro h5 tk5 v dv ll k1 nv F5 N5 l6 l7 l8
  dsimp only
  refine wpAny_execs_cons ?_
  refine law_once (c0 := 0) B' F5 X' N5 T' ?_
  clear F5 N5
  intro h6 tk6 F6 N6
  dsimp only
  refine wpAny_execs_cons ?_
  have epr' : prs.map nums = prOf k (numOf xs 1) := epr
  rw [← epr'] at hpage honce halone
  have hPAlt : ∀ p ∈ ((167, PySem.W.X.tableObj ps1) :: (174, PySem.W.X.tableObj ps2) :: (L' + 1, oS2) :: [(L' + 1 + 1, oF)] : List (Addr × Obj)), p.1 < PA := by
    intro p hp
    simp only [List.mem_cons, List.not_mem_nil, or_false] at hp
    rcases hp with rfl | rfl | rfl | rfl
    · exact l4.2 _ (.tail _ (.head _))
    · exact l4.2 _ (.tail _ (.tail _ (.head _)))
    · exact l4.1
    · exact l4.2 _ (.head _)
  have hdv : PA < dv := l6 _ (.head _)
  have hprs : ∀ q ∈ prs, PA < q.1 ∧ q.1 < dv := fun q hq => ⟨l5 q hq, l6 _ (.tail _ (List.mem_append_left _ (List.mem_map_of_mem (f := prEntry) hq)))⟩
  have hP174 : @LT.lt Nat _ 174 PA := hPAlt (174, _) (.tail _ (.head _))
  -- what stands beside the tables
  have big : ∀ p ∈ ((ll, listOf #[] 0) :: (v, instObj 342 dv) :: (dv, dictOf [ent w.params "_headers" k1 (.ref ll)] nv) :: (PA, listOf (prs.map fun q => Value.ref q.1).toArray c2) :: (prs.map prEntry ++ [(L' + 1, oS2), (L' + 1 + 1, oF)]) : List (Addr × Obj)), @LT.lt Nat _ 174 p.1 := by
    intro p hp
    rcases List.mem_cons.mp hp with rfl | hp
    · exact Nat.lt_trans hP174 (Nat.lt_trans hdv (Nat.lt_trans l7 l8))
    rcases List.mem_cons.mp hp with rfl | hp
    · exact Nat.lt_trans hP174 (Nat.lt_trans hdv l7)
    rcases List.mem_cons.mp hp with rfl | hp
    · exact Nat.lt_trans hP174 hdv
    rcases List.mem_cons.mp hp with rfl | hp
    · exact hP174
    rcases List.mem_append.mp hp with hp | hp
    · obtain ⟨q, hq, rfl⟩ := List.mem_map.mp hp
      exact Nat.lt_trans hP174 (hprs q hq).1
    · simp only [List.mem_cons, List.not_mem_nil, or_false] at hp
      rcases hp with rfl | rfl
      · exact (show @LT.lt Nat _ 174 (L' + 1) by omega)
      · exact (show @LT.lt Nat _ 174 (L' + 1 + 1) by omega)
  refine law_page (sg := sg) (prs := prs) (c2 := c2) (ps1 := ps1) (ps2 := ps2) (R := (ll, listOf #[] 0) :: (v, instObj 342 dv) :: (dv, dictOf [ent w.params "_headers" k1 (.ref ll)] nv) :: (PA, listOf (prs.map fun q => Value.ref q.1).toArray c2) :: (prs.map prEntry ++ [(L' + 1, oS2), (L' + 1 + 1, oF)])) B' F6 X' (news_sub N6 ?_) T' (.tail _ (.tail _ (.tail _ (.head _)))) (fun q hq => .tail _ (.tail _ (.tail _ (.tail _ (List.mem_append_left _ (List.mem_map_of_mem (f := prEntry) hq)))))) (fun p hp => Nat.ne_of_gt (show @LT.lt Nat _ 167 p.1 from Nat.lt_trans (by decide) (big p hp))) (fun p hp => Nat.ne_of_gt (big p hp)) htr1 htr2 hgb hpage ?_
  · repeat' (first | exact List.forall_mem_nil _ | refine List.forall_mem_cons.mpr ⟨?_, ?_⟩ | refine List.forall_mem_append.mpr ⟨?_, ?_⟩ | (intro p hp; repeat (first | exact hp | exact List.mem_append_left _ hp | refine List.mem_cons_of_mem _ ?_ | refine List.mem_append_right _ ?_)) | exact List.mem_cons_self | refine List.mem_cons_of_mem _ ?_ | refine List.mem_append_right _ ?_)
  clear F6 N6
  intro h7 g7 tk7 D rws n' q1 q2 F7 N7a er hgb7
  have N7 : News g L' h7 ((D, listOf (rws.map fun r => Value.ref r.1).toArray n') :: rws.map rowO ++ (ll, listOf #[] 0) :: (v, instObj 342 dv) :: (dv, dictOf [ent w.params "_headers" k1 (.ref ll)] nv) :: (PA, listOf (prs.map fun q => Value.ref q.1).toArray c2) :: (prs.map prEntry ++ [(L' + 1, oS2), (L' + 1 + 1, oF), (167, PySem.W.X.tableObj q1), (174, PySem.W.X.tableObj q2)])) := news_sub N7a (by
    repeat' (first | exact List.forall_mem_nil _ | refine List.forall_mem_cons.mpr ⟨?_, ?_⟩ | refine List.forall_mem_append.mpr ⟨?_, ?_⟩ | (intro p hp; repeat (first | exact hp | exact List.mem_append_left _ hp | refine List.mem_cons_of_mem _ ?_ | refine List.mem_append_right _ ?_)) | exact List.mem_cons_self | refine List.mem_cons_of_mem _ ?_ | refine List.mem_append_right _ ?_))
  clear N7a
  have h167P : @LT.lt Nat _ 167 PA := Nat.lt_trans (by decide) hP174
  dsimp only
  have hrwl : rws.length = 2 * k + 1 := by
    have := congrArg List.length er
    rw [List.length_map, List.length_map] at this
    omega
  have hrow0 : ∀ r ∈ rws, ∃ c t q, r.2 = (⟨#[64, c]⟩, t) :: q := by
    intro r hr
    have h1 : r.2.map (·.1) ∈ rws.map (fun r => r.2.map (·.1)) := List.mem_map_of_mem (f := fun r : Row => r.2.map (·.1)) hr
    rw [er] at h1
    obtain ⟨d, hd, hde⟩ := List.mem_map.mp h1
    obtain ⟨rest, hr0⟩ := (hrd d hd).1
    rw [hr0] at hde
    cases hq : r.2 with
    | nil => rw [hq] at hde; simp at hde
    | cons x q =>
      rw [hq] at hde
      simp only [List.map_cons] at hde
      injection hde with h2 h3
      obtain ⟨x1, x2⟩ := x
      exact ⟨d.1, x2, q, by rw [show x1 = _ from h2.symm]⟩
  have inR : ∀ {e}, e ∈ ((ll, listOf #[] 0) :: (v, instObj 342 dv) :: (dv, dictOf [ent w.params "_headers" k1 (.ref ll)] nv) :: (PA, listOf (prs.map fun q => Value.ref q.1).toArray c2) :: (prs.map prEntry ++ [(L' + 1, oS2), (L' + 1 + 1, oF), (167, PySem.W.X.tableObj q1), (174, PySem.W.X.tableObj q2)]) : List (Addr × Obj)) → e ∈ ((D, listOf (rws.map fun r => Value.ref r.1).toArray n') :: rws.map rowO ++ (ll, listOf #[] 0) :: (v, instObj 342 dv) :: (dv, dictOf [ent w.params "_headers" k1 (.ref ll)] nv) :: (PA, listOf (prs.map fun q => Value.ref q.1).toArray c2) :: (prs.map prEntry ++ [(L' + 1, oS2), (L' + 1 + 1, oF), (167, PySem.W.X.tableObj q1), (174, PySem.W.X.tableObj q2)]) : List (Addr × Obj)) := fun h => List.mem_append_right _ h
  refine wpAny_execs_cons ?_
  refine law_guard (rws := rws) (sz := 2 * k + 1) (n' := n') B' F7 X' N7 T' hS2 (inR (.tail _ (.tail _ (.tail _ (.tail _ (List.mem_append_right _ (.head _))))))) (.head _) (fun r hr => .tail _ (List.mem_append_left _ (List.mem_map_of_mem (f := rowO) hr))) (size_or hk) hrwl hrow0 ?_
  clear F7 N7
  intro h8 tk8 F8 N8
  dsimp only
  refine wpAny_execs_cons ?_
  have hsl : sg.length = 2 * k + 1 := hsgz
  have hlS : L' + 1 < PA := l4.1
  have hlF : L' + 1 + 1 < PA := l4.2 _ (.head _)
  have hdll : dv < ll := Nat.lt_trans l7 l8
  have hrow1 : ∀ r ∈ rws, (strValues r.2).toArray.size ≠ 0 := by
    intro r hr
    obtain ⟨c, t, q, h⟩ := hrow0 r hr
    rw [h]; simp [strValues]
  have hD0 : ((rws.map fun r => Value.ref r.1).toArray).size ≠ 0 := by
    rw [List.size_toArray, List.length_map]; omega
  have hb1 : ∀ q ∈ prs, q.2.1.1 < 2 * k + 1 ∧ q.2.2.1 < 2 * k + 1 := by
    intro q hq
    have := hpage.hb _ (List.mem_map_of_mem (f := nums) hq)
    rw [hsgz] at this
    exact this
  have hpz : prs.length ≤ 10 := by
    have := hpage.hpz
    rwa [List.length_map] at this
  refine law_loop (base := (D, listOf (rws.map fun r => Value.ref r.1).toArray n') :: rws.map rowO ++ (v, instObj 342 dv) :: (dv, dictOf [ent w.params "_headers" k1 (.ref ll)] nv) :: (PA, listOf (prs.map fun q => Value.ref q.1).toArray c2) :: (prs.map prEntry ++ [(L' + 1, oS2), (L' + 1 + 1, oF), (167, PySem.W.X.tableObj q1), (174, PySem.W.X.tableObj q2)])) (ll := ll) (rws := rws) (rd := rd) (s0 := s0) B' F8 X' (news_sub N8 ?_) T' ?_ (List.mem_append_right _ (.head _)) (List.mem_append_right _ (.tail _ (.head _))) (.head _) (fun r hr => .tail _ (List.mem_append_left _ (List.mem_map_of_mem (f := rowO) hr))) er hrd (by omega) (by omega) (by omega) hsg ?_
  · repeat' (first | exact List.forall_mem_nil _ | refine List.forall_mem_cons.mpr ⟨?_, ?_⟩ | refine List.forall_mem_append.mpr ⟨?_, ?_⟩ | (intro p hp; repeat (first | exact hp | exact List.mem_append_left _ hp | refine List.mem_cons_of_mem _ ?_ | refine List.mem_append_right _ ?_)) | exact List.mem_cons_self | refine List.mem_cons_of_mem _ ?_ | refine List.mem_append_right _ ?_)
  · intro p hp
    have hllm : (ll, listOf #[] 0) ∈ ((D, listOf (rws.map fun r => Value.ref r.1).toArray n') :: rws.map rowO ++ (ll, listOf #[] 0) :: (v, instObj 342 dv) :: (dv, dictOf [ent w.params "_headers" k1 (.ref ll)] nv) :: (PA, listOf (prs.map fun q => Value.ref q.1).toArray c2) :: (prs.map prEntry ++ [(L' + 1, oS2), (L' + 1 + 1, oF), (167, PySem.W.X.tableObj q1), (174, PySem.W.X.tableObj q2)]) : List (Addr × Obj)) := List.mem_append_right _ (.head _)
    rcases List.mem_append.mp hp with hp | hp
    · rcases List.mem_cons.mp hp with rfl | hp
      · refine news_neO N8 (List.mem_append_left _ (.head _)) hllm fun e => ?_
        injection e with e1 e2
        exact hD0 (by rw [e1]; rfl)
      · have hp' := hp
        obtain ⟨r, hr, rfl⟩ := List.mem_map.mp hp'
        refine news_neO N8 (List.mem_append_left _ (.tail _ hp)) hllm fun e => ?_
        injection e with e1 e2
        exact hrow1 r hr (by rw [e1]; rfl)
    rcases List.mem_cons.mp hp with rfl | hp
    · exact Nat.ne_of_lt l8
    rcases List.mem_cons.mp hp with rfl | hp
    · exact Nat.ne_of_lt hdll
    rcases List.mem_cons.mp hp with rfl | hp
    · exact Nat.ne_of_lt (Nat.lt_trans hdv hdll)
    rcases List.mem_append.mp hp with hp | hp
    · obtain ⟨q, hq, rfl⟩ := List.mem_map.mp hp
      exact Nat.ne_of_lt (Nat.lt_trans (hprs q hq).2 hdll)
    · simp only [List.mem_cons, List.not_mem_nil, or_false] at hp
      rcases hp with rfl | rfl | rfl | rfl
      · exact Nat.ne_of_lt (Nat.lt_trans hlS (Nat.lt_trans hdv hdll))
      · exact Nat.ne_of_lt (Nat.lt_trans hlF (Nat.lt_trans hdv hdll))
      · exact Nat.ne_of_lt (Nat.lt_trans h167P (Nat.lt_trans hdv hdll))
      · exact Nat.ne_of_lt (Nat.lt_trans hP174 (Nat.lt_trans hdv hdll))
  clear F8 N8
  intro h9 tk9 u9 F9 N9
  dsimp only
  refine wpAny_execs_cons ?_
  refine law_figures (sg := sg) (s0 := s0) (oF := oF) (R := (D, listOf (rws.map fun r => Value.ref r.1).toArray n') :: rws.map rowO ++ (v, instObj 342 dv) :: (dv, dictOf [ent w.params "_headers" k1 (.ref ll)] nv) :: (PA, listOf (prs.map fun q => Value.ref q.1).toArray c2) :: (prs.map prEntry ++ [(L' + 1, oS2), (167, PySem.W.X.tableObj q1), (174, PySem.W.X.tableObj q2)])) B' F9 X' (news_sub N9 ?_) T' hF ?_ (by omega) hsg ?_
  · repeat' (first | exact List.forall_mem_nil _ | refine List.forall_mem_cons.mpr ⟨?_, ?_⟩ | refine List.forall_mem_append.mpr ⟨?_, ?_⟩ | (intro p hp; repeat (first | exact hp | exact List.mem_append_left _ hp | refine List.mem_cons_of_mem _ ?_ | refine List.mem_append_right _ ?_)) | exact List.mem_cons_self | refine List.mem_cons_of_mem _ ?_ | refine List.mem_append_right _ ?_)
  · intro p hp
    have hFm : (L' + 1 + 1, oF) ∈ ((D, listOf (rws.map fun r => Value.ref r.1).toArray n') :: rws.map rowO ++ (v, instObj 342 dv) :: (dv, dictOf [ent w.params "_headers" k1 (.ref ll)] nv) :: (PA, listOf (prs.map fun q => Value.ref q.1).toArray c2) :: (prs.map prEntry ++ [(L' + 1, oS2), (L' + 1 + 1, oF), (167, PySem.W.X.tableObj q1), (174, PySem.W.X.tableObj q2)]) : List (Addr × Obj)) := List.mem_append_right _ (.tail _ (.tail _ (.tail _ (List.mem_append_right _ (.tail _ (.head _))))))
    rcases List.mem_append.mp hp with hp | hp
    · rcases List.mem_cons.mp hp with rfl | hp
      · exact news_neO N9 (List.mem_append_left _ (.head _)) hFm (by rw [hF]; exact fun e => by cases e)
      · have hp' := hp
        obtain ⟨r, hr, rfl⟩ := List.mem_map.mp hp'
        exact news_neO N9 (List.mem_append_left _ (.tail _ hp)) hFm (by rw [hF]; exact fun e => by cases e)
    rcases List.mem_cons.mp hp with rfl | hp
    · exact Nat.ne_of_gt (Nat.lt_trans hlF (Nat.lt_trans hdv l7))
    rcases List.mem_cons.mp hp with rfl | hp
    · exact Nat.ne_of_gt (Nat.lt_trans hlF hdv)
    rcases List.mem_cons.mp hp with rfl | hp
    · exact Nat.ne_of_gt hlF
    rcases List.mem_append.mp hp with hp | hp
    · obtain ⟨q, hq, rfl⟩ := List.mem_map.mp hp
      exact Nat.ne_of_gt (Nat.lt_trans hlF (hprs q hq).1)
    · simp only [List.mem_cons, List.not_mem_nil, or_false] at hp
      rcases hp with rfl | rfl | rfl
      · exact Nat.ne_of_lt (Nat.lt_succ_self _)
      · exact Nat.ne_of_lt (show @LT.lt Nat _ 167 (L' + 1 + 1) by omega)
      · exact Nat.ne_of_lt (show @LT.lt Nat _ 174 (L' + 1 + 1) by omega)
  clear F9 N9
  intro h10 tk10 oF2 FL qs F10 N10 hF2 eqs
  dsimp only
  have mS : (L' + 1, oS2) ∈ ((L' + 1 + 1, oF2) :: (FL, listOf (qs.map iv).toArray sg.cps.size) :: ((D, listOf (rws.map fun r => Value.ref r.1).toArray n') :: rws.map rowO ++ (v, instObj 342 dv) :: (dv, dictOf [ent w.params "_headers" k1 (.ref ll)] nv) :: (PA, listOf (prs.map fun q => Value.ref q.1).toArray c2) :: (prs.map prEntry ++ [(L' + 1, oS2), (167, PySem.W.X.tableObj q1), (174, PySem.W.X.tableObj q2)])) : List (Addr × Obj)) := .tail _ (.tail _ (List.mem_append_right _ (.tail _ (.tail _ (.tail _ (List.mem_append_right _ (.head _)))))))
  have mPA : (PA, listOf (prs.map fun q => Value.ref q.1).toArray c2) ∈ ((L' + 1 + 1, oF2) :: (FL, listOf (qs.map iv).toArray sg.cps.size) :: ((D, listOf (rws.map fun r => Value.ref r.1).toArray n') :: rws.map rowO ++ (v, instObj 342 dv) :: (dv, dictOf [ent w.params "_headers" k1 (.ref ll)] nv) :: (PA, listOf (prs.map fun q => Value.ref q.1).toArray c2) :: (prs.map prEntry ++ [(L' + 1, oS2), (167, PySem.W.X.tableObj q1), (174, PySem.W.X.tableObj q2)])) : List (Addr × Obj)) := .tail _ (.tail _ (List.mem_append_right _ (.tail _ (.tail _ (.head _)))))
  have mpr : ∀ q ∈ prs, (q.1, PairO q) ∈ ((L' + 1 + 1, oF2) :: (FL, listOf (qs.map iv).toArray sg.cps.size) :: ((D, listOf (rws.map fun r => Value.ref r.1).toArray n') :: rws.map rowO ++ (v, instObj 342 dv) :: (dv, dictOf [ent w.params "_headers" k1 (.ref ll)] nv) :: (PA, listOf (prs.map fun q => Value.ref q.1).toArray c2) :: (prs.map prEntry ++ [(L' + 1, oS2), (167, PySem.W.X.tableObj q1), (174, PySem.W.X.tableObj q2)])) : List (Addr × Obj)) := fun q hq => .tail _ (.tail _ (List.mem_append_right _ (.tail _ (.tail _ (.tail _ (List.mem_append_left _ (List.mem_map_of_mem (f := prEntry) hq)))))))
  rw [hsgz] at eqs
  refine wpAny_execs_cons ?_
  refine law_gaps (sz := 2 * k + 1) (s0 := s0) (prs := prs) (qs := qs) B' F10 X' N10 T' mS hS2 (.head _) hF2 (.tail _ (.head _)) eqs mPA mpr hb1 (by omega) (by omega) (by omega) ?_
  clear F10
  intro h11 tk11 GL gs cg F11 N11 l11 eg
  dsimp only
  refine wpAny_execs_cons ?_
  refine law_sums (sz := 2 * k + 1) (s0 := s0) (prs := prs) (qs := qs) B' (Fr.n2 F11 (Str.ofString "pairs") (Str.ofString "gaps") rfl rfl) X' N11 T' (.tail _ mS) hS2 (.tail _ (.head _)) hF2 (.tail _ (.tail _ (.head _))) eqs (.tail _ mPA) (fun q hq => .tail _ (mpr q hq)) hb1 (by omega) (by omega) (by omega) ?_
  clear F11
  intro h12 tk12 SL ss cs' F12 N12 l12 es
  dsimp only
  have hgl : gs.length ≤ 1000 := by
    have := congrArg List.length eg
    rw [List.length_map] at this
    rw [this, flat2_len, List.length_map]
    omega
  have hsl2 : ss.length ≤ 1000 := by
    have := congrArg List.length es
    rw [List.length_map] at this
    rw [this]
    simp
    omega
  refine wpAny_execs_cons ?_
  refine law_return (gs := gs) (ss := ss) B' (Fr.n4 F12 (Str.ofString "sums") (Str.ofString "gaps") (Str.ofString "once") (Str.ofString "alone") rfl rfl rfl rfl) X' N12 T' (.tail _ (.head _)) (.head _) hgl hsl2 (honce.trans (by rw [eg])) (halone.trans (by rw [es])) ?_
  intro h13 tk13 F13 N13
  refine hret h13 g7 tk13 _ _ q1 q2 F13 N13 ?_ ?_ hgb7 <;>
  · simp only [List.mem_cons, List.mem_append, List.cons_append, List.not_mem_nil, or_false, true_or, or_true]
end
end
section
open Builtin Builtin.Str
/-- a sign that can be seen -/
noncomputable def Seen (s : Str) : Prop := s.length = 2 ∧ ∀ c ∈ s.cps.toList, 33 ≤ c ∧ c ≤ 126
theorem join_nil_list : ∀ ss : List Str, (Txt.join (Str.ofString "") ss).cps.toList = ss.flatMap fun s => s.cps.toList := by
  intro ss
  show (glued (Str.ofString "") ss).cps.toList = _
  rw [StrLaws.glued_eq_join]
  induction ss with
  | nil => rfl
  | cons a r ih =>
    cases r with
    | nil => simp [Str.join]
    | cons b r =>
      show (a ++ Str.ofString "" ++ Str.join (Str.ofString "") (b :: r)).cps.toList = _
      rw [Str.cps_append, Str.cps_append, Array.toList_append, Array.toList_append, ih, show (Str.ofString "").cps.toList = [] from by decide, List.append_nil]
      simp only [List.flatMap_cons]
theorem rowText_list (ss : List Str) : (rowText ss).cps.toList = ss.flatMap fun s => 32 :: s.cps.toList := by
  unfold rowText
  rw [join_nil_list, List.flatMap_map]
  congr 1
  funext s
  rw [join_nil_list]
  simp [show (Str.ofString " ").cps.toList = [32] from by decide]
theorem width_of {ss : List Str} (h : ∀ s ∈ ss, s.length = 2) : width ss = 3 * ss.length := by
  unfold width
  induction ss with
  | nil => rfl
  | cons a r ih =>
    rw [List.map_cons, List.sum_cons, ih fun s hs => h s (.tail _ hs), h a (.head _), List.length_cons]
    omega
theorem lays_fit (M : Nat) : ∀ (items cur : List Str) (ls : List Str), (∀ s ∈ cur ++ items, s.length = 2) → 3 * (cur.length + items.length) ≤ M → items.foldl (lay M) (cur, ls) = (cur ++ items, ls)
  | [], cur, ls, _, _ => by rw [List.append_nil]; rfl
  | a :: r, cur, ls, h, hM => by
    rw [List.foldl_cons]
    have hw : width cur = 3 * cur.length := width_of fun s hs => h s (List.mem_append_left _ hs)
    have ha : a.length = 2 := h a (List.mem_append_right _ (.head _))
    rw [List.length_cons] at hM
    have e : lay M (cur, ls) a = (cur ++ [a], ls) := by
      unfold lay
      rw [if_pos]
      show width cur + 1 + a.length ≤ M
      omega
    rw [e, lays_fit M r (cur ++ [a]) ls (by rw [List.append_assoc]; exact h) (by rw [List.length_append, List.length_singleton]; omega), List.append_assoc]
    rfl
theorem rot_get {l : List Str} {j : Nat} (h : j < l.length) : (rot l).getD j ⟨#[]⟩ = l.getD ((j + 1) % l.length) ⟨#[]⟩ := by
  cases l with
  | nil => simp at h
  | cons a r =>
    show (r ++ [a]).getD j ⟨#[]⟩ = _
    rw [List.length_cons] at h ⊢
    rw [List.getD_eq_getElem?_getD, List.getD_eq_getElem?_getD]
    by_cases hj : j < r.length
    · rw [Nat.mod_eq_of_lt (by omega), List.getElem?_append_left hj, List.getElem?_cons_succ]
    · obtain rfl : j = r.length := by omega
      rw [Nat.mod_self, List.getElem?_append_right (Nat.le_refl _), Nat.sub_self]
      rfl
section
variable {sg : Str} {ps : List (Nat × Nat)} {sz : Nat}
/-- the sign at a place of the ring -/
noncomputable def chr (sg : Str) (x : Nat) : Nat := sg.cps.getD (x % sg.cps.size) 0
theorem ring_at (M : Nat) (st : List Str × List Str) (hsz : 0 < sg.cps.size) : ∀ (i j : Nat), j < sg.cps.size → (rnd M ps (signsOf sg) st i).1.getD j ⟨#[]⟩ = ⟨#[chr sg (i + j)]⟩
  | 0, j, hj => by
    show (signsOf sg).getD j ⟨#[]⟩ = _
    unfold signsOf chr
    rw [Nat.zero_add, Nat.mod_eq_of_lt hj, List.getD_eq_getElem?_getD, List.getElem?_map, Array.getElem?_toList, Array.getD_eq_getD_getElem?]
    rw [Array.getElem?_eq_getElem hj]
    rfl
  | i + 1, j, hj => by
    have hl : (rnd M ps (signsOf sg) st i).1.length = sg.cps.size := by rw [rnd_len]; simp [signsOf]
    show (rot (rnd M ps (signsOf sg) st i).1).getD j ⟨#[]⟩ = _
    rw [rot_get (by omega), hl, ring_at M st hsz i _ (Nat.mod_lt _ hsz)]
    unfold chr
    congr 3
    rw [Nat.add_mod_mod, show i + (j + 1) = i + 1 + j from by omega]
/-- the texts of the page's row i -/
noncomputable def rowI (sg : Str) (ps : List (Nat × Nat)) (i : Nat) : List Str := ⟨#[64, chr sg i]⟩ :: ps.map fun q => ⟨#[chr sg (i + q.1), chr sg (i + q.2)]⟩
theorem rowI_len (sg : Str) (ps : List (Nat × Nat)) (i : Nat) : (rowI sg ps i).length = 1 + ps.length := by simp [rowI]; omega
theorem rowI_two (sg : Str) (ps : List (Nat × Nat)) (i : Nat) : ∀ s ∈ rowI sg ps i, s.length = 2 := by
  intro s hs
  rcases List.mem_cons.mp hs with rfl | hs
  · rfl
  · obtain ⟨q, _, rfl⟩ := List.mem_map.mp hs
    rfl
theorem rowLay_at (st0 : List Str × List Str) (hsz : 0 < sg.cps.size) (hb : ∀ q ∈ ps, q.1 < sg.cps.size ∧ q.2 < sg.cps.size) (i : Nat) (cur ls : List Str) (hc : cur = [] ∨ width cur = 3 + 3 * ps.length) :
    rowLay (3 + 3 * ps.length) (rnd (3 + 3 * ps.length) ps (signsOf sg) st0 i).1 ps (cur, ls) = (rowI sg ps i, if cur = [] then ls else ls ++ [rowText cur]) := by
  have e0 : Str.ofString "@" ++ (rnd (3 + 3 * ps.length) ps (signsOf sg) st0 i).1.getD 0 ⟨#[]⟩ = ⟨#[64, chr sg i]⟩ := by
    rw [ring_at _ _ hsz i 0 hsz]
    rfl
  have e1 : ps.map (pairStr (rnd (3 + 3 * ps.length) ps (signsOf sg) st0 i).1) = ps.map fun q => (⟨#[chr sg (i + q.1), chr sg (i + q.2)]⟩ : Str) := by
    apply List.map_congr_left
    intro q hq
    unfold pairStr
    rw [ring_at _ _ hsz i _ (hb q hq).1, ring_at _ _ hsz i _ (hb q hq).2]
    rfl
  unfold rowLay pairsLay
  rw [e0, show (fun st p => lay (3 + 3 * ps.length) st (pairStr (rnd (3 + 3 * ps.length) ps (signsOf sg) st0 i).1 p)) = fun st p => (lay (3 + 3 * ps.length)) st ((pairStr (rnd (3 + 3 * ps.length) ps (signsOf sg) st0 i).1) p) from rfl, ← List.foldl_map, e1]
  have hl : lay (3 + 3 * ps.length) (cur, ls) ⟨#[64, chr sg i]⟩ = ([⟨#[64, chr sg i]⟩], if cur = [] then ls else ls ++ [rowText cur]) := by
    unfold lay
    show (if width cur + 1 + 2 ≤ _ then _ else _) = _
    rcases hc with rfl | hc
    · rw [if_pos (by show 0 + 1 + 2 ≤ _; omega), if_pos rfl]; rfl
    · rw [if_neg (by omega), if_neg]
      rintro rfl
      have : width [] = 0 := rfl
      omega
  rw [hl, lays_fit _ _ _ _ ?_ ?_]
  · rfl
  · exact rowI_two sg ps i
  · simp; omega
theorem rounds (hsz : 0 < sg.cps.size) (hb : ∀ q ∈ ps, q.1 < sg.cps.size ∧ q.2 < sg.cps.size) : ∀ i, (rnd (3 + 3 * ps.length) ps (signsOf sg) ([], []) (i + 1)).2 = (rowI sg ps i, (List.range i).map fun j => rowText (rowI sg ps j))
  | 0 => rowLay_at ([], []) hsz hb 0 [] [] (.inl rfl)
  | i + 1 => by
    show rowLay _ (rnd (3 + 3 * ps.length) ps (signsOf sg) ([], []) (i + 1)).1 ps (rnd (3 + 3 * ps.length) ps (signsOf sg) ([], []) (i + 1)).2 = _
    rw [rounds hsz hb i, rowLay_at ([], []) hsz hb (i + 1) _ _ (.inr (by rw [width_of (rowI_two sg ps i), rowI_len]; omega)), if_neg (by simp [rowI]), List.range_succ, List.map_append]
    rfl
theorem pageEnd_eq (hsz : 0 < sg.cps.size) (hb : ∀ q ∈ ps, q.1 < sg.cps.size ∧ q.2 < sg.cps.size) : pageEnd sg ps = (rowI sg ps (sg.cps.size - 1), (List.range (sg.cps.size - 1)).map fun j => rowText (rowI sg ps j)) := by
  have := rounds hsz hb (sg.cps.size - 1)
  rw [show sg.cps.size - 1 + 1 = sg.cps.size from by omega] at this
  exact this
theorem pageText_eq (hsz : 0 < sg.cps.size) (hb : ∀ q ∈ ps, q.1 < sg.cps.size ∧ q.2 < sg.cps.size) : pageText sg ps = Txt.join (Str.ofString "\n") ((List.range sg.cps.size).map fun j => rowText (rowI sg ps j)) := by
  unfold pageText
  rw [pageEnd_eq hsz hb]
  congr 1
  have e : sg.cps.size = (sg.cps.size - 1) + 1 := by omega
  conv => rhs; rw [e, List.range_succ, List.map_append]
  rfl
end
end
section
open Builtin Builtin.Str
theorem app_one {c : Nat} : ∀ {x y r r' : List Nat}, c ∉ x → c ∉ y → x ++ c :: r = y ++ c :: r' → x = y ∧ r = r'
  | [], [], _, _, _, _, h => ⟨rfl, (List.cons.inj h).2⟩
  | [], b :: y, _, _, _, hy, h => absurd (by rw [show b = c from (List.cons.inj h).1.symm]; exact .head _) hy
  | a :: x, [], _, _, hx, _, h => absurd (by rw [show a = c from (List.cons.inj h).1]; exact .head _) hx
  | a :: x, b :: y, _, _, hx, hy, h => by
    obtain ⟨h1, h2⟩ := List.cons.inj h
    obtain ⟨e1, e2⟩ := app_one (fun m => hx (.tail _ m)) (fun m => hy (.tail _ m)) h2
    exact ⟨by rw [h1, e1], e2⟩
theorem join_inj {c : Nat} : ∀ {l1 l2 : List Str}, l1 ≠ [] → l2 ≠ [] → (∀ p ∈ l1, c ∉ p.cps.toList) → (∀ p ∈ l2, c ∉ p.cps.toList) → (Str.join ⟨#[c]⟩ l1).cps.toList = (Str.join ⟨#[c]⟩ l2).cps.toList → l1 = l2
  | [], _, h, _, _, _, _ => absurd rfl h
  | _, [], _, h, _, _, _ => absurd rfl h
  | [a], [b], _, _, _, _, h => by
    have e : a = b := Str.ext' (Array.toList_inj.mp h)
    rw [e]
  | [a], b :: b2 :: r, _, _, h1, _, h => by
    have e : (Str.join ⟨#[c]⟩ (b :: b2 :: r)).cps.toList = b.cps.toList ++ c :: (Str.join ⟨#[c]⟩ (b2 :: r)).cps.toList := by
      show (b ++ ⟨#[c]⟩ ++ Str.join ⟨#[c]⟩ (b2 :: r)).cps.toList = _
      rw [Str.cps_append, Str.cps_append, Array.toList_append, Array.toList_append]
      simp
    rw [e] at h
    exact absurd (show c ∈ a.cps.toList by rw [show a.cps.toList = _ from h]; simp) (h1 a (.head _))
  | a :: a2 :: r, [b], _, _, _, h2, h => by
    have e : (Str.join ⟨#[c]⟩ (a :: a2 :: r)).cps.toList = a.cps.toList ++ c :: (Str.join ⟨#[c]⟩ (a2 :: r)).cps.toList := by
      show (a ++ ⟨#[c]⟩ ++ Str.join ⟨#[c]⟩ (a2 :: r)).cps.toList = _
      rw [Str.cps_append, Str.cps_append, Array.toList_append, Array.toList_append]
      simp
    rw [e] at h
    exact absurd (show c ∈ b.cps.toList by rw [show b.cps.toList = _ from h.symm]; simp) (h2 b (.head _))
  | a :: a2 :: r, b :: b2 :: r2, _, _, h1, h2, h => by
    have e : ∀ (a a2 : Str) (r : List Str), (Str.join ⟨#[c]⟩ (a :: a2 :: r)).cps.toList = a.cps.toList ++ c :: (Str.join ⟨#[c]⟩ (a2 :: r)).cps.toList := by
      intro a a2 r
      show (a ++ ⟨#[c]⟩ ++ Str.join ⟨#[c]⟩ (a2 :: r)).cps.toList = _
      rw [Str.cps_append, Str.cps_append, Array.toList_append, Array.toList_append]
      simp
    rw [e, e] at h
    obtain ⟨e1, e2⟩ := app_one (h1 a (.head _)) (h2 b (.head _)) h
    rw [Str.ext' (Array.toList_inj.mp e1), join_inj (by simp) (by simp) (fun p hp => h1 p (.tail _ hp)) (fun p hp => h2 p (.tail _ hp)) e2]
theorem split_ne (x y : Str) : Txt.split x y ≠ [] := by
  unfold Txt.split
  split
  · simp
  · split
    · simp
    · intro h
      have := congrArg List.length h
      rw [length_partsBetween] at this
      simp at this
theorem split_join {RT : List Str} (hne : RT ≠ []) (hf : ∀ r ∈ RT, 10 ∉ r.cps.toList) : Txt.split (Txt.join (Str.ofString "\n") RT) (Str.ofString "\n") = RT := by
  have e : Str.ofString "\n" = ⟨#[10]⟩ := by decide
  rw [e]
  refine join_inj (split_ne _ _) hne (StrLaws.split_free _ 10) hf ?_
  rw [StrLaws.join_split]
  show (glued _ RT).cps.toList = _
  rw [StrLaws.glued_eq_join]
theorem sp32 : Unicode.isSpace 32 = true := by decide +kernel
theorem words_go : ∀ (ss ws : List Str) (run : Str), run.length ≠ 0 → (∀ s ∈ ss, Seen s) → KWd.fin ((ss.flatMap fun s => 32 :: s.cps.toList).foldl KWd.step (ws, run)) = ws ++ run :: ss
  | [], ws, run, hr, _ => by
    show KWd.fin (ws, run) = _
    unfold KWd.fin
    rw [if_neg hr]
  | s :: ss, ws, run, hr, h => by
    have hs := h s (.head _)
    rw [List.flatMap_cons, List.foldl_append, List.foldl_cons]
    have e1 : KWd.step (ws, run) 32 = (ws ++ [run], Str.empty) := by
      unfold KWd.step
      rw [if_pos sp32, if_neg hr]
    have hp : s.cps.toList.all (fun c => !Unicode.isSpace c) = true := by
      rw [List.all_eq_true]
      intro c hc
      rw [Bool.not_eq_true']
      exact KWk.nosp (hs.2 c hc).1 (hs.2 c hc).2
    rw [e1, KWk.fold_plain _ _ hp]
    have e2 : Str.empty ++ (⟨s.cps.toList.toArray⟩ : Str) = s := by
      rw [Str.empty_append, Array.toArray_toList]
    rw [e2, words_go ss _ s (by rw [hs.1]; decide) fun t ht => h t (.tail _ ht), List.append_assoc]
    rfl
theorem words_row {ss : List Str} (hne : ss ≠ []) (h : ∀ s ∈ ss, Seen s) : Txt.words (rowText ss) = ss := by
  rw [KWd.words_scan]
  unfold KWd.scan
  rw [rowText_list]
  cases ss with
  | nil => exact absurd rfl hne
  | cons s ss =>
    have hs := h s (.head _)
    have hp : s.cps.toList.all (fun c => !Unicode.isSpace c) = true := by
      rw [List.all_eq_true]
      intro c hc
      rw [Bool.not_eq_true']
      exact KWk.nosp (hs.2 c hc).1 (hs.2 c hc).2
    rw [List.flatMap_cons, List.foldl_append, List.foldl_cons]
    have e1 : KWd.step ([], Str.empty) 32 = ([], Str.empty) := by
      unfold KWd.step
      rw [if_pos sp32]
      rfl
    rw [e1, KWk.fold_plain _ _ hp]
    have e2 : Str.empty ++ (⟨s.cps.toList.toArray⟩ : Str) = s := by
      rw [Str.empty_append, Array.toArray_toList]
    rw [e2, words_go ss _ s (by rw [hs.1]; decide) fun t ht => h t (.tail _ ht)]
    rfl
end
section
open Builtin Builtin.Str
section
variable {sg : Str} {ps : List (Nat × Nat)}
theorem chr_at (sg : Str) (hsz : 0 < sg.cps.size) (x : Nat) : sg.cps[x % sg.cps.size]? = some (chr sg x) := by
  unfold chr
  rw [Array.getD_eq_getD_getElem?, Array.getElem?_eq_getElem (Nat.mod_lt _ hsz)]
  rfl
theorem chr_mem (sg : Str) (hsz : 0 < sg.cps.size) (x : Nat) : chr sg x ∈ sg.cps.toList := by
  have h := chr_at sg hsz x
  rw [← Array.getElem?_toList] at h
  exact List.mem_of_getElem? h
theorem rowI_seen (hsz : 0 < sg.cps.size) (hc : ∀ c ∈ sg.cps.toList, 33 ≤ c ∧ c ≤ 126) (i : Nat) : ∀ s ∈ rowI sg ps i, Seen s := by
  intro s hs
  rcases List.mem_cons.mp hs with rfl | hs
  · refine ⟨rfl, fun c hc' => ?_⟩
    simp only [List.mem_cons, List.not_mem_nil, or_false] at hc'
    rcases hc' with rfl | rfl
    · decide
    · exact hc _ (chr_mem sg hsz _)
  · obtain ⟨q, _, rfl⟩ := List.mem_map.mp hs
    refine ⟨rfl, fun c hc' => ?_⟩
    simp only [List.mem_cons, List.not_mem_nil, or_false] at hc'
    rcases hc' with rfl | rfl <;> exact hc _ (chr_mem sg hsz _)
theorem rowText_len (ss : List Str) (h : ∀ s ∈ ss, s.length = 2) : (rowText ss).length = 3 * ss.length := by
  have e : (rowText ss).length = (rowText ss).cps.toList.length := by simp [Str.length]
  rw [e, rowText_list]
  induction ss with
  | nil => rfl
  | cons a r ih =>
    rw [List.flatMap_cons, List.length_append, ih (fun s hs => h s (.tail _ hs)) (by simp [Str.length])]
    have := h a (.head _)
    simp [Str.length] at this ⊢
    omega
theorem sw_le (x : Str) : (spaceWords x (x.length + 1)).length ≤ x.length + 1 := by
  have h := (StrLaws.sw_weight x).1
  have : ∀ l : List (Nat × Nat), l.length ≤ StrLaws.wsum l := by
    intro l
    induction l with
    | nil => exact Nat.le_refl _
    | cons a r ih => show r.length + 1 ≤ (a.2 - a.1 + 1) + StrLaws.wsum r; omega
  exact Nat.le_trans (this _) h
theorem sum_const {α : Type} (f : α → Nat) (n : Nat) : ∀ l : List α, (∀ a ∈ l, f a = n) → (l.map f).sum = n * l.length
  | [], _ => rfl
  | a :: r, h => by
    rw [List.map_cons, List.sum_cons, sum_const f n r (fun b hb => h b (.tail _ hb)), h a (.head _), List.length_cons, Nat.mul_succ]
    omega
theorem page_ok (hsz : 0 < sg.cps.size) (hs20 : sg.cps.size ≤ 20) (hp : ps.length ≤ 10) (hb : ∀ q ∈ ps, q.1 < sg.cps.size ∧ q.2 < sg.cps.size) (hc : ∀ c ∈ sg.cps.toList, 33 ≤ c ∧ c ≤ 126) : PageOk sg ps ((List.range sg.cps.size).map (rowI sg ps)) := by
  have eE := pageEnd_eq hsz hb
  have eT := pageText_eq hsz hb
  have hne : ((List.range sg.cps.size).map fun j => rowText (rowI sg ps j)) ≠ [] := by
    intro h
    have := congrArg List.length h
    simp at this
    rw [this] at hsz
    exact absurd hsz (Nat.lt_irrefl _)
  have hl : ∀ j, (rowText (rowI sg ps j)).length = 3 * (1 + ps.length) := fun j => by rw [rowText_len _ (rowI_two sg ps j), rowI_len]
  have hfree : ∀ r ∈ ((List.range sg.cps.size).map fun j => rowText (rowI sg ps j)), 10 ∉ r.cps.toList := by
    intro r hr h10
    obtain ⟨j, _, rfl⟩ := List.mem_map.mp hr
    rw [rowText_list] at h10
    obtain ⟨s, hs, h⟩ := List.mem_flatMap.mp h10
    rcases List.mem_cons.mp h with h | h
    · exact absurd h (by decide)
    · have := ((rowI_seen hsz hc j s hs).2 10 h).1
      exact absurd this (by decide)
  have eS : Txt.split (pageText sg ps) (Str.ofString "\n") = (List.range sg.cps.size).map fun j => rowText (rowI sg ps j) := by
    rw [eT, split_join hne hfree]
  have eL : pageEnd sg ps = pageEnd sg ps := rfl
  have eRT : (pageEnd sg ps).2 ++ [rowText (pageEnd sg ps).1] = (List.range sg.cps.size).map fun j => rowText (rowI sg ps j) := by
    rw [eE]
    have e : sg.cps.size = (sg.cps.size - 1) + 1 := by omega
    conv => rhs; rw [e, List.range_succ, List.map_append]
    rfl
  have n1 : (Str.ofString "\n").length = 1 := by decide
  have hsum : (((List.range sg.cps.size).map fun j => rowText (rowI sg ps j)).map (·.length)).sum = 3 * (1 + ps.length) * sg.cps.size := by
    rw [sum_const _ (3 * (1 + ps.length)), List.length_map, List.length_range]
    intro r hr
    obtain ⟨j, _, rfl⟩ := List.mem_map.mp hr
    exact hl j
  have hbig : 3 * (1 + ps.length) * sg.cps.size ≤ 33 * 20 := Nat.mul_le_mul (by omega) hs20
  have hT : (pageText sg ps).length ≤ 33 * 20 + 20 := by
    rw [eT]
    show (glued _ _).length ≤ _
    rw [StrLaws.glued_eq_join]
    refine Nat.le_trans (StrLaws.join_length_le _ _) ?_
    rw [hsum, n1, List.length_map, List.length_range]
    omega
  refine ⟨hb, hsz, hs20, hp, ?_, ?_, ?_, ?_, ?_, ?_, ?_, ?_⟩
  · rw [eE]
    have hn : rowI sg ps (sg.cps.size - 1) ≠ [] := by simp [rowI]
    have hg := rowI_seen hsz hc (sg.cps.size - 1) _ (List.getLast_mem hn)
    refine ⟨(rowI sg ps (sg.cps.size - 1)).dropLast, (rowI sg ps (sg.cps.size - 1)).getLast hn, (List.dropLast_concat_getLast hn).symm, ?_, ?_⟩
    · intro e
      have h1 := hg.1
      rw [e] at h1
      exact absurd h1 (by decide)
    · unfold PyData.strOk
      rw [Array.all_eq_true']
      intro c hc'
      have := (hg.2 c (by simpa using hc')).2
      simp
      omega
  · rw [eE]
    unfold Txt.isspace
    rw [Bool.and_eq_false_iff]
    right
    rw [Array.all_eq_false']
    refine ⟨64, ?_, ?_⟩
    · have : 64 ∈ (rowText (rowI sg ps (sg.cps.size - 1))).cps.toList := by
        rw [rowText_list]
        exact List.mem_flatMap.mpr ⟨_, .head _, .tail _ (.head _)⟩
      simpa using this
    · rw [KWk.nosp (c := 64) (by decide) (by decide)]
      decide
  · rw [eRT, hsum, n1, List.length_map, List.length_range]
    omega
  · rw [sizeLine_eq]; omega
  · rw [length_partsBetween, sizeLine_eq]
    have := StrLaws.occ_length_le (pageText sg ps) (Str.ofString "\n") 0 (pageText sg ps).length ((pageText sg ps).length + 1)
    omega
  · rw [eS]
    intro r hr
    obtain ⟨j, _, rfl⟩ := List.mem_map.mp hr
    have h1 := hl j
    have h2 := sw_le (rowText (rowI sg ps j))
    rw [sizeLine_eq]
    constructor
    · omega
    · omega
  · rw [eS, List.length_map, List.length_range, sizeLine_eq]; omega
  · rw [eS, List.map_map]
    apply List.map_congr_left
    intro j _
    exact words_row (by simp [rowI]) (rowI_seen hsz hc j)
end
end
/-- a text of two signs, as a number -/
noncomputable def encP (n : Nat) : Str := ⟨#[n / 256, n % 256]⟩
theorem encP_inj {a b : Nat} (h : encP a = encP b) : a = b := by
  have h1 : [a / 256, a % 256] = [b / 256, b % 256] := congrArg (fun s : Str => s.cps.toList) h
  injection h1 with h2 h3
  injection h3 with h4 _
  omega
theorem encP_beq (a b : Nat) : (encP a == encP b) = (a == b) := by
  rw [Bool.eq_iff_iff, beq_iff_eq, beq_iff_eq]
  exact ⟨encP_inj, fun h => by rw [h]⟩
noncomputable def encQ (p : Nat × Nat) : Str × Str := (encP p.1, encP p.2)
noncomputable def lkN (t : List (Nat × Nat)) (x : Nat) : Option Nat := (t.find? (fun q => q.1 == x)).map (·.2)
noncomputable def anddN (b : Bool) (t : List (Nat × Nat)) (x y : Nat) : Bool × List (Nat × Nat) := match b, lkN t x with
  | false, _ => (false, t)
  | true, some z => (z == y, t)
  | true, none => (true, t ++ [(x, y)])
theorem lk_enc (t : List (Nat × Nat)) (x : Nat) : lk (t.map encQ) (encP x) = (lkN t x).map encP := by
  unfold lk lkN
  induction t with
  | nil => rfl
  | cons q r ih =>
    rw [List.map_cons, List.find?_cons, List.find?_cons]
    have e : ((encQ q).1 == encP x) = (q.1 == x) := encP_beq _ _
    rw [e]
    cases q.1 == x with
    | true => rfl
    | false => exact ih
theorem andd_enc (b : Bool) (t : List (Nat × Nat)) (x y : Nat) : andd b (t.map encQ) (encP x) (encP y) = ((anddN b t x y).1, (anddN b t x y).2.map encQ) := by
  unfold andd anddN
  rw [lk_enc]
  cases b with
  | false => rfl
  | true =>
    cases lkN t x with
    | none => simp [encQ]
    | some z => simp [encP_beq]
noncomputable def prN (e : Nat × Nat × Nat) : Nat := min e.1 e.2.1 * 256 + max e.1 e.2.1
noncomputable def ceN (c3 : Nat) (e : Nat × Nat × Nat) : Nat := c3 * 256 + e.2.2
noncomputable def Small (e : Nat × Nat × Nat) : Prop := e.1 < 256 ∧ e.2.1 < 256 ∧ e.2.2 < 256
theorem prT_enc {e : Nat × Nat × Nat} (h : Small e) : prT e = encP (prN e) := by
  unfold prT encP prN
  have h1 : max e.1 e.2.1 < 256 := Nat.max_lt.mpr ⟨h.1, h.2.1⟩
  rw [show (min e.1 e.2.1 * 256 + max e.1 e.2.1) / 256 = min e.1 e.2.1 from by omega, show (min e.1 e.2.1 * 256 + max e.1 e.2.1) % 256 = max e.1 e.2.1 from by omega]
theorem ceT_enc {c3 : Nat} {e : Nat × Nat × Nat} (h : Small e) : ceT c3 e = encP (ceN c3 e) := by
  unfold ceT encP ceN
  have h1 := h.2.2
  rw [show (c3 * 256 + e.2.2) / 256 = c3 from by omega, show (c3 * 256 + e.2.2) % 256 = e.2.2 from by omega]
noncomputable abbrev StN := (Bool × List (Nat × Nat)) × (Bool × List (Nat × Nat))
noncomputable def stepN (c3 : Nat) (st : StN) (e : Nat × Nat × Nat) : StN := (anddN st.1.1 st.1.2 (prN e) (ceN c3 e), anddN st.2.1 st.2.2 (ceN c3 e) (prN e))
noncomputable def mapSt (st : StN) : St := ((st.1.1, st.1.2.map encQ), (st.2.1, st.2.2.map encQ))
theorem step_enc {c3 : Nat} {st : StN} {e : Nat × Nat × Nat} (h : Small e) : stepT c3 (mapSt st) e = mapSt (stepN c3 st e) := by
  unfold stepT stepN mapSt
  rw [prT_enc h, ceT_enc h, andd_enc, andd_enc]
theorem fold_enc {c3 : Nat} : ∀ (its : List (Nat × Nat × Nat)) (st : StN), (∀ e ∈ its, Small e) → its.foldl (stepT c3) (mapSt st) = mapSt (its.foldl (stepN c3) st)
  | [], _, _ => rfl
  | e :: r, st, h => by
    rw [List.foldl_cons, List.foldl_cons, step_enc (h e (.head _)), fold_enc r _ fun x hx => h x (.tail _ hx)]
noncomputable abbrev SRN := (Bool × List (Nat × Nat)) × Bool
noncomputable def rowStepN (st : SRN) (r : RowD) : SRN := ((r.2.2.foldl (stepN r.1) (st.1, (st.2, []))).1, (r.2.2.foldl (stepN r.1) (st.1, (st.2, []))).2.1)
noncomputable def mapSR (st : SRN) : SR := ((st.1.1, st.1.2.map encQ), st.2)
theorem rows_enc : ∀ (rd : List RowD) (st : SRN), (∀ r ∈ rd, ∀ e ∈ r.2.2, Small e) → rd.foldl rowStep (mapSR st) = mapSR (rd.foldl rowStepN st)
  | [], _, _ => rfl
  | r :: rd, st, h => by
    rw [List.foldl_cons, List.foldl_cons, ← rows_enc rd _ fun x hx => h x (.tail _ hx)]
    congr 1
    unfold rowStep rowStepN mapSR
    have e := fold_enc (c3 := r.1) r.2.2 (st.1, (st.2, [])) (h r (.head _))
    have e2 : mapSt (st.1, (st.2, [])) = ((st.1.1, st.1.2.map encQ), (st.2, [])) := rfl
    rw [e2] at e
    rw [e]
    rfl
noncomputable def chN (s0 sz x : Nat) : Nat := signNums.getD (s0 + x % sz) 0
noncomputable def itN (s0 sz i : Nat) (q : Nat × Nat) : Nat × Nat × Nat := (chN s0 sz (i + q.1), chN s0 sz (i + q.2), chN s0 sz (((i + q.1) % sz + (i + q.2) % sz + (sz - i % sz)) % sz))
noncomputable def rdN (s0 sz : Nat) (ps : List (Nat × Nat)) : List RowD := (List.range sz).map fun i => (chN s0 sz i, i, (64, chN s0 sz i, chN s0 sz i) :: ps.map (itN s0 sz i))
noncomputable def verN (s0 k n1 : Nat) : Bool :=
  let st := (rdN s0 (2 * k + 1) (prOf k n1)).foldl rowStepN ((true, []), true)
  (st.1.1 == distOk ((prOf k n1).flatMap fun q => [gapT s0 (2 * k + 1) q.1 q.2, gapT s0 (2 * k + 1) q.2 q.1])) && (st.2 == distOk ((prOf k n1).map (sumT s0 (2 * k + 1)) ++ [(2 * figI s0 0).fmod ((2 * k + 1 : Nat) : Int)]))
theorem ver5 : ∀ s0, s0 < 16 → ∀ n1, n1 < 3 → verN s0 2 n1 = true := by decide +kernel
theorem ver7 : ∀ s0, s0 < 14 → ∀ n1, n1 < 15 → verN s0 3 n1 = true := by decide +kernel
theorem pick7 : ∀ i1, i1 < 7 → ∀ i2, i2 < 7 → ∀ i3, i3 < 7 → (List.range 7).filter (pick 7 i1 i2 i3) = [(i1 + i2 + (7 - i3)) % 7] := by decide +kernel
theorem pick5 : ∀ i1, i1 < 5 → ∀ i2, i2 < 5 → ∀ i3, i3 < 5 → (List.range 5).filter (pick 5 i1 i2 i3) = [(i1 + i2 + (5 - i3)) % 5] := by decide +kernel
theorem red3 : ∀ n, n < 210 → prOf 3 n = prOf 3 (n % 15) := by decide +kernel
theorem red2 : ∀ n, n < 210 → prOf 2 n = prOf 2 (n % 3) := by decide +kernel
theorem pb3 : ∀ n, n < 15 → ((prOf 3 n).all fun q => decide (q.1 < 7 ∧ q.2 < 7)) = true ∧ (prOf 3 n).length ≤ 9 := by decide +kernel
theorem pb2 : ∀ n, n < 3 → ((prOf 2 n).all fun q => decide (q.1 < 5 ∧ q.2 < 5)) = true ∧ (prOf 2 n).length ≤ 9 := by decide +kernel
noncomputable def goodB (x : Str) : Bool := clean x && (decide (Txt.lower x = x) && decide (x.length ≤ 1000))
theorem good_all : ((64 :: signNums).all fun a => (64 :: signNums).all fun b => goodB ⟨#[a, b]⟩) = true := by decide +kernel
theorem good_of {a b : Nat} (ha : a ∈ 64 :: signNums) (hb : b ∈ 64 :: signNums) : Good ⟨#[a, b]⟩ := by
  have h := List.all_eq_true.mp (List.all_eq_true.mp good_all a ha) b hb
  unfold goodB at h
  simp only [Bool.and_eq_true, decide_eq_true_eq] at h
  exact ⟨h.1, h.2.1, h.2.2⟩
theorem sgOf_size {s0 sz : Nat} (h : s0 + sz ≤ 20) : (sgOf s0 sz).cps.size = sz := by
  unfold sgOf
  rw [List.size_toArray, List.length_take, List.length_drop]
  show min sz (20 - s0) = sz
  omega
theorem sgOf_at {s0 sz j : Nat} (hj : j < sz) : (sgOf s0 sz).cps[j]? = signNums[s0 + j]? := by
  unfold sgOf
  rw [List.getElem?_toArray, List.getElem?_take, if_pos hj, List.getElem?_drop]
theorem sgOf_sub {s0 sz c : Nat} (h : c ∈ (sgOf s0 sz).cps.toList) : c ∈ signNums := by
  unfold sgOf at h
  rw [List.toList_toArray] at h
  exact List.mem_of_mem_drop (List.mem_of_mem_take h)
theorem seen_all : ∀ c ∈ signNums, 33 ≤ c ∧ c ≤ 126 ∧ c ≠ 64 := by decide
theorem chr_chN {s0 sz : Nat} (h : s0 + sz ≤ 20) (h0 : 0 < sz) (x : Nat) : chr (sgOf s0 sz) x = chN s0 sz x := by
  unfold chr chN
  rw [sgOf_size h, Array.getD_eq_getD_getElem?, sgOf_at (Nat.mod_lt _ h0), List.getD_eq_getElem?_getD]
theorem chN_mem {s0 sz : Nat} (h : s0 + sz ≤ 20) (h0 : 0 < sz) (x : Nat) : chN s0 sz x ∈ signNums := by
  unfold chN
  have hl : s0 + x % sz < signNums.length := by
    show s0 + x % sz < 20
    have := Nat.mod_lt x h0
    omega
  rw [List.getD_eq_getElem?_getD, List.getElem?_eq_getElem hl]
  exact List.getElem_mem hl
theorem fig_at (P : Params) {s0 sz j c : Nat} (h : (sgOf s0 sz).cps[j]? = some c) : Fig P c (s0 + j) := by
  have hj : j < sz := by
    have h1 := (Array.getElem?_eq_some_iff.mp h).1
    unfold sgOf at h1
    rw [List.size_toArray, List.length_take] at h1
    omega
  rw [sgOf_at hj] at h
  exact figs P (s0 + j) c h
theorem fig_chN (P : Params) {s0 sz : Nat} (h : s0 + sz ≤ 20) (h0 : 0 < sz) (x : Nat) : Fig P (chN s0 sz x) (s0 + x % sz) := by
  refine fig_at P (sz := sz) ?_
  rw [← chr_chN h h0]
  have := chr_at (sgOf s0 sz) (by rw [sgOf_size h]; exact h0) x
  rwa [sgOf_size h] at this
theorem pick_all {n : Nat} (hn : n = 5 ∨ n = 7) {i1 i2 i3 : Nat} (h1 : i1 < n) (h2 : i2 < n) (h3 : i3 < n) : (List.range n).filter (pick n i1 i2 i3) = [(i1 + i2 + (n - i3)) % n] := by
  rcases hn with rfl | rfl
  · exact pick5 i1 h1 i2 h2 i3 h3
  · exact pick7 i1 h1 i2 h2 i3 h3
theorem rowd_ok (P : Params) {s0 sz : Nat} {ps : List (Nat × Nat)} (hn : sz = 5 ∨ sz = 7) (h : s0 + sz ≤ 20) (hp : ps.length ≤ 9) : ∀ r ∈ rdN s0 sz ps, RowDOk P (sgOf s0 sz) s0 r := by
  have h0 : 0 < sz := by omega
  intro r hr
  obtain ⟨i, hi, rfl⟩ := List.mem_map.mp hr
  have hi := List.mem_range.mp hi
  have m64 : (64 : Nat) ∈ 64 :: signNums := .head _
  have mch : ∀ x, chN s0 sz x ∈ 64 :: signNums := fun x => .tail _ (chN_mem h h0 x)
  have mmin : ∀ {a b : Nat}, a ∈ 64 :: signNums → b ∈ 64 :: signNums → min a b ∈ 64 :: signNums := fun {a b} ha hb => by
    rcases Nat.le_total a b with e | e
    · rw [Nat.min_eq_left e]; exact ha
    · rw [Nat.min_eq_right e]; exact hb
  have mmax : ∀ {a b : Nat}, a ∈ 64 :: signNums → b ∈ 64 :: signNums → max a b ∈ 64 :: signNums := fun {a b} ha hb => by
    rcases Nat.le_total a b with e | e
    · rw [Nat.max_eq_right e]; exact hb
    · rw [Nat.max_eq_left e]; exact ha
  refine ⟨⟨_, rfl⟩, ?_, ?_, ?_⟩
  · intro e he
    rcases List.mem_cons.mp he with rfl | he
    · exact ⟨.inl ⟨_, rfl, rfl⟩, good_of (mch i) (mch i), good_of (mmin m64 (mch i)) (mmax m64 (mch i))⟩
    · obtain ⟨q, hq, rfl⟩ := List.mem_map.mp he
      refine ⟨.inr ⟨_, _, (i + q.1) % sz, (i + q.2) % sz, ((i + q.1) % sz + (i + q.2) % sz + (sz - i % sz)) % sz, rfl, ?_, ?_, ?_, ?_, ?_⟩, good_of (mch _) (mch _), good_of (mmin (mch _) (mch _)) (mmax (mch _) (mch _))⟩
      · exact (seen_all _ (chN_mem h h0 _)).2.2
      · exact fig_chN P h h0 _
      · exact fig_chN P h h0 _
      · rw [sgOf_size h]
        have := pick_all hn (Nat.mod_lt (i + q.1) h0) (Nat.mod_lt (i + q.2) h0) hi
        rw [this, Nat.mod_eq_of_lt hi]
      · show chN s0 sz _ = _
        rw [← chr_chN h h0]
        unfold chr
        rw [sgOf_size h, Nat.mod_mod]
  · have := fig_chN P h h0 i
    rwa [Nat.mod_eq_of_lt hi] at this
  · show (_ :: ps.map _).length ≤ 10
    rw [List.length_cons, List.length_map]
    omega
theorem small_all : ∀ c ∈ signNums, c < 256 := by decide
theorem law_ok (P : Params) {k s0 n1 : Nat} (hk : k = 2 ∨ k = 3) (hs : s0 < 21 - (2 * k + 1)) (hn : n1 < 210) : LawOk P k s0 n1 := by
  have hsz : 2 * k + 1 = 5 ∨ 2 * k + 1 = 7 := by omega
  have h20 : s0 + (2 * k + 1) ≤ 20 := by omega
  have h0 : 0 < 2 * k + 1 := by omega
  have hpr : (∀ q ∈ prOf k n1, q.1 < 2 * k + 1 ∧ q.2 < 2 * k + 1) ∧ (prOf k n1).length ≤ 9 := by
    rcases hk with rfl | rfl
    · rw [red2 n1 hn]
      obtain ⟨h1, h2⟩ := pb2 (n1 % 3) (Nat.mod_lt _ (by decide))
      exact ⟨fun q hq => by simpa using List.all_eq_true.mp h1 q hq, h2⟩
    · rw [red3 n1 hn]
      obtain ⟨h1, h2⟩ := pb3 (n1 % 15) (Nat.mod_lt _ (by decide))
      exact ⟨fun q hq => by simpa using List.all_eq_true.mp h1 q hq, h2⟩
  have hver : verN s0 k n1 = true := by
    rcases hk with rfl | rfl
    · have := ver5 s0 (by omega) (n1 % 3) (Nat.mod_lt _ (by decide))
      unfold verN at this ⊢
      rwa [red2 n1 hn]
    · have := ver7 s0 (by omega) (n1 % 15) (Nat.mod_lt _ (by decide))
      unfold verN at this ⊢
      rwa [red3 n1 hn]
  have hsize := sgOf_size h20
  refine ⟨⟨rdN s0 (2 * k + 1) (prOf k n1), ?_, rowd_ok P hsz h20 hpr.2, by simp [rdN], ?_, ?_⟩, fun j c h => fig_at P h, hsize⟩
  · have e : ((rdN s0 (2 * k + 1) (prOf k n1)).map fun r => r.2.2.map fun e => (⟨#[e.1, e.2.1]⟩ : Str)) = (List.range (sgOf s0 (2 * k + 1)).cps.size).map (rowI (sgOf s0 (2 * k + 1)) (prOf k n1)) := by
      unfold rdN
      rw [hsize, List.map_map]
      apply List.map_congr_left
      intro i _
      unfold rowI itN
      simp only [Function.comp, List.map_cons, List.map_map, chr_chN h20 h0]
      rfl
    rw [e]
    refine page_ok (by rw [hsize]; exact h0) (by rw [hsize]; omega) (by omega) (by rw [hsize]; exact hpr.1) fun c hc => ?_
    have := seen_all c (sgOf_sub hc)
    exact ⟨this.1, this.2.1⟩
  all_goals
    have e := rows_enc (rdN s0 (2 * k + 1) (prOf k n1)) ((true, []), true) (by
      intro r hr e he
      obtain ⟨i, hi, rfl⟩ := List.mem_map.mp hr
      have sm : ∀ x, chN s0 (2 * k + 1) x < 256 := fun x => small_all _ (chN_mem h20 h0 x)
      rcases List.mem_cons.mp he with rfl | he
      · exact ⟨(by decide : (64 : Nat) < 256), sm _, sm _⟩
      · obtain ⟨q, hq, rfl⟩ := List.mem_map.mp he
        exact ⟨sm _, sm _, sm _⟩)
    have e2 : mapSR ((true, []), true) = ((true, []), true) := rfl
    rw [e2] at e
    rw [e]
    unfold verN at hver
    simp only [Bool.and_eq_true, beq_iff_eq] at hver
    first | exact hver.1 | exact hver.2
section
set_option maxHeartbeats 2000000
noncomputable abbrev prg : Program := PySem.Challenge.pw_wc0034_01
noncomputable abbrev rwr : OpenRow := PySem.Challenge.rw_wc0034_01.row
noncomputable def qV : Program := { PySem.Challenge.pw_wc0034_01 with main := { PySem.Challenge.pw_wc0034_01.main with body := [stm 67] } }
noncomputable def posOf : Stmt → Pos | .FunctionDef _ _ _ _ _ _ _ _ _ p => p | _ => ⟨0, 0, 0, 0⟩
noncomputable def dLaw : DefRec := ⟨Str.ofString "law", fdP (stm 67), fdB (stm 67), fdS (stm 67), posOf (stm 67)⟩
theorem def_law : defOf qV rwr.name = some (dLaw, []) := by kernel_rfl
noncomputable def asF : List Addr := [0, 1, 2, 3, 4, 5, 6, 7, 8, 9, 10, 11, 12, 13, 14, 15, 16, 17, 18, 19, 20, 21, 22, 23, 24, 25, 26, 27, 28, 29, 30, 31, 32, 33, 34, 35, 36, 37, 38, 39, 40, 41, 42, 43, 44, 45, 46, 47, 48, 49, 50, 51, 52, 53, 54, 55, 56, 57, 58, 59, 60, 61, 62, 63, 64, 65, 66, 67, 68, 69, 70, 71, 72, 73, 74, 75, 76, 77, 78, 79, 80, 81, 82, 83, 84, 85, 86, 87, 88, 89, 90, 91, 92, 93, 94, 95, 96, 97, 98, 99, 100, 101, 102, 103, 104, 105, 106, 107, 108, 109, 110, 111, 112, 113, 114, 115, 116, 117, 118, 119, 120, 121, 122, 123, 124, 125, 126, 127, 128, 129, 130, 131, 132, 133, 134, 135, 136, 137, 138, 139, 140, 141, 142, 143, 144, 145, 146, 147, 148, 149, 150, 151, 152, 153, 154, 155, 156, 157, 158, 159, 160, 161, 162, 163, 164, 165, 166, 168, 169, 170, 171, 172, 173, 175, 176, 177, 178, 179, 180, 181, 182, 183, 184, 185, 186, 187, 188, 189, 190, 191, 192, 193, 194, 195, 196, 197, 198, 199, 200, 201, 202, 203, 204, 205, 206, 207, 208, 209, 210, 211, 212, 213, 214, 215, 216, 217, 218, 219, 220, 221, 222, 223, 224, 225, 226, 227, 228, 229, 230, 231, 232, 233, 234, 235, 236, 237, 238, 239, 240, 241, 242, 243, 244, 245, 246, 247, 248, 249, 250, 251, 252, 253, 254, 255, 256, 257, 258, 259, 260, 261, 262, 263, 264, 265, 266, 267, 268, 269, 270, 271, 272, 273, 274, 275, 276, 277, 278, 279, 280, 281, 282, 283, 284, 285, 286, 287, 288, 289, 290, 291, 292, 293, 294, 295, 296, 297, 298, 299, 300, 301, 302, 303, 304, 305, 306, 307, 308, 309, 310, 311, 312, 313, 314, 315, 316, 317, 318, 319, 320, 321, 322, 323, 324, 325, 326, 327, 328, 329, 330, 331, 332, 333, 334, 335, 336, 337, 338, 339, 340, 341, 342, 343, 344, 345, 346, 347, 348, 349, 350, 351, 352, 353, 354, 355, 356, 357, 358, 359, 360, 361, 362, 363, 364, 365, 366, 367, 368]
theorem asF_eq (P : Params) : asF = (KF P).map (·.1) := by kernel_rfl
noncomputable abbrev hkL : Hook := kmHook KF asF asF_eq [167, 174]
theorem low_at {α : Type} {M : Model} {e : Env} {t : Sem α} {Q : α → Shared → Prop} {E : Value → Shared → Prop} {s : Shared} (h : wpAny M ((lwTop 800 4000 (some []) []).deeper e) t Q E s) : wpAny M (callerA.deeper e) t Q E s := fun Γ p hΓ =>
  h Γ p ⟨hΓ.1, Nat.le_trans hΓ.2.1 (show 1 + 300 + 1 ≤ 800 + 1 by decide), hΓ.2.2.1, hΓ.2.2.2.1, Nat.le_trans hΓ.2.2.2.2 (show 4 + 3 ≤ 4000 + 3 by decide)⟩
noncomputable abbrev tabL : List (Addr × Addr) := [(171, 167), (178, 174)]
theorem no167 (P : Params) : (KF P).lookup 167 = none := by kernel_rfl
theorem no174 (P : Params) : (KF P).lookup 174 = none := by kernel_rfl
theorem ghost_KF {P : Params} {h : Heap} (X : (KF P).In h) : (KF P).In (ghostOf h tabL) := fun a o e => ghost_ne (X a o e) (by
  intro hm
  simp only [tabL, List.map_cons, List.map_nil, List.mem_cons, List.not_mem_nil, or_false] at hm
  rcases hm with rfl | rfl
  · rw [no167] at e; cases e
  · rw [no174] at e; cases e)
theorem old_tabs {h₁ h h' : Heap} {L : Addr} {m : Str → Option Value} {news : List (Addr × Obj)} {q1 q2 : Array Value} (hT : TabsAt tabL h₁) (F : Fr (ghostOf h₁ tabL) L h' m) (N : News h L h' news) (m1 : (167, PySem.W.X.tableObj q1) ∈ news) (m2 : (174, PySem.W.X.tableObj q2) ∈ news) : OldK h₁ h' := by
  have keep : ∀ b o, b ∉ tabL.map (·.2) → h₁.get? b = some o → h'.get? b = some o := fun b o hb e => F.keep b o (ghost_ne e hb)
  have g1 : ∀ b ∈ tabL.map (·.2), ∃ ps, h'.get? b = some (tabObj ps) := by
    intro b hb
    simp only [tabL, List.map_cons, List.map_nil, List.mem_cons, List.not_mem_nil, or_false] at hb
    rcases hb with rfl | rfl
    · exact ⟨q1, (N _ m1).1⟩
    · exact ⟨q2, (N _ m2).1⟩
  have grown : ∀ b o, b ∈ tabL.map (·.2) → h₁.get? b = some o → isCodeTable h₁ b ∧ o = tabObj #[] ∧ ∃ ps, h'.get? b = some (tabObj ps) := fun b o hb e => by
    obtain ⟨q, hq, rfl⟩ := List.mem_map.mp hb
    have e2 := (hT q hq).2
    rw [e] at e2
    exact ⟨((hT q hq).1.tab (hT q hq).2).isCodeTable, Option.some.inj e2, g1 _ hb⟩
  refine ⟨fun b o e => ?_, fun b o e => ?_⟩
  · by_cases hb : b ∈ tabL.map (·.2)
    · obtain ⟨ht, rfl, ps, hP⟩ := grown b o hb e
      exact .inr (.inl ⟨ht, rfl, #[], ps, rfl, by rw [Array.empty_append]; exact hP⟩)
    · exact .inl (keep b o hb e)
  · by_cases hb : b ∈ tabL.map (·.2)
    · obtain ⟨_, _, ps, hP⟩ := grown b o hb e
      exact ⟨_, hP⟩
    · exact ⟨o, keep b o hb e⟩
theorem good_true {c : Str → Option Addr} {mean : ExcName → Option Value} {x : WData} {s₁ s' : Shared} (K : OldK s₁.heap s'.heap) (hos : s'.os = s₁.os) (hb : AllBare s'.gens) : GoodWG rwr.claim c mean [x] s₁ (.ok (.ret (.bool true))) s' := by
  refine ⟨.inl ⟨.bool true, .bool true, [], rfl, fun _ => rfl, by first | exact .bool _ | constructor, by first | rfl | exact postW_of (by wrow_shape) (by wtm_val) (by w_fin), fun _ => ⟨List.nodup_nil, fun _ h => nomatch h⟩⟩, K, hos, hb⟩
theorem law_walk (loose : List Str) : WalkO qV loose (fun _ _ => True) hkL.says rwr.toRowW dLaw [] (fun f vs => PySem.call f vs) := by
  intro w s₀ s₁ mg mb G Y fa o pm cd doc dV kV ho hd hcd hD hmg hg args vals as hpre hlay hrd hwl hlo
  have KX : (KF w.params).In s₁.heap := km_in_of Y
  have hT8 := km_tabs_of Y
  refine Ground.open G ?_
  intro T B D TE TW
  have efa : fa = 368 := by
    have := mg_of (n := Str.ofString "law") (v := .ref 368) KX T.g (by kernel_rfl)
    rw [show dLaw.name = Str.ofString "law" from rfl, this] at hmg
    injection hmg with e; injection e with e; exact e.symm
  subst efa
  have he := Dflts.none hD rfl; subst he; have he := Dflts.noKw hD; subst he
  have eo : o = o368L w.params := by
    have e := KX 368 (o368L w.params) (by kernel_rfl)
    rw [e] at ho; exact (Option.some.inj ho).symm
  subst eo
  have ec : cd = .ref 367 := by
    have := congrArg (fun d => match d with | Data.func f => f.code | _ => .none) hd
    exact this.symm
  subst ec
  wrow_args hpre hlay hrd hwl hlo
  rename_i xs hs lay0 hL1 hrr hl2 as1 as2 la vs as3 hLl ra w1 r0 hI hr hc1 hc2
  have gT : TabsAt [(171, 167), (178, 174)] s₁.heap := List.forall_mem_cons.mpr ⟨⟨codeHd_of_K KX (by kernel_rfl), hT8 167 (.head _)⟩, List.forall_mem_cons.mpr ⟨⟨codeHd_of_K KX (by kernel_rfl), hT8 174 (.tail _ (.head _))⟩, fun _ h => nomatch h⟩⟩
  have hL368 : @LT.lt Nat _ 368 s₁.heap.objs.size := Heap.lt_size ho
  have hbd : bindArgs (docDef dLaw.name dLaw.params dLaw.body dLaw.scope pm (.ref 367) doc) ⟨[.ref la], []⟩ = pure [(Str.ofString "script", .ref la)] := by with_unfolding_all rfl
  refine enter_call (call_cellsN (by decide) ho (fd_plain hd) (Top.nolimit T) hcd hbd (kinds_of (by kinds_ok)) (by decide) fun h₁ tk₁ cells F N0 X0 => ?_)
  cells_open X0
  rename_i oF oS hFd hSd
  have hb : bindL (envOfC dLaw.name dLaw.scope s₁.heap.objs.size 368 (Value.ref 367)).kindOf [(Str.ofString "script", Value.ref la)] (fun _ => none) = (fun y => if y = Str.ofString "script" then some (.ref la) else none) := by kernel_rfl
  rw [hb] at F
  have hF0 : oF.data = .cell none := hFd.trans (by kernel_rfl)
  have hS0 : oS.data = .cell none := hSd.trans (by kernel_rfl)
  clear hFd hSd X0 hb
  have F' := ghost_fr gT F
  have X' := ghost_KF KX
  have T' := ghost_top gT T
  have N' := ghost_news gT F N0
  have hla' := ghost_list gT hLl
  generalize s₁.heap.objs.size = L' at *
  have N2 : News (ghostOf s₁.heap tabL) L' h₁ ((L' + 1, oS) :: (L' + 1 + 1, oF) :: (167, PySem.W.X.tableObj #[]) :: (174, PySem.W.X.tableObj #[]) :: []) := news_sub N' (by
    intro p hp
    simp only [tabNews, List.map_cons, List.map_nil, List.mem_cons, List.mem_append, List.cons_append, List.nil_append, List.not_mem_nil, or_false] at hp ⊢
    rcases hp with h | h | h | h
    · exact .inr (.inl h)
    · exact .inl h
    · exact .inr (.inr (.inl h))
    · exact .inr (.inr (.inr h)))
  have hlen : vs.length ≤ 900 := by
    have e : vs.length = xs.length := IntsAre.length hI
    omega
  have hok : ∀ k, szOf (numOf xs 0) = 2 * k + 1 → LawOk w.params k (numOf xs 2 % (21 - (2 * k + 1))) (numOf xs 1) := by
    intro k hk
    obtain ⟨k', hk', e'⟩ := szOf_eq (numOf xs 0)
    have ek : k = k' := by omega
    subst ek
    refine law_ok _ hk' ?_ (numOf_lt _ _)
    exact Nat.mod_lt _ (by rcases hk' with rfl | rfl <;> decide)
  have B' : Below (lwTop 800 4000 (some []) []) (ghostOf s₁.heap tabL) [] (ghostOf s₁.heap tabL) := ⟨rfl, fun _ _ e => e, trivial⟩
  refine low_at (wpAny_mono (law_body (la := la) (vs := vs) (xs := xs) (u := fun _ => none) (ps1 := #[]) (ps2 := #[]) (s := { s₁ with heap := h₁, toks := tk₁ }) (Q := fun f s' => GoodWG rwr.claim (classAt s₀.heap) (ExcName.means s₀.heap) [ofPy (PyData.list (List.map PyData.int xs))] s₁ (.ok (.ret (match f with | .ret v => v | _ => .none))) s') B' F' X' N2 T' hS0 hF0 (by omega) hla' hI hlen trivial trivial (by show AllBare s₁.gens; rw [hg]; exact .of_eq rfl) hok ?_) (fun _ _ q => q) fun _ _ n => n.elim)
  intro h' g' tk m' news' q1 q2 Fz Nz z1 z2 zb
  exact good_true (old_tabs gT Fz Nz z1 z2) rfl zb
end
end Mine
namespace Mine
set_option maxHeartbeats 0
theorem pc26 : ∀ (w : World) (os : OsState), segRunT treeTable PySem.Challenge.pw_wc0034_01 w 28 (some (.ref 6)) 1 255 ⟨trB w.params, 32, {}, #[], {}, 282, os⟩ (piecesOf ((bodyT.drop 0).take 26) envT (.body bodyT envT) ⟨0, 0, 0, 0⟩ [topFrame ⟨0, 0, 0, 0⟩]) = some (.next, ⟨trC26 w.params, 39, {}, #[], {}, 339, os⟩, .body bodyT envT, ⟨29, 0, 29, 9⟩) := by
  intro w os
  kernel_rfl
theorem pc51 : ∀ (w : World) (os : OsState), segRunT treeTable PySem.Challenge.pw_wc0034_01 w 28 (some (.ref 6)) 1 226 ⟨trC26 w.params, 39, {}, #[], {}, 339, os⟩ (piecesOf ((bodyT.drop 26).take 25) envT (.body bodyT envT) ⟨29, 0, 29, 9⟩ [topFrame ⟨0, 0, 0, 0⟩]) = some (.next, ⟨trC51 w.params, 39, {}, #[], {}, 389, os⟩, .body bodyT envT, ⟨54, 0, 54, 11⟩) := by
  intro w os
  kernel_rfl
theorem pc52 (w : World) : ∀ os : OsState, segRunT treeTable PySem.Challenge.pw_wc0034_01 w 28 (some (.ref 6)) 1 979 ⟨trC51 w.params, 39, {}, #[], {}, 389, os⟩ (piecesOf ((bodyT.drop 51).take 1) envT (.body bodyT envT) ⟨54, 0, 54, 11⟩ [topFrame ⟨0, 0, 0, 0⟩]) = some (.next, ⟨trC52 w.params, 42, {}, #[], {}, 486, os⟩, .body bodyT envT, ⟨55, 0, 55, 17⟩) :=
  byRow2 "special-get-raises" (P := fun w => ∀ os : OsState, segRunT treeTable PySem.Challenge.pw_wc0034_01 w 28 (some (.ref 6)) 1 979 ⟨trC51 w.params, 39, {}, #[], {}, 389, os⟩ (piecesOf ((bodyT.drop 51).take 1) envT (.body bodyT envT) ⟨54, 0, 54, 11⟩ [topFrame ⟨0, 0, 0, 0⟩]) = some (.next, ⟨trC52 w.params, 42, {}, #[], {}, 486, os⟩, .body bodyT envT, ⟨55, 0, 55, 17⟩)) (by intro w os; kernel_rfl) (by intro w os; kernel_rfl) w
theorem pc56 : ∀ (w : World) (os : OsState), segRunT treeTable PySem.Challenge.pw_wc0034_01 w 28 (some (.ref 6)) 1 57 ⟨trC52 w.params, 42, {}, #[], {}, 486, os⟩ (piecesOf ((bodyT.drop 52).take 4) envT (.body bodyT envT) ⟨55, 0, 55, 17⟩ [topFrame ⟨0, 0, 0, 0⟩]) = some (.next, ⟨trC56 w.params, 49, {}, #[], {}, 499, os⟩, .body bodyT envT, ⟨60, 0, 60, 11⟩) := by
  intro w os
  kernel_rfl
theorem pc57 : ∀ (w : World) (os : OsState), segRunT treeTable PySem.Challenge.pw_wc0034_01 w 28 (some (.ref 6)) 1 494 ⟨trC56 w.params, 49, {}, #[], {}, 499, os⟩ (piecesOf ((bodyT.drop 56).take 1) envT (.body bodyT envT) ⟨60, 0, 60, 11⟩ [topFrame ⟨0, 0, 0, 0⟩]) = some (.next, ⟨trC57 w.params, 126, {}, #[], {}, 607, os⟩, .body bodyT envT, ⟨61, 0, 126, 47⟩) := by
  intro w os
  kernel_rfl
theorem pc58 : ∀ (w : World) (os : OsState), segRunT treeTable PySem.Challenge.pw_wc0034_01 w 28 (some (.ref 6)) 1 505 ⟨trC57 w.params, 126, {}, #[], {}, 607, os⟩ (piecesOf ((bodyT.drop 57).take 1) envT (.body bodyT envT) ⟨61, 0, 126, 47⟩ [topFrame ⟨0, 0, 0, 0⟩]) = some (.next, ⟨trC58 w.params, 210, {}, #[], {}, 703, os⟩, .body bodyT envT, ⟨127, 0, 162, 32⟩) := by
  intro w os
  kernel_rfl
theorem pc61 : ∀ (w : World) (os : OsState), segRunT treeTable PySem.Challenge.pw_wc0034_01 w 28 (some (.ref 6)) 1 156 ⟨trC58 w.params, 210, {}, #[], {}, 703, os⟩ (piecesOf ((bodyT.drop 58).take 3) envT (.body bodyT envT) ⟨127, 0, 162, 32⟩ [topFrame ⟨0, 0, 0, 0⟩]) = some (.next, ⟨trC61 w.params, 220, {}, #[], {}, 765, os⟩, .body bodyT envT, ⟨165, 0, 165, 20⟩) := by
  intro w os
  kernel_rfl
theorem pc62 : ∀ (w : World) (os : OsState), segRunT treeTable PySem.Challenge.pw_wc0034_01 w 28 (some (.ref 6)) 1 729 ⟨trC61 w.params, 220, {}, #[], {}, 765, os⟩ (piecesOf ((bodyT.drop 61).take 1) envT (.body bodyT envT) ⟨165, 0, 165, 20⟩ [topFrame ⟨0, 0, 0, 0⟩]) = some (.next, ⟨trC62 w.params, 347, {}, #[], {}, 922, os⟩, .body bodyT envT, ⟨166, 0, 240, 16⟩) := by
  intro w os
  kernel_rfl
theorem pc67 : ∀ (w : World) (os : OsState), segRunT treeTable PySem.Challenge.pw_wc0034_01 w 28 (some (.ref 6)) 1 122 ⟨trC62 w.params, 347, {}, #[], {}, 922, os⟩ (piecesOf ((bodyT.drop 62).take 5) envT (.body bodyT envT) ⟨166, 0, 240, 16⟩ [topFrame ⟨0, 0, 0, 0⟩]) = some (.next, ⟨trL w.params, 369, {}, #[], {}, 954, os⟩, .body bodyT envT, ⟨269, 0, 290, 86⟩) := by
  intro w os
  kernel_rfl
theorem h_pre (w : World) (os : OsState) : topGo treeTable PySem.Challenge.pw_wc0034_01 w 28 (some (.ref 6)) 12 ⟨absHeap (trA w.params) 28 {}, #[], {}, 276, os⟩ (topStub PySem.Challenge.pw_wc0034_01) = some (⟨absHeap (trB w.params) 32 {}, #[], {}, 282, os⟩, ⟨denote treeTable (.body bodyT envT), .body bodyT envT, ⟨0, 0, 0, 0⟩, [topFrame ⟨0, 0, 0, 0⟩]⟩) := by kernel_rfl
theorem h_block (w : World) (os : OsState) : segRun treeTable PySem.Challenge.pw_wc0034_01 w 28 (some (.ref 6)) 1 1 ⟨absHeap (trB w.params) 32 {}, #[], {}, 282, os⟩ (blockOf bodyT envT (.body bodyT envT) ⟨0, 0, 0, 0⟩ [topFrame ⟨0, 0, 0, 0⟩]) = some (.next, ⟨absHeap (trB w.params) 32 {}, #[], {}, 282, os⟩, .body bodyT envT, ⟨0, 0, 0, 0⟩) := by kernel_rfl
theorem h_fin (w : World) (os : OsState) : topRun treeTable PySem.Challenge.pw_wc0034_01 w 28 (some (.ref 6)) 2 ⟨absHeap (trL w.params) 369 {}, #[], {}, 954, os⟩ ⟨doneF .next, .body bodyT envT, ⟨269, 0, 290, 86⟩, [topFrame ⟨0, 0, 0, 0⟩]⟩ = some ⟨absHeap (trL w.params) 369 {}, #[], {}, 954, os⟩ := by kernel_rfl
theorem h_size (w : World) : ((absHeap (trA w.params) 28 {}).isNs mainGlobals && (#[] : Array GenState).size == 0, (absHeap (trA w.params) 28 {}).objs.size, (absHeap (trA w.params) 28 {}).nsMap mainGlobals "__annotations__") = (true, 28, some (.ref 6)) := by kernel_rfl
theorem h_split : bodyT = ((bodyT.drop 0).take 26 ++ ((bodyT.drop 26).take 25 ++ ((bodyT.drop 51).take 1 ++ ((bodyT.drop 52).take 4 ++ ((bodyT.drop 56).take 1 ++ ((bodyT.drop 57).take 1 ++ ((bodyT.drop 58).take 3 ++ ((bodyT.drop 61).take 1 ++ ((bodyT.drop 62).take 5 ++ []))))))))) := by kernel_rfl
theorem h_rest (w : World) (os : OsState) : topRun treeTable PySem.Challenge.pw_wc0034_01 w 28 (some (.ref 6)) (255 + (226 + (979 + (57 + (494 + (505 + (156 + (729 + (122 + 2))))))))) ⟨absHeap (trB w.params) 32 {}, #[], {}, 282, os⟩ (restOf bodyT envT (.body bodyT envT) ⟨0, 0, 0, 0⟩ [topFrame ⟨0, 0, 0, 0⟩]) = some ⟨absHeap (trL w.params) 369 {}, #[], {}, 954, os⟩ := by
  have k : topRun treeTable PySem.Challenge.pw_wc0034_01 w 28 (some (.ref 6)) (255 + (226 + (979 + (57 + (494 + (505 + (156 + (729 + (122 + 2))))))))) ⟨absHeap (trB w.params) 32 {}, #[], {}, 282, os⟩ (restOf ((bodyT.drop 0).take 26 ++ ((bodyT.drop 26).take 25 ++ ((bodyT.drop 51).take 1 ++ ((bodyT.drop 52).take 4 ++ ((bodyT.drop 56).take 1 ++ ((bodyT.drop 57).take 1 ++ ((bodyT.drop 58).take 3 ++ ((bodyT.drop 61).take 1 ++ ((bodyT.drop 62).take 5 ++ []))))))))) envT (.body bodyT envT) ⟨0, 0, 0, 0⟩ [topFrame ⟨0, 0, 0, 0⟩]) = some ⟨absHeap (trL w.params) 369 {}, #[], {}, 954, os⟩ := piece_app (segRun_of (pc26 w os)) (piece_app (segRun_of (pc51 w os)) (piece_app (segRun_of (pc52 w os)) (piece_app (segRun_of (pc56 w os)) (piece_app (segRun_of (pc57 w os)) (piece_app (segRun_of (pc58 w os)) (piece_app (segRun_of (pc61 w os)) (piece_app (segRun_of (pc62 w os)) (piece_app (segRun_of (pc67 w os)) (h_fin w os)))))))))
  exact (congrArg (fun b => topRun treeTable PySem.Challenge.pw_wc0034_01 w 28 (some (.ref 6)) (255 + (226 + (979 + (57 + (494 + (505 + (156 + (729 + (122 + 2))))))))) ⟨absHeap (trB w.params) 32 {}, #[], {}, 282, os⟩ (restOf b envT (.body bodyT envT) ⟨0, 0, 0, 0⟩ [topFrame ⟨0, 0, 0, 0⟩]) = some ⟨absHeap (trL w.params) 369 {}, #[], {}, 954, os⟩) h_split).mpr k
theorem h_run (w : World) (os : OsState) : topRun treeTable PySem.Challenge.pw_wc0034_01 w 28 (some (.ref 6)) 3538 ⟨absHeap (trA w.params) 28 {}, #[], {}, 276, os⟩ (topStub PySem.Challenge.pw_wc0034_01) = some ⟨absHeap (trL w.params) 369 {}, #[], {}, 954, os⟩ := go_top (h_pre w os) (piece_block (h_block w os) (h_rest w os))
noncomputable def o0Z40 (_ : Params) : Obj := ⟨(.type "dict"), none, (.dict #[] 0), #[]⟩
noncomputable def o1Z40 (_ : Params) : Obj := ⟨(.type "dict"), none, (.dict #[] 0), #[]⟩
noncomputable def o2Z40 (_ : Params) : Obj := ⟨.none, none, (.dict #[] 0), #[]⟩
noncomputable def trZ40 (P : Params) : BT := (.node (o0Z40 P) (.node (o1Z40 P) .nil .nil) (.node (o2Z40 P) .nil .nil))
noncomputable def trZ80 (P : Params) : BT := (.node (o0Z40 P) (.node (o1Z40 P) .nil .nil) (.node (o2Z40 P) .nil .nil))
noncomputable def trZ120 (P : Params) : BT := (.node (o0Z40 P) (.node (o1Z40 P) .nil .nil) (.node (o2Z40 P) .nil .nil))
noncomputable def trZ160 (P : Params) : BT := (.node (o0Z40 P) (.node (o1Z40 P) .nil .nil) (.node (o2Z40 P) .nil .nil))
noncomputable def trZ200 (P : Params) : BT := (.node (o0Z40 P) (.node (o1Z40 P) .nil .nil) (.node (o2Z40 P) .nil .nil))
noncomputable def trZ240 (P : Params) : BT := (.node (o0Z40 P) (.node (o1Z40 P) .nil .nil) (.node (o2Z40 P) .nil .nil))
noncomputable def trZ280 (P : Params) : BT := (.node (o0Z40 P) (.node (o1Z40 P) .nil .nil) (.node (o2Z40 P) .nil .nil))
noncomputable def trZ320 (P : Params) : BT := (.node (o0Z40 P) (.node (o1Z40 P) .nil .nil) (.node (o2Z40 P) .nil .nil))
noncomputable def o1Z360 (P : Params) : Obj := ⟨(.type "dict"), none, (.dict #[en P "builtins" 162 (.ref 4), en P "__main__" 163 (.ref 5)] 2), #[]⟩
noncomputable def o3Z360 (P : Params) : Obj := ⟨(.type "dict"), none, (.dict #[en P "__name__" 165 (sv "__main__" 164), en P "__doc__" 166 .none, en P "__package__" 167 .none, en P "__loader__" 168 (.builtin "__main__.__loader__#opaque"), en P "__spec__" 169 .none] 5), #[]⟩
noncomputable def trZ360 (P : Params) : BT := (.node (o0A P) (.node (o1Z360 P) (.node (o3Z360 P) .nil .nil) (.node (o5A P) .nil .nil)) (.node (o2Z40 P) (.node (o4A P) .nil .nil) (.node (o6A P) .nil .nil)))
noncomputable def o3Z400 (P : Params) : Obj := ⟨(.type "dict"), none, (.dict #[en P "__name__" 165 (sv "__main__" 164), en P "__doc__" 166 .none, en P "__package__" 167 .none, en P "__loader__" 168 (.builtin "__main__.__loader__#opaque"), en P "__spec__" 169 .none, en P "__annotations__" 170 (.ref 6), en P "__builtins__" 171 (.ref 4), en P "__file__" 173 (sv "/claim/cut.py" 172), en P "__cached__" 174 .none] 9), #[]⟩
noncomputable def trZ400 (P : Params) : BT := (.node (o0A P) (.node (o1Z360 P) (.node (o3Z400 P) (.node (o7A P) .nil .nil) .nil) (.node (o5A P) (.node (o9A P) .nil .nil) .nil)) (.node (o2Z40 P) (.node (o4A P) (.node (o8A P) .nil .nil) .nil) (.node (o6A P) (.node (o10A P) .nil .nil) .nil)))
noncomputable def o2Z440 (P : Params) : Obj := ⟨.none, none, (.dict #[en P "\x69mport.loaded._sre" 183 (.bool true)] 1), #[]⟩
noncomputable def o11Z440 (_ : Params) : Obj := ⟨(.type "dict"), none, (.dict #[] 0), #[]⟩
noncomputable def o13Z440 (_ : Params) : Obj := ⟨(.type "dict"), none, (.dict #[] 0), #[]⟩
noncomputable def trZ440 (P : Params) : BT := (.node (o0A P) (.node (o1Z360 P) (.node (o3Z400 P) (.node (o7A P) .nil .nil) (.node (o11Z440 P) .nil .nil)) (.node (o5A P) (.node (o9A P) .nil .nil) (.node (o13Z440 P) .nil .nil))) (.node (o2Z440 P) (.node (o4A P) (.node (o8A P) .nil .nil) (.node (o12A P) .nil .nil)) (.node (o6A P) (.node (o10A P) .nil .nil) (.node (o14A P) .nil .nil))))
noncomputable def o2Z480 (P : Params) : Obj := ⟨.none, none, (.dict #[en P "\x69mport.loaded._sre" 183 (.bool true), en P "class._frozen_importlib.BuiltinImporter" 185 (.ref 14)] 2), #[]⟩
noncomputable def o13Z480 (P : Params) : Obj := ⟨(.type "dict"), none, (.dict #[en P "__module__" 189 (sv "_frozen_importlib" 186), en P "__firstlineno__" 190 (.int (971) 187), en P "__doc__" 191 (.builtin "_frozen_importlib.BuiltinImporter.__doc__:str#opaque"), en P "_ORIGIN" 192 (sv "built-in" 188), en P "find_spec" 193 (.builtin "_frozen_importlib.BuiltinImporter.find_spec#opaque"), en P "create_module" 194 (.builtin "_frozen_importlib.BuiltinImporter.create_module#opaque"), en P "exec_module" 195 (.builtin "_frozen_importlib.BuiltinImporter.exec_module#opaque")] 7), #[]⟩
noncomputable def trZ480 (P : Params) : BT := (.node (o0A P) (.node (o1Z360 P) (.node (o3Z400 P) (.node (o7A P) (.node (o15A P) .nil .nil) .nil) (.node (o11Z440 P) .nil .nil)) (.node (o5A P) (.node (o9A P) .nil .nil) (.node (o13Z480 P) .nil .nil))) (.node (o2Z480 P) (.node (o4A P) (.node (o8A P) .nil .nil) (.node (o12A P) .nil .nil)) (.node (o6A P) (.node (o10A P) .nil .nil) (.node (o14A P) .nil .nil))))
noncomputable def o2Z520 (P : Params) : Obj := ⟨.none, none, (.dict #[en P "\x69mport.loaded._sre" 183 (.bool true), en P "class._frozen_importlib.BuiltinImporter" 185 (.ref 14), en P "watched.\x69mport" 206 (.ref 18)] 3), #[]⟩
noncomputable def o18Z520 (_ : Params) : Obj := ⟨.none, none, (.seq #[(.int (13) 0), (sv "\x06½\n__module__\x06º\x11_frozen_importlib\x06¾\x0f__firstlineno__\x04»\x00ϋ\x06¿\x07__doc__\t4_frozen_importlib.BuiltinImporter.__doc__:str#opaque\x06À\x07_ORIGIN\x06¼\x08built-in\x06Á\tfind_spec\t2_frozen_importlib.BuiltinImporter.find_spec#opaque\x06Â\rcreate_module\t6_frozen_importlib.BuiltinImporter.create_module#opaque\x06Ã\x0bexec_module\t4_frozen_importlib.BuiltinImporter.exec_module#opaque\x06Ä\x08get_code\t1_frozen_importlib.BuiltinImporter.get_code#opaque\x06Å\nget_source\t3_frozen_importlib.BuiltinImporter.get_source#opaque\x06Æ\nis_package\t3_frozen_importlib.BuiltinImporter.is_package#opaque\x06Ç\x0bload_module\t4_frozen_importlib.BuiltinImporter.load_module#opaque\x06È\x15__static_attributes__\x04\x00\x00\x0f\x06Ê\x08__dict__\x04\x00\x00\x10\x06Ì\x0b__weakref__\x04\x00\x00\x11" 0), (.bool true), (.bool true), (sv "" 205)] 0), #[]⟩
noncomputable def trZ520 (P : Params) : BT := (.node (o0A P) (.node (o1Z360 P) (.node (o3Z400 P) (.node (o7A P) (.node (o15A P) .nil .nil) .nil) (.node (o11Z440 P) (.node (o19A P) .nil .nil) .nil)) (.node (o5A P) (.node (o9A P) (.node (o17A P) .nil .nil) .nil) (.node (o13A P) .nil .nil))) (.node (o2Z520 P) (.node (o4A P) (.node (o8A P) (.node (o16A P) .nil .nil) .nil) (.node (o12A P) .nil .nil)) (.node (o6A P) (.node (o10A P) (.node (o18Z520 P) .nil .nil) .nil) (.node (o14A P) .nil .nil))))
noncomputable def o20Z560 (P : Params) : Obj := ⟨(.type "dict"), none, (.dict #[en P "name" 208 (sv "_sre" 207), en P "loader" 209 (.ref 14), en P "origin" 210 (sv "built-in" 184), en P "loader_state" 211 .none, en P "submodule_search_locations" 212 .none, en P "_uninitialized_submodules" 213 (.ref 19), en P "_set_fileattr" 214 (.bool false), en P "_cached" 215 .none] 8), #[]⟩
noncomputable def o21Z560 (_ : Params) : Obj := ⟨(.type "dict"), none, (.dict #[] 0), #[]⟩
noncomputable def trZ560 (P : Params) : BT := (.node (o0A P) (.node (o1Z360 P) (.node (o3Z400 P) (.node (o7A P) (.node (o15A P) .nil .nil) .nil) (.node (o11Z440 P) (.node (o19A P) .nil .nil) .nil)) (.node (o5A P) (.node (o9A P) (.node (o17A P) .nil .nil) .nil) (.node (o13A P) (.node (o21Z560 P) .nil .nil) .nil))) (.node (o2Z520 P) (.node (o4A P) (.node (o8A P) (.node (o16A P) .nil .nil) .nil) (.node (o12A P) (.node (o20Z560 P) .nil .nil) .nil)) (.node (o6A P) (.node (o10A P) (.node (o18Z520 P) .nil .nil) .nil) (.node (o14A P) (.node (o22A P) .nil .nil) .nil))))
noncomputable def o2Z600 (P : Params) : Obj := ⟨.none, none, (.dict #[en P "\x69mport.loaded._sre" 183 (.bool true), en P "class._frozen_importlib.BuiltinImporter" 185 (.ref 14), en P "watched.\x69mport" 206 (.ref 18), en P "class._frozen_importlib.ModuleSpec" 216 (.ref 22)] 4), #[]⟩
noncomputable def o21Z600 (P : Params) : Obj := ⟨(.type "dict"), none, (.dict #[en P "__module__" 227 (sv "_frozen_importlib" 217), en P "__firstlineno__" 228 (.int (562) 218), en P "__doc__" 229 (.builtin "_frozen_importlib.ModuleSpec.__doc__:str#opaque"), en P "__init__" 230 (.builtin "_frozen_importlib.ModuleSpec.__init__#opaque"), en P "__repr__" 231 (.builtin "_frozen_importlib.ModuleSpec.__repr__#opaque"), en P "__eq__" 232 (.builtin "_frozen_importlib.ModuleSpec.__eq__#opaque")] 6), #[]⟩
noncomputable def trZ600 (P : Params) : BT := (.node (o0A P) (.node (o1Z360 P) (.node (o3Z400 P) (.node (o7A P) (.node (o15A P) .nil .nil) (.node (o23A P) .nil .nil)) (.node (o11Z440 P) (.node (o19A P) .nil .nil) .nil)) (.node (o5A P) (.node (o9A P) (.node (o17A P) .nil .nil) .nil) (.node (o13A P) (.node (o21Z600 P) .nil .nil) .nil))) (.node (o2Z600 P) (.node (o4A P) (.node (o8A P) (.node (o16A P) .nil .nil) .nil) (.node (o12A P) (.node (o20Z560 P) .nil .nil) .nil)) (.node (o6A P) (.node (o10A P) (.node (o18Z520 P) .nil .nil) .nil) (.node (o14A P) (.node (o22A P) .nil .nil) .nil))))
noncomputable def trZ640 (P : Params) : BT := (.node (o0A P) (.node (o1Z360 P) (.node (o3Z400 P) (.node (o7A P) (.node (o15A P) .nil .nil) (.node (o23A P) .nil .nil)) (.node (o11Z440 P) (.node (o19A P) .nil .nil) .nil)) (.node (o5A P) (.node (o9A P) (.node (o17A P) .nil .nil) (.node (o25A P) .nil .nil)) (.node (o13A P) (.node (o21A P) .nil .nil) .nil))) (.node (o2Z600 P) (.node (o4A P) (.node (o8A P) (.node (o16A P) .nil .nil) (.node (o24A P) .nil .nil)) (.node (o12A P) (.node (o20Z560 P) .nil .nil) .nil)) (.node (o6A P) (.node (o10A P) (.node (o18A P) .nil .nil) (.node (o26A P) .nil .nil)) (.node (o14A P) (.node (o22A P) .nil .nil) .nil))))
noncomputable def o2Z680 (P : Params) : Obj := ⟨.none, none, (.dict #[en P "\x69mport.loaded._sre" 183 (.bool true), en P "class._frozen_importlib.BuiltinImporter" 185 (.ref 14), en P "watched.\x69mport" 206 (.ref 18), en P "class._frozen_importlib.ModuleSpec" 216 (.ref 22), en P "sys.modules.booked-epoch" 245 (.int (3) 0)] 5), #[]⟩
noncomputable def o20Z680 (P : Params) : Obj := ⟨(.type "dict"), none, (.dict #[en P "name" 208 (sv "_sre" 207), en P "loader" 209 (.ref 14), en P "origin" 210 (sv "built-in" 184), en P "loader_state" 211 .none, en P "submodule_search_locations" 212 .none, en P "_uninitialized_submodules" 213 (.ref 19), en P "_set_fileattr" 214 (.bool false), en P "_cached" 215 .none, en P "_initializing" 243 (.bool true)] 9), #[]⟩
noncomputable def trZ680 (P : Params) : BT := (.node (o0A P) (.node (o1A P) (.node (o3Z400 P) (.node (o7A P) (.node (o15A P) .nil .nil) (.node (o23A P) .nil .nil)) (.node (o11Z440 P) (.node (o19A P) .nil .nil) .nil)) (.node (o5A P) (.node (o9A P) (.node (o17A P) .nil .nil) (.node (o25A P) .nil .nil)) (.node (o13A P) (.node (o21A P) .nil .nil) .nil))) (.node (o2Z680 P) (.node (o4A P) (.node (o8A P) (.node (o16A P) .nil .nil) (.node (o24A P) .nil .nil)) (.node (o12A P) (.node (o20Z680 P) .nil .nil) .nil)) (.node (o6A P) (.node (o10A P) (.node (o18A P) .nil .nil) (.node (o26A P) .nil .nil)) (.node (o14A P) (.node (o22A P) .nil .nil) .nil))))
noncomputable def trZ720 (P : Params) : BT := (.node (o0A P) (.node (o1A P) (.node (o3Z400 P) (.node (o7A P) (.node (o15A P) .nil .nil) (.node (o23A P) .nil .nil)) (.node (o11Z440 P) (.node (o19A P) .nil .nil) .nil)) (.node (o5A P) (.node (o9A P) (.node (o17A P) .nil .nil) (.node (o25A P) .nil .nil)) (.node (o13A P) (.node (o21A P) .nil .nil) .nil))) (.node (o2Z680 P) (.node (o4A P) (.node (o8A P) (.node (o16A P) .nil .nil) (.node (o24A P) .nil .nil)) (.node (o12A P) (.node (o20Z680 P) .nil .nil) .nil)) (.node (o6A P) (.node (o10A P) (.node (o18A P) .nil .nil) (.node (o26A P) .nil .nil)) (.node (o14A P) (.node (o22A P) .nil .nil) .nil))))
noncomputable def o11Z760 (P : Params) : Obj := ⟨(.type "dict"), none, (.dict #[en P "__name__" 247 (sv "_sre" 246), en P "__doc__" 248 .none, en P "__package__" 250 (sv "" 249), en P "__loader__" 251 (.ref 14), en P "__spec__" 252 (.ref 26), en P "compile" 253 (.builtin "_sre.compile"), en P "template" 254 (.builtin "_sre.template"), en P "getcodesize" 255 (.builtin "_sre.getcodesize"), en P "ascii_iscased" 256 (.builtin "_sre.ascii_iscased"), en P "unicode_iscased" 257 (.builtin "_sre.unicode_iscased"), en P "ascii_tolower" 258 (.builtin "_sre.ascii_tolower"), en P "unicode_tolower" 259 (.builtin "_sre.unicode_tolower"), en P "MAGIC" 261 (.int (20230612) 260), en P "CODESIZE" 263 (.int (4) 262), en P "MAXREPEAT" 265 (.int (4294967295) 264), en P "MAXGROUPS" 267 (.int (1073741823) 266), en P "copyright" 269 (sv " SRE 2.2.2 Copyright (c) 1997-2002 by Secret Labs AB " 268)] 17), #[]⟩
noncomputable def trZ760 (P : Params) : BT := (.node (o0A P) (.node (o1A P) (.node (o3Z400 P) (.node (o7A P) (.node (o15A P) .nil .nil) (.node (o23A P) .nil .nil)) (.node (o11Z760 P) (.node (o19A P) .nil .nil) (.node (o27A P) .nil .nil))) (.node (o5A P) (.node (o9A P) (.node (o17A P) .nil .nil) (.node (o25A P) .nil .nil)) (.node (o13A P) (.node (o21A P) .nil .nil) .nil))) (.node (o2A P) (.node (o4A P) (.node (o8A P) (.node (o16A P) .nil .nil) (.node (o24A P) .nil .nil)) (.node (o12A P) (.node (o20A P) .nil .nil) .nil)) (.node (o6A P) (.node (o10A P) (.node (o18A P) .nil .nil) (.node (o26A P) .nil .nil)) (.node (o14A P) (.node (o22A P) .nil .nil) .nil))))
noncomputable def trZ798 (P : Params) : BT := (.node (o0A P) (.node (o1A P) (.node (o3A P) (.node (o7A P) (.node (o15A P) .nil .nil) (.node (o23A P) .nil .nil)) (.node (o11Z760 P) (.node (o19A P) .nil .nil) (.node (o27A P) .nil .nil))) (.node (o5A P) (.node (o9A P) (.node (o17A P) .nil .nil) (.node (o25A P) .nil .nil)) (.node (o13A P) (.node (o21A P) .nil .nil) .nil))) (.node (o2A P) (.node (o4A P) (.node (o8A P) (.node (o16A P) .nil .nil) (.node (o24A P) .nil .nil)) (.node (o12A P) (.node (o20A P) .nil .nil) .nil)) (.node (o6A P) (.node (o10A P) (.node (o18A P) .nil .nil) (.node (o26A P) .nil .nil)) (.node (o14A P) (.node (o22A P) .nil .nil) .nil))))
noncomputable abbrev osZ : OsState := (start (opening prg)).1.os
noncomputable def thr (w : World) (n : Nat) (S : SharedT) (t : Thread) : Thread := match impGoT treeTable (opening prg) w n S t with | some (_, t') => t' | none => t
noncomputable def st0 (_ : World) : SharedT := ⟨.nil, 0, {}, #[], {}, 1, osZ⟩
noncomputable def th0 (_ : World) : Thread := (start (opening prg)).2
noncomputable def st40 (w : World) : SharedT := ⟨trZ40 w.params, 3, {}, #[], {}, 19, osZ⟩
noncomputable def th40 (w : World) : Thread := thr w 40 (st0 w) (th0 w)
noncomputable def st80 (w : World) : SharedT := ⟨trZ80 w.params, 3, {}, #[], {}, 39, osZ⟩
noncomputable def th80 (w : World) : Thread := thr w 40 (st40 w) (th40 w)
noncomputable def st120 (w : World) : SharedT := ⟨trZ120 w.params, 3, {}, #[], {}, 59, osZ⟩
noncomputable def th120 (w : World) : Thread := thr w 40 (st80 w) (th80 w)
noncomputable def st160 (w : World) : SharedT := ⟨trZ160 w.params, 3, {}, #[], {}, 79, osZ⟩
noncomputable def th160 (w : World) : Thread := thr w 40 (st120 w) (th120 w)
noncomputable def st200 (w : World) : SharedT := ⟨trZ200 w.params, 3, {}, #[], {}, 99, osZ⟩
noncomputable def th200 (w : World) : Thread := thr w 40 (st160 w) (th160 w)
noncomputable def st240 (w : World) : SharedT := ⟨trZ240 w.params, 3, {}, #[], {}, 119, osZ⟩
noncomputable def th240 (w : World) : Thread := thr w 40 (st200 w) (th200 w)
noncomputable def st280 (w : World) : SharedT := ⟨trZ280 w.params, 3, {}, #[], {}, 139, osZ⟩
noncomputable def th280 (w : World) : Thread := thr w 40 (st240 w) (th240 w)
noncomputable def st320 (w : World) : SharedT := ⟨trZ320 w.params, 3, {}, #[], {}, 159, osZ⟩
noncomputable def th320 (w : World) : Thread := thr w 40 (st280 w) (th280 w)
noncomputable def st360 (w : World) : SharedT := ⟨trZ360 w.params, 7, {}, #[], {}, 170, osZ⟩
noncomputable def th360 (w : World) : Thread := thr w 40 (st320 w) (th320 w)
noncomputable def st400 (w : World) : SharedT := ⟨trZ400 w.params, 11, {}, #[], {}, 182, osZ⟩
noncomputable def th400 (w : World) : Thread := thr w 40 (st360 w) (th360 w)
noncomputable def st440 (w : World) : SharedT := ⟨trZ440 w.params, 15, {}, #[], {}, 185, osZ⟩
noncomputable def th440 (w : World) : Thread := thr w 40 (st400 w) (th400 w)
noncomputable def st480 (w : World) : SharedT := ⟨trZ480 w.params, 16, {}, #[], {}, 197, osZ⟩
noncomputable def th480 (w : World) : Thread := thr w 40 (st440 w) (th440 w)
noncomputable def st520 (w : World) : SharedT := ⟨trZ520 w.params, 20, {}, #[], {}, 208, osZ⟩
noncomputable def th520 (w : World) : Thread := thr w 40 (st480 w) (th480 w)
noncomputable def st560 (w : World) : SharedT := ⟨trZ560 w.params, 23, {}, #[], {}, 216, osZ⟩
noncomputable def th560 (w : World) : Thread := thr w 40 (st520 w) (th520 w)
noncomputable def st600 (w : World) : SharedT := ⟨trZ600 w.params, 24, {}, #[], {}, 233, osZ⟩
noncomputable def th600 (w : World) : Thread := thr w 40 (st560 w) (th560 w)
noncomputable def st640 (w : World) : SharedT := ⟨trZ640 w.params, 27, {}, #[], {}, 243, osZ⟩
noncomputable def th640 (w : World) : Thread := thr w 40 (st600 w) (th600 w)
noncomputable def st680 (w : World) : SharedT := ⟨trZ680 w.params, 27, {}, #[], {}, 247, osZ⟩
noncomputable def th680 (w : World) : Thread := thr w 40 (st640 w) (th640 w)
noncomputable def st720 (w : World) : SharedT := ⟨trZ720 w.params, 27, {}, #[], {}, 270, osZ⟩
noncomputable def th720 (w : World) : Thread := thr w 40 (st680 w) (th680 w)
noncomputable def st760 (w : World) : SharedT := ⟨trZ760 w.params, 28, {}, #[], {}, 275, osZ⟩
noncomputable def th760 (w : World) : Thread := thr w 40 (st720 w) (th720 w)
noncomputable def st798 (w : World) : SharedT := ⟨trZ798 w.params, 28, {}, #[], {}, 276, osZ⟩
noncomputable def th798 (w : World) : Thread := thr w 38 (st760 w) (th760 w)
theorem hz_all (w : World) : importEnds treeTable (opening prg) w (40 + (40 + (40 + (40 + (40 + (40 + (40 + (40 + (40 + (40 + (40 + (40 + (40 + (40 + (40 + (40 + (40 + (40 + (40 + (38 + 1)))))))))))))))))))) (st0 w).abs (th0 w) = some (st798 w).abs := imp_go (impGo_of (by kernel_rfl : impGoT treeTable (opening prg) w 40 (st0 w) (th0 w) = some (st40 w, th40 w))) (imp_go (impGo_of (by kernel_rfl : impGoT treeTable (opening prg) w 40 (st40 w) (th40 w) = some (st80 w, th80 w))) (imp_go (impGo_of (by kernel_rfl : impGoT treeTable (opening prg) w 40 (st80 w) (th80 w) = some (st120 w, th120 w))) (imp_go (impGo_of (by kernel_rfl : impGoT treeTable (opening prg) w 40 (st120 w) (th120 w) = some (st160 w, th160 w))) (imp_go (impGo_of (by kernel_rfl : impGoT treeTable (opening prg) w 40 (st160 w) (th160 w) = some (st200 w, th200 w))) (imp_go (impGo_of (by kernel_rfl : impGoT treeTable (opening prg) w 40 (st200 w) (th200 w) = some (st240 w, th240 w))) (imp_go (impGo_of (by kernel_rfl : impGoT treeTable (opening prg) w 40 (st240 w) (th240 w) = some (st280 w, th280 w))) (imp_go (impGo_of (by kernel_rfl : impGoT treeTable (opening prg) w 40 (st280 w) (th280 w) = some (st320 w, th320 w))) (imp_go (impGo_of (by kernel_rfl : impGoT treeTable (opening prg) w 40 (st320 w) (th320 w) = some (st360 w, th360 w))) (imp_go (impGo_of (by kernel_rfl : impGoT treeTable (opening prg) w 40 (st360 w) (th360 w) = some (st400 w, th400 w))) (imp_go (impGo_of (by kernel_rfl : impGoT treeTable (opening prg) w 40 (st400 w) (th400 w) = some (st440 w, th440 w))) (imp_go (impGo_of (by kernel_rfl : impGoT treeTable (opening prg) w 40 (st440 w) (th440 w) = some (st480 w, th480 w))) (imp_go (impGo_of (by kernel_rfl : impGoT treeTable (opening prg) w 40 (st480 w) (th480 w) = some (st520 w, th520 w))) (imp_go (impGo_of (by kernel_rfl : impGoT treeTable (opening prg) w 40 (st520 w) (th520 w) = some (st560 w, th560 w))) (imp_go (impGo_of (by kernel_rfl : impGoT treeTable (opening prg) w 40 (st560 w) (th560 w) = some (st600 w, th600 w))) (imp_go (impGo_of (by kernel_rfl : impGoT treeTable (opening prg) w 40 (st600 w) (th600 w) = some (st640 w, th640 w))) (imp_go (impGo_of (by kernel_rfl : impGoT treeTable (opening prg) w 40 (st640 w) (th640 w) = some (st680 w, th680 w))) (imp_go (impGo_of (by kernel_rfl : impGoT treeTable (opening prg) w 40 (st680 w) (th680 w) = some (st720 w, th720 w))) (imp_go (impGo_of (by kernel_rfl : impGoT treeTable (opening prg) w 40 (st720 w) (th720 w) = some (st760 w, th760 w))) (imp_go (impGo_of (by kernel_rfl : impGoT treeTable (opening prg) w 38 (st760 w) (th760 w) = some (st798 w, th798 w))) ((by kernel_rfl : importEnds treeTable (opening prg) w 1 (st798 w).abs (th798 w) = some (st798 w).abs)))))))))))))))))))))
theorem hz_start (w : World) : (start (opening prg)).1 = (st0 w).abs := by kernel_rfl
theorem hz_res (w : World) : some (st798 w).abs = some ⟨absHeap (trZ798 w.params) 28 {}, #[], {}, 276, (start (opening prg)).1.os⟩ := by kernel_rfl
theorem hz_arg (w : World) : importEnds treeTable (opening prg) w 799 (start (opening prg)).1 (start (opening prg)).2 = importEnds treeTable (opening prg) w (40 + (40 + (40 + (40 + (40 + (40 + (40 + (40 + (40 + (40 + (40 + (40 + (40 + (40 + (40 + (40 + (40 + (40 + (40 + (38 + 1)))))))))))))))))))) (start (opening prg)).1 (th0 w) := by kernel_rfl
theorem h_ends' (w : World) : importEnds treeTable (opening prg) w 799 (start (opening prg)).1 (start (opening prg)).2 = some ⟨absHeap (trZ798 w.params) 28 {}, #[], {}, 276, (start (opening prg)).1.os⟩ :=
  (hz_arg w).trans ((congrArg (fun s => importEnds treeTable (opening prg) w (40 + (40 + (40 + (40 + (40 + (40 + (40 + (40 + (40 + (40 + (40 + (40 + (40 + (40 + (40 + (40 + (40 + (40 + (40 + (38 + 1)))))))))))))))))))) s (th0 w)) (hz_start w)).trans ((hz_all w).trans (hz_res w)))
theorem h_fence (w : World) : (fun os => (fenceModules? prg ⟨absHeap (trZ798 w.params) 28 {}, #[], {}, 276, os⟩).map (fun s => (s.heap, s.gens, s.drawn, s.toks))) = fun _ => some (absHeap (trA w.params) 28 {}, #[], {}, 276) := by kernel_rfl
theorem h_open : ∀ w : World, (fencedOpening treeTable prg w 20000).map (fun s => (s.heap, s.gens, s.drawn, s.toks)) = some (absHeap (trA w.params) 28 {}, #[], {}, 276) := open_cut (He := fun P => absHeap (trZ798 P) 28 {}) (H₀ := fun P => absHeap (trA P) 28 {}) (M := 799) h_ends' (by rfl) h_fence
noncomputable def looseV : List Str := [Str.ofString "_sre", Str.ofString "_wall", Str.ofString "__name__", Str.ofString "ENDMARKER", Str.ofString "LPAR", Str.ofString "RPAR", Str.ofString "LSQB", Str.ofString "RSQB", Str.ofString "COLON", Str.ofString "COMMA", Str.ofString "SEMI", Str.ofString "PLUS", Str.ofString "MINUS", Str.ofString "STAR", Str.ofString "SLASH", Str.ofString "VBAR", Str.ofString "AMPER", Str.ofString "LESS", Str.ofString "GREATER", Str.ofString "EQUAL", Str.ofString "DOT", Str.ofString "PERCENT", Str.ofString "LBRACE", Str.ofString "RBRACE", Str.ofString "EQEQUAL", Str.ofString "NOTEQUAL", Str.ofString "LESSEQUAL", Str.ofString "GREATEREQUAL", Str.ofString "TILDE", Str.ofString "CIRCUMFLEX", Str.ofString "LEFTSHIFT", Str.ofString "RIGHTSHIFT", Str.ofString "DOUBLESTAR", Str.ofString "PLUSEQUAL", Str.ofString "MINEQUAL", Str.ofString "STAREQUAL", Str.ofString "SLASHEQUAL", Str.ofString "PERCENTEQUAL", Str.ofString "AMPEREQUAL", Str.ofString "VBAREQUAL", Str.ofString "CIRCUMFLEXEQUAL", Str.ofString "LEFTSHIFTEQUAL", Str.ofString "RIGHTSHIFTEQUAL", Str.ofString "DOUBLESTAREQUAL", Str.ofString "DOUBLESLASH", Str.ofString "DOUBLESLASHEQUAL", Str.ofString "AT", Str.ofString "ATEQUAL", Str.ofString "RARROW", Str.ofString "ELLIPSIS", Str.ofString "COLONEQUAL", Str.ofString "EXCLAMATION", Str.ofString "EXACT_TOKEN_TYPES", Str.ofString "ISEOF", Str.ofString "NL", Str.ofString "EMPTYSTRING", Str.ofString "_ValueFormatter", Str.ofString "_Accumulator", Str.ofString "list", Str.ofString "_name_disallowed_re", Str.ofString "_value_disallowed_re", Str.ofString "Headers", Str.ofString "_law_pairs", Str.ofString "_law_page", Str.ofString "_law_column"]
noncomputable abbrev XtL : Shared → Bool := fun s => recOk (RowW.records rwr.toRowW) s
noncomputable abbrev hF (w : World) : Heap := absHeap (trL w.params) 369 {}
noncomputable abbrev sF (w : World) (os : OsState) : Shared := ⟨hF w, #[], {}, 954, os⟩
theorem k1 (w : World) : staticsOk (importedModules PySem.Challenge.pw_wc0034_01.main.body) (absHeap (trA w.params) 28 {}) (hF w) = true := by kernel_rfl
theorem k2 (w : World) : namesBound PySem.Challenge.pw_wc0034_01 (hF w) = true := by kernel_rfl
theorem k3 (w : World) : laidKept (absHeap (trA w.params) 28 {}) (hF w) = true := by kernel_rfl
theorem k5 (w : World) (os : OsState) : hkL.obs (sF w os) = hkL.val w := by kernel_rfl
theorem s1 (w : World) (os : OsState) : seen ((recsOf qV).map (·.name)) (ownsOf qV) [] { sF w os with gens := #[] } = expectedOf qV := by kernel_rfl
theorem s2 (w : World) : (hF w).bltView = bltViewBooted := by kernel_rfl
theorem s3 (w : World) : (hF w).keysOk (looseW qV looseV) ((recsOf qV).map (·.name)) ((litsOf qV).map (·.1)) ((clssOf qV (looseW qV looseV)).map (·.name)) = true := by kernel_rfl
theorem s4 (w : World) : (hF w).accountedOkI (importedModules PySem.Challenge.pw_wc0034_01.main.body) = true := by kernel_rfl
theorem s5 (w : World) : ((hF w).isNs mainGlobals && (hF w).isNs builtinsNs && tablesOk qV (hF w)) = true := by kernel_rfl
theorem s6 (w : World) (os : OsState) : tabsOk qV (sF w os) = true := by kernel_rfl
theorem s7 (w : World) (os : OsState) : pinSeenD qV (drecsOf qV) (sF w os) = pinGoodD (drecsOf qV) := by kernel_rfl
theorem s8 (w : World) (os : OsState) : plainSeenE qV (looseW qV looseV) (sF w os) = plainGoodE qV (looseW qV looseV) := by kernel_rfl
theorem s9 (w : World) (os : OsState) : plainSeenD qV looseV (sF w os) = plainGoodD qV looseV := by kernel_rfl
theorem s10 (w : World) (os : OsState) : wideSeen qV (sF w os) = wideGood qV := by kernel_rfl
theorem s11 (w : World) (os : OsState) : clsSeenW qV looseV (sF w os) = clsGoodW qV looseV := by kernel_rfl
theorem s12 (w : World) (os : OsState) : (XtL (sF w os) && (if true then (sF w os).gens.size == 0 else !leftWithCleanup (sF w os).gens)) = true := by kernel_rfl
theorem h_looks (w : World) : (fun os => ((staticsOk (importedModules prg.main.body) (absHeap (trA w.params) 28 {}) (hF w) && namesBound prg (hF w) && gensDone (sF w os) && laidKept (absHeap (trA w.params) 28 {}) (hF w)),
        openSeen qV looseV (importedModules prg.main.body) XtL true (sF w os), hkL.obs (sF w os))) = fun _ => (true, openGood qV looseV, hkL.val w) := by
  funext os
  have e1 : (staticsOk (importedModules prg.main.body) (absHeap (trA w.params) 28 {}) (hF w) && namesBound prg (hF w) && gensDone (sF w os) && laidKept (absHeap (trA w.params) 28 {}) (hF w)) = true := by
    rw [k1 w, k2 w, k3 w]; rfl
  have e2 : openSeen qV looseV (importedModules prg.main.body) XtL true (sF w os) = openGood qV looseV := by
    have e3 : ((sF w os).heap.keysOk (looseW qV looseV) ((recsOf qV).map (·.name)) ((litsOf qV).map (·.1)) ((clssOf qV (looseW qV looseV)).map (·.name)) && (sF w os).heap.accountedOkI (importedModules prg.main.body) && (sF w os).heap.isNs mainGlobals && (sF w os).heap.isNs builtinsNs && tablesOk qV (sF w os).heap && XtL (sF w os) && (if true then (sF w os).gens.size == 0 else !leftWithCleanup (sF w os).gens)) = true := by
      have a := s3 w; have b := s4 w; have c := s5 w; have d := s12 w os
      simp only [Bool.and_eq_true] at c d ⊢
      exact ⟨⟨⟨⟨⟨⟨a, b⟩, c.1.1⟩, c.1.2⟩, c.2⟩, d.1⟩, d.2⟩
    exact Prod.ext (s1 w os) (Prod.ext (s2 w) (Prod.ext e3 (Prod.ext (s6 w os) (Prod.ext (s7 w os) (Prod.ext (s8 w os) (Prod.ext (s9 w os) (Prod.ext (s10 w os) (s11 w os))))))))
  exact Prod.ext e1 (Prod.ext e2 (k5 w os))
theorem h_left : LeftO prg qV looseV XtL hkL.obs hkL.val 20000 :=
  LeftO.of_pieces (H₀ := fun P => absHeap (trA P) 28 {}) (H₁ := fun P => absHeap (trL P) 369 {}) (gs₀ := #[]) (gs₁ := #[]) (d₀ := {}) (d₁ := {}) (k₀ := 276) (k₁ := 954) (m₀ := 28) (ann := some (.ref 6)) (M := 3538) h_open h_size h_run (by rfl) h_looks
theorem wsaid : PySem.Challenge.rw_wc0034_01.wellSaid = true := by
  unfold OpenLaw.wellSaid OpenRow.wellSaid OpenRow.partSaid looksOpen
  repeat' with_reducible apply look_both
  all_goals decide +kernel
end Mine
set_option maxHeartbeats 0 in
theorem PySem.Challenge.cw_wc0034_01_holds : PySem.Challenge.rw_wc0034_01.Holds := by
  w_on
  refine holds_law Mine.wsaid fun said => ?_
  refine holds_open (q := Mine.qV) (loose := Mine.looseV) (Xt := Mine.XtL) (XP := fun _ _ => True) (Yf := Mine.hkL.obs) (Ya := Mine.hkL.val) (YP := Mine.hkL.says) (N := 20000) Mine.h_left Mine.hkL.of Mine.hkL.keeps (fun _ _ => trivial) (fun _ _ _ _ _ => trivial) Mine.def_law (by rfl) (by rfl) (fun s e => recFacts_of e) (by rfl) (by first | assumption | decide +kernel) (by decide +kernel) ⟨rfl, rfl, rfl, rfl, rfl, by decide +kernel⟩ ?hw (Mine.law_walk Mine.looseV)
  (case hw => w_witness2)
